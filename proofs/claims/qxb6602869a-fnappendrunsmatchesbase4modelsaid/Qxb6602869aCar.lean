import Derived.Test.Qxb6602869aBlk
namespace Go.Proofs.Qxb6602869a
set_option linter.unusedVariables false

def Chain : Nat → List (Nat × Nat) → Nat → Prop
  | s, [], t => s = t
  | s, q :: Y, t => q.1 = s ∧ 0 < q.2 ∧ Chain (s + q.2) Y t

theorem Chain.app : ∀ {s m t : Nat} {X Y : List (Nat × Nat)}, Chain s X m → Chain m Y t → Chain s (X ++ Y) t
  | s, m, t, [], Y, h, k => by rw [Chain] at h; subst h; exact k
  | s, m, t, q :: X, Y, h, k => by
    obtain ⟨h1, h2, h3⟩ := h
    exact ⟨h1, h2, Chain.app h3 k⟩
theorem Chain.sc4 : ∀ {s t : Nat} {X : List (Nat × Nat)}, Chain s X t → Chain (s * 4) (X.map (sc 4)) (t * 4)
  | s, t, [], h => by rw [Chain] at h; subst h; rfl
  | s, t, q :: X, h => by
    obtain ⟨h1, h2, h3⟩ := h
    refine ⟨by simp [sc, h1], by simp [sc]; omega, ?_⟩
    have := Chain.sc4 h3
    rw [Nat.add_mul] at this
    exact this
theorem chain_units (q : Nat) : ∀ r c, Chain (q * 4 + c) ((List.range' c r).map fun c => (q * 4 + c, 1)) (q * 4 + c + r)
  | 0, c => rfl
  | r + 1, c => by
    rw [List.range'_succ, List.map_cons]
    refine ⟨rfl, Nat.one_pos, ?_⟩
    have := chain_units q r (c + 1)
    rw [show q * 4 + c + (r + 1) = q * 4 + (c + 1) + r from by omega]
    exact this
theorem chain_un (q r : Nat) : Chain (q * 4) (un q r) (q * 4 + r) := by
  have := chain_units q r 0
  unfold un
  rw [List.range_eq_range']
  exact this
theorem Chain.le : ∀ {s t : Nat} {X : List (Nat × Nat)}, Chain s X t → s ≤ t
  | s, t, [], h => by rw [Chain] at h; omega
  | s, t, q :: X, h => by
    obtain ⟨h1, h2, h3⟩ := h
    have := h3.le
    omega
theorem B_chain : ∀ t, Chain 0 (B t) t := by
  intro t
  induction t using Nat.strongRecOn with
  | ind t ih =>
    by_cases h : t = 0
    · subst h; rw [B_zero]; rfl
    · rw [B_eq]
      have h1 := (ih (t / 4) (by omega)).sc4
      have h2 := chain_un (t / 4) (t % 4)
      rw [show t / 4 * 4 + t % 4 = t from by omega] at h2
      rw [Nat.zero_mul] at h1
      exact h1.app h2

theorem B_carry : ∀ t, ∃ X Y s z, B t = X ++ Y ∧ B (t + 1) = X ++ [(s, z)] ∧ s + z = t + 1 ∧ 0 < z ∧ Chain s Y t := by
  intro t
  induction t using Nat.strongRecOn with
  | ind t ih =>
    have ht : t = t / 4 * 4 + t % 4 := by omega
    by_cases h : t % 4 < 3
    · refine ⟨B t, [], t, 1, by simp, ?_, rfl, by omega, rfl⟩
      have e := B_four (t / 4) (t % 4 + 1) (by omega)
      rw [show t / 4 * 4 + (t % 4 + 1) = t + 1 from by omega] at e
      rw [e, B_eq t, List.append_assoc]
      congr 1
      unfold un
      rw [List.range_succ, List.map_append]
      simp
      omega
    · obtain ⟨X, Y, s, z, h1, h2, h3, h4, h5⟩ := ih (t / 4) (by omega)
      refine ⟨X.map (sc 4), Y.map (sc 4) ++ un (t / 4) (t % 4), s * 4, z * 4, ?_, ?_, by omega, by omega, ?_⟩
      · rw [B_eq, h1, List.map_append, List.append_assoc]
      · have e := B_four (t / 4 + 1) 0 (by omega)
        rw [show (t / 4 + 1) * 4 + 0 = t + 1 from by omega, h2] at e
        rw [e]
        simp [un, sc]
      · have h6 := chain_un (t / 4) (t % 4)
        rw [← ht] at h6
        exact h5.sc4.app h6

theorem rcOf_f (fp : Nat) (f l : Int) : (rcOf fp f l).f = f := by unfold rcOf; split <;> rfl
theorem rcOf_l (fp : Nat) (f l : Int) : (rcOf fp f l).l = l := by unfold rcOf; split <;> rfl

theorem chain_clip (fp o : Nat) : ∀ (Y : List (Nat × Nat)) (s t : Nat), Chain s Y t →
    (Y.flatMap (clip fp o) = [] ∧ (s = t ∨ t ≤ o)) ∨ ∃ y Y', Y.flatMap (clip fp o) = y :: Y' ∧ y.f = max ((s : Int) + 1 - o) 1
  | [], s, t, h => .inl ⟨rfl, .inl h⟩
  | q :: Y, s, t, h => by
    obtain ⟨h1, h2, h3⟩ := h
    have ih := chain_clip fp o Y (s + q.2) t h3
    by_cases hc : 1 ≤ (q.1 : Int) + q.2 - o
    · right
      rw [List.flatMap_cons]
      unfold clip
      rw [if_pos hc]
      exact ⟨_, _, rfl, by rw [rcOf_f, h1]⟩
    · have e : clip fp o q = [] := by unfold clip; rw [if_neg hc]
      rw [List.flatMap_cons, e, List.nil_append]
      rcases ih with ⟨i1, i2⟩ | ⟨y, Y', i1, i2⟩
      · exact .inl ⟨i1, by omega⟩
      · exact .inr ⟨y, Y', i1, by rw [i2]; omega⟩

/-- One more change under one offset. -/
theorem carry_at (fp o : Nat) (n : Int) (hn : 0 ≤ n) : ∃ X Y r, runsAt fp o n = X ++ Y ∧ runsAt fp o (n + 1) = X ++ [r] ∧ r.l = n + 1 ∧ (Y = [] → r.f = n + 1) ∧ (∀ y Y', Y = y :: Y' → r.f = y.f) := by
  obtain ⟨X, Y, s, z, h1, h2, h3, h4, h5⟩ := B_carry (n + o).toNat
  have hc : clip fp o (s, z) = [rcOf fp (max ((s : Int) + 1 - o) 1) ((s : Int) + z - o)] := by
    unfold clip
    rw [if_pos (by simp only; omega)]
  refine ⟨X.flatMap (clip fp o), Y.flatMap (clip fp o), rcOf fp (max ((s : Int) + 1 - o) 1) ((s : Int) + z - o), ?_, ?_, ?_, ?_, ?_⟩
  · unfold runsAt
    rw [h1, List.flatMap_append]
  · unfold runsAt
    rw [show (n + 1 + o).toNat = (n + o).toNat + 1 from by omega, h2, List.flatMap_append, List.flatMap_cons, hc]
    rfl
  · rw [rcOf_l]; omega
  · intro h
    rw [rcOf_f]
    rcases chain_clip fp o Y s _ h5 with ⟨_, i2⟩ | ⟨y, Y', i1, _⟩
    · omega
    · rw [h] at i1; cases i1
  · intro y Y' h
    rw [rcOf_f]
    rcases chain_clip fp o Y s _ h5 with ⟨i1, _⟩ | ⟨y', Y'', i1, i2⟩
    · rw [h] at i1; cases i1
    · rw [h] at i1
      injection i1 with i1 _
      rw [i1, i2]

theorem clip_shift (fp o x s z : Nat) : clip fp (o + x) (s + x, z) = clip fp o (s, z) := by
  unfold clip
  simp only
  rw [show ((s + x : Nat) : Int) + z - ((o + x : Nat) : Int) = (s : Int) + z - o from by omega, show ((s + x : Nat) : Int) + 1 - ((o + x : Nat) : Int) = (s : Int) + 1 - o from by omega]
theorem clip_none (fp o s z : Nat) (h : s + z ≤ o) : clip fp o (s, z) = [] := by
  unfold clip
  rw [if_neg (by simp only; omega)]
theorem clip_first (fp o s z : Nat) (h : o < s + z) (h2 : s ≤ o) : clip fp o (s, z) = [rcOf fp 1 ((s : Int) + z - o)] := by
  unfold clip
  rw [if_pos (by simp only; omega)]
  simp only
  rw [show max ((s : Int) + 1 - o) 1 = 1 from by omega]

/-- A digit more of offset does not turn the runs of as many changes as there are parts. -/
theorem runs_shift (fp o j d : Nat) (ho : o < 4 ^ j) (hd : d < 4) : runsAt fp (o + d * 4 ^ j) ((4 ^ j : Nat) : Int) = runsAt fp o ((4 ^ j : Nat) : Int) := by
  have S1 := B_split j 1 o ho
  have S2 := B_split j (d + 1) o ho
  unfold runsAt
  rw [show ((4 ^ j : Nat) + ((o + d * 4 ^ j : Nat) : Int)).toNat = (d + 1) * 4 ^ j + o from by rw [Nat.add_mul]; omega, show (((4 ^ j : Nat) : Int) + (o : Int)).toNat = 1 * 4 ^ j + o from by omega, S1, S2]
  generalize 4 ^ j = M at *
  rw [List.flatMap_append, List.flatMap_append]
  have e2 : ((B o).map (sh ((d + 1) * M))).flatMap (clip fp (o + d * M)) = ((B o).map (sh (1 * M))).flatMap (clip fp o) := by
    rw [List.flatMap_map, List.flatMap_map]
    have f : (fun a => clip fp (o + d * M) (sh ((d + 1) * M) a)) = fun a => clip fp o (sh (1 * M) a) := by
      funext q
      obtain ⟨s, z⟩ := q
      show clip fp (o + d * M) ((d + 1) * M + s, z) = clip fp o (1 * M + s, z)
      rw [← clip_shift fp o (d * M) (1 * M + s) z]
      congr 2
      rw [Nat.add_mul]; omega
    rw [f]
  rw [e2]
  congr 1
  have e1 : ((B 1).map (sc M)).flatMap (clip fp o) = [rcOf fp 1 ((M : Int) - o)] := by
    simp only [B_one, sc, List.map_cons, List.map_nil, List.flatMap_cons, List.flatMap_nil, Nat.zero_mul, Nat.one_mul]
    rw [clip_first fp o 0 M (by omega) (by omega)]
    simp
  rw [e1]
  have hcase : d = 0 ∨ d = 1 ∨ d = 2 ∨ d = 3 := by omega
  rcases hcase with rfl | rfl | rfl | rfl
  · simpa using e1
  · have B2 : B (1 + 1) = [(0, 1), (1, 1)] := B_two
    rw [B2]
    simp only [sc, List.map_cons, List.map_nil, List.flatMap_cons, List.flatMap_nil, Nat.zero_mul, Nat.one_mul]
    rw [clip_none fp _ 0 M (by omega), clip_first fp _ M M (by omega) (by omega)]
    simp
    congr 1; omega
  · have B3 : B (2 + 1) = [(0, 1), (1, 1), (2, 1)] := B_three
    rw [B3]
    simp only [sc, List.map_cons, List.map_nil, List.flatMap_cons, List.flatMap_nil, Nat.zero_mul, Nat.one_mul]
    rw [clip_none fp _ 0 M (by omega), clip_none fp _ M M (by omega), clip_first fp _ (2 * M) M (by omega) (by omega)]
    simp
    congr 1; omega
  · have B4 : B (3 + 1) = [(0, 4)] := by
      have := B_four 1 0 (by omega)
      simpa [B_one, un, sc] using this
    rw [B4]
    simp only [sc, List.map_cons, List.map_nil, List.flatMap_cons, List.flatMap_nil, Nat.zero_mul]
    rw [clip_first fp _ 0 (4 * M) (by omega) (by omega)]
    simp
    congr 1; omega

theorem carry (fp : Nat) (n : Int) (hfp : fp < 18446744073709551616) (h0 : 0 ≤ n) (h1 : n < 1152921504606846976) : ∃ X Y r, runs fp n = X ++ Y ∧ runs fp (n + 1) = X ++ [r] ∧ r.l = n + 1 ∧ (Y = [] → r.f = n + 1) ∧ (∀ y Y', Y = y :: Y' → r.f = y.f) := by
  obtain ⟨a1, a2, a3, a4, a5⟩ := pb_spec n (by omega)
  by_cases hb : n + 1 ≤ ((2 ^ pb n : Nat) : Int)
  · have e : pb (n + 1) = pb n := pb_unique (n + 1) (by omega) (pb n) hb a2 a4 (fun h => by have := a5 h; omega)
    unfold runs kOf
    rw [e]
    exact carry_at fp _ n h0
  · have hn : n = ((2 ^ pb n : Nat) : Int) := by omega
    have h60 : pb n < 60 := by
      rcases Nat.lt_or_ge (pb n) 60 with h | h
      · exact h
      · have := Nat.pow_le_pow_right (n := 2) (by decide) h
        have e : (2 : Nat) ^ 60 = 1152921504606846976 := by decide
        omega
    have hp : 2 ^ (pb n + 2) = 4 * 2 ^ pb n := by rw [Nat.pow_add]; omega
    have hpp := two_pow_pos (pb n)
    have e : pb (n + 1) = pb n + 2 := pb_unique (n + 1) (by omega) (pb n + 2) (by omega) (by omega) (by omega) (fun _ => by rw [Nat.add_sub_cancel]; omega)
    obtain ⟨k, hk⟩ : ∃ k, pb n = 6 + 2 * k := ⟨(pb n - 6) / 2, by omega⟩
    have hk0 : kOf n = k := by unfold kOf; omega
    have hk1 : kOf (n + 1) = k + 1 := by unfold kOf; omega
    have hM : (2 : Nat) ^ pb n = 4 ^ (k + 3) := by rw [hk, show 6 + 2 * k = 2 * (k + 3) from by omega, Nat.pow_mul]
    rw [hM] at hn
    unfold runs
    rw [hk0, hk1]
    have hs := runs_shift fp (offs fp k) (k + 3) (dg fp (k + 1)) (offs_lt fp hfp k) (dg_lt4 fp _ (by omega))
    rw [← hn] at hs
    rw [← hs]
    exact carry_at fp _ n h0
end Go.Proofs.Qxb6602869a
