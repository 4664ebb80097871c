import Derived.Test.Qxb6602559aCov2
namespace Go.Proofs.Qxb6602559a
open Go.RowKit Go.WideMaps Go.Maps

/-! ### the plain law -/

/-- The values of the first k pairs under name s. -/
def grouped (ns vs : List ByteArray) (k : Nat) (s : List UInt8) : List ByteArray :=
  ((List.range k).filter fun j => decide ((ns.getD j ByteArray.empty).data.toList = s)).map fun j => vs.getD j ByteArray.empty

theorem grouped_succ (ns vs : List ByteArray) (k : Nat) (s : List UInt8) :
    grouped ns vs (k + 1) s = if s = (ns.getD k ByteArray.empty).data.toList then grouped ns vs k s ++ [vs.getD k ByteArray.empty] else grouped ns vs k s := by
  unfold grouped
  rw [List.range_succ, List.filter_append, List.map_append]
  by_cases h : s = (ns.getD k ByteArray.empty).data.toList
  · rw [if_pos h]; simp [h]
  · rw [if_neg h, List.filter_cons, if_neg (by simpa using fun q => h q.symm)]; simp

theorem grouped_length (ns vs : List ByteArray) (k : Nat) (s : List UInt8) : (grouped ns vs k s).length ≤ k := by
  unfold grouped
  rw [List.length_map]
  exact Nat.le_trans (List.length_filter_le _ _) (by simp)

theorem mem_grouped {ns vs : List ByteArray} {k : Nat} {s : List UInt8} {v : ByteArray} : v ∈ grouped ns vs k s ↔ ∃ j, j < k ∧ (ns.getD j ByteArray.empty).data.toList = s ∧ vs.getD j ByteArray.empty = v := by
  unfold grouped
  simp only [List.mem_map, List.mem_filter, List.mem_range, decide_eq_true_eq]
  constructor
  · rintro ⟨j, ⟨h1, h2⟩, h3⟩; exact ⟨j, h1, h2, h3⟩
  · rintro ⟨j, h1, h2, h3⟩; exact ⟨j, ⟨h1, h2⟩, h3⟩

theorem getD_mem {l : List ByteArray} {j : Nat} (h : j < l.length) : l.getD j ByteArray.empty ∈ l := by
  rw [List.getD_eq_getElem?_getD, List.getElem?_eq_getElem h]
  exact List.getElem_mem h

/-- 'Cov' by membership. -/
theorem cov_iff (ns vs : List ByteArray) (G : List UInt8 → List ByteArray) (i : Nat) :
    Cov ns vs G i ↔ G (ns.getD i ByteArray.empty).data.toList ≠ [] ∧ ∀ v ∈ G (ns.getD i ByteArray.empty).data.toList, HasPair ns vs (ns.getD i ByteArray.empty) v := by
  unfold Cov
  constructor
  · rintro ⟨h1, h2⟩
    refine ⟨h1, fun v hv => ?_⟩
    obtain ⟨j, hj, rfl⟩ := List.getElem_of_mem hv
    have h3 := h2 j hj
    generalize G (ns.getD i ByteArray.empty).data.toList = l at *
    rw [List.getD_eq_getElem?_getD (l := l), List.getElem?_eq_getElem hj] at h3
    exact h3
  · rintro ⟨h1, h2⟩
    exact ⟨h1, fun j hj => h2 _ (getD_mem hj)⟩

theorem cov_own (ns vs : List ByteArray) : ∀ i, i < ns.length → Cov ns vs (grouped ns vs ns.length) i := by
  intro i hi
  rw [cov_iff]
  refine ⟨fun h => ?_, fun v hv => ?_⟩
  · have : vs.getD i ByteArray.empty ∈ grouped ns vs ns.length (ns.getD i ByteArray.empty).data.toList := mem_grouped.2 ⟨i, hi, rfl, rfl⟩
    rw [h] at this
    cases this
  · obtain ⟨j, h1, h2, h3⟩ := mem_grouped.1 hv
    exact ⟨j, h1, WideShapes.bytes_inj h2, h3⟩

theorem cov_extra (ns vs : List ByteArray) (k : Nat) (hk : k < ns.length) (x : ByteArray) (G : List UInt8 → List ByteArray)
    (hG : ∀ t, G t = if t = (ns.getD k ByteArray.empty).data.toList then grouped ns vs ns.length t ++ [x] else grouped ns vs ns.length t) :
    (∀ i, i < ns.length → Cov ns vs G i) ↔ HasPair ns vs (ns.getD k ByteArray.empty) x := by
  constructor
  · intro h
    have := ((cov_iff ns vs G k).1 (h k hk)).2 x
    rw [hG, if_pos rfl] at this
    exact this (by simp)
  · intro h i hi
    have ho := (cov_iff ns vs _ i).1 (cov_own ns vs i hi)
    rw [cov_iff, hG]
    by_cases e : (ns.getD i ByteArray.empty).data.toList = (ns.getD k ByteArray.empty).data.toList
    · rw [if_pos e]
      refine ⟨by simp, fun v hv => ?_⟩
      rcases List.mem_append.1 hv with q | q
      · exact ho.2 v q
      · obtain rfl : v = x := by simpa using q
        rw [WideShapes.bytes_inj e]
        exact h
    · rw [if_neg e]
      exact ho

theorem cov_gone (ns vs : List ByteArray) (k : Nat) (hk : k < ns.length) (G : List UInt8 → List ByteArray) (hG : G (ns.getD k ByteArray.empty).data.toList = []) :
    ¬ ∀ i, i < ns.length → Cov ns vs G i := fun h => (h k hk).1 hG

/-! ### the steps of the map -/
theorem isKey_str (s : List UInt8) : WideAt.IsKeyLit (.string s) := by trivial

theorem grp_step {W w1 w2 : World} {base B n : Nat} {G : List UInt8 → List ByteArray} {D : DataW Value} {V : List UInt8 → Value} (hBb : B < base) (hown : W.ownsMap Try.prog 9 Rtok B n D)
    (hat : ∀ s, D.atKey (.string s) (.held (.slice none 0 0)) = .held (V s)) (hle : ∀ s, (G s).length ≤ n) (hrow : ∀ s, W.ownsRow base 9 1 (V s) (G s).length ((G s).map Value.string))
    (hne : ∀ s s' b, (V s).ownBlock = some b → (V s').ownBlock = some b → s = s') (s : List UInt8) (v : ByteArray) (g cap : Nat)
    (hown1 : w1.ownsRow base 9 1 (.slice (some ⟨g, 0, none⟩) ((G s).length + 1) cap) ((G s).length + 1) ((G s).map Value.string ++ [.string v])) (hg1 : W.grownBy w1 (V s).ownBlock)
    (hloc : (V s).ownBlock = some g ∨ g = W.heap.size) (hown2 : w2.ownsMap Try.prog 9 Rtok B (n + 1) (D.put (.string s) (.held (.slice (some ⟨g, 0, none⟩) ((G s).length + 1) cap)))) (hg2 : w1.grownBy w2 (some B)) :
    Grp w2 base B (n + 1) (fun t => if t = s then G t ++ [v] else G t) := by
  have hgb : base ≤ g := (hown1.lt g rfl).1
  refine ⟨_, fun t => if t = s then .slice (some ⟨g, 0, none⟩) ((G s).length + 1) cap else V t, hown2, fun t => ?_, fun t => ?_, fun t => ?_, ?_⟩
  · dsimp only
    by_cases e : t = s
    · subst e
      rw [if_pos rfl]
      exact atKey_put_same hown.isMap (isKey_str _) _ _
    · rw [if_neg e, atKey_put_other (by simpa using e)]
      exact hat t
  · dsimp only
    by_cases e : t = s
    · subst e; rw [if_pos rfl]; have := hle t; simp; omega
    · rw [if_neg e]; have := hle t; omega
  · by_cases e : t = s
    · subst e
      simp only [if_true]
      have := hown1.kept hg2 (.inr (by simp [Value.ownBlock]; omega))
      simpa using this
    · simp only [if_neg e]
      have h1 := (hrow t).kept hg1 (by
        cases hb : (V t).ownBlock with
        | none => exact .inl rfl
        | some b => exact .inr fun q => e (hne t s b hb q.symm))
      refine h1.kept hg2 ?_
      cases hb : (V t).ownBlock with
      | none => exact .inl rfl
      | some b => exact .inr fun q => by have := (h1.lt b hb).1; injection q; omega
  · have key : ∀ t b, t ≠ s → (V t).ownBlock = some b → b ≠ g := by
      intro t b e hb q
      subst q
      rcases hloc with h | h
      · exact e (hne t s b hb h)
      · have := ((hrow t).lt b hb).2
        omega
    intro t t' b h1 h2
    dsimp only at h1 h2
    by_cases e : t = s <;> by_cases e' : t' = s
    · rw [e, e']
    · rw [if_pos e] at h1
      rw [if_neg e'] at h2
      simp [Value.ownBlock] at h1
      exact absurd h1.symm (key t' b e' h2)
    · rw [if_neg e] at h1
      rw [if_pos e'] at h2
      simp [Value.ownBlock] at h2
      exact absurd h2.symm (key t b e h1)
    · rw [if_neg e] at h1
      rw [if_neg e'] at h2
      exact hne t t' b h1 h2

theorem grp_drop {w w' : World} {base B n n' : Nat} {G : List UInt8 → List ByteArray} {D : DataW Value} {V : List UInt8 → Value} (hBb : B < base) (hnn : n ≤ n')
    (hat : ∀ s, D.atKey (.string s) (.held (.slice none 0 0)) = .held (V s)) (hle : ∀ s, (G s).length ≤ n) (hrow : ∀ s, w.ownsRow base 9 1 (V s) (G s).length ((G s).map Value.string))
    (hne : ∀ s s' b, (V s).ownBlock = some b → (V s').ownBlock = some b → s = s') (s : List UInt8) (hown2 : w'.ownsMap Try.prog 9 Rtok B n' (D.del (.string s))) (hg2 : w.grownBy w' (some B)) :
    Grp w' base B n' (fun t => if t = s then [] else G t) := by
  refine ⟨_, fun t => if t = s then .slice none 0 0 else V t, hown2, fun t => ?_, fun t => ?_, fun t => ?_, ?_⟩
  · dsimp only
    by_cases e : t = s
    · subst e
      rw [if_pos rfl]
      exact atKey_del_same _
    · rw [if_neg e, atKey_del_other (by simpa using e)]
      exact hat t
  · dsimp only
    by_cases e : t = s
    · rw [if_pos e]; simp
    · rw [if_neg e]; have := hle t; omega
  · by_cases e : t = s
    · simp only [if_pos e]
      exact World.ownsRow_nil _ _ _ _
    · simp only [if_neg e]
      refine (hrow t).kept hg2 ?_
      cases hb : (V t).ownBlock with
      | none => exact .inl rfl
      | some b => exact .inr fun q => by have := ((hrow t).lt b hb).1; injection q; omega
  · intro t t' b h1 h2
    dsimp only at h1 h2
    by_cases e : t = s <;> by_cases e' : t' = s
    · rw [e, e']
    · rw [if_pos e] at h1
      cases h1
    · rw [if_pos e'] at h2
      cases h2
    · rw [if_neg e] at h1
      rw [if_neg e'] at h2
      exact hne t t' b h1 h2

theorem grp_made (w : World) (base : Nat) : Grp (w.alloc (.map #[] 0)) base w.heap.size 0 (fun _ => []) :=
  ⟨.map [], fun _ => .slice none 0 0, World.ownsMap_made _ _ _ _, fun _ => rfl, fun _ => Nat.le_refl _, fun _ => World.ownsRow_nil _ _ _ _, fun _ _ _ h => by cases h⟩

set_option maxRecDepth 100000 in
theorem f17_any (g base B n : Nat) (ns vs : List ByteArray) (G : List UInt8 → List ByteArray) (w : World) (ht : Tok w g ns vs) (hs : ∀ i, (ns.getD i ByteArray.empty).size ≤ maxLen) (hgp : Grp w base B n G) (hn : n ≤ 10000) :
    Calls Try.prog 17 #[.pointer (some ⟨g, 0, none⟩), .map (some B)] w fun e w' => RetSays2 w (∀ i, i < ns.length → Cov ns vs G i) e w' := by
  go_enter Try.func17, Try.ntmps17
  go_wp2_with fail
  refine (f30_any g base B n ns vs G _ ht hs hgp hn).mono ?_
  rintro e w1 ⟨b, rfl, hb⟩
  go_wp2_with fail
  go_ret
  exact ⟨b, rfl, hb⟩

end Go.Proofs.Qxb6602559a
