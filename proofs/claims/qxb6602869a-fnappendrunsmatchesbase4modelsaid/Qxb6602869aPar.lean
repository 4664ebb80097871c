import Derived.Test.Qxb6602869aCar
namespace Go.Proofs.Qxb6602869a
set_option linter.unusedVariables false

theorem chain_none (fp o : Nat) : ∀ (Y : List (Nat × Nat)) (s t : Nat), Chain s Y t → t ≤ o → Y.flatMap (clip fp o) = []
  | [], s, t, h, ho => rfl
  | q :: Y, s, t, h, ho => by
    obtain ⟨h1, h2, h3⟩ := h
    have hle := h3.le
    have e : clip fp o q = [] := clip_none fp o q.1 q.2 (by omega)
    rw [List.flatMap_cons, e, chain_none fp o Y _ t h3 ho]
    rfl
def unc (fp o : Nat) (u : Nat × Nat) : Rc := rcOf fp ((u.1 : Int) + 1 - o) ((u.1 : Int) + u.2 - o)
theorem chain_rest (fp o : Nat) : ∀ (Y : List (Nat × Nat)) (s t : Nat), Chain s Y t → o < s → Y.flatMap (clip fp o) = Y.map (unc fp o)
  | [], s, t, h, ho => rfl
  | q :: Y, s, t, h, ho => by
    obtain ⟨h1, h2, h3⟩ := h
    have e : clip fp o q = [unc fp o q] := by
      unfold clip unc
      rw [if_pos (by omega), show max ((q.1 : Int) + 1 - o) 1 = (q.1 : Int) + 1 - o from by omega]
    rw [List.flatMap_cons, e, chain_rest fp o Y _ t h3 (by omega)]
    rfl
theorem chain_cut (fp o : Nat) : ∀ (Y : List (Nat × Nat)) (s t : Nat), Chain s Y t → s ≤ o → o < t →
    ∃ Y1 q Y2, Y = Y1 ++ q :: Y2 ∧ o < q.1 + q.2 ∧ Chain (q.1 + q.2) Y2 t ∧ Y.flatMap (clip fp o) = rcOf fp 1 ((q.1 : Int) + q.2 - o) :: Y2.map (unc fp o)
  | [], s, t, h, hs, ho => by rw [Chain] at h; omega
  | q :: Y, s, t, h, hs, ho => by
    obtain ⟨h1, h2, h3⟩ := h
    by_cases hc : s + q.2 ≤ o
    · obtain ⟨Y1, q', Y2, i1, i2, i3, i4⟩ := chain_cut fp o Y (s + q.2) t h3 hc ho
      refine ⟨q :: Y1, q', Y2, by rw [i1]; rfl, i2, i3, ?_⟩
      have e : clip fp o q = [] := clip_none fp o q.1 q.2 (by omega)
      rw [List.flatMap_cons, e, i4]
      rfl
    · have e : clip fp o q = [rcOf fp 1 ((q.1 : Int) + q.2 - o)] := clip_first fp o q.1 q.2 (by omega) (by omega)
      refine ⟨[], q, Y, rfl, by omega, by rw [h1]; exact h3, ?_⟩
      rw [List.flatMap_cons, e, chain_rest fp o Y _ t h3 (by omega)]
      rfl

theorem chain_get : ∀ (Y : List (Nat × Nat)) (s t i : Nat), Chain s Y t → i < Y.length →
    0 < (Y.getD i (0, 0)).2 ∧ s ≤ (Y.getD i (0, 0)).1 ∧ (Y.getD i (0, 0)).1 + (Y.getD i (0, 0)).2 ≤ t ∧ (i = 0 → (Y.getD i (0, 0)).1 = s) ∧ (i + 1 = Y.length → (Y.getD i (0, 0)).1 + (Y.getD i (0, 0)).2 = t) ∧ (i + 1 < Y.length → (Y.getD (i + 1) (0, 0)).1 = (Y.getD i (0, 0)).1 + (Y.getD i (0, 0)).2)
  | [], s, t, i, h, hi => by simp at hi
  | q :: Y, s, t, 0, h, hi => by
    obtain ⟨h1, h2, h3⟩ := h
    have hle := h3.le
    refine ⟨h2, by simp; omega, by simp; omega, fun _ => h1, fun hl => ?_, fun hl => ?_⟩
    · have : Y = [] := by cases Y with | nil => rfl | cons a b => simp at hl
      subst this
      rw [Chain] at h3
      simp
      omega
    · have := (chain_get Y (s + q.2) t 0 h3 (by simpa using hl)).2.2.2.1 rfl
      simp at this ⊢
      omega
  | q :: Y, s, t, i + 1, h, hi => by
    obtain ⟨h1, h2, h3⟩ := h
    obtain ⟨a1, a2, a3, a4, a5, a6⟩ := chain_get Y (s + q.2) t i h3 (by simpa using hi)
    refine ⟨by simpa using a1, by simp at a2 ⊢; omega, by simpa using a3, fun h => by omega, fun hl => ?_, fun hl => ?_⟩
    · simpa using a5 (by simpa using hl)
    · simpa using a6 (by simpa using hl)

/-- The sizes of the blocks: none grows, and none stays for a fourth. -/
def Good (l : List Nat) : Prop := ∀ i, (i + 1 < l.length → l.getD (i + 1) 0 ≤ l.getD i 0) ∧ (i + 3 < l.length → l.getD (i + 3) 0 < l.getD i 0)
theorem Good.drop {l1 l2 : List Nat} (h : Good (l1 ++ l2)) : Good l2 := by
  intro i
  obtain ⟨h1, h2⟩ := h (l1.length + i)
  have e : ∀ k, (l1 ++ l2).getD (l1.length + k) 0 = l2.getD k 0 := fun k => by
    rw [List.getD_eq_getElem?_getD, List.getElem?_append_right (by omega), Nat.add_sub_cancel_left, ← List.getD_eq_getElem?_getD]
  rw [List.length_append] at h1 h2
  refine ⟨fun h => ?_, fun h => ?_⟩
  · have := h1 (by omega)
    rw [show l1.length + i + 1 = l1.length + (i + 1) from by omega, e, e] at this
    exact this
  · have := h2 (by omega)
    rw [show l1.length + i + 3 = l1.length + (i + 3) from by omega, e, e] at this
    exact this
theorem Good.step {l : List Nat} (h : Good l) (h1 : ∀ x ∈ l, 1 ≤ x) (r : Nat) (hr : r < 4) : Good (l.map (· * 4) ++ List.replicate r 1) := by
  have eL : ∀ k, k < l.length → (l.map (· * 4) ++ List.replicate r 1).getD k 0 = l.getD k 0 * 4 ∧ 1 ≤ l.getD k 0 := fun k hk => by
    have h2 := h1 (l[k]) (List.getElem_mem hk)
    rw [List.getD_eq_getElem?_getD, List.getElem?_append_left (by simpa using hk), List.getElem?_map, List.getD_eq_getElem?_getD, List.getElem?_eq_getElem hk]
    exact ⟨rfl, h2⟩
  have eR : ∀ k, l.length ≤ k → k < l.length + r → (l.map (· * 4) ++ List.replicate r 1).getD k 0 = 1 := fun k hk hk2 => by
    rw [List.getD_eq_getElem?_getD, List.getElem?_append_right (by simpa using hk), List.length_map, List.getElem?_replicate, if_pos (by omega)]
    rfl
  intro i
  rw [List.length_append, List.length_map, List.length_replicate]
  obtain ⟨g1, g2⟩ := h i
  refine ⟨fun hi => ?_, fun hi => ?_⟩
  · by_cases a : i + 1 < l.length
    · have := g1 a
      have := eL i (by omega)
      have := eL (i + 1) a
      omega
    · rw [eR (i + 1) (by omega) (by omega)]
      by_cases b : i < l.length
      · have := eL i b
        omega
      · rw [eR i (by omega) (by omega)]
        exact Nat.le_refl _
  · have b : i < l.length := by omega
    have e0 := eL i b
    by_cases a : i + 3 < l.length
    · have := g2 a
      have := eL (i + 3) a
      omega
    · rw [eR (i + 3) (by omega) (by omega)]
      omega
theorem B_sizes : ∀ t, Good ((B t).map Prod.snd) ∧ ∀ q ∈ B t, ∃ j, q.2 = 4 ^ j := by
  intro t
  induction t using Nat.strongRecOn with
  | ind t ih =>
    by_cases h : t = 0
    · subst h
      rw [B_zero]
      exact ⟨fun i => ⟨fun h => by simp at h, fun h => by simp at h⟩, fun q hq => by simp at hq⟩
    · obtain ⟨i1, i2⟩ := ih (t / 4) (by omega)
      rw [B_eq]
      constructor
      · have e : ((B (t / 4)).map (sc 4) ++ un (t / 4) (t % 4)).map Prod.snd = ((B (t / 4)).map Prod.snd).map (· * 4) ++ List.replicate (t % 4) 1 := by
          rw [List.map_append, List.map_map, List.map_map]
          have e2 : (un (t / 4) (t % 4)).map Prod.snd = List.replicate (t % 4) 1 := by
            unfold un
            rw [List.map_map]
            apply List.ext_getElem?
            intro k
            by_cases hk : k < t % 4
            · simp [hk]
            · simp [hk]
          rw [e2]
          rfl
        rw [e]
        refine i1.step (fun x hx => ?_) _ (by omega)
        obtain ⟨q, hq, rfl⟩ := List.mem_map.1 hx
        obtain ⟨j, hj⟩ := i2 q hq
        rw [hj]
        exact Nat.pow_pos (by decide)
      · intro q hq
        rcases List.mem_append.1 hq with hq | hq
        · obtain ⟨q', hq', rfl⟩ := List.mem_map.1 hq
          obtain ⟨j, hj⟩ := i2 q' hq'
          exact ⟨j + 1, by simp only [sc, hj]; rw [Nat.pow_succ]⟩
        · obtain ⟨c, _, rfl⟩ := List.mem_map.1 hq
          exact ⟨0, rfl⟩
end Go.Proofs.Qxb6602869a
