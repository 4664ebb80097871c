import Derived.Test.Qxb6602565aIdx0
namespace Go.Proofs.Qxb6602565a
open Go.RowKit
set_option linter.unusedVariables false

theorem f46_run (g base ba ca : Nat) (As : List (Nat × Nat)) (lat : Int) (st : Bool) (vl : Value) (bu : Int) (q i : Nat) (w : World)
    (hh : w.heap[g]? = some (.cells #[.slice (some ⟨ba, 0, none⟩) As.length ca, .int .u64 lat, .bool st, vl, .int .i64 bu] 79 (0, 0))) (hA : Accs w base (.slice (some ⟨ba, 0, none⟩) As.length ca) As)
    (hlev : 0 < q → ∃ r nl cl v, vl = .slice (some ⟨r, 0, none⟩) nl cl ∧ q ≤ nl ∧ nl ≤ 64 ∧ w.cell? ⟨r, q - 1, none⟩ = some v ∧ w.ownsRow base 48 1 v (level (marksOf As) q).length (ints (level (marksOf As) q))) :
    Calls Try.prog 46 #[.pointer (some ⟨g, 0, none⟩), .int .i64 (q : Int), .int .i64 (i : Int)] w fun e w' => e = .returned (.int .u64 ((run (marksOf As) q i : Nat) : Int)) ∧ w' = w := by
  rcases Nat.eq_zero_or_pos q with h0 | h0
  · subst h0
    have c0 : w.cell? ⟨g, 0, none⟩ = some (.slice (some ⟨ba, 0, none⟩) As.length ca) := by simp [World.cell?, hh]
    rcases Nat.lt_or_ge i As.length with h1 | h1
    · obtain ⟨ps, hl, hown, hacc⟩ := hA
      have c1 : w.cell? ⟨ba, i, none⟩ = some (.pointer (some ⟨ps.getD i 0, 0, none⟩)) := by
        rw [hown.cellAt i (by omega)]
        simp [ptrs, show i < ps.length from by omega]
      obtain ⟨cs, hc, _, hc4⟩ := hacc i h1
      have c2 : w.cell? ⟨ps.getD i 0, 4, none⟩ = some (.int .u64 (((As.getD i (0, 0)).2 : Nat) : Int)) := by rw [cell_of_row w _ 4 _ _ _ hc]; exact hc4
      have := f46_zero_in g ba ca As.length i (ps.getD i 0) (As.getD i (0, 0)).2 w h1 c0 c1 c2
      rw [← marksOf_getD] at this
      exact this
    · have := f46_zero_out g ca As.length i _ w h1 c0
      have e : run (marksOf As) 0 i = 0 := run_zero _ 0 i (by simpa [marksOf_length] using h1)
      rw [e]
      exact this
  · obtain ⟨r, nl, cl, v, rfl, hq, hnl, hc, hown⟩ := hlev h0
    have c3 : w.cell? ⟨g, 3, none⟩ = some (.slice (some ⟨r, 0, none⟩) nl cl) := by simp [World.cell?, hh]
    rcases Nat.lt_or_ge i (level (marksOf As) q).length with h1 | h1
    · obtain ⟨b, c, rfl, _, _⟩ := hown.form (by omega)
      have c4 : w.cell? ⟨b, i, none⟩ = some (.int .u64 (((level (marksOf As) q).getD i 0 : Nat) : Int)) := by
        rw [hown.cellAt i (by omega)]
        exact ints_getD _ _ h1
      have := f46_pos_in g r cl nl q b c _ i _ w h0 hq hnl h1 c3 hc c4
      rw [level_getD] at this
      exact this
    · obtain ⟨a, c, rfl, _⟩ := owns_shape hown
      have := f46_pos_out g r cl nl q c _ i a w h0 hq hnl h1 c3 hc
      have e : run (marksOf As) q i = 0 := by rw [← level_getD, List.getD_eq_getElem?_getD, List.getElem?_eq_none h1]; rfl
      rw [e]
      exact this

end Go.Proofs.Qxb6602565a
