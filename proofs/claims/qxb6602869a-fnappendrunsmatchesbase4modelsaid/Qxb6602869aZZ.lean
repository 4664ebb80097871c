import Derived.Test.Qxb6602869aApp
namespace Go.Proofs.Qxb6602869a
open Go.RowKit
set_option linter.unusedVariables false

theorem info27 : (Try.prog.info? 27).map (fun i => (i.zero, i.size, i.bytes)) = some (some (.agg #[.int .i64 0, .int .u64 0, .int .i64 0, .int .i64 0]), 4, 32) := by kernel_rfl

def rc0 : Rc := ⟨0, 0, 0, 0⟩
/-- Four cells of a row written. -/
def set4 (xs : List Value) (i : Nat) (r : Rc) : List Value := (((xs.set (i * 4) (.int .i64 r.b)).set (i * 4 + 1) (.int .u64 r.p)).set (i * 4 + 2) (.int .i64 r.f)).set (i * 4 + 3) (.int .i64 r.l)
theorem set4_length (xs : List Value) (i : Nat) (r : Rc) : (set4 xs i r).length = xs.length := by simp [set4]
theorem take_snoc_rc (old : List Rc) (i : Nat) (h : i < old.length) : old.take (i + 1) = old.take i ++ [old.getD i rc0] := by
  rw [List.take_succ_eq_append_getElem h]
  simp [h]
theorem set4_take (xs : List Value) (old : List Rc) (i : Nat) (hl : xs.length = old.length * 4) (hi : i < old.length) (h : xs.take (i * 4) = rcells (old.take i)) : (set4 xs i (old.getD i rc0)).take ((i + 1) * 4) = rcells (old.take (i + 1)) := by
  rw [take_snoc_rc old i hi, rcells_append, rcells_one, ← h]
  generalize old.getD i rc0 = r
  have hq : i * 4 + 4 ≤ xs.length := by omega
  apply List.ext_getElem?
  intro j
  rw [List.getElem?_take, show (i + 1) * 4 = i * 4 + 4 from by omega]
  by_cases hj : j < i * 4 + 4
  · rw [if_pos hj]
    by_cases h0 : j < i * 4
    · rw [List.getElem?_append_left (by simp; omega), List.getElem?_take, if_pos h0]
      simp only [set4, List.getElem?_set]
      rw [if_neg (by omega), if_neg (by omega), if_neg (by omega), if_neg (by omega)]
    · rw [List.getElem?_append_right (by simp; omega), List.length_take, Nat.min_eq_left (by omega)]
      have h4 : j = i * 4 ∨ j = i * 4 + 1 ∨ j = i * 4 + 2 ∨ j = i * 4 + 3 := by omega
      rcases h4 with rfl | rfl | rfl | rfl
      · simp [set4, rcv, show i * 4 < xs.length by omega]
      · simp [set4, rcv, show i * 4 + 1 < xs.length by omega]
      · simp [set4, rcv, show i * 4 + 2 < xs.length by omega]
      · simp [set4, rcv, show i * 4 + 3 < xs.length by omega]
  · rw [if_neg hj, List.getElem?_eq_none (by simp [rcv]; omega)]
theorem rcells_get (l : List Rc) (i : Nat) (h : i < l.length) : (rcells l)[i * 4]? = some (.int .i64 (l.getD i rc0).b) ∧ (rcells l)[i * 4 + 1]? = some (.int .u64 (l.getD i rc0).p) ∧ (rcells l)[i * 4 + 2]? = some (.int .i64 (l.getD i rc0).f) ∧ (rcells l)[i * 4 + 3]? = some (.int .i64 (l.getD i rc0).l) := by
  induction l generalizing i with
  | nil => simp at h
  | cons a l ih =>
    have e : rcells (a :: l) = rcv a ++ rcells l := by rw [show a :: l = [a] ++ l from rfl, rcells_append, rcells_one]
    have hl : (rcv a).length = 4 := rfl
    cases i with
    | zero => rw [e]; simp [rcv]
    | succ i =>
      have := ih i (by simpa using h)
      rw [e, List.getElem?_append_right (by omega), List.getElem?_append_right (by omega), List.getElem?_append_right (by omega), List.getElem?_append_right (by omega), hl, show (i + 1) * 4 - 4 = i * 4 from by omega, show (i + 1) * 4 + 1 - 4 = i * 4 + 1 from by omega, show (i + 1) * 4 + 2 - 4 = i * 4 + 2 from by omega, show (i + 1) * 4 + 3 - 4 = i * 4 + 3 from by omega]
      simpa using this

/-- A row of runs, read. -/
theorem row_cells {w : World} {base e g n cap : Nat} {l : List Rc} (h : w.ownsRow base e 4 (.slice (some ⟨g, 0, none⟩) n cap) n (rcells l)) (hn : n = l.length) (i : Nat) (hi : i < n) :
    w.cell? ⟨g, i * 4, none⟩ = some (.int .i64 (l.getD i rc0).b) ∧ w.cell? ⟨g, i * 4 + 1, none⟩ = some (.int .u64 (l.getD i rc0).p) ∧ w.cell? ⟨g, i * 4 + 2, none⟩ = some (.int .i64 (l.getD i rc0).f) ∧ w.cell? ⟨g, i * 4 + 3, none⟩ = some (.int .i64 (l.getD i rc0).l) := by
  obtain ⟨h0, h1, h2, h3⟩ := rcells_get l i (by omega)
  exact ⟨(h.cellAt _ (by omega)).trans h0, (h.cellAt _ (by omega)).trans h1, (h.cellAt _ (by omega)).trans h2, (h.cellAt _ (by omega)).trans h3⟩

theorem own_shape {w : World} {base e size n : Nat} {v : Value} {xs : List Value} (h : w.ownsRow base e size v n xs) : ∃ a c, v = .slice a n c := by
  rcases h.2 with ⟨rfl, h0⟩ | ⟨g, cap, cur, rfl, _⟩
  · exact ⟨none, 0, by rw [h0]⟩
  · exact ⟨_, cap, rfl⟩
theorem own_form {w : World} {base e size n : Nat} {a : Option Addr} {c : Nat} {xs : List Value} (h : w.ownsRow base e size (.slice a n c) n xs) (hn : 0 < n) : ∃ g, a = some ⟨g, 0, none⟩ := by
  rcases h.2 with ⟨e, h0⟩ | ⟨g, cap, cur, e, _⟩
  · omega
  · injection e with e1 e2 e3
    exact ⟨g, e1⟩

/-- A row in the making: the first i runs lie in it. -/
def Part (w : World) (base e g : Nat) (l : List Rc) (i : Nat) : Prop := ∃ xs, w.ownsRow base e 4 (.slice (some ⟨g, 0, none⟩) l.length l.length) l.length xs ∧ xs.take (i * 4) = rcells (l.take i)
def put4 (w : World) (g i : Nat) (r : Rc) : World := (((w.setCell ⟨g, i * 4, none⟩ (.int .i64 r.b)).setCell ⟨g, i * 4 + 1, none⟩ (.int .u64 r.p)).setCell ⟨g, i * 4 + 2, none⟩ (.int .i64 r.f)).setCell ⟨g, i * 4 + 3, none⟩ (.int .i64 r.l)
theorem Part.step {w : World} {base e g : Nat} {l : List Rc} {i : Nat} (h : Part w base e g l i) (hi : i < l.length) : Part (put4 w g i (l.getD i rc0)) base e g l (i + 1) := by
  obtain ⟨xs, h1, h2⟩ := h
  have hl : xs.length = l.length * 4 := h1.1
  refine ⟨set4 xs i (l.getD i rc0), ?_, set4_take xs l i hl hi h2⟩
  exact ((((h1.stored _ _).1.stored _ _).1.stored _ _).1.stored _ _).1
theorem Part.full {w : World} {base e g : Nat} {l : List Rc} (h : Part w base e g l l.length) : w.ownsRow base e 4 (.slice (some ⟨g, 0, none⟩) l.length l.length) l.length (rcells l) := by
  obtain ⟨xs, h1, h2⟩ := h
  rw [List.take_length, List.take_of_length_le (by rw [h1.1]; omega)] at h2
  rw [← h2]
  exact h1
theorem Part.cells {w : World} {base e g : Nat} {l : List Rc} {i : Nat} (h : Part w base e g l i) (hi : i < l.length) : ∀ k, k < 4 → (∃ u, w.cell? ⟨g, i * 4 + k, none⟩ = some u) ∧ w.frozen? ⟨g, i * 4 + k, none⟩ = false := by
  obtain ⟨xs, h1, h2⟩ := h
  intro k hk
  have hl : xs.length = l.length * 4 := h1.1
  refine ⟨⟨xs[i * 4 + k]'(by omega), ?_⟩, h1.frozenAt _⟩
  rw [h1.cellAt _ (by omega)]
  simp
theorem Part.drew {w : World} {base e g : Nat} {l : List Rc} {i : Nat} (h : Part w base e g l i) : Part w.drew base e g l i := h
theorem put4_far {w : World} {g G i x : Nat} {r : Rc} (h : ¬ g = G) : (put4 w G i r).cell? ⟨g, x, none⟩ = w.cell? ⟨g, x, none⟩ := by
  have hb : (put4 w G i r).heap[g]? = w.heap[g]? := by
    unfold put4
    rw [Below.heap_setCell _ _ _ _ (by exact h), Below.heap_setCell _ _ _ _ (by exact h), Below.heap_setCell _ _ _ _ (by exact h), Below.heap_setCell _ _ _ _ (by exact h)]
  exact World.cell?_of_block (a := ⟨g, x, none⟩) hb
theorem put4_far' {w : World} {g G i x : Nat} {r : Rc} (h : ¬ g = G) : (put4 w G i r).drew.cell? ⟨g, x, none⟩ = w.cell? ⟨g, x, none⟩ := by
  rw [World.cell?_drew]
  exact put4_far h
theorem put4_below {w wr : World} {B g i : Nat} {r : Rc} (h : Below B w wr) (hg : B ≤ g) : Below B w (put4 wr g i r) := (((h.setCell (by exact hg) _).setCell (by exact hg) _).setCell (by exact hg) _).setCell (by exact hg) _
theorem put4_own {w : World} {base e size n g i : Nat} {r : Rc} {v : Value} {xs : List Value} (h : w.ownsRow base e size v n xs) (hne : v.ownBlock ≠ some g) : (put4 w g i r).ownsRow base e size v n xs := by
  refine h.kept (row := some g) ⟨rfl, rfl, rfl, by simp [put4, World.setCell], fun k hk hkn => ?_⟩ (.inr hne)
  have : k ≠ g := fun q => hkn (by rw [q])
  unfold put4
  rw [Below.heap_setCell _ _ _ _ (by exact this), Below.heap_setCell _ _ _ _ (by exact this), Below.heap_setCell _ _ _ _ (by exact this), Below.heap_setCell _ _ _ _ (by exact this)]

set_option maxRecDepth 100000 in
set_option maxHeartbeats 1000000 in
theorem f7_any (fp : Nat) (n : Int) (b0 : Nat) (v : Value) (old : List Rc) (w : World) (hfp : fp < 18446744073709551616) (hn : n ≤ 1152921504606846976) (hn0 : -9223372036854775808 ≤ n) (hold : old.length ≤ 65536)
    (hown : w.ownsRow b0 27 4 v old.length (rcells old)) :
    Calls Try.prog 7 #[v, .int .u64 (fp : Int), .int .i64 n] w fun e w' => ∃ v', e = .returned v' ∧ w'.ownsRow w.heap.size 27 4 v' (old ++ runs fp n).length (rcells (old ++ runs fp n)) ∧ Below w.heap.size w w' := by
  obtain ⟨i0, hi, hz0, hz1, hz2⟩ := info_parts info38
  obtain ⟨i1, hi1, hy0, hy1, hy2⟩ := info_parts info27
  have hrl := runs_length fp n hfp hn
  obtain ⟨a, c, rfl⟩ := own_shape hown
  have HO := hide hown
  clear hown
  go_enter Try.func7, Try.ntmps7
  go_wp2_with (first | (at_make; refine wpList_make_full _ rfl _ _ 34 rfl w.heap.size 38 i0 _ 4 Try.underlying34 hi hz0 hz1 .i64 .i64 _ _ old.length rfl rfl rfl rfl (by rw [hz2]; omega) (by unfold maxLen; omega) (Nat.le_refl _) ?_; intro w1 hown1 hgrow1) | go_in)
  have hbel1 : Below w.heap.size w w1 := (Below.refl _ _).grown hgrow1 (Nat.le_refl _) (fun k hk => by cases hk)
  have P0 : Part w1 w.heap.size 38 w.heap.size old 0 := ⟨_, hown1, by simp [rcells]⟩
  clear hown1 hgrow1
  go_loopw [8] (fun i wr => ∃ j : Nat, i = .int .i64 (j : Int) ∧ j ≤ old.length ∧ Part wr w.heap.size 38 w.heap.size old j ∧ Below w.heap.size w wr) (fun i _ => old.length - (intOf i).toNat)
  case atStart => exact ⟨0, rfl, by omega, P0, hbel1⟩
  case round =>
    obtain ⟨j, rfl, hj, hpart, hbel⟩ := hrel
    clear hbel1 P0
    by_cases hlt : j < old.length
    · obtain ⟨g, rfl⟩ := own_form HO.out (by omega)
      have hgl := (HO.out.lt g rfl).2
      obtain ⟨c0, c1, c2, c3⟩ := row_cells HO.out rfl j hlt
      have d0 := (hbel.cell (p := ⟨g, j * 4, none⟩) hgl).trans c0
      have d1 := (hbel.cell (p := ⟨g, j * 4 + 1, none⟩) hgl).trans c1
      have d2 := (hbel.cell (p := ⟨g, j * 4 + 2, none⟩) hgl).trans c2
      have d3 := (hbel.cell (p := ⟨g, j * 4 + 3, none⟩) hgl).trans c3
      obtain ⟨⟨x0, e0⟩, f0⟩ := hpart.cells hlt 0 (by omega)
      obtain ⟨⟨x1, e1⟩, f1⟩ := hpart.cells hlt 1 (by omega)
      obtain ⟨⟨x2, e2⟩, f2⟩ := hpart.cells hlt 2 (by omega)
      obtain ⟨⟨x3, e3⟩, f3⟩ := hpart.cells hlt 3 (by omega)
      rw [Nat.add_zero] at e0 f0
      have HS := hide (hpart.step hlt)
      have HB := hide (put4_below (i := j) (r := old.getD j rc0) hbel (Nat.le_refl _))
      have hne : ¬ g = w.heap.size := by omega
      have hj0 : (0 : Int) ≤ (j : Int) := by omega
      have hj1 : (j : Int) < (old.length : Int) := by omega
      have hj2 : j ≤ 65536 := by omega
      have hgh : ¬ w.heap.size = g := by omega
      clear c0 c1 c2 c3 hpart hbel
      generalize old.getD j rc0 = r at *
      generalize w.heap.size = H at *
      go_wp2_with fail
      go_region_held3 (fun w' => w'.cell? ⟨g, j * 4, none⟩ = some (.int .i64 r.b) ∧ w'.cell? ⟨g, j * 4 + 1, none⟩ = some (.int .u64 r.p) ∧ w'.cell? ⟨g, j * 4 + 2, none⟩ = some (.int .i64 r.f) ∧ w'.cell? ⟨g, j * 4 + 3, none⟩ = some (.int .i64 r.l)) (first | go_keep | simp [World.cell?_setCell_far, hgh, d0, d1, d2, d3]) (fail)
      clear d0 d1 d2 d3 e0 e1 e2 e3 f0 f1 f2 f3
      have S1 := HS.out.drew
      have B1 := HB.out.drew
      unfold put4 at S1 B1
      go_wp2_with fail
      go_roundw
      case rel => exact ⟨j + 1, by go_num, by omega, S1, B1⟩
      case measure => simp [intOf]; omega
    · obtain rfl : j = old.length := by omega
      have C11 := f11_any fp n w.heap.size _ old wr hfp hn hn0 hold hpart.full hbel.size
      have HC := hide C11
      clear C11 hpart
      go_wp2_with (first | (go_at_call 11; refine HC.out.mono ?_; rintro e w2 ⟨v1, rfl, hown2, hb2⟩; obtain ⟨a1, c1, rfl⟩ := own_shape hown2; have hle : (old ++ runs fp n).length ≤ 70000 := (by simp; omega); generalize hRd : old ++ runs fp n = R at *; have HRD := hide hRd; clear hRd) | (at_make; refine wpList_make_full _ rfl _ _ 25 rfl w2.heap.size 27 i1 _ 4 Try.underlying25 hi1 hy0 hy1 .i64 .i64 _ _ R.length rfl rfl rfl rfl (by rw [hy2]; omega) (by unfold maxLen; omega) (Nat.le_refl _) ?_; intro w3 hown3 hgrow3) | go_in)
      have hbel3 : Below w2.heap.size w2 w3 := (Below.refl _ _).grown hgrow3 (Nat.le_refl _) (fun k hk => by cases hk)
      have P3 : Part w3 w2.heap.size 27 w2.heap.size R 0 := ⟨_, hown3, by simp [rcells]⟩
      have B2 : Below w.heap.size w w2 := hbel.trans hb2
      have HO2 := hide hown2
      have hwr : w.heap.size ≤ w2.heap.size := B2.size
      clear hown3 hgrow3 hown2 hb2 hbel HO HC hj hlt
      go_loopw [11] (fun i wq => ∃ j : Nat, i = .int .i64 (j : Int) ∧ j ≤ R.length ∧ Part wq w2.heap.size 27 w2.heap.size R j ∧ Below w2.heap.size w2 wq) (fun i _ => R.length - (intOf i).toNat)
      case atStart => exact ⟨0, rfl, by omega, P3, hbel3⟩
      case round =>
        obtain ⟨j, rfl, hj, hpart, hbel⟩ := hrel
        clear hbel3 P3
        rename World => wq
        by_cases hlt : j < R.length
        · obtain ⟨g, rfl⟩ := own_form HO2.out (by omega)
          have hgl := (HO2.out.lt g rfl).2
          obtain ⟨c0, c1', c2, c3⟩ := row_cells HO2.out rfl j hlt
          have d0 := (hbel.cell (p := ⟨g, j * 4, none⟩) hgl).trans c0
          have d1 := (hbel.cell (p := ⟨g, j * 4 + 1, none⟩) hgl).trans c1'
          have d2 := (hbel.cell (p := ⟨g, j * 4 + 2, none⟩) hgl).trans c2
          have d3 := (hbel.cell (p := ⟨g, j * 4 + 3, none⟩) hgl).trans c3
          obtain ⟨⟨x0, e0⟩, f0⟩ := hpart.cells hlt 0 (by omega)
          obtain ⟨⟨x1, e1⟩, f1⟩ := hpart.cells hlt 1 (by omega)
          obtain ⟨⟨x2, e2⟩, f2⟩ := hpart.cells hlt 2 (by omega)
          obtain ⟨⟨x3, e3⟩, f3⟩ := hpart.cells hlt 3 (by omega)
          rw [Nat.add_zero] at e0 f0
          have HS := hide (hpart.step hlt)
          have HB := hide (put4_below (i := j) (r := R.getD j rc0) hbel (Nat.le_refl _))
          have hne : ¬ g = w2.heap.size := by omega
          have hj0 : (0 : Int) ≤ (j : Int) := by omega
          have hj1 : (j : Int) < (R.length : Int) := by omega
          have hj2 : j ≤ 70000 := by omega
          have hgh : ¬ w2.heap.size = g := by omega
          clear c0 c1' c2 c3 hpart hbel
          generalize R.getD j rc0 = r at *
          generalize w2.heap.size = H at *
          go_wp2_with fail
          go_region_held3 (fun w' => w'.cell? ⟨g, j * 4, none⟩ = some (.int .i64 r.b) ∧ w'.cell? ⟨g, j * 4 + 1, none⟩ = some (.int .u64 r.p) ∧ w'.cell? ⟨g, j * 4 + 2, none⟩ = some (.int .i64 r.f) ∧ w'.cell? ⟨g, j * 4 + 3, none⟩ = some (.int .i64 r.l)) (first | go_keep | simp [World.cell?_setCell_far, hgh, d0, d1, d2, d3]) (fail)
          clear d0 d1 d2 d3 e0 e1 e2 e3 f0 f1 f2 f3
          have S1 := HS.out.drew
          have B1 := HB.out.drew
          unfold put4 at S1 B1
          go_wp2_with fail
          go_roundw
          case rel => exact ⟨j + 1, by go_num, by omega, S1, B1⟩
          case measure => simp [intOf]; omega
        · obtain rfl : j = R.length := by omega
          go_wp2_with fail
          go_ret
          rw [HRD.out]
          exact ⟨_, rfl, owns_mono hpart.full hwr, B2.trans (hbel.mono hwr)⟩

end Go.Proofs.Qxb6602869a
