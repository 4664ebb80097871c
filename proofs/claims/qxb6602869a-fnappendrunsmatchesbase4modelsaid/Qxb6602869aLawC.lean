import Derived.Test.Qxb6602869aZZ
import Derived.Test.Qxb6602869aCar
namespace Go.Proofs.Qxb6602869a
open Go.RowKit
set_option linter.unusedVariables false

theorem getD_left (X Y : List Rc) (i : Nat) (h : i < X.length) : (X ++ Y).getD i rc0 = X.getD i rc0 := by
  rw [List.getD_eq_getElem?_getD, List.getElem?_append_left h, ← List.getD_eq_getElem?_getD]
theorem getD_mid (X Y : List Rc) (y : Rc) : (X ++ y :: Y).getD X.length rc0 = y := by
  rw [List.getD_eq_getElem?_getD, List.getElem?_append_right (Nat.le_refl _)]
  simp

theorem f7_nil (fp : Nat) (n : Int) (w : World) (hfp : fp < 18446744073709551616) (hn : n ≤ 1152921504606846976) (hn0 : -9223372036854775808 ≤ n) :
    Calls Try.prog 7 #[.slice none 0 0, .int .u64 (fp : Int), .int .i64 n] w fun e w' => ∃ v', e = .returned v' ∧ w'.ownsRow w.heap.size 27 4 v' (runs fp n).length (rcells (runs fp n)) ∧ Below w.heap.size w w' :=
  f7_any fp n 0 (.slice none 0 0) [] w hfp hn hn0 (by simp) (World.ownsRow_nil _ _ _ _)

set_option maxRecDepth 100000 in
set_option maxHeartbeats 1000000 in
theorem f5_in (fp : Nat) (n : Int) (w : World) (hfp : fp < 18446744073709551616) (h0 : 0 ≤ n) (h1 : n < 1152921504606846976) :
    Calls Try.prog 5 #[.int .u64 (fp : Int), .int .i64 n] w fun e w' => e = .returned (.bool true) ∧ Below w.heap.size w w' := by
  obtain ⟨X, Y, r, hA, hB, hrl, hY0, hY1⟩ := carry fp n hfp h0 h1
  have hla := runs_length fp n hfp (by omega)
  have C1 := fun W => f7_nil fp n W hfp (by omega) (by omega)
  have C2 := fun W => f7_nil fp (n + 1) W hfp (by omega) (by omega)
  rw [hA] at C1 hla
  rw [hB] at C2
  clear hA hB
  have hYl : X.length + Y.length ≤ 93 := by simpa using hla
  have HY0 := hide hY0
  have HY1 := hide hY1
  clear hY0 hY1 hla
  go_enter Try.func5, Try.ntmps5
  go_wp2_with fail
  refine (C1 _).mono ?_
  rintro e w1 ⟨v1, rfl, ho1, hb1⟩
  obtain ⟨a1, c1, rfl⟩ := own_shape ho1
  have HO1 := hide ho1
  have HB1 := hide hb1
  clear ho1 hb1 C1
  go_wp2_with fail
  refine (C2 _).mono ?_
  rintro e w2 ⟨v2, rfl, ho2, hb2⟩
  obtain ⟨a2, c2, rfl⟩ := own_shape ho2
  obtain ⟨g2, rfl⟩ := own_form ho2 (by simp)
  have HB2 := hide hb2
  rw [show (X ++ [r]).length = X.length + 1 from by simp] at ho2 ⊢
  have HO2 := hide ho2
  clear ho2 hb2 C2
  obtain ⟨m, hm⟩ : ∃ m, m = X.length := ⟨_, rfl⟩
  have hc : w2.cell? ⟨g2, m * 4 + 3, none⟩ = some (.int .i64 (n + 1)) := by
    have := (row_cells HO2.out (by simp) m (by omega)).2.2.2
    rw [this, hm, getD_mid, hrl]
  have hc' : w2.cell? ⟨g2, m * 4 + 2, none⟩ = some (.int .i64 r.f) := by
    have := (row_cells HO2.out (by simp) m (by omega)).2.2.1
    rw [this, hm, getD_mid]
  rw [← hm] at HO2 ⊢
  rw [show (X ++ Y).length = m + Y.length from by simp [hm]] at HO1
  have HM := hide hm
  have hm93 : m + Y.length ≤ 93 := by omega
  clear hm hYl
  have hd1 : decide (n < 0) = false := by simp; omega
  go_wp2_with fail
  have HA := hide (own_below HO1.out HB2.out)
  have B2 : Below w.heap.size w w2 := HB1.out.trans (HB2.out.mono HB1.out.size)
  clear HO1 HB1 HB2
  go_loopw [8] (fun i wr => ∃ j : Nat, i = .int .i64 (j : Int) ∧ j ≤ m ∧ Below w2.heap.size w2 wr) (fun i _ => m - (intOf i).toNat)
  case atStart => exact ⟨0, rfl, by omega, Below.refl _ _⟩
  case round =>
    obtain ⟨j, rfl, hj, hbel⟩ := hrel
    have l2 := (HO2.out.lt g2 rfl).2
    by_cases hlt : j < m
    · obtain ⟨g1, rfl⟩ := own_form HA.out (by omega)
      have l1 := (HA.out.lt g1 rfl).2
      obtain ⟨p0, p1, p2, p3⟩ := row_cells HA.out (by simp [HM.out]) j (by omega)
      obtain ⟨q0, q1, q2, q3⟩ := row_cells HO2.out (by simp [HM.out]) j (by omega)
      rw [getD_left _ _ _ (by rw [← HM.out]; exact hlt)] at p0 p1 p2 p3 q0 q1 q2 q3
      generalize X.getD j rc0 = x at *
      have P0 := (hbel.cell (p := ⟨g1, j * 4, none⟩) l1).trans p0
      have P1 := (hbel.cell (p := ⟨g1, j * 4 + 1, none⟩) l1).trans p1
      have P2 := (hbel.cell (p := ⟨g1, j * 4 + 2, none⟩) l1).trans p2
      have P3 := (hbel.cell (p := ⟨g1, j * 4 + 3, none⟩) l1).trans p3
      have Q0 := (hbel.cell (p := ⟨g2, j * 4, none⟩) l2).trans q0
      have Q1 := (hbel.cell (p := ⟨g2, j * 4 + 1, none⟩) l2).trans q1
      have Q2 := (hbel.cell (p := ⟨g2, j * 4 + 2, none⟩) l2).trans q2
      have Q3 := (hbel.cell (p := ⟨g2, j * 4 + 3, none⟩) l2).trans q3
      have hj0 : (0 : Int) ≤ (j : Int) := by omega
      have hj1 : (j : Int) < (m : Int) + 1 := by omega
      have hj2 : (j : Int) < (m : Int) + (Y.length : Int) := by omega
      have hj3 : j < m + 1 := by omega
      have hj4 : j < m + Y.length := by omega
      have HBL := hide hbel
      clear p0 p1 p2 p3 q0 q1 q2 q3 hbel hc hc'
      go_wp2_with fail
      go_region_held3 (fun w' => w'.cell? ⟨g1, j * 4, none⟩ = some (.int .i64 x.b) ∧ w'.cell? ⟨g1, j * 4 + 1, none⟩ = some (.int .u64 x.p) ∧ w'.cell? ⟨g1, j * 4 + 2, none⟩ = some (.int .i64 x.f) ∧ w'.cell? ⟨g1, j * 4 + 3, none⟩ = some (.int .i64 x.l) ∧ w'.cell? ⟨g2, j * 4, none⟩ = some (.int .i64 x.b) ∧ w'.cell? ⟨g2, j * 4 + 1, none⟩ = some (.int .u64 x.p) ∧ w'.cell? ⟨g2, j * 4 + 2, none⟩ = some (.int .i64 x.f) ∧ w'.cell? ⟨g2, j * 4 + 3, none⟩ = some (.int .i64 x.l)) (go_keep) (fail)
      go_wp2_with fail
      go_roundw
      case rel => exact ⟨j + 1, by go_num, by omega, HBL.out.drew⟩
      case measure => simp [intOf]; omega
    · obtain rfl : j = m := by omega
      have Q2 := (hbel.cell (p := ⟨g2, j * 4 + 2, none⟩) l2).trans hc'
      have B3 : Below w.heap.size w wr := B2.trans (hbel.mono B2.size)
      have B3' := B3.drew
      have hj1 : (j : Int) < (j : Int) + 1 := by omega
      have hj0 : (0 : Int) ≤ (j : Int) := by omega
      cases Y with
      | nil =>
        have hrf := HY0.out rfl
        rw [hrf] at Q2
        have HB3 := hide B3
        clear HY0 HY1 HO2 HA hbel hc hc' B2 hlt hrl B3 B3'
        go_wp2_with fail
        go_ret
        exact ⟨rfl, HB3.out⟩
      | cons y Y' =>
        have hrf := HY1.out y Y' rfl
        obtain ⟨g1, rfl⟩ := own_form HA.out (by rw [List.length_cons]; omega)
        have l1 := (HA.out.lt g1 rfl).2
        obtain ⟨_, _, p2, _⟩ := row_cells HA.out (by simp [HM.out]) j (by rw [List.length_cons]; omega)
        have P2 := (hbel.cell (p := ⟨g1, j * 4 + 2, none⟩) l1).trans p2
        rw [HM.out, getD_mid, ← HM.out, ← hrf] at P2
        have hj2 : (j : Int) < (j : Int) + ((Y'.length : Int) + 1) := by omega
        have t0 : ¬ ((j : Int) = (j : Int) + ((Y'.length : Int) + 1)) := by omega
        have HB3 := hide B3'
        clear HY0 HY1 HO2 HA hbel hc hc' B2 hlt hrl p2 hrf B3 B3'
        generalize r.f = rf at *
        go_wp2_with fail
        go_region_held3 (fun w' => w'.cell? ⟨g1, j * 4 + 2, none⟩ = some (.int .i64 rf) ∧ w'.cell? ⟨g2, j * 4 + 2, none⟩ = some (.int .i64 rf)) (go_keep) (fail)
        go_wp2_with fail
        go_ret
        exact ⟨rfl, HB3.out⟩

set_option maxRecDepth 100000 in
theorem f5_any (fp : Nat) (n : Int) (w : World) (hfp : fp < 18446744073709551616) :
    Calls Try.prog 5 #[.int .u64 (fp : Int), .int .i64 n] w fun e w' => e = .returned (.bool true) ∧ Below w.heap.size w w' := by
  by_cases h0 : n < 0
  · go_enter Try.func5, Try.ntmps5
    go_wp2
    go_ret
    exact ⟨rfl, Below.refl _ _⟩
  · by_cases h1 : 1152921504606846976 ≤ n
    · go_enter Try.func5, Try.ntmps5
      go_wp2
      go_ret
      exact ⟨rfl, Below.refl _ _⟩
    · exact f5_in fp n w hfp (by omega) (by omega)
end Go.Proofs.Qxb6602869a
