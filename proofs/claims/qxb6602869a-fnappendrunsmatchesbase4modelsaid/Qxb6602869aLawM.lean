import Derived.Test.Qxb6602869aMdl
import Derived.Test.Qxb6602869aLawC
namespace Go.Proofs.Qxb6602869a
open Go.RowKit
set_option linter.unusedVariables false

/-- An argument of runs: where its cells lie. -/
def ArgSl (W : World) (a : Option Addr) (l : List Rc) : Prop := 0 < l.length → ∃ g off, a = some ⟨g, off, none⟩ ∧ g < W.heap.size ∧ ∀ i, i < l.length →
  W.cell? ⟨g, off + i * 4, none⟩ = some (.int .i64 (l.getD i rc0).b) ∧ W.cell? ⟨g, off + i * 4 + 1, none⟩ = some (.int .u64 (l.getD i rc0).p) ∧ W.cell? ⟨g, off + i * 4 + 2, none⟩ = some (.int .i64 (l.getD i rc0).f) ∧ W.cell? ⟨g, off + i * 4 + 3, none⟩ = some (.int .i64 (l.getD i rc0).l)

set_option maxRecDepth 100000 in
theorem f8_all (fp : Nat) (n : Int) (w : World) (hfp : fp < 18446744073709551616) (hn : n ≤ 1152921504606846976) :
    Calls Try.prog 8 #[.int .u64 (fp : Int), .int .i64 n] w fun e w' => ∃ v', e = .returned v' ∧ w'.ownsRow w.heap.size 28 4 v' (runs fp n).length (rcells (runs fp n)) ∧ Below w.heap.size w w' := by
  by_cases h : n < 1
  · rw [runs_neg fp n h]
    go_enter Try.func8, Try.ntmps8
    go_wp2
    go_ret
    exact ⟨_, rfl, World.ownsRow_nil _ _ _ _, Below.refl _ _⟩
  · obtain ⟨m, rfl⟩ : ∃ m : Nat, n = (m : Int) := ⟨n.toNat, by omega⟩
    exact f8_any fp m w hfp (by omega) (by omega)

set_option maxRecDepth 100000 in
theorem f6_any (a : Option Addr) (len cap : Nat) (fp n : Int) (w : World) (hl : len ≤ 9223372036854775807) :
    Calls Try.prog 6 #[.slice a len cap, .int .u64 fp, .int .i64 n] w fun e w' => e = .returned (.bool (decide (len ≤ 1048576))) ∧ w' = w := by
  by_cases h : len ≤ 1048576
  · rw [decide_eq_true h]
    go_enter Try.func6, Try.ntmps6
    go_wp2
    go_ret
    exact ⟨rfl, rfl⟩
  · rw [decide_eq_false h]
    go_enter Try.func6, Try.ntmps6
    go_wp2
    go_ret
    exact ⟨rfl, rfl⟩

set_option maxRecDepth 100000 in
set_option maxHeartbeats 1000000 in
theorem f3_in (fp : Nat) (n : Int) (a : Option Addr) (cap : Nat) (l : List Rc) (w : World) (hfp : fp < 18446744073709551616) (hn : n ≤ 1152921504606846976) (hn0 : -9223372036854775808 ≤ n) (hl : l.length ≤ 32768) (harg : ArgSl w a l) :
    Calls Try.prog 3 #[.slice a l.length cap, .int .u64 (fp : Int), .int .i64 n] w fun e w' => e = .returned (.bool true) ∧ Below w.heap.size w w' := by
  obtain ⟨i1, hi1, hy0, hy1, hy2⟩ := info_parts info27
  have C6 := fun W => f6_any a l.length cap (fp : Int) n W (by omega)
  rw [decide_eq_true (show l.length ≤ 1048576 by omega)] at C6
  have C8 := fun W => f8_all fp n W hfp hn
  have hrl := runs_length fp n hfp hn
  have HA := hide harg
  clear harg
  go_enter Try.func3, Try.ntmps3
  go_wp2_with (first | (go_at_call 6; refine (C6 _).mono ?_; rintro e w0 ⟨rfl, hw⟩; obtain rfl := hw.symm; clear hw) | (at_make; refine wpList_make_full _ rfl _ _ 25 rfl w.heap.size 27 i1 _ 4 Try.underlying25 hi1 hy0 hy1 .i64 .i64 _ _ l.length rfl rfl rfl rfl (by rw [hy2]; omega) (by unfold maxLen; omega) (Nat.le_refl _) ?_; intro w1 hown1 hgrow1) | go_in)
  have hbel1 : Below w.heap.size w w1 := (Below.refl _ _).grown hgrow1 (Nat.le_refl _) (fun k hk => by cases hk)
  have P0 : Part w1 w.heap.size 27 w.heap.size l 0 := ⟨_, hown1, by simp [rcells]⟩
  clear hown1 hgrow1 C6
  go_loopw [8] (fun i wr => ∃ j : Nat, i = .int .i64 (j : Int) ∧ j ≤ l.length ∧ Part wr w.heap.size 27 w.heap.size l j ∧ Below w.heap.size w wr) (fun i _ => l.length - (intOf i).toNat)
  case atStart => exact ⟨0, rfl, by omega, P0, hbel1⟩
  case round =>
    obtain ⟨j, rfl, hj, hpart, hbel⟩ := hrel
    clear hbel1 P0
    by_cases hlt : j < l.length
    · obtain ⟨g, off, rfl, hgl, hall⟩ := HA.out (by omega)
      obtain ⟨c0, c1, c2, c3⟩ := hall j hlt
      have d0 := (hbel.cell (p := ⟨g, off + j * 4, none⟩) hgl).trans c0
      have d1 := (hbel.cell (p := ⟨g, off + j * 4 + 1, none⟩) hgl).trans c1
      have d2 := (hbel.cell (p := ⟨g, off + j * 4 + 2, none⟩) hgl).trans c2
      have d3 := (hbel.cell (p := ⟨g, off + j * 4 + 3, none⟩) hgl).trans c3
      obtain ⟨⟨x0, e0⟩, f0⟩ := hpart.cells hlt 0 (by omega)
      obtain ⟨⟨x1, e1⟩, f1⟩ := hpart.cells hlt 1 (by omega)
      obtain ⟨⟨x2, e2⟩, f2⟩ := hpart.cells hlt 2 (by omega)
      obtain ⟨⟨x3, e3⟩, f3⟩ := hpart.cells hlt 3 (by omega)
      rw [Nat.add_zero] at e0 f0
      have HS := hide (hpart.step hlt)
      have HB := hide (put4_below (i := j) (r := l.getD j rc0) hbel (Nat.le_refl _))
      have hne : ¬ g = w.heap.size := by omega
      have hgh : ¬ w.heap.size = g := by omega
      clear c0 c1 c2 c3 hpart hbel hall
      generalize l.getD j rc0 = r at *
      generalize w.heap.size = H at *
      go_wp2_with fail
      clear d0 d1 d2 d3 e0 e1 e2 e3 f0 f1 f2 f3
      have S1 := HS.out
      have B1 := HB.out
      unfold put4 at S1 B1
      go_roundw
      case rel => exact ⟨j + 1, by go_num, by omega, S1, B1⟩
      case measure => simp [intOf]; omega
    · obtain rfl : j = l.length := by omega
      have C7 := f7_any fp n w.heap.size _ l wr hfp hn hn0 (by omega) hpart.full
      generalize runs fp n = R at *
      rw [List.length_append] at C7
      have HC := hide C7
      clear C7 hpart
      go_wp2_with (go_at_call 7; refine HC.out.mono ?_; rintro e w2 ⟨v2, rfl, ho2, hb2⟩; obtain ⟨a2, c2, rfl⟩ := own_shape ho2; have HO2 := hide ho2; clear ho2)
      refine (C8 _).mono ?_
      rintro e w3 ⟨v3, rfl, ho3, hb3⟩
      obtain ⟨a3, c3, rfl⟩ := own_shape ho3
      have HO3 := hide ho3
      have B2 : Below w.heap.size w w2 := hbel.trans (hb2.mono hbel.size)
      have B3 : Below w.heap.size w w3 := B2.trans (hb3.mono B2.size)
      have HG := hide (own_below HO2.out hb3)
      have hne : (((l.length : Int) + (R.length : Int)) != ((l.length : Int) + (R.length : Int))) = false := by simp
      clear HC C8 ho3 HO2 hb2 hb3 B2 hbel hj hlt
      have HB3 := hide B3
      clear B3
      go_wp2_with fail
      go_loopw [11] (fun i wr => ∃ j : Nat, i = .int .i64 (j : Int) ∧ j ≤ l.length ∧ Below w3.heap.size w3 wr) (fun i _ => l.length - (intOf i).toNat)
      case atStart => exact ⟨0, rfl, by omega, Below.refl _ _⟩
      case round =>
        obtain ⟨j, rfl, hj, hbel⟩ := hrel
        by_cases hlt : j < l.length
        · obtain ⟨g, off, rfl, hgl, hall⟩ := HA.out (by omega)
          obtain ⟨c0, c1, c2', c3'⟩ := hall j hlt
          have hgl3 : g < w3.heap.size := Nat.lt_of_lt_of_le hgl HB3.out.size
          have d0 := (hbel.cell (p := ⟨g, off + j * 4, none⟩) hgl3).trans ((HB3.out.cell (p := ⟨g, off + j * 4, none⟩) hgl).trans c0)
          have d1 := (hbel.cell (p := ⟨g, off + j * 4 + 1, none⟩) hgl3).trans ((HB3.out.cell (p := ⟨g, off + j * 4 + 1, none⟩) hgl).trans c1)
          have d2 := (hbel.cell (p := ⟨g, off + j * 4 + 2, none⟩) hgl3).trans ((HB3.out.cell (p := ⟨g, off + j * 4 + 2, none⟩) hgl).trans c2')
          have d3 := (hbel.cell (p := ⟨g, off + j * 4 + 3, none⟩) hgl3).trans ((HB3.out.cell (p := ⟨g, off + j * 4 + 3, none⟩) hgl).trans c3')
          obtain ⟨g2, rfl⟩ := own_form HG.out (by omega)
          have l2 := (HG.out.lt g2 rfl).2
          obtain ⟨p0, p1, p2, p3⟩ := row_cells HG.out (by simp) j (by omega)
          rw [getD_left _ _ _ hlt] at p0 p1 p2 p3
          have P0 := (hbel.cell (p := ⟨g2, j * 4, none⟩) l2).trans p0
          have P1 := (hbel.cell (p := ⟨g2, j * 4 + 1, none⟩) l2).trans p1
          have P2 := (hbel.cell (p := ⟨g2, j * 4 + 2, none⟩) l2).trans p2
          have P3 := (hbel.cell (p := ⟨g2, j * 4 + 3, none⟩) l2).trans p3
          have hj0 : (0 : Int) ≤ (j : Int) := by omega
          have hj1 : (j : Int) < (l.length : Int) := by omega
          have hj2 : (j : Int) < (l.length : Int) + (R.length : Int) := by omega
          have hj3 : j < l.length + R.length := by omega
          have HBL := hide hbel
          clear p0 p1 p2 p3 c0 c1 c2' c3' hall hbel
          generalize l.getD j rc0 = x at *
          go_wp2_with fail
          go_region_held3 (fun w' => w'.cell? ⟨g, off + j * 4, none⟩ = some (.int .i64 x.b) ∧ w'.cell? ⟨g, off + j * 4 + 1, none⟩ = some (.int .u64 x.p) ∧ w'.cell? ⟨g, off + j * 4 + 2, none⟩ = some (.int .i64 x.f) ∧ w'.cell? ⟨g, off + j * 4 + 3, none⟩ = some (.int .i64 x.l) ∧ w'.cell? ⟨g2, j * 4, none⟩ = some (.int .i64 x.b) ∧ w'.cell? ⟨g2, j * 4 + 1, none⟩ = some (.int .u64 x.p) ∧ w'.cell? ⟨g2, j * 4 + 2, none⟩ = some (.int .i64 x.f) ∧ w'.cell? ⟨g2, j * 4 + 3, none⟩ = some (.int .i64 x.l)) (go_keep) (fail)
          go_wp2_with fail
          go_roundw
          case rel => exact ⟨j + 1, by go_num, by omega, HBL.out.drew⟩
          case measure => simp [intOf]; omega
        · obtain rfl : j = l.length := by omega
          go_wp2_with fail
          obtain ⟨wo, rfl⟩ : ∃ wo : World, wo = wr := ⟨_, rfl⟩
          go_loopw [12] (fun i wr => ∃ j : Nat, i = .int .i64 (j : Int) ∧ j ≤ R.length ∧ Below w3.heap.size w3 wr) (fun i _ => R.length - (intOf i).toNat)
          case atStart => exact ⟨0, rfl, by omega, hbel⟩
          case round =>
            clear hbel hlt hj
            obtain ⟨j, rfl, hj, hbel⟩ := hrel
            by_cases hlt : j < R.length
            · obtain ⟨g2, rfl⟩ := own_form HG.out (by omega)
              have l2 := (HG.out.lt g2 rfl).2
              obtain ⟨g3, rfl⟩ := own_form HO3.out (by omega)
              have l3 := (HO3.out.lt g3 rfl).2
              obtain ⟨p0, p1, p2, p3⟩ := row_cells HG.out (by simp) (l.length + j) (by omega)
              obtain ⟨q0, q1, q2, q3⟩ := row_cells HO3.out rfl j hlt
              have hgd : (l ++ R).getD (l.length + j) rc0 = R.getD j rc0 := by
                rw [List.getD_eq_getElem?_getD, List.getElem?_append_right (by omega), List.getD_eq_getElem?_getD, Nat.add_sub_cancel_left]
              rw [hgd] at p0 p1 p2 p3
              have P0 := (hbel.cell (p := ⟨g2, (l.length + j) * 4, none⟩) l2).trans p0
              have P1 := (hbel.cell (p := ⟨g2, (l.length + j) * 4 + 1, none⟩) l2).trans p1
              have P2 := (hbel.cell (p := ⟨g2, (l.length + j) * 4 + 2, none⟩) l2).trans p2
              have P3 := (hbel.cell (p := ⟨g2, (l.length + j) * 4 + 3, none⟩) l2).trans p3
              have Q0 := (hbel.cell (p := ⟨g3, j * 4, none⟩) l3).trans q0
              have Q1 := (hbel.cell (p := ⟨g3, j * 4 + 1, none⟩) l3).trans q1
              have Q2 := (hbel.cell (p := ⟨g3, j * 4 + 2, none⟩) l3).trans q2
              have Q3 := (hbel.cell (p := ⟨g3, j * 4 + 3, none⟩) l3).trans q3
              have hj0 : (0 : Int) ≤ (j : Int) := by omega
              have hj1 : (j : Int) < (R.length : Int) := by omega
              have HBL := hide hbel
              obtain ⟨K, hKd⟩ : ∃ K, K = l.length + j := ⟨_, rfl⟩
              have hwk : IntKind.i64.wrap ((l.length : Int) + (j : Int)) = (K : Int) := by rw [IntKind.wrap_i64]; omega
              have hk0 : (0 : Int) ≤ (K : Int) := by omega
              have hk1 : (K : Int) < (l.length : Int) + (R.length : Int) := by omega
              have hk2 : K < l.length + R.length := by omega
              rw [← hKd] at P0 P1 P2 P3
              have HKD := hide hKd
              clear p0 p1 p2 p3 q0 q1 q2 q3 hgd hbel hKd
              generalize R.getD j rc0 = x at *
              go_wp2_with fail
              go_region_held3 (fun w' => w'.cell? ⟨g2, K * 4, none⟩ = some (.int .i64 x.b) ∧ w'.cell? ⟨g2, K * 4 + 1, none⟩ = some (.int .u64 x.p) ∧ w'.cell? ⟨g2, K * 4 + 2, none⟩ = some (.int .i64 x.f) ∧ w'.cell? ⟨g2, K * 4 + 3, none⟩ = some (.int .i64 x.l) ∧ w'.cell? ⟨g3, j * 4, none⟩ = some (.int .i64 x.b) ∧ w'.cell? ⟨g3, j * 4 + 1, none⟩ = some (.int .u64 x.p) ∧ w'.cell? ⟨g3, j * 4 + 2, none⟩ = some (.int .i64 x.f) ∧ w'.cell? ⟨g3, j * 4 + 3, none⟩ = some (.int .i64 x.l)) (go_keep) (fail)
              go_wp2_with fail
              go_roundw
              case rel => exact ⟨j + 1, by go_num, by omega, HBL.out.drew⟩
              case measure => simp [intOf]; omega
            · obtain rfl : j = R.length := by omega
              go_wp2_with fail
              go_ret
              exact ⟨rfl, HB3.out.trans (hbel.mono HB3.out.size)⟩

set_option maxRecDepth 100000 in
theorem f3_any (fp : Nat) (n : Int) (a : Option Addr) (cap : Nat) (l : List Rc) (w : World) (hfp : fp < 18446744073709551616) (hn0 : -9223372036854775808 ≤ n) (hl : l.length ≤ 9223372036854775807) (harg : ArgSl w a l) :
    Calls Try.prog 3 #[.slice a l.length cap, .int .u64 (fp : Int), .int .i64 n] w fun e w' => e = .returned (.bool true) ∧ Below w.heap.size w w' := by
  have C6 := fun W => f6_any a l.length cap (fp : Int) n W hl
  by_cases h1 : l.length ≤ 32768
  · by_cases h2 : n ≤ 1152921504606846976
    · exact f3_in fp n a cap l w hfp h2 hn0 h1 harg
    · clear harg
      rw [decide_eq_true (show l.length ≤ 1048576 by omega)] at C6
      generalize l.length = L at *
      go_enter Try.func3, Try.ntmps3
      go_wp2_with (go_at_call 6; refine (C6 _).mono ?_; rintro e w0 ⟨rfl, hw⟩; obtain rfl := hw.symm; clear hw)
      go_ret
      exact ⟨rfl, Below.refl _ _⟩
  · clear harg
    by_cases h3 : l.length ≤ 1048576
    · rw [decide_eq_true h3] at C6
      generalize l.length = L at *
      go_enter Try.func3, Try.ntmps3
      go_wp2_with (go_at_call 6; refine (C6 _).mono ?_; rintro e w0 ⟨rfl, hw⟩; obtain rfl := hw.symm; clear hw)
      go_ret
      exact ⟨rfl, Below.refl _ _⟩
    · rw [decide_eq_false h3] at C6
      generalize l.length = L at *
      go_enter Try.func3, Try.ntmps3
      go_wp2_with (go_at_call 6; refine (C6 _).mono ?_; rintro e w0 ⟨rfl, hw⟩; obtain rfl := hw.symm; clear hw)
      go_ret
      exact ⟨rfl, Below.refl _ _⟩
end Go.Proofs.Qxb6602869a
