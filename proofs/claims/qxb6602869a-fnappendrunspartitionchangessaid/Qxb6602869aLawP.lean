import Derived.Test.Qxb6602869aLawC
import Derived.Test.Qxb6602869aParL
import Derived.Test.Qxb6602869aSmall
namespace Go.Proofs.Qxb6602869a
open Go.RowKit
set_option linter.unusedVariables false

theorem f10_rc (fp : Nat) (f l : Int) (x : Rc) (w : World) (hfp : fp < 18446744073709551616) (hx : x = rcOf fp f l) (h1 : 1 ≤ f) (h2 : f ≤ l) (h3 : l ≤ 1152921504606846976) :
    Calls Try.prog 10 #[.agg #[.int .i64 x.b, .int .u64 x.p, .int .i64 x.f, .int .i64 x.l], .int .u64 (fp : Int), .int .i64 (l - f + 1)] w fun e w' => e = .returned (.bool true) ∧ Below w.heap.size w w' := by
  subst hx
  unfold rcOf
  by_cases h : f < l
  · rw [if_pos h]
    obtain ⟨m, hm⟩ : ∃ m : Nat, l - f + 1 = (m : Int) := ⟨(l - f + 1).toNat, by omega⟩
    rw [hm]
    exact f10_more fp m f l w hfp (by omega) (by omega)
  · rw [if_neg h]
    rw [show l - f + 1 = 1 from by omega]
    exact f10_one fp f l w

theorem bel_call {w1 wr w3 : World} {o : Obj} (h : Below w1.heap.size w1 wr) (h3 : Below (wr.alloc o).heap.size (wr.alloc o) w3) : Below w1.heap.size w1 w3 :=
  (h.alloc h.size o).trans (h3.mono (by have := h.size; simp; omega))
def EqInv (L : List Rc) (j e : Nat) : Prop := (j ≤ 1 ∧ e = 0) ∨ (2 ≤ j ∧ 1 ≤ e ∧ e ≤ 3 ∧ e + 1 ≤ j ∧ rl L (j - e) = rl L (j - 1))
theorem EqInv.le {L : List Rc} {j e : Nat} (h : EqInv L j e) : e ≤ 3 := by rcases h with h | h <;> omega
theorem EqInv.one {L : List Rc} {j e : Nat} (h : EqInv L (j + 1) e) : EqInv L (j + 1 + 1) 1 := .inr ⟨by omega, by omega, by omega, by omega, rfl⟩
theorem EqInv.more {fp : Nat} {n : Int} {L : List Rc} {k e : Nat} (hp : Parted fp n L) (h : EqInv L (k + 2) e) (hl : k + 2 < L.length) (he : rl L (k + 2) = rl L (k + 1)) : EqInv L (k + 2 + 1) (e + 1) ∧ e + 1 ≤ 3 := by
  rcases h with h | ⟨h1, h2, h3, h4, h5⟩
  · omega
  · rw [show k + 2 - 1 = k + 1 from by omega] at h5
    have hne : e ≠ 3 := by
      intro h
      subst h
      have h6 : 1 ≤ k + 2 - 3 := by omega
      obtain ⟨q, hq⟩ : ∃ q, k + 2 = q + 4 := ⟨k - 2, by omega⟩
      have := hp.three q (by omega)
      rw [hq, show q + 4 - 3 = q + 1 from by omega] at h5
      rw [hq] at he
      omega
    refine ⟨.inr ⟨by omega, by omega, by omega, by omega, ?_⟩, by omega⟩
    rw [show k + 2 + 1 - (e + 1) = k + 2 - e from by omega, show k + 2 + 1 - 1 = k + 2 from by omega, h5, he]

set_option maxRecDepth 100000 in
set_option maxHeartbeats 1000000 in
theorem f4_in (fp : Nat) (n : Int) (w : World) (hfp : fp < 18446744073709551616) (h0 : 1 ≤ n) (h1 : n ≤ 1152921504606846976) :
    Calls Try.prog 4 #[.int .u64 (fp : Int), .int .i64 n] w fun e w' => e = .returned (.bool true) ∧ Below w.heap.size w w' := by
  have hp := parted fp n h0
  have hll := runs_length fp n hfp h1
  have C1 := fun W => f7_nil fp n W hfp (by omega) (by omega)
  generalize runs fp n = L at *
  have HP := hide hp
  have hpos := hp.pos
  obtain ⟨m, hm⟩ : ∃ m, L.length = m + 1 := ⟨L.length - 1, by omega⟩
  have hfi := hp.first
  have hla := hp.last
  rw [hm, Nat.add_sub_cancel] at hla
  clear hp
  go_enter Try.func4, Try.ntmps4
  go_wp2_with fail
  refine (C1 _).mono ?_
  rintro e w1 ⟨v1, rfl, ho1, hb1⟩
  rw [hm] at ho1
  obtain ⟨a1, c1, rfl⟩ := own_shape ho1
  obtain ⟨g, rfl⟩ := own_form ho1 (by omega)
  have hc0 : w1.cell? ⟨g, 2, none⟩ = some (.int .i64 1) := by
    have := (row_cells ho1 hm.symm 0 (by omega)).2.2.1
    rw [hfi] at this
    simpa using this
  have hc1 : w1.cell? ⟨g, m * 4 + 3, none⟩ = some (.int .i64 n) := by
    have := (row_cells ho1 hm.symm m (by omega)).2.2.2
    rw [hla] at this
    exact this
  have HO := hide ho1
  have HB := hide hb1
  have hgl := (ho1.lt g rfl).2
  have HM := hide hm
  have hm93 : m ≤ 92 := by omega
  clear ho1 hb1 C1 hm hfi hla hpos hll
  have tm : ((m : Int) + 1 == 0) = false := by simp; omega
  have tn1 : decide (n < 1) = false := by simp; omega
  have tn2 : decide (1152921504606846976 < n) = false := by simp; omega
  go_wp2_with fail
  go_loopw [6, 7] (fun ev i wr => ∃ j e : Nat, i = .int .i64 (j : Int) ∧ ev = .int .i64 (e : Int) ∧ j ≤ m + 1 ∧ EqInv L j e ∧ Below w1.heap.size w1 wr) (fun _ i _ => m + 1 - (intOf i).toNat)
  case atStart => exact ⟨0, 0, rfl, rfl, by omega, .inl ⟨by omega, rfl⟩, Below.refl _ _⟩
  case round =>
    obtain ⟨j, e, rfl, rfl, hj, heq, hbel⟩ := hrel
    by_cases hlt : j < m + 1
    · have hml := HM.out
      obtain ⟨b1, b2, b3, b4⟩ := HP.out.each j (by omega)
      obtain ⟨p0, p1, p2, p3⟩ := row_cells HO.out hml.symm j hlt
      have C10 := fun W => f10_rc fp _ _ (L.getD j rc0) W hfp b4 b1 b2 (by omega)
      have P0 := (hbel.cell (p := ⟨g, j * 4, none⟩) hgl).trans p0
      have P1 := (hbel.cell (p := ⟨g, j * 4 + 1, none⟩) hgl).trans p1
      have P2 := (hbel.cell (p := ⟨g, j * 4 + 2, none⟩) hgl).trans p2
      have P3 := (hbel.cell (p := ⟨g, j * 4 + 3, none⟩) hgl).trans p3
      have hE1 := heq.le
      have HE := hide heq
      have HBL := hide hbel
      have hrl : rl L j = (L.getD j rc0).l - (L.getD j rc0).f + 1 := rfl
      have hgw : g < wr.heap.size := Nat.lt_of_lt_of_le hgl hbel.size
      cases j with
      | zero =>
        have e0 : e = 0 := by rcases heq with h | h <;> omega
        subst e0
        clear p0 p1 p2 p3 b4 hc0 hc1 hbel heq hrl hml
        generalize L.getD 0 rc0 = x at *
        obtain ⟨xb, xp, xf, xl⟩ := x
        dsimp only at *
        go_wp2_with (first | (go_at_call 10; refine (C10 _).mono ?_; rintro e w3 ⟨rfl, hb3⟩; have HB3 := hide hb3; clear hb3) | go_in)
        have B3 := bel_call HBL.out HB3.out
        go_roundw
        case rel => first | exact ⟨1, 0, rfl, rfl, by omega, .inl ⟨by omega, rfl⟩, B3⟩ | ((repeat apply Exists.intro); exact ⟨⟨1, 0, rfl, rfl, by omega, .inl ⟨by omega, rfl⟩, B3⟩, rfl⟩)
        case measure => simp [intOf]
      | succ k =>
        obtain ⟨nx1, J, nx2⟩ := HP.out.next k (by omega)
        obtain ⟨d1, d2, d3, d4⟩ := HP.out.each k (by omega)
        obtain ⟨_, _, q2, q3⟩ := row_cells HO.out hml.symm k (by omega)
        have Q2 := (hbel.cell (p := ⟨g, k * 4 + 2, none⟩) hgl).trans q2
        have Q3 := (hbel.cell (p := ⟨g, k * 4 + 3, none⟩) hgl).trans q3
        have hrk : rl L k = (L.getD k rc0).l - (L.getD k rc0).f + 1 := rfl
        obtain ⟨E, hE⟩ : ∃ E, rl L (k + 1) = E := ⟨_, rfl⟩
        obtain ⟨D, hD⟩ : ∃ D, rl L k = D := ⟨_, rfl⟩
        have hdown : 1 ≤ k → E ≤ D := fun h => by
          have := HP.out.down (k - 1) (by omega)
          rw [show k - 1 + 2 = k + 1 from by omega, show k - 1 + 1 = k from by omega, hE, hD] at this
          exact this
        have C9 : ∀ W, Calls Try.prog 9 #[.int .i64 E] W fun e w' => e = .returned (.bool true) ∧ w' = W := fun W => by
          rw [← hE, nx2]
          exact f9_any (4 ^ J) J W rfl (by rw [hrl] at nx2; omega)
        have hone : EqInv L (k + 1 + 1) 1 := heq.one
        have hmore : 1 ≤ k → E = D → EqInv L (k + 1 + 1) (e + 1) ∧ e + 1 ≤ 3 := fun h h2 => by
          obtain ⟨q, rfl⟩ : ∃ q, k = q + 1 := ⟨k - 1, by omega⟩
          exact EqInv.more HP.out heq (by omega) (by rw [hE, hD, h2])
        rw [hrl] at hE
        rw [hrk] at hD
        rw [hE] at C10
        have HNX := hide nx1
        have HONE := hide hone
        have HMORE := hide hmore
        have HDN := hide hdown
        clear p0 p1 p2 p3 b4 hc0 hc1 hbel heq hrl hml nx2 q2 q3 d4 hrk hone hmore hdown
        generalize L.getD (k + 1) rc0 = x at *
        generalize L.getD k rc0 = y at *
        obtain ⟨xb, xp, xf, xl⟩ := x
        obtain ⟨yb, yp, yf, yl⟩ := y
        dsimp only at *
        clear nx1
        have hE0 : 1 ≤ E := by omega
        have hD0 : 1 ≤ D := by omega
        have hw1 : IntKind.i64.wrap (yl - yf) = yl - yf := by rw [IntKind.wrap_i64]; omega
        have hw2 : IntKind.i64.wrap D = D := by rw [IntKind.wrap_i64]; omega
        have hw3 : IntKind.i64.wrap (yl + 1) = yl + 1 := by rw [IntKind.wrap_i64]; omega
        have hw4 : IntKind.i64.wrap (k : Int) = (k : Int) := by rw [IntKind.wrap_i64]; omega
        have hk0 : (0 : Int) ≤ (k : Int) := by omega
        have hk1 : (k : Int) < (m : Int) + 1 := by omega
        have hk2 : k < m + 1 := by omega
        go_wp2_with fail
        obtain ⟨W, hWd⟩ : ∃ W, W = wr.alloc (Obj.cells #[Value.int IntKind.i64 xb, Value.int IntKind.u64 xp, Value.int IntKind.i64 xf, Value.int IntKind.i64 xl] 27) := ⟨_, rfl⟩
        have wb : Below wr.heap.size wr W := by rw [hWd]; exact (Below.refl _ _).alloc (Nat.le_refl _) _
        have y2 := (wb.cell (p := ⟨g, k * 4 + 2, none⟩) hgw).trans Q2
        have y3 := (wb.cell (p := ⟨g, k * 4 + 3, none⟩) hgw).trans Q3
        have hWH : W.heap[wr.heap.size]? = some (.cells #[Value.int IntKind.i64 xb, Value.int IntKind.u64 xp, Value.int IntKind.i64 xf, Value.int IntKind.i64 xl] 27 (0, 0)) := by rw [hWd]; exact heap_alloc_new wr _
        have x0 : W.cell? ⟨wr.heap.size, 0, none⟩ = some (.int .i64 xb) := by simp [World.cell?, hWH]
        have x1 : W.cell? ⟨wr.heap.size, 1, none⟩ = some (.int .u64 xp) := by simp [World.cell?, hWH]
        have x2 : W.cell? ⟨wr.heap.size, 2, none⟩ = some (.int .i64 xf) := by simp [World.cell?, hWH]
        have x3 : W.cell? ⟨wr.heap.size, 3, none⟩ = some (.int .i64 xl) := by simp [World.cell?, hWH]
        have HW := hide (HBL.out.trans (wb.mono HBL.out.size))
        rw [← hWd]
        clear hWd hWH wb P0 P1 P2 P3 Q2 Q3
        generalize wr.heap.size = H at *
        go_region_held3 (fun w' => w'.cell? ⟨g, k * 4 + 2, none⟩ = some (.int .i64 yf) ∧ w'.cell? ⟨g, k * 4 + 3, none⟩ = some (.int .i64 yl)) (go_keep) (fail)
        have hx := HNX.out
        clear HNX
        subst hx
        go_wp2_with fail
        go_region_held3 (fun w' => w'.cell? ⟨H, 2, none⟩ = some (.int .i64 (yl + 1)) ∧ w'.cell? ⟨g, k * 4 + 3, none⟩ = some (.int .i64 yl)) (go_keep) ((go_at_call 9; refine (C9 _).mono ?_; rintro e w3 ⟨rfl, hw⟩; obtain rfl := hw.symm; clear hw))
        have HX := hide (show W.cell? ⟨H, 0, none⟩ = some (.int .i64 xb) ∧ W.cell? ⟨H, 1, none⟩ = some (.int .u64 xp) ∧ W.cell? ⟨H, 2, none⟩ = some (.int .i64 (yl + 1)) ∧ W.cell? ⟨H, 3, none⟩ = some (.int .i64 xl) from ⟨x0, x1, x2, x3⟩)
        clear y2 y3 hw1 hw2 hw3 hw4 C9
        by_cases hk : k = 0
        · have t1 : ¬ ((1 : Int) < (k : Int) + 1) := by omega
          have t2 : ((k : Int) + 1 == 1) = true := by simp; omega
          have t3 : ¬ (0 < k) := by omega
          have t4 : ((k : Int) == 0) = true := by simp; omega
          have HKK := hide hk
          clear hk
          go_wp2_with (first | (go_at_call 10; refine (C10 _).mono ?_; rintro e w3 ⟨rfl, hb3⟩; have HB3 := hide hb3; clear hb3) | go_in)
          have B3 : Below w1.heap.size w1 w3 := (HW.out.drew.drew).trans (HB3.out.mono HW.out.size)
          go_roundw
          case rel => first | exact ⟨k + 1 + 1, 1, by go_num, rfl, by omega, HONE.out, B3⟩ | ((repeat apply Exists.intro); exact ⟨⟨k + 1 + 1, 1, by go_num, rfl, by omega, HONE.out, B3⟩, rfl⟩)
          case measure => simp [intOf]; omega
        · have hkd := HDN.out (by omega)
          have t1 : ((1 : Int) < (k : Int) + 1) := by omega
          have t3 : 0 < k := by omega
          have t4 : ((k : Int) == 0) = false := by simp; omega
          have t5 : decide (D < E) = false := by simp; omega
          have t6 : ¬ D < E := by omega
          have t4b : ((k : Int) + 1 == 1) = false := by simp; omega
          have HKK := hide hk
          clear hk
          by_cases hed : E = D
          · obtain ⟨hm1, hm2⟩ := HMORE.out (by omega) hed
            have te : (E == D) = true := by simp [hed]
            have tb : (E != D) = false := by simp [hed]
            have tg : (e : Int) + 1 ≤ 3 := by omega
            have HED := hide hed
            clear hed
            go_wp2_with (first | (go_at_call 10; refine (C10 _).mono ?_; rintro e w3 ⟨rfl, hb3⟩; have HB3 := hide hb3; clear hb3) | go_in)
            have B3 : Below w1.heap.size w1 w3 := (HW.out.drew.drew).trans (HB3.out.mono HW.out.size)
            go_roundw
            case rel => first | exact ⟨k + 1 + 1, e + 1, by go_num, by go_num, by omega, hm1, B3⟩ | ((repeat apply Exists.intro); exact ⟨⟨k + 1 + 1, e + 1, by go_num, by go_num, by omega, hm1, B3⟩, rfl⟩)
            case measure => simp [intOf]; omega
          · have te : (E == D) = false := by simp [hed]
            have tb : (E != D) = true := by simp [hed]
            go_wp2_with (first | (go_at_call 10; refine (C10 _).mono ?_; rintro e w3 ⟨rfl, hb3⟩; have HB3 := hide hb3; clear hb3) | go_in)
            have B3 : Below w1.heap.size w1 w3 := (HW.out.drew.drew).trans (HB3.out.mono HW.out.size)
            go_roundw
            case rel => first | exact ⟨k + 1 + 1, 1, by go_num, rfl, by omega, HONE.out, B3⟩ | ((repeat apply Exists.intro); exact ⟨⟨k + 1 + 1, 1, by go_num, rfl, by omega, HONE.out, B3⟩, rfl⟩)
            case measure => simp [intOf]; omega
    · obtain rfl : j = m + 1 := by omega
      have B2 := HB.out.trans (hbel.mono HB.out.size)
      go_wp2_with fail
      go_ret
      exact ⟨rfl, B2⟩

set_option maxRecDepth 100000 in
theorem f4_low (fp : Nat) (n : Int) (w : World) (hfp : fp < 18446744073709551616) (h0 : n < 1) (h1 : -9223372036854775808 ≤ n) :
    Calls Try.prog 4 #[.int .u64 (fp : Int), .int .i64 n] w fun e w' => e = .returned (.bool true) ∧ Below w.heap.size w w' := by
  have C1 := fun W => f7_nil fp n W hfp (by omega) h1
  rw [runs_neg fp n h0] at C1
  go_enter Try.func4, Try.ntmps4
  go_wp2_with fail
  refine (C1 _).mono ?_
  rintro e w1 ⟨v1, rfl, ho1, hb1⟩
  obtain ⟨a1, c1, rfl⟩ := own_shape ho1
  have HB := hide hb1
  clear ho1 hb1 C1
  go_wp2_with fail
  go_ret
  exact ⟨rfl, HB.out⟩

set_option maxRecDepth 100000 in
theorem f4_any (fp : Nat) (n : Int) (w : World) (hfp : fp < 18446744073709551616) (hn : -9223372036854775808 ≤ n) :
    Calls Try.prog 4 #[.int .u64 (fp : Int), .int .i64 n] w fun e w' => e = .returned (.bool true) ∧ Below w.heap.size w w' := by
  by_cases h1 : 1152921504606846976 < n
  · go_enter Try.func4, Try.ntmps4
    go_wp2
    go_ret
    exact ⟨rfl, Below.refl _ _⟩
  · by_cases h0 : n < 1
    · exact f4_low fp n w hfp h0 hn
    · exact f4_in fp n w hfp (by omega) (by omega)

end Go.Proofs.Qxb6602869a
