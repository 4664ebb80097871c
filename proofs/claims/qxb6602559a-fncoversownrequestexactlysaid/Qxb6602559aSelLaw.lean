import Derived.Test.Qxb6602559aSel
namespace Go.Proofs.Qxb6602559a
open Go.RowKit Go.WideMaps Go.Maps

theorem StrSl.below {w w' : World} {a : Option Addr} {ss : List ByteArray} (h : StrSl w a ss) (hb : Below w.heap.size w w') : StrSl w' a ss := by
  refine ⟨h.1, h.2.1, fun h0 => ?_⟩
  obtain ⟨b, off, e, hlt, hc⟩ := h.2.2 h0
  exact ⟨b, off, e, Nat.lt_of_lt_of_le hlt hb.size, fun i hi => (hb.cell (by exact hlt)).trans (hc i hi)⟩

theorem Below.then {w w1 w2 : World} (h : Below w.heap.size w w1) (h' : Below w1.heap.size w1 w2) : Below w.heap.size w w2 := h.trans (h'.mono h.size)

theorem Sel.refl (sk sn : ByteArray) (D : DataW Unit) : Sel sk sn D sk sn D := ⟨rfl, fun _ => rfl, fun _ h => ⟨h, fun _ => rfl⟩⟩

theorem Sel.trans {s0 s1 t0 t1 u0 u1 : ByteArray} {D D' D'' : DataW Unit} (h : Sel s0 s1 D t0 t1 D') (h' : Sel t0 t1 D' u0 u1 D'') : Sel s0 s1 D u0 u1 D'' :=
  ⟨h'.1.trans h.1, fun hn => by have e := h.2.1 hn; rw [h'.2.1 (by rw [e]; exact hn), e], fun k hk => by
    obtain ⟨a1, a2⟩ := h.2.2 k hk
    obtain ⟨b1, b2⟩ := h'.2.2 k a1
    exact ⟨b1, fun z => (b2 z).trans (a2 z)⟩⟩

set_option maxRecDepth 100000 in
set_option maxHeartbeats 4000000 in
theorem walk8 (s0 s1 s4 s5 s8 s9 : ByteArray) (a2 a3 a6 a7 a10 a11 : Option Addr) (c2 c3 c6 c7 c10 c11 : Nat) (l2 l3 l6 l7 l10 l11 : List ByteArray) (w : World)
    (h0 : s0.size ≤ maxLen) (h1 : s1.size ≤ maxLen) (h4 : s4.size ≤ maxLen) (h5 : s5.size ≤ maxLen) (h8 : s8.size ≤ maxLen) (h9 : s9.size ≤ maxLen)
    (h2 : StrSl w a2 l2) (h3 : StrSl w a3 l3) (h6 : StrSl w a6 l6) (h7 : StrSl w a7 l7) (h10 : StrSl w a10 l10) (h11 : StrSl w a11 l11) :
    Calls Try.prog 8 #[.string s0, .string s1, .slice a2 l2.length c2, .slice a3 l3.length c3, .string s4, .string s5, .slice a6 l6.length c6, .slice a7 l7.length c7, .string s8, .string s9, .slice a10 l10.length c10, .slice a11 l11.length c11] w
      fun e w' => e = .returned (.bool true) ∧ Below w.heap.size w w' := by
  have q2 := h2.1
  have q3 := h3.1
  have q6 := h6.1
  have q7 := h7.1
  have q10 := h10.1
  have q11 := h11.1
  go_enter Try.func8, Try.ntmps8
  go_wp2_with fail
  refine (f25_any s0 s1 s4 s5 s8 s9 a2 a3 a6 a7 a10 a11 c2 c3 c6 c7 c10 c11 l2 l3 l6 l7 l10 l11 _ h0 h1 h4 h5 h8 h9 h2 h3 h6 h7 h10 h11).mono ?_
  rintro e w1 ⟨b, rfl, rfl⟩
  cases b
  · go_wp2_with fail
    go_ret
    exact ⟨rfl, Below.refl _ _⟩
  go_wp2_with fail
  refine (f26_any s0 s1 a2 a3 c2 c3 l2 l3 _ h0 h1 h2 h3).mono ?_
  rintro e w1 ⟨n1, rfl, n10, n11, n12, rfl⟩
  go_wp2_with fail
  refine (f26_any s4 s5 a6 a7 c6 c7 l6 l7 _ h4 h5 h6 h7).mono ?_
  rintro e w1 ⟨n2, rfl, n20, n21, n22, rfl⟩
  go_wp2_with fail
  refine (f26_any s8 s9 a10 a11 c10 c11 l10 l11 _ h8 h9 h10 h11).mono ?_
  rintro e w1 ⟨n3, rfl, n30, n31, n32, rfl⟩
  by_cases hn : 1048576 < n1 + n2 + n3
  · clear n12 n22 n32
    go_wp2_with fail
    go_ret
    exact ⟨rfl, Below.refl _ _⟩
  have m1 := (n12 (by omega)).1
  have m2 := (n22 (by omega)).1
  have m3 := (n32 (by omega)).1
  clear n12 n22 n32
  by_cases e1 : l3.length = l2.length ∧ l7.length = l6.length ∧ l11.length = l10.length
  · obtain ⟨e1, e2, e3⟩ := e1
    go_wp2_with fail
    refine (f27_any s0 s1 a2 a3 c2 c3 l2 l3 _ m1 e1 h2 h3).mono ?_
    rintro e w1 ⟨g1, D1, rfl, r1, b1⟩
    have h6' := h6.below b1
    have h7' := h7.below b1
    have h10' := h10.below b1
    have h11' := h11.below b1
    go_wp2_with fail
    refine (f27_any s4 s5 a6 a7 c6 c7 l6 l7 _ m2 e2 h6' h7').mono ?_
    rintro e w2 ⟨g2, D2, rfl, r2, b2⟩
    have h10' := h10'.below b2
    have h11' := h11'.below b2
    go_wp2_with fail
    refine (f27_any s8 s9 a10 a11 c10 c11 l10 l11 _ m3 e3 h10' h11').mono ?_
    rintro e w3 ⟨g3, D3, rfl, r3, b3⟩
    have r1 := (r1.below b2).below b3
    have r2 := r2.below b3
    have b0 := Below.then (Below.then b1 b2) b3
    clear b1 b2 b3 h6' h7' h10' h11' h2 h3 h6 h7 h10 h11 q2 q3 q6 q7 q10 q11
    go_wp2_with fail
    refine (f28_wnil none _).mono ?_
    rintro e w4 ⟨rfl, rfl⟩
    go_wp2_with fail
    refine (f28_wnil (some ⟨g1, 0, none⟩) _).mono ?_
    rintro e w5 ⟨rfl, rfl⟩
    go_wp2_with fail
    refine (f28_gnil ⟨g1, 0, none⟩ _).mono ?_
    rintro e w6 ⟨rfl, b6⟩
    have r1 := r1.below b6
    have r2 := r2.below b6
    have r3 := r3.below b6
    have b0 := Below.then b0 b6
    clear b6
    go_wp2_with fail
    refine (f28_any s0 s1 s0 s1 D1 D1 g1 g1 _ r1 r1).mono ?_
    rintro e w7 ⟨x7, rfl, t7, b7⟩
    obtain rfl : x7 = true := t7.2 (Sel.refl _ _ _)
    have r1 := r1.below b7
    have r2 := r2.below b7
    have r3 := r3.below b7
    have b0 := Below.then b0 b7
    clear b7 t7
    go_wp2_with fail
    refine (f28_any s4 s5 s4 s5 D2 D2 g2 g2 _ r2 r2).mono ?_
    rintro e w8 ⟨x8, rfl, t8, b8⟩
    obtain rfl : x8 = true := t8.2 (Sel.refl _ _ _)
    have r1 := r1.below b8
    have r2 := r2.below b8
    have r3 := r3.below b8
    have b0 := Below.then b0 b8
    clear b8 t8
    go_wp2_with fail
    refine (f28_any s8 s9 s8 s9 D3 D3 g3 g3 _ r3 r3).mono ?_
    rintro e w9 ⟨x9, rfl, t9, b9⟩
    obtain rfl : x9 = true := t9.2 (Sel.refl _ _ _)
    have r1 := r1.below b9
    have r2 := r2.below b9
    have r3 := r3.below b9
    have b0 := Below.then b0 b9
    clear b9 t9
    go_wp2_with fail
    refine (f28_any s0 s1 s4 s5 D1 D2 g1 g2 _ r1 r2).mono ?_
    rintro e w10 ⟨x10, rfl, t10, b10⟩
    have r1 := r1.below b10
    have r2 := r2.below b10
    have r3 := r3.below b10
    have b0 := Below.then b0 b10
    have T10 : Hid (x10 = true ↔ Sel s0 s1 D1 s4 s5 D2) := t10
    clear b10 t10
    cases x10
    · go_wp2_with fail
      go_ret
      exact ⟨rfl, b0⟩
    go_wp2_with fail
    refine (f28_any s4 s5 s8 s9 D2 D3 g2 g3 _ r2 r3).mono ?_
    rintro e w11 ⟨x11, rfl, t11, b11⟩
    have r1 := r1.below b11
    have r3 := r3.below b11
    have b0 := Below.then b0 b11
    have T11 : Hid (x11 = true ↔ Sel s4 s5 D2 s8 s9 D3) := t11
    clear b11 t11
    cases x11
    · go_wp2_with fail
      go_ret
      exact ⟨rfl, b0⟩
    go_wp2_with fail
    refine (f28_any s0 s1 s8 s9 D1 D3 g1 g3 _ r1 r3).mono ?_
    rintro e w12 ⟨x12, rfl, t12, b12⟩
    obtain rfl : x12 = true := t12.2 ((T10.out.1 (by simp)).trans (T11.out.1 (by simp)))
    have b0 := Below.then b0 b12
    clear b12 t12
    go_wp2_with fail
    go_ret
    exact ⟨rfl, b0⟩
  · rcases (show l3.length ≠ l2.length ∨ (l3.length = l2.length ∧ l7.length ≠ l6.length) ∨ (l3.length = l2.length ∧ l7.length = l6.length ∧ l11.length ≠ l10.length) from by omega) with g | ⟨g1, g⟩ | ⟨g1, g2, g⟩
    all_goals
      clear e1
      go_wp2_with fail
      go_ret
      exact ⟨rfl, Below.refl _ _⟩

end Go.Proofs.Qxb6602559a
