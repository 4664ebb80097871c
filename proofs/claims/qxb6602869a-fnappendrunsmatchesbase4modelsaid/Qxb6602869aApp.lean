import Derived.Test.Qxb6602869aBlk
import Derived.Deep.RegionHeld3
namespace Go.Proofs.Qxb6602869a
open Go.RowKit
set_option linter.unusedVariables false

theorem info38 : (Try.prog.info? 38).map (fun i => (i.zero, i.size, i.bytes)) = some (some (.agg #[.int .i64 0, .int .u64 0, .int .i64 0, .int .i64 0]), 4, 32) := by kernel_rfl

def rcv (r : Rc) : List Value := [.int .i64 r.b, .int .u64 r.p, .int .i64 r.f, .int .i64 r.l]
def rcells (l : List Rc) : List Value := l.flatMap rcv
theorem rcells_append (a b : List Rc) : rcells (a ++ b) = rcells a ++ rcells b := by simp [rcells]
theorem rcells_one (r : Rc) : rcells [r] = rcv r := by simp [rcells]
theorem rcells_length (l : List Rc) : (rcells l).length = l.length * 4 := by
  induction l with
  | nil => rfl
  | cons a l ih => rw [show a :: l = [a] ++ l from rfl, rcells_append, List.length_append, ih, rcells_one]; simp [rcv]; omega

theorem pb_mono (m n : Int) (h : m ≤ n) (hn : n ≤ 1152921504606846976) : pb m ≤ pb n := by
  obtain ⟨a1, a2, a3, a4, a5⟩ := pb_spec n hn
  obtain ⟨b1, b2, b3, b4, b5⟩ := pb_spec m (by omega)
  rcases Nat.lt_or_ge (pb n) (pb m) with h1 | h1
  · have h2 := b5 (by omega)
    have h3 := Nat.pow_le_pow_right (n := 2) (by decide) (show pb n ≤ pb m - 2 by omega)
    omega
  · exact h1

theorem pow4_ge (t : Nat) : ∃ j, t < 4 ^ j := ⟨t, by
  induction t with
  | zero => simp
  | succ n ih => rw [Nat.pow_succ]; omega⟩

theorem Below.toGrown {w w' : World} (h : Below w.heap.size w w') : w.grownBy w' none := ⟨h.os, h.tape, h.output, h.size, fun k hk _ => h.block k hk⟩
theorem own_below {w w' : World} {base e size n : Nat} {v : Value} {xs : List Value} (h : w.ownsRow base e size v n xs) (hb : Below w.heap.size w w') : w'.ownsRow base e size v n xs :=
  h.kept (Below.toGrown hb) (by cases v.ownBlock <;> simp)

/-- The state of the two inner loops at block end e. -/
def St (fp o T F b P base : Nat) (old R : List Rc) (w wr : World) (v : Value) (e : Nat) : Prop :=
  ∃ dn : List Rc, wr.ownsRow base 38 4 v (old ++ dn).length (rcells (old ++ dn)) ∧ dn ++ rest fp o T e = R ∧ wr.heap[F]? = some (.cells #[.int .i64 (b : Int), .int .u64 (P : Int)] 36 (0, 0)) ∧ Below base w wr

theorem St.skip {fp o T F b P base : Nat} {old R : List Rc} {w wr : World} {v : Value} {e j : Nat} (h : St fp o T F b P base old R w wr v e) (h1 : e + 4 ^ j ≤ T) (h2 : T < e + 4 ^ (j + 1)) (h3 : (e : Int) + (4 ^ j : Nat) - o < 1) : St fp o T F b P base old R w wr v (e + 4 ^ j) := by
  obtain ⟨dn, a1, a2, a3, a4⟩ := h
  refine ⟨dn, a1, ?_, a3, a4⟩
  rw [rest_step fp o T e j h1 h2] at a2
  have : clip fp o (e, 4 ^ j) = [] := by unfold clip; rw [if_neg (by simpa using h3)]
  rw [this] at a2
  exact a2

theorem clip_one {fp o e z : Nat} {f l : Int} (hl : (e : Int) + z - o = l) (hf : max ((e : Int) + 1 - o) 1 = f) (h : 1 ≤ l) : clip fp o (e, z) = [rcOf fp f l] := by
  unfold clip
  rw [if_pos (by simpa [hl] using h)]
  simp [hl, hf]

theorem own_kind {w : World} {base e size n : Nat} {v : Value} {xs : List Value} (h : w.ownsRow base e size v n xs) : ∀ b, v.ownBlock = some b → ∃ cs fr, w.heap[b]? = some (.cells cs e fr) := by
  intro b hb
  rcases h.2 with ⟨rfl, _⟩ | ⟨g, cap, cur, rfl, _, hh, _⟩
  · cases hb
  · simp [Value.ownBlock] at hb
    subst hb
    exact ⟨_, _, hh⟩

theorem St.ne {fp o T F b P base : Nat} {old R : List Rc} {w wr : World} {v : Value} {e : Nat} (h : St fp o T F b P base old R w wr v e) : some F ≠ v.ownBlock := by
  obtain ⟨dn, a1, a2, a3, a4⟩ := h
  intro hq
  obtain ⟨c, fz, h2⟩ := own_kind a1 F hq.symm
  rw [h2] at a3
  injection a3 with a3
  injection a3 with _ a3
  exact absurd a3 (by decide)

theorem St.len {fp o T F b P base : Nat} {old R : List Rc} {w wr : World} {v : Value} {e : Nat} (h : St fp o T F b P base old R w wr v e) : ∃ k, k ≤ (old ++ R).length ∧ ∃ a c, v = .slice a k c := by
  obtain ⟨dn, a1, a2, a3, a4⟩ := h
  refine ⟨(old ++ dn).length, by rw [← a2]; simp, ?_⟩
  rcases a1.2 with ⟨rfl, h0⟩ | ⟨g, cap, cur, rfl, _⟩
  · rw [h0]; exact ⟨_, _, rfl⟩
  · exact ⟨_, _, rfl⟩

theorem St.opened {fp o T F b P base : Nat} {old R : List Rc} {w wr : World} {v : Value} {e : Nat} (h : St fp o T F b P base old R w wr v e) : ∃ (dn : List Rc) (a : Option Addr) (c : Nat), v = .slice a (old ++ dn).length c ∧ wr.ownsRow base 38 4 v (old ++ dn).length (rcells (old ++ dn)) ∧ dn ++ rest fp o T e = R ∧ (old ++ dn).length ≤ (old ++ R).length := by
  obtain ⟨dn, a1, a2, a3, a4⟩ := h
  rcases a1.2 with ⟨rfl, h0⟩ | ⟨g, cap, cur, rfl, _⟩
  · exact ⟨dn, none, 0, by rw [h0], a1, a2, by rw [← a2]; simp⟩
  · exact ⟨dn, _, _, rfl, a1, a2, by rw [← a2]; simp⟩

theorem St.fin {fp o T F b P base : Nat} {old R : List Rc} {w wr : World} {v : Value} {e : Nat} (h : St fp o T F b P base old R w wr v e) : wr.heap[F]? = some (.cells #[.int .i64 (b : Int), .int .u64 (P : Int)] 36 (0, 0)) := by
  obtain ⟨_, _, _, a3, _⟩ := h
  exact a3

/-- 'append(files, f)', where f lies in a new block. -/
theorem St.app {fp o T F b P base : Nat} {old R : List Rc} {w wr : World} {v : Value} {e j z : Nat} {f l : Int} {dn : List Rc} (h : St fp o T F b P base old R w wr v e) (hz : z = 4 ^ j) (h1 : e + z ≤ T) (h2 : T < e + 4 * z)
    (hl : (e : Int) + z - o = l) (hf : max ((e : Int) + 1 - o) 1 = f) (hl1 : 1 ≤ l) (hF : F < wr.heap.size)  (hb : base ≤ wr.heap.size) (hd1 : wr.ownsRow base 38 4 v (old ++ dn).length (rcells (old ++ dn))) (hd2 : dn ++ rest fp o T e = R) :
    ∀ (W w1 : World) (v1 : Value), Below wr.heap.size wr W → W.grownBy w1 v.ownBlock →
    w1.ownsRow base 38 4 v1 ((old ++ dn).length + 1) (rcells (old ++ dn) ++ rcv (rcOf fp f l)) → St fp o T F b P base old R w w1 v1 (e + z) ∧ F < w1.heap.size ∧ base ≤ w1.heap.size := by
  intro W w1 v1 hW hg hr
  have hne := h.ne
  obtain ⟨_, _, _, a3, a4⟩ := h
  subst hz
  refine ⟨⟨dn ++ [rcOf fp f l], ?_, ?_, ?_, ?_⟩, ?_, ?_⟩
  · rw [← List.append_assoc, rcells_append, rcells_one]
    simpa [Nat.add_assoc] using hr
  · rw [← hd2, rest_step fp o T e j h1 (by rw [Nat.pow_succ]; omega), clip_one hl hf hl1]
    simp
  · rw [hg.block F (Nat.lt_of_lt_of_le hF hW.size) hne, hW.block F hF, a3]
  · exact (a4.trans (hW.mono hb)).grown hg (Nat.le_trans hb hW.size) (fun k hk => ((own_below hd1 hW).lt k hk).1)
  · exact Nat.lt_of_lt_of_le hF (Nat.le_trans hW.size hg.size)
  · exact Nat.le_trans hb (Nat.le_trans hW.size hg.size)

set_option maxRecDepth 100000 in
set_option maxHeartbeats 1000000 in
theorem f11_any (fp : Nat) (n : Int) (base : Nat) (v : Value) (old : List Rc) (w : World) (hfp : fp < 18446744073709551616) (hn : n ≤ 1152921504606846976) (hn0 : -9223372036854775808 ≤ n) (hold : old.length ≤ 65536)
    (hown : w.ownsRow base 38 4 v old.length (rcells old)) (hb : base ≤ w.heap.size) :
    Calls Try.prog 11 #[v, .int .u64 (fp : Int), .int .i64 n] w fun e w' => ∃ v', e = .returned v' ∧ w'.ownsRow base 38 4 v' (old ++ runs fp n).length (rcells (old ++ runs fp n)) ∧ Below base w w' := by
  obtain ⟨i0, hi, hz0, hz1, hz2⟩ := info_parts info38
  obtain ⟨a1, a2, a3, a4, a5⟩ := pb_spec n hn
  have hrl := runs_length fp n hfp hn
  have C14 := fun W => f14_any n W hn hn0
  have C13 := fun W => f13_any fp (pb n) W hfp (by omega)
  have C15 := fun W => f15_any fp (kOf n) (pb n) W hfp (by unfold kOf; omega) (by unfold kOf; omega)
  have hol := offs_lt fp hfp (kOf n)
  have hol2 := Nat.pow_le_pow_right (n := 4) (by decide) (show kOf n + 3 ≤ 30 by unfold kOf; omega)
  have hol3 : offs fp (kOf n) < 1152921504606846976 := by
    have : (4 : Nat) ^ 30 = 1152921504606846976 := by decide
    omega
  have hR : runs fp n = rest fp (offs fp (kOf n)) (n + offs fp (kOf n)).toNat 0 := (rest_zero _ _ _).symm
  have HR := hide hR
  have HO := hide hown
  obtain ⟨P, hPd⟩ : ∃ P, P = fp / 2 ^ (64 - pb n) := ⟨_, rfl⟩
  rw [← hPd] at C13 C15
  have HP := hide hPd
  clear hol hol2 hR a1 a5 hown hPd
  generalize offs fp (kOf n) = o at *
  generalize hbd : pb n = b at *
  have HBD := hide hbd
  clear hbd
  go_enter Try.func11, Try.ntmps11
  go_wp2_with (first | (go_at_call 14; refine (C14 _).mono ?_; rintro e w1 ⟨rfl, hw⟩; obtain rfl := hw.symm; clear hw) | (go_at_call 13; refine (C13 _).mono ?_; rintro e w1 ⟨rfl, hb1⟩))
  go_wp2_with (go_at_call 15; refine (C15 _).mono ?_; rintro e w2 ⟨rfl, hb2⟩)
  have HF : Hid (w2.heap[w1.heap.size]? = some (.cells #[.int .i64 (b : Int), .int .u64 (P : Int)] 36 (0, 0))) := by
    have := hb2.block w1.heap.size (by simp)
    rw [this, heap_alloc_new]
    exact rfl
  have B2 : Below w.heap.size w w2 := (hb1.alloc hb1.size _).trans (hb2.mono (by simp; have := hb1.size; omega))
  have hF2 : w1.heap.size < w2.heap.size := by have := hb2.size; simp at this; omega
  clear hb1 hb2 C13 C14 C15
  generalize w1.heap.size = F at *
  clear w1
  have S0 : St fp o (n + o).toNat F b P base old (runs fp n) w w2 v 0 := ⟨[], by rw [List.append_nil]; exact own_below HO.out B2, by rw [List.nil_append]; exact HR.out.symm, HF.out, B2.mono hb⟩
  have hb22 : base ≤ w2.heap.size := Nat.le_trans hb B2.size
  clear HF B2 HR HO
  generalize hRd : runs fp n = R at *
  have HRD := hide hRd
  clear hRd
  go_wp2_with fail
  go_loop [10] (fun s => ∃ z j : Nat, s = .int .i64 (z : Int) ∧ z = 4 ^ j ∧ (z = 1 ∨ (z : Int) ≤ n + o) ∧ 1 ≤ z) (fun s => ((n + o) + 1 - intOf s).toNat)
  case atStart => exact ⟨1, 0, rfl, rfl, .inl rfl, by omega⟩
  case round =>
    obtain ⟨z0, j0, rfl, hz, hzt, hz1'⟩ := hrel
    have hz2' : z0 ≤ 2305843009213693951 := by omega
    by_cases hlt : (z0 : Int) * 4 ≤ n + o
    · have HZ := hide hz
      clear hz
      go_wp2_with fail
      go_round
      case rel => exact ⟨z0 * 4, j0 + 1, by go_num, by rw [HZ.out, Nat.pow_succ], by omega, by omega⟩
      case measure => simp [intOf]; omega
    · have HZ := hide hz
      have hT : (n + o).toNat < 4 * z0 := by omega
      clear hz hzt
      go_wp2_with fail
      generalize hTd : (n + o).toNat = T at *
      have HTD := hide hTd
      have hTl : (T : Int) ≤ 2305843009213693951 := by omega
      have hT0 : ∀ x : Nat, 1 ≤ x → ((x : Int) ≤ n + o ↔ x ≤ T) := by omega
      have HT0 := hide hT0
      clear hTd hT0 hlt
      go_loopw [0, 10, 11] (fun v' s i wr => ∃ z e : Nat, s = .int .i64 (z : Int) ∧ i = .int .i64 (e : Int) ∧ ((∃ j, z = 4 ^ j ∧ T < e + 4 * z) ∨ (z = 0 ∧ e = T)) ∧ e ≤ T ∧ z ≤ 2305843009213693951 ∧ St fp o T F b P base old R w wr v' e ∧ F < wr.heap.size ∧ base ≤ wr.heap.size) (fun _ s _ _ => (intOf s).toNat)
      case atStart => exact ⟨z0, 0, rfl, rfl, .inl ⟨j0, HZ.out, by omega⟩, by omega, hz2', S0, hF2, hb22⟩
      case round =>
        clear hT hz1' hz2' HZ S0 hF2 hb22
        obtain ⟨z, e, rfl, rfl, hze, heT, hz2', hst, hF, hbw⟩ := hrel
        by_cases h0 : z = 0
        · obtain rfl := h0
          have he : e = T := by
            rcases hze with ⟨j, hj, _⟩ | ⟨_, h⟩
            · have := Nat.pow_pos (n := j) (show 0 < 4 by decide); omega
            · exact h
          subst he
          obtain ⟨k, _, a, c, rfl⟩ := hst.len
          obtain ⟨dn, b1, b2, b3, b4⟩ := hst
          rw [rest_end, List.append_nil] at b2
          subst b2
          go_wp2_with fail
          go_ret
          rw [← List.length_append, HRD.out]
          exact ⟨.slice a k c, rfl, b1, b4⟩
        · have hz1' : 1 ≤ z := by omega
          have hzp : 0 < z := by omega
          obtain ⟨j, hj, hjT⟩ : ∃ j, z = 4 ^ j ∧ T < e + 4 * z := by
            rcases hze with h | h
            · exact h
            · omega
          clear hze
          have HJ := hide hj
          clear hj h0
          obtain ⟨k, _, a, c, rfl⟩ := hst.len
          go_wp2_with fail
          obtain ⟨wo, rfl⟩ : ∃ wo : World, wo = wr := ⟨_, rfl⟩
          go_loopw [0, 11] (fun v' i wi => ∃ e : Nat, i = .int .i64 (e : Int) ∧ e ≤ T ∧ T < e + 4 * z ∧ St fp o T F b P base old R w wi v' e ∧ F < wi.heap.size ∧ base ≤ wi.heap.size) (fun _ i _ => T - (intOf i).toNat)
          case atStart => exact ⟨e, rfl, heT, hjT, hst, hF, hbw⟩
          case round =>
            clear heT hjT hst hF hbw
            obtain ⟨e', rfl, heT, hjT, hst, hF, hbw⟩ := hrel
            obtain ⟨dn, a', c', rfl, hd1, hd2, hd3⟩ := hst.opened
            have HFF := hide hst.fin
            have HD1 := hide hd1
            have HD2 := hide hd2
            clear hd1 hd2
            generalize hkd : (old ++ dn).length = k' at *
            have HKD := hide hkd
            have hkl : k' ≤ 70000 := by simp at hd3; omega
            clear hkd hd3
            by_cases hin : e' + z ≤ T
            · have hjn : T < e' + 4 ^ (j + 1) := by rw [Nat.pow_succ, ← HJ.out]; omega
              have hin1 : (e' : Int) + (z : Int) ≤ n + o := by have := (HT0.out (e' + z) (by omega)).2 hin; omega
              obtain ⟨L, hL⟩ : ∃ L : Int, (e' : Int) + (z : Int) - (o : Int) = L := ⟨_, rfl⟩
              have hLn : L ≤ n := by omega
              by_cases hl1 : 1 ≤ L
              · obtain ⟨f, hf⟩ : ∃ f : Int, max ((e' : Int) + 1 - (o : Int)) 1 = f := ⟨_, rfl⟩
                have hf1 : 1 ≤ f := by omega
                have hfL : f ≤ L := by omega
                have HA := hide (hst.app HJ.out hin (by omega) hL hf hl1 hF hbw (dn := dn) (by rw [HKD.out]; exact HD1.out) HD2.out)
                rw [HKD.out] at HA
                clear hst HD2
                by_cases hfl : f < L
                · have hlen : L - f + 1 ≤ n := by omega
                  have hcb := pb_mono (L - f + 1) n hlen hn
                  rw [HBD.out] at hcb
                  have C14 := fun W => f14_any (L - f + 1) W (by omega) (by omega)
                  have C16 := fun W => f16_any fp b (pb (L - f + 1)) W hfp (by omega) hcb
                  have hrc : rcOf fp f L = ⟨(pb (L - f + 1) : Int), ((fp / 2 ^ (64 - pb (L - f + 1)) : Nat) : Int), f, L⟩ := by unfold rcOf; rw [if_pos hfl]
                  rw [hrc] at HA
                  rw [← HP.out] at C16
                  clear hrc
                  generalize fp / 2 ^ (64 - pb (L - f + 1)) = Q at *
                  generalize pb (L - f + 1) = c at *
                  have hff : (if (e' : Int) + 1 - (o : Int) < 1 then 1 else (e' : Int) + 1 - (o : Int)) = f := by split <;> omega
                  clear hf
                  go_wp2_with fail
                  obtain ⟨W, hWd⟩ : ∃ W, W = wr.alloc (Obj.cells #[Value.int IntKind.i64 0, Value.int IntKind.u64 0, Value.int IntKind.i64 f, Value.int IntKind.i64 L] 38) := ⟨_, rfl⟩
                  have hWF : W.heap[F]? = some (.cells #[.int .i64 (b : Int), .int .u64 (P : Int)] 36 (0, 0)) := by rw [hWd, Below.heap_alloc _ _ _ hF]; exact HFF.out
                  have hWH : W.heap[wr.heap.size]? = some (.cells #[Value.int IntKind.i64 0, Value.int IntKind.u64 0, Value.int IntKind.i64 f, Value.int IntKind.i64 L] 38 (0, 0)) := by rw [hWd]; exact heap_alloc_new wr _
                  have hWs : W.heap.size = wr.heap.size + 1 := by rw [hWd]; simp
                  have hWb : Below wr.heap.size wr W := by rw [hWd]; exact (Below.refl _ _).alloc (Nat.le_refl _) _
                  have g0 : W.cell? ⟨F, 0, none⟩ = some (.int .i64 (b : Int)) := by simp [World.cell?, hWF]
                  have g1 : W.cell? ⟨F, 1, none⟩ = some (.int .u64 (P : Int)) := by simp [World.cell?, hWF]
                  have g2 : W.cell? ⟨wr.heap.size, 2, none⟩ = some (.int .i64 f) := by simp [World.cell?, hWH]
                  have g3 : W.cell? ⟨wr.heap.size, 3, none⟩ = some (.int .i64 L) := by simp [World.cell?, hWH]
                  rw [← hWd]
                  have HWB := hide hWb
                  have HWS := hide hWs
                  have HWH := hide hWH
                  have HDW := hide (own_below HD1.out ((Below.refl wr.heap.size wr).alloc (Nat.le_refl _) (Obj.cells #[Value.int IntKind.i64 0, Value.int IntKind.u64 0, Value.int IntKind.i64 f, Value.int IntKind.i64 L] 38)))
                  rw [← hWd] at HDW
                  have hFH : F < wr.heap.size := hF
                  have HFF' := hide hWF
                  clear hWd hWF hWH hWb hWs HFF
                  generalize hHd : wr.heap.size = H at *
                  have HHD := hide hHd
                  clear hHd
                  have hw1 : IntKind.i64.wrap (L - f) = L - f := by rw [IntKind.wrap_i64]; omega
                  have hw2 : IntKind.i64.wrap (L - f + 1) = L - f + 1 := by rw [IntKind.wrap_i64]; omega
                  have hl0 : F < W.heap.size := by have := HWS.out; omega
                  have hl1 : H < W.heap.size := by have := HWS.out; omega
                  have hne : ¬ F = H := by omega
                  have g4 : W.cell? ⟨H, 0, none⟩ = some (.int .i64 0) := by simp [World.cell?, HWH.out]
                  have g5 : W.cell? ⟨H, 1, none⟩ = some (.int .u64 0) := by simp [World.cell?, HWH.out]
                  have g6 : ∀ o, W.frozen? ⟨H, o, none⟩ = false := fun o => frozen_of_row _ _ _ _ _ HWH.out
                  have G6 := hide g6
                  have hn0' : (⟨H, 0, none⟩ : Addr) ≠ ⟨F, 0, none⟩ := fun q => hne (by injection q with q; exact q.symm)
                  have hn1' : (⟨H, 1, none⟩ : Addr) ≠ ⟨F, 0, none⟩ := fun q => hne (by injection q with q; exact q.symm)
                  have hn2' : (⟨H, 0, none⟩ : Addr) ≠ ⟨F, 1, none⟩ := fun q => hne (by injection q with q; exact q.symm)
                  have hn3' : (⟨H, 1, none⟩ : Addr) ≠ ⟨F, 1, none⟩ := fun q => hne (by injection q with q; exact q.symm)
                  clear g6
                  go_region_held3 (fun w' => w'.cell? ⟨F, 0, none⟩ = some (.int .i64 (b : Int)) ∧ w'.cell? ⟨F, 1, none⟩ = some (.int .u64 (P : Int)) ∧ w'.cell? ⟨H, 2, none⟩ = some (.int .i64 f) ∧ w'.cell? ⟨H, 3, none⟩ = some (.int .i64 L)) (first | go_keep | exact ⟨p0, p1, p2, p3⟩ | exact ⟨(World.cell?_setCell_other _ _ _ _ hn1').trans ((World.cell?_setCell_other _ _ _ _ hn0').trans p0), (World.cell?_setCell_other _ _ _ _ hn3').trans ((World.cell?_setCell_other _ _ _ _ hn2').trans p1), (World.cell?_setCell_other _ _ _ _ (by simp)).trans ((World.cell?_setCell_other _ _ _ _ (by simp)).trans p2), (World.cell?_setCell_other _ _ _ _ (by simp)).trans ((World.cell?_setCell_other _ _ _ _ (by simp)).trans p3)⟩)
                    (first | (go_at_call 14; refine (C14 _).mono ?_; rintro e w3 ⟨rfl, hw⟩; obtain rfl := hw.symm; clear hw) | (go_at_call 16; refine (C16 _).mono ?_; rintro e w3 ⟨rfl, hb3⟩; have p0 := (hb3.cell (p := ⟨F, 0, none⟩) (by exact hl0)).trans g0; have p1 := (hb3.cell (p := ⟨F, 1, none⟩) (by exact hl0)).trans g1; have p2 := (hb3.cell (p := ⟨H, 2, none⟩) (by exact hl1)).trans g2; have p3 := (hb3.cell (p := ⟨H, 3, none⟩) (by exact hl1)).trans g3; have q0 := (hb3.cell (p := ⟨H, 0, none⟩) (by exact hl1)).trans g4; have q1 := (hb3.cell (p := ⟨H, 1, none⟩) (by exact hl1)).trans g5; have q2 := (hb3.frozen (p := ⟨H, 0, none⟩) (by exact hl1)).trans (G6.out 0); have q3 := (hb3.frozen (p := ⟨H, 1, none⟩) (by exact hl1)).trans (G6.out 1)))
                  have hb3' : Below W.heap.size W w3 := (Below.refl _ _).drew.trans hb3
                  have r3 : w3.heap[H]? = some (.cells #[Value.int IntKind.i64 0, Value.int IntKind.u64 0, Value.int IntKind.i64 f, Value.int IntKind.i64 L] 38 (0, 0)) := (hb3'.block H hl1).trans HWH.out
                  have B4 : Below H wr ((w3.setCell ⟨H, 0, none⟩ (.int .i64 (c : Int))).setCell ⟨H, 1, none⟩ (.int .u64 (Q : Int))) := ((HWB.out.trans (hb3'.mono (by omega))).setCell (Nat.le_refl _) _).setCell (Nat.le_refl _) _
                  have r4 : ((w3.setCell ⟨H, 0, none⟩ (.int .i64 (c : Int))).setCell ⟨H, 1, none⟩ (.int .u64 (Q : Int))).heap[H]? = some (.cells #[Value.int IntKind.i64 (c : Int), Value.int IntKind.u64 (Q : Int), Value.int IntKind.i64 f, Value.int IntKind.i64 L] 38 (0, 0)) := by
                    rw [heap_setCell_same _ _ _ _ _ _ (heap_setCell_same _ _ _ _ _ _ r3)]
                    rfl
                  clear hb3 hb3' p0 p1 p2 p3 q0 q1 q2 q3 g0 g1 g2 g3 g4 g5 hl0 hl1 HWB HWS HWH HDW HFF' r3 hw1 hw2 C14 C16 G6
                  generalize (w3.setCell ⟨H, 0, none⟩ (.int .i64 (c : Int))).setCell ⟨H, 1, none⟩ (.int .u64 (Q : Int)) = W4 at *
                  have s0 : W4.cell? ⟨H, 0, none⟩ = some (.int .i64 (c : Int)) := by simp [World.cell?, r4]
                  have s1 : W4.cell? ⟨H, 1, none⟩ = some (.int .u64 (Q : Int)) := by simp [World.cell?, r4]
                  have s2 : W4.cell? ⟨H, 2, none⟩ = some (.int .i64 f) := by simp [World.cell?, r4]
                  have s3 : W4.cell? ⟨H, 3, none⟩ = some (.int .i64 L) := by simp [World.cell?, r4]
                  have hb4 : base ≤ W4.heap.size := by have := B4.size; have := HHD.out; omega
                  have HB4 := hide B4
                  have HD4 := hide (own_below HD1.out (by rw [HHD.out]; exact B4))
                  clear r4 B4
                  go_wp2_with (first | (at_builtin; refine wpList_append_lies _ rfl _ _ 34 rfl base 38 i0 _ 4 32 Try.underlying34 hi hz0 hz1 hz2 rfl (by omega) (.slice a' k' c') k' (rcells (old ++ dn)) rfl (HD4.out.alloc _) ⟨W4.heap.size, 0, none⟩ 1 1 (rcv ⟨(c : Int), (Q : Int), f, L⟩) rfl rfl (World.news_of_block (cs := (rcv ⟨(c : Int), (Q : Int), f, L⟩).toArray) (t := 38) (fr := (0, 0)) (heap_alloc_new W4 _)) (by simp [rcv, Value.oneCell']) (by omega) (by unfold maxLen; omega) (by omega) (by simp; omega) (W4.heap.size + 1) (by simp) ?_) | go_in)
                  intro g' cap' w1 hown1 hgrow1 hat hlt1
                  obtain ⟨A1, A2, A3⟩ := HA.out _ w1 _ (HB4.out.alloc (by have := HB4.out.size; have := HHD.out; omega) _) hgrow1 hown1
                  clear hgrow1 hat hown1
                  go_wp2_with fail
                  go_roundw
                  case rel => first | exact ⟨e' + z, by go_num, hin, by omega, A1, A2, A3⟩ | ((repeat apply Exists.intro); exact ⟨⟨e' + z, by go_num, hin, by omega, A1, A2, A3⟩, rfl⟩)
                  case measure => simp [intOf]; omega
                · have hrc : rcOf fp f L = ⟨0, 0, f, L⟩ := by unfold rcOf; rw [if_neg hfl]
                  rw [hrc] at HA
                  clear hrc
                  have hff : (if (e' : Int) + 1 - (o : Int) < 1 then 1 else (e' : Int) + 1 - (o : Int)) = f := by split <;> omega
                  clear hf
                  go_wp2_with (first | (at_builtin; refine wpList_append_lies _ rfl _ _ 34 rfl base 38 i0 _ 4 32 Try.underlying34 hi hz0 hz1 hz2 rfl (by omega) (.slice a' k' c') k' (rcells (old ++ dn)) rfl ((HD1.out.alloc _).alloc _) ⟨wr.heap.size + 1, 0, none⟩ 1 1 (rcv ⟨0, 0, f, L⟩) rfl rfl (World.news_of_block (cs := (rcv ⟨0, 0, f, L⟩).toArray) (t := 38) (fr := (0, 0)) (heap_alloc2_new wr _ _)) (by simp [rcv, Value.oneCell']) (by omega) (by unfold maxLen; omega) (by omega) (by simp; omega) (wr.heap.size + 2) (by simp) ?_) | go_in)
                  intro g' cap' w1 hown1 hgrow1 hat hlt1
                  obtain ⟨A1, A2, A3⟩ := HA.out _ w1 _ (((Below.refl _ _).alloc (Nat.le_refl _) _).alloc (by simp) _) hgrow1 hown1
                  clear hgrow1 hat hown1
                  go_wp2_with fail
                  go_roundw
                  case rel => first | exact ⟨e' + z, by go_num, hin, by omega, A1, A2, A3⟩ | ((repeat apply Exists.intro); exact ⟨⟨e' + z, by go_num, hin, by omega, A1, A2, A3⟩, rfl⟩)
                  case measure => simp [intOf]; omega
              · have hs := hst.skip (j := j) (by rw [← HJ.out]; exact hin) hjn (by rw [← HJ.out]; omega)
                rw [← HJ.out] at hs
                clear hst
                go_wp2_with fail
                go_roundw
                case rel => exact ⟨e' + z, by go_num, hin, by omega, hs, hF, hbw⟩
                case measure => simp [intOf]; omega
            · have hin' : ¬ ((e' : Int) + (z : Int) ≤ n + o) := by have := HT0.out (e' + z) (by omega); omega
              go_wp2_with fail
              go_roundw
              case rel =>
                refine ⟨z / 4, e', by go_num, rfl, ?_, heT, by omega, hst, hF, hbw⟩
                have := HJ.out
                cases j with
                | zero => right; simp at this; subst this; omega
                | succ j => left; rw [Nat.pow_succ] at this; exact ⟨j, by omega, by omega⟩
              case measure => simp [intOf]; omega
end Go.Proofs.Qxb6602869a
