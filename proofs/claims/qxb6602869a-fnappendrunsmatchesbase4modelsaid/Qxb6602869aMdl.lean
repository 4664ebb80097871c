import Derived.Test.Qxb6602869aTwo
namespace Go.Proofs.Qxb6602869a
open Go.RowKit
set_option linter.unusedVariables false

set_option maxRecDepth 100000 in
set_option maxHeartbeats 1000000 in
theorem f8_any (fp n : Nat) (w : World) (hfp : fp < 18446744073709551616) (hn : n ≤ 1152921504606846976) (hn1 : 1 ≤ n) :
    Calls Try.prog 8 #[.int .u64 (fp : Int), .int .i64 (n : Int)] w fun e w' => ∃ v', e = .returned v' ∧ w'.ownsRow w.heap.size 28 4 v' (runs fp n).length (rcells (runs fp n)) ∧ Below w.heap.size w w' := by
  obtain ⟨i0, hi, hz0, hz1, hz2⟩ := info_parts info3
  obtain ⟨i1, hi1, hy0, hy1, hy2⟩ := info_parts info28
  obtain ⟨a1, a2, a3, a4, a5⟩ := pb_spec (n : Int) (by omega)
  have C12 := fun W => f12_any n W hn1 hn
  obtain ⟨k, hkd⟩ : ∃ k, k = kOf (n : Int) := ⟨_, rfl⟩
  have hbk : pb (n : Int) = 6 + 2 * k := by rw [hkd]; unfold kOf; omega
  have hk27 : k ≤ 27 := by omega
  have hor := offs_rr fp k
  have hol := offs_lt fp hfp k
  have hol2 := Nat.pow_le_pow_right (n := 4) (by decide) (show k + 3 ≤ 30 by omega)
  have hol3 : offs fp k < 1152921504606846976 := by
    have : (4 : Nat) ^ 30 = 1152921504606846976 := by decide
    omega
  have hR : runs fp (n : Int) = (B (n + offs fp k)).flatMap (clip fp (offs fp k)) := by unfold runs runsAt; rw [← hkd]; rfl
  rw [hR]
  obtain ⟨t, htd⟩ : ∃ t, t = n + offs fp k := ⟨_, rfl⟩
  rw [← htd]
  generalize offs fp k = o at *
  have hBl : (B t).length ≤ 93 := B_length 31 t (by have : (4 : Nat) ^ 31 = 4611686018427387904 := by decide
                                                    omega)
  generalize pb (n : Int) = b at *
  obtain ⟨P, hPd⟩ : ∃ P, P = fp / 2 ^ (64 - b) := ⟨_, rfl⟩
  obtain ⟨Q, hQd⟩ : ∃ Q, Q = 2 ^ (64 - b) := ⟨_, rfl⟩
  obtain ⟨S, hSd⟩ : ∃ S, S = 2 ^ (b - 6) := ⟨_, rfl⟩
  have hQ := castPow (64 - b) Q hQd
  have hS := castPow (b - 6) S hSd
  have hPQ : (fp : Int) / (Q : Int) = (P : Int) := by rw [hPd, hQd]; simp
  have hPl : P < 18446744073709551616 := by rw [hPd]; exact Nat.lt_of_le_of_lt (Nat.div_le_self _ _) hfp
  obtain ⟨T0, hT0⟩ : ∃ T0, T0 = fp / 2 ^ 58 := ⟨_, rfl⟩
  have hd0 : (P : Int) / (S : Int) = (T0 : Int) := by
    rw [hPd, hSd, hT0, ← Int.natCast_ediv, Nat.div_div_eq_div_mul, ← Nat.pow_add, show 64 - b + (b - 6) = 58 from by omega]
  have hT0l : T0 < 64 := by omega
  have hSl : S ≤ 18014398509481984 := by
    have := Nat.pow_le_pow_right (n := 2) (by decide) (show b - 6 ≤ 54 by omega)
    rw [hSd]
    simpa using this
  have hS1 : 1 ≤ S := by rw [hSd]; exact two_pow_pos _
  have hmask : bits .and .u64 (P : Int) ((S : Int) - 1) = (rs fp k 0 : Int) := by
    have h0 := u64_and_nat P (S - 1) hPl (by omega)
    rw [show ((S - 1 : Nat) : Int) = (S : Int) - 1 from by omega] at h0
    rw [h0, rs_zero, hSd, Nat.and_two_pow_sub_one_eq_mod, hPd, show 58 - 2 * k = 64 - b from by omega, show (4 : Nat) ^ k = 2 ^ (b - 6) from by rw [show (4 : Nat) = 2 ^ 2 from rfl, ← Nat.pow_mul]; congr 1; omega]
  have hk2 : ((b : Int) - 6) / 2 = (k : Int) := by omega
  have hrsl : ∀ j, rs fp k j < 18014398509481984 := by
    intro j
    unfold rs
    refine Nat.lt_of_le_of_lt (Nat.div_le_self _ _) (Nat.lt_of_lt_of_le (Nat.mod_lt _ (Nat.pow_pos (by decide))) ?_)
    have := Nat.pow_le_pow_right (n := 4) (by decide) (show k ≤ 27 by omega)
    simpa using this
  have hrrl : ∀ j, j ≤ k → rr fp k j < 18014398509481984 := by
    intro j hj
    refine Nat.lt_of_lt_of_le (rr_lt fp k j hj) ?_
    have := Nat.pow_le_pow_right (n := 4) (by decide) (show j ≤ 27 by omega)
    simpa using this
  have HOR := hide (hor.trans (by rw [← hT0]))
  have ht61 : t < 2305843009213693952 := by omega
  have HT := hide htd
  have HBK := hide hbk
  have HRSL := hide hrsl
  have HRRL := hide hrrl
  have hr0 := hrsl 0
  clear hor hbk hol hol2 hR hPd hQd hSd hT0 hrsl hrrl a1 a5 hkd htd
  go_enter Try.func8, Try.ntmps8
  go_wp2_with (go_at_call 12; refine (C12 _).mono ?_; rintro e w1 ⟨rfl, hw⟩; obtain rfl := hw.symm; clear hw)
  clear hQ hPQ hmask C12
  go_loop [7, 8, 9] (fun x y i => ∃ j : Nat, i = .int .i64 (j : Int) ∧ j ≤ k ∧ x = .int .u64 (rs fp k j : Int) ∧ y = .int .i64 (rr fp k j : Int)) (fun _ _ i => k - (intOf i).toNat)
  case atStart => exact ⟨0, rfl, by omega, rfl, rfl⟩
  case round =>
    obtain ⟨j, rfl, hj, rfl, rfl⟩ := hrel
    clear hr0
    have e1 := HRSL.out j
    have e2 := HRRL.out j hj
    by_cases hlt : j < k
    · have e3 := HRRL.out (j + 1) hlt
      have e4 := rs_succ fp k j
      have e5 := rs_mod fp k j hlt (by omega)
      have e6 : rr fp k (j + 1) = rr fp k j * 4 + dg fp (k - j) := rfl
      have e7 := dg_lt4 fp (k - j) (by omega)
      have hd : bits .and .u64 (rs fp k j : Int) 3 = (dg fp (k - j) : Int) := by
        have h0 := u64_and_nat (rs fp k j) 3 (by omega) (by decide)
        rw [show ((3 : Nat) : Int) = 3 from rfl] at h0
        rw [h0, nat_mask2, e5]
      rw [e6] at e3
      have E4 := hide e4
      have E6 := hide e6
      clear e4 e5 e6
      generalize dg fp (k - j) = d at *
      generalize rs fp k j = X at *
      generalize rr fp k j = Y at *
      go_wp2_with fail
      go_round
      case rel => exact ⟨j + 1, by go_num, by omega, by rw [E4.out]; go_num, by rw [E6.out]; go_num⟩
      case measure => simp [intOf]; omega
    · obtain rfl : j = k := by omega
      have hO : (T0 : Int) + 64 * (rr fp j j : Int) = (o : Int) := by have := HOR.out; omega
      generalize rs fp j j = X at *
      generalize rr fp j j = Y at *
      have hnt : (n : Int) + (o : Int) = (t : Int) := by have := HT.out; omega
      clear hlt hj HRSL HRRL HBK
      go_wp2_with fail
      clear hO hd0 hnt hS hk2
      have hL0 := Lay.start t
      have hT0' := Two.start w
      go_loopw [12, 13, 14, 15, 16] (fun v1 v2 en sz rm wr => ∃ (q c s p : Nat) (D : List (Nat × Nat)), en = .int .i64 (((4 * q + c) * s : Nat) : Int) ∧ sz = .int .i64 (s : Int) ∧ rm = .int .i64 ((4 * q + c : Nat) : Int) ∧ c < 4 ∧ s = 4 ^ p ∧ (4 * q + c) * s ≤ t ∧ Lay t q c s D ∧ Two w.heap.size w wr v1 v2 D) (fun _ _ _ _ rm _ => (intOf rm).toNat)
      case atStart => exact ⟨t / 4, t % 4, 1, 0, [], by rw [show 4 * (t / 4) + t % 4 = t from by omega]; simp, rfl, by rw [show 4 * (t / 4) + t % 4 = t from by omega], by omega, rfl, by omega, hL0, hT0'⟩
      case round =>
        clear hL0 hT0'
        obtain ⟨q, c, s, p, D, rfl, rfl, rfl, hc4, hs, hle, hlay, htwo⟩ := hrel
        obtain ⟨r, hrd⟩ : ∃ r, r = 4 * q + c := ⟨_, rfl⟩
        rw [← hrd] at hle
        rw [← hrd]
        by_cases h0 : r = 0
        · obtain rfl : q = 0 := by omega
          obtain rfl : c = 0 := by omega
          have hD := hlay.done
          obtain ⟨x1, y1, rfl⟩ := own_shape htwo.1
          obtain ⟨x2, y2, rfl⟩ := own_shape htwo.2.1
          obtain ⟨L, hLd⟩ : ∃ L, L = (B t).length := ⟨_, rfl⟩
          have hDL : D.length = L := by rw [hD, hLd]; simp
          rw [hDL] at htwo ⊢
          have hL1 : 0 < L := by rw [hLd]; exact B_pos t (by have := HT.out; omega)
          obtain ⟨g1, rfl⟩ := own_form (by have := htwo.1; rw [hDL] at this; exact this) hL1
          obtain ⟨g2, rfl⟩ := own_form (by have := htwo.2.1; rw [hDL] at this; exact this) hL1
          have hcells : ∀ m, m < L → wr.cell? ⟨g1, L - 1 - m, none⟩ = some (.int .i64 (((B t).getD m (0, 0)).1 : Int)) ∧ wr.cell? ⟨g2, L - 1 - m, none⟩ = some (.int .i64 (((B t).getD m (0, 0)).2 : Int)) ∧ g1 < wr.heap.size ∧ g2 < wr.heap.size := by
            intro m hm
            have h1 := htwo.at hDL (L - 1 - m) (by omega)
            have h2 : D.getD (L - 1 - m) (0, 0) = (B t).getD m (0, 0) := by rw [hD, hLd]; exact rev_get (B t) m (by omega)
            rw [h2] at h1
            exact h1
          have HC := hide hcells
          have HBW := hide htwo.2.2.2.1
          have hbw := htwo.2.2.2.2
          have hL93 : L ≤ 93 := by omega
          have HLD := hide hLd
          have hA0 := Acc.start fp o (B t) wr
          have z1 : ((r * s : Nat) : Int) = 0 := by rw [h0]; simp
          have z2 : ((r : Nat) : Int) = 0 := by rw [h0]; rfl
          rw [z1, z2]
          clear z1 z2
          clear hcells hlay hD hDL htwo hLd hBl hrd hle hs h0
          go_wp2_with fail
          obtain ⟨wo, rfl⟩ : ∃ wo : World, wo = wr := ⟨_, rfl⟩
          go_loopw [18, 19] (fun v i wq => ∃ (m : Nat) (x : Int), i = .int .i64 x ∧ x = (L : Int) - 1 - (m : Int) ∧ m ≤ L ∧ Acc wo.heap.size fp o (B t) wo wq v m) (fun _ i _ => (intOf i + 1).toNat)
          case atStart => exact ⟨0, _, rfl, by omega, by omega, hA0⟩
          case round =>
            clear hA0
            obtain ⟨m, x, rfl, hx, hmL, hacc⟩ := hrel
            by_cases hlt : m < L
            · obtain ⟨ii, rfl⟩ : ∃ ii : Nat, x = (ii : Int) := ⟨L - 1 - m, by omega⟩
              obtain ⟨c1, c2, c3, c4⟩ := HC.out m hlt
              rw [show L - 1 - m = ii from by omega] at c1 c2
              have d1 := (hacc.2.1.cell (p := ⟨g1, ii, none⟩) c3).trans c1
              have d2 := (hacc.2.1.cell (p := ⟨g2, ii, none⟩) c4).trans c2
              obtain ⟨q1, q2, q3, _⟩ := chain_get (B t) 0 t m (B_chain t) (by have := HLD.out; omega)
              have hmB : m < (B t).length := by have := HLD.out; omega
              have HAcc := hide hacc
              have HX := hide hx
              have hiL : ii < L := by omega
              have hrn := Rn_len fp o (B t) m
              obtain ⟨x3, y3, rfl⟩ := own_shape hacc.1
              have HD1 := hide hacc.1
              have hbq := hacc.2.2
              generalize hk3 : (Rn fp o (B t) m).length = K3 at *
              have HK3 := hide hk3
              clear c1 c2 c3 c4 hacc hx hk3
              generalize hez : (B t).getD m (0, 0) = ez at *
              have HEZ := hide hez
              obtain ⟨e, z⟩ := ez
              clear hez
              simp only at d1 d2 q1 q2 q3
              obtain ⟨lt, hltd⟩ : ∃ lt : Int, lt = (e : Int) + (z : Int) - (o : Int) := ⟨_, rfl⟩
              have hltb : lt ≤ n := by have := HT.out; omega
              have hw1 : IntKind.i64.wrap ((e : Int) + (z : Int)) = (e : Int) + (z : Int) := by rw [IntKind.wrap_i64]; omega
              have hw2 : IntKind.i64.wrap ((e : Int) + (z : Int) - (o : Int)) = lt := by rw [IntKind.wrap_i64]; omega
              have HLT := hide hltd
              have hlt0 : -2305843009213693952 ≤ lt := by omega
              clear hltd
              go_wp2_with fail
              go_region_held3 (fun w' => w'.cell? ⟨g1, ii, none⟩ = some (.int .i64 (e : Int)) ∧ w'.cell? ⟨g2, ii, none⟩ = some (.int .i64 (z : Int))) (go_keep) (fail)
              clear hw1 hw2
              by_cases hl1 : lt < 1
              · have hsk := HAcc.out.skip hmB (by rw [HEZ.out]; unfold clip; rw [if_neg (by have := HLT.out; simp; omega)])
                go_wp2_with fail
                go_roundw
                case rel => exact ⟨m + 1, (ii : Int) - 1, by go_num, by have := HX.out; omega, by omega, hsk⟩
                case measure => simp [intOf]; try omega
              · obtain ⟨ll, rfl⟩ : ∃ ll : Nat, lt = (ll : Int) := ⟨lt.toNat, by omega⟩
                have hll : 1 ≤ ll := by omega
                by_cases hF : (e : Int) + 1 - (o : Int) < 1
                · have hcl : clip fp o ((B t).getD m (0, 0)) = [rcOf fp 1 (ll : Int)] := by
                    rw [HEZ.out]
                    exact clip_one (by have := HLT.out; omega) (by omega) (by omega)
                  have HA := hide (HAcc.out.app hmB hcl)
                  rw [HK3.out] at HA
                  clear HAcc hcl hl1
                  by_cases hfl : 1 < (ll : Int)
                  · have hrc : rcOf fp 1 (ll : Int) = ⟨(pb (ll : Int) : Int), ((fp / 2 ^ (64 - pb (ll : Int)) : Nat) : Int), 1, (ll : Int)⟩ := by
                      unfold rcOf
                      rw [if_pos hfl, show (ll : Int) - 1 + 1 = (ll : Int) from by omega]
                    obtain ⟨b1, b2, b3, b4, b5⟩ := pb_spec (ll : Int) (by omega)
                    have C12 := fun W => f12_any ll W (by omega) (by omega)
                    rw [hrc] at HA
                    clear hrc b1 b5
                    generalize pb (ll : Int) = c at *
                    obtain ⟨Q2, hQ2d⟩ : ∃ Q2, Q2 = 2 ^ (64 - c) := ⟨_, rfl⟩
                    have hQ2 := castPow (64 - c) Q2 hQ2d
                    obtain ⟨P2, hP2d⟩ : ∃ P2, P2 = fp / 2 ^ (64 - c) := ⟨_, rfl⟩
                    have hPQ2 : (fp : Int) / (Q2 : Int) = (P2 : Int) := by rw [hP2d, hQ2d]; simp
                    have hP2l : P2 ≤ fp := by rw [hP2d]; exact Nat.div_le_self _ _
                    rw [← hP2d] at HA
                    clear hQ2d hP2d
                    go_wp2_with (first | (go_at_call 12; refine (C12 _).mono ?_; rintro e w3 ⟨rfl, hw⟩; obtain rfl := hw.symm; clear hw) | (at_builtin; refine wpList_append_lies _ rfl _ _ 22 rfl wo.heap.size 28 i1 _ 4 32 Try.underlying22 hi1 hy0 hy1 hy2 rfl (by omega) (.slice x3 K3 y3) K3 (rcells (Rn fp o (B t) m)) rfl ((HD1.out.alloc _).alloc _) ⟨wr.heap.size + 1, 0, none⟩ 1 1 (rcv ⟨(c : Int), (P2 : Int), 1, (ll : Int)⟩) rfl rfl (World.news_of_block (cs := (rcv ⟨(c : Int), (P2 : Int), 1, (ll : Int)⟩).toArray) (t := 28) (fr := (0, 0)) (heap_alloc2_new wr.drew _ _)) (by simp [rcv, Value.oneCell']) (by omega) (by unfold maxLen; omega) (by omega) (by simp; omega) (wr.heap.size + 2) (by simp) ?_) | go_in)
                    intro g' cap' w1 hown1 hgrow1 hat hlt1
                    have A1 := HA.out _ w1 _ (((Below.refl _ _).drew.alloc (Nat.le_refl _) _).alloc (by simp) _) hgrow1 hown1
                    clear hgrow1 hat hown1
                    go_wp2_with fail
                    go_roundw
                    case rel => exact ⟨m + 1, (ii : Int) - 1, by go_num, by have := HX.out; omega, by omega, A1⟩
                    case measure => simp [intOf]; try omega
                  · have hrc : rcOf fp 1 (ll : Int) = ⟨0, 0, 1, (ll : Int)⟩ := by unfold rcOf; rw [if_neg hfl]
                    rw [hrc] at HA
                    clear hrc
                    go_wp2_with (first | (at_builtin; refine wpList_append_lies _ rfl _ _ 22 rfl wo.heap.size 28 i1 _ 4 32 Try.underlying22 hi1 hy0 hy1 hy2 rfl (by omega) (.slice x3 K3 y3) K3 (rcells (Rn fp o (B t) m)) rfl ((HD1.out.alloc _).alloc _) ⟨wr.heap.size + 1, 0, none⟩ 1 1 (rcv ⟨0, 0, 1, (ll : Int)⟩) rfl rfl (World.news_of_block (cs := (rcv ⟨0, 0, 1, (ll : Int)⟩).toArray) (t := 28) (fr := (0, 0)) (heap_alloc2_new wr.drew _ _)) (by simp [rcv, Value.oneCell']) (by omega) (by unfold maxLen; omega) (by omega) (by simp; omega) (wr.heap.size + 2) (by simp) ?_) | go_in)
                    intro g' cap' w1 hown1 hgrow1 hat hlt1
                    have A1 := HA.out _ w1 _ (((Below.refl _ _).drew.alloc (Nat.le_refl _) _).alloc (by simp) _) hgrow1 hown1
                    clear hgrow1 hat hown1
                    go_wp2_with fail
                    go_roundw
                    case rel => exact ⟨m + 1, (ii : Int) - 1, by go_num, by have := HX.out; omega, by omega, A1⟩
                    case measure => simp [intOf]; try omega
                · obtain ⟨ff, hff⟩ : ∃ ff : Nat, (e : Int) + 1 - (o : Int) = (ff : Int) := ⟨((e : Int) + 1 - (o : Int)).toNat, by omega⟩
                  have hff1 : 1 ≤ ff := by omega
                  have hfll : ff ≤ ll := by have := HLT.out; omega
                  have hcl : clip fp o ((B t).getD m (0, 0)) = [rcOf fp (ff : Int) (ll : Int)] := by
                    rw [HEZ.out]
                    exact clip_one (by have := HLT.out; omega) (by omega) (by omega)
                  have HA := hide (HAcc.out.app hmB hcl)
                  rw [HK3.out] at HA
                  obtain ⟨mm, hmm⟩ : ∃ mm : Nat, (ll : Int) - (ff : Int) + 1 = (mm : Int) := ⟨ll - ff + 1, by omega⟩
                  clear HAcc hcl hl1
                  by_cases hfl : (ff : Int) < (ll : Int)
                  · have hrc : rcOf fp (ff : Int) (ll : Int) = ⟨(pb (mm : Int) : Int), ((fp / 2 ^ (64 - pb (mm : Int)) : Nat) : Int), (ff : Int), (ll : Int)⟩ := by
                      unfold rcOf
                      rw [if_pos hfl, show (ll : Int) - (ff : Int) + 1 = (mm : Int) from by omega]
                    obtain ⟨b1, b2, b3, b4, b5⟩ := pb_spec (mm : Int) (by omega)
                    have C12 := fun W => f12_any mm W (by omega) (by omega)
                    rw [hrc] at HA
                    clear hrc b1 b5
                    generalize pb (mm : Int) = c at *
                    obtain ⟨Q2, hQ2d⟩ : ∃ Q2, Q2 = 2 ^ (64 - c) := ⟨_, rfl⟩
                    have hQ2 := castPow (64 - c) Q2 hQ2d
                    obtain ⟨P2, hP2d⟩ : ∃ P2, P2 = fp / 2 ^ (64 - c) := ⟨_, rfl⟩
                    have hPQ2 : (fp : Int) / (Q2 : Int) = (P2 : Int) := by rw [hP2d, hQ2d]; simp
                    have hP2l : P2 ≤ fp := by rw [hP2d]; exact Nat.div_le_self _ _
                    rw [← hP2d] at HA
                    clear hQ2d hP2d
                    go_wp2_with (first | (go_at_call 12; refine (C12 _).mono ?_; rintro e w3 ⟨rfl, hw⟩; obtain rfl := hw.symm; clear hw) | (at_builtin; refine wpList_append_lies _ rfl _ _ 22 rfl wo.heap.size 28 i1 _ 4 32 Try.underlying22 hi1 hy0 hy1 hy2 rfl (by omega) (.slice x3 K3 y3) K3 (rcells (Rn fp o (B t) m)) rfl ((HD1.out.alloc _).alloc _) ⟨wr.heap.size + 1, 0, none⟩ 1 1 (rcv ⟨(c : Int), (P2 : Int), (ff : Int), (ll : Int)⟩) rfl rfl (World.news_of_block (cs := (rcv ⟨(c : Int), (P2 : Int), (ff : Int), (ll : Int)⟩).toArray) (t := 28) (fr := (0, 0)) (heap_alloc2_new wr.drew _ _)) (by simp [rcv, Value.oneCell']) (by omega) (by unfold maxLen; omega) (by omega) (by simp; omega) (wr.heap.size + 2) (by simp) ?_) | go_in)
                    intro g' cap' w1 hown1 hgrow1 hat hlt1
                    have A1 := HA.out _ w1 _ (((Below.refl _ _).drew.alloc (Nat.le_refl _) _).alloc (by simp) _) hgrow1 hown1
                    clear hgrow1 hat hown1
                    go_wp2_with fail
                    go_roundw
                    case rel => exact ⟨m + 1, (ii : Int) - 1, by go_num, by have := HX.out; omega, by omega, A1⟩
                    case measure => simp [intOf]; try omega
                  · have hrc : rcOf fp (ff : Int) (ll : Int) = ⟨0, 0, (ff : Int), (ll : Int)⟩ := by unfold rcOf; rw [if_neg hfl]
                    rw [hrc] at HA
                    clear hrc
                    go_wp2_with (first | (at_builtin; refine wpList_append_lies _ rfl _ _ 22 rfl wo.heap.size 28 i1 _ 4 32 Try.underlying22 hi1 hy0 hy1 hy2 rfl (by omega) (.slice x3 K3 y3) K3 (rcells (Rn fp o (B t) m)) rfl ((HD1.out.alloc _).alloc _) ⟨wr.heap.size + 1, 0, none⟩ 1 1 (rcv ⟨0, 0, (ff : Int), (ll : Int)⟩) rfl rfl (World.news_of_block (cs := (rcv ⟨0, 0, (ff : Int), (ll : Int)⟩).toArray) (t := 28) (fr := (0, 0)) (heap_alloc2_new wr.drew _ _)) (by simp [rcv, Value.oneCell']) (by omega) (by unfold maxLen; omega) (by omega) (by simp; omega) (wr.heap.size + 2) (by simp) ?_) | go_in)
                    intro g' cap' w1 hown1 hgrow1 hat hlt1
                    have A1 := HA.out _ w1 _ (((Below.refl _ _).drew.alloc (Nat.le_refl _) _).alloc (by simp) _) hgrow1 hown1
                    clear hgrow1 hat hown1
                    go_wp2_with fail
                    go_roundw
                    case rel => exact ⟨m + 1, (ii : Int) - 1, by go_num, by have := HX.out; omega, by omega, A1⟩
                    case measure => simp [intOf]; try omega
            · obtain rfl : m = L := by omega
              have hx1 : x = -1 := by omega
              subst hx1
              obtain ⟨h1, h2, h3⟩ := hacc
              have e9 : Rn fp o (B t) m = (B t).flatMap (clip fp o) := by rw [HLD.out]; exact Rn_all _ _ _
              rw [e9] at h1
              obtain ⟨x3, y3, rfl⟩ := own_shape h1
              have H1 := hide h1
              clear h1 e9 hx hlt
              go_wp2_with fail
              go_ret
              exact ⟨_, rfl, owns_mono H1.out hbw, HBW.out.trans (h2.mono hbw)⟩
        · have hsr : s ≤ r * s := Nat.le_mul_of_pos_left s (by omega)
          have hs60 : s ≤ 1152921504606846976 := by
            rcases Nat.lt_or_ge 30 p with h | h
            · have := Nat.pow_le_pow_right (n := 4) (by decide) (show 31 ≤ p by omega)
              have e : (4 : Nat) ^ 31 = 4611686018427387904 := by decide
              omega
            · have := Nat.pow_le_pow_right (n := 4) (by decide) h
              have e : (4 : Nat) ^ 30 = 1152921504606846976 := by decide
              omega
          have hrl : r ≤ t := Nat.le_trans (Nat.le_mul_of_pos_right r (by rw [hs]; exact Nat.pow_pos (by decide))) hle
          have hm4 : (r : Int) % 4 = (c : Int) := by omega
          have hd4 : (r : Int) / 4 = (q : Int) := by omega
          have hr0 : 0 < r := by omega
          have HS := hide hs
          have HRD := hide hrd
          have HSR := hide hsr
          have hEt : ∀ c', c' ≤ c → (4 * q + c') * s ≤ t := fun c' h => Nat.le_trans (Nat.mul_le_mul_right s (by omega)) hle
          have HET := hide hEt
          clear hs h0 hsr hEt hle
          obtain ⟨E, hEd⟩ : ∃ E, E = r * s := ⟨_, rfl⟩
          rw [← hEd]
          have HED := hide hEd
          clear hEd hrd
          go_wp2_with fail
          obtain ⟨wo, rfl⟩ : ∃ wo : World, wo = wr := ⟨_, rfl⟩
          go_loopw [12, 13, 14, 17] (fun v1 v2 en i wi => ∃ (c' kk : Nat) (D : List (Nat × Nat)), i = .int .i64 (kk : Int) ∧ kk + c' = c ∧ en = .int .i64 (((4 * q + c') * s : Nat) : Int) ∧ Lay t q c' s D ∧ Two w.heap.size w wi v1 v2 D) (fun _ _ _ i _ => c - (intOf i).toNat)
          case atStart => exact ⟨c, 0, D, rfl, by omega, by rw [HED.out, HRD.out], hlay, htwo⟩
          case round =>
            clear hlay htwo
            obtain ⟨c', kk, D', rfl, hkc, rfl, hlay, htwo⟩ := hrel
            have hE1 := HET.out c' (by omega)
            have hDl := Nat.le_trans hlay.len hBl
            by_cases hlt : kk < c
            · obtain ⟨c2, rfl⟩ : ∃ c2, c' = c2 + 1 := ⟨c' - 1, by omega⟩
              have hlay2 := hlay.put
              obtain ⟨E2, hE2⟩ : ∃ E2, E2 = (4 * q + c2) * s := ⟨_, rfl⟩
              have hE3 : (4 * q + (c2 + 1)) * s = E2 + s := by rw [hE2, ← Nat.add_assoc, Nat.add_mul]; omega
              rw [← hE2] at hlay2
              rw [hE3] at hE1 ⊢
              have HE2 := hide hE2
              have HT2 := hide htwo
              have HL2 := hide hlay2
              obtain ⟨x1, y1, rfl⟩ := own_shape htwo.1
              obtain ⟨x2, y2, rfl⟩ := own_shape htwo.2.1
              have hown1 := hide htwo.1
              have hbw := htwo.2.2.2.2
              clear hE2 hE3 hlay hlay2 htwo
              generalize hLd : D'.length = L at *
              have HLD := hide hLd
              clear hLd
              go_wp2_with (first | (at_builtin; refine wpList_append_lies _ rfl _ _ 42 rfl w.heap.size 3 i0 _ 1 8 Try.underlying42 hi hz0 hz1 hz2 rfl (by omega) (.slice x1 L y1) L (fsts D') rfl (hown1.out.alloc _) ⟨wr.heap.size, 0, none⟩ 1 1 [.int .i64 (E2 : Int)] rfl rfl (World.news_of_block (cs := #[.int .i64 (E2 : Int)]) (t := 3) (fr := (0, 0)) (heap_alloc_new wr _)) (by simp [Value.oneCell']) (by omega) (by unfold maxLen; omega) (by omega) (by simp; omega) (wr.heap.size + 1) (by simp) ?_) | go_in)
              intro g1 cap1 w1 ho1 hg1 hat1 hlt1
              obtain ⟨k1, k2, k3, k4⟩ := Two.one (D := D') (x := E2) HT2.out (by rw [HLD.out]; exact ho1) hg1 hat1
              rw [HLD.out] at k1
              have HO1 := hide ho1
              have K1 := hide k1
              have K2 := hide k2
              have K3 := hide k3
              clear HT2 hown1 ho1 hg1 hat1 hlt1 k1 k2 k3
              go_wp2_with (first | (at_builtin; refine wpList_append_lies _ rfl _ _ 42 rfl w.heap.size 3 i0 _ 1 8 Try.underlying42 hi hz0 hz1 hz2 rfl (by omega) (.slice x2 L y2) L (snds D') rfl (K1.out.alloc _) ⟨w1.heap.size, 0, none⟩ 1 1 [.int .i64 (s : Int)] rfl rfl (World.news_of_block (cs := #[.int .i64 (s : Int)]) (t := 3) (fr := (0, 0)) (heap_alloc_new w1 _)) (by simp [Value.oneCell']) (by omega) (by unfold maxLen; omega) (by omega) (by simp; omega) (w1.heap.size + 1) (by simp) ?_) | go_in)
              intro g2 cap2 w2 ho2 hg2 hat2 hlt2
              have ht2 := Two.two (D := D') (x := E2) (y := s) (by rw [HLD.out]; exact HO1.out) (by rw [HLD.out]; exact K1.out) K2.out K3.out k4 (by rw [HLD.out]; exact ho2) hg2 hat2
              rw [HLD.out] at ht2
              clear HO1 K1 K2 K3 ho2 hg2 hat2 hlt2
              go_wp2_with fail
              go_roundw
              case rel => exact ⟨c2, kk + 1, _, by go_num, by omega, by rw [← HE2.out], HL2.out, ht2⟩
              case measure => simp [intOf]; omega
            · obtain rfl : kk = c := by omega
              obtain rfl : c' = 0 := by omega
              have hup := hlay.up
              rw [Nat.add_zero] at hE1 ⊢
              have HLU := hide hup
              clear hlay hup hlt
              obtain ⟨E2, hE2⟩ : ∃ E2, E2 = 4 * q * s := ⟨_, rfl⟩
              rw [← hE2] at hE1 ⊢
              have HE2 := hide hE2
              have hqr : q < r := by have := HRD.out; omega
              clear hE2
              go_wp2_with fail
              go_roundw
              case rel => first | exact ⟨q / 4, q % 4, s * 4, p + 1, D', by rw [show 4 * (q / 4) + q % 4 = q from by omega, HE2.out, Nat.mul_comm 4 q, Nat.mul_assoc, Nat.mul_comm 4 s], by go_num, by rw [show 4 * (q / 4) + q % 4 = q from by omega], by omega, by rw [Nat.pow_succ, HS.out], by rw [show 4 * (q / 4) + q % 4 = q from by omega, ← Nat.mul_assoc, Nat.mul_comm (q * s) 4, ← Nat.mul_assoc, ← HE2.out]; exact hE1, HLU.out, htwo⟩ | trace_state
              case measure => simp [intOf]; omega
end Go.Proofs.Qxb6602869a
