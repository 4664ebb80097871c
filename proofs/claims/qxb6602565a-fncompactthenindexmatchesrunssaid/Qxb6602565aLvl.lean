import Derived.Test.Qxb6602565aMatch
namespace Go.Proofs.Qxb6602565a
open Go.RowKit
set_option linter.unusedVariables false

theorem castRuns (n Q R : Nat) (hQ : 0 < Q) (h : R = (n + Q - 1) / Q) : ((n : Int) + (Q : Int) - 1) / (Q : Int) = (R : Int) := by
  rw [h, show ((n : Int) + (Q : Int) - 1) = ((n + Q - 1 : Nat) : Int) from by omega]
  simp

theorem gather_lt (m : List Nat) (hm : ∀ i, m.getD i 0 < 18446744073709551616) (lo : Nat) : ∀ c, gather m lo c 0 < 18446744073709551616
  | 0 => by rw [gather]; decide
  | c + 1 => by
    rw [gather]
    exact Nat.or_lt_two_pow (n := 64) (gather_lt m hm lo c) (hm _)

set_option maxRecDepth 100000 in
set_option maxHeartbeats 4000000 in
theorem f22_any (g base ca cap : Nat) (a : Option Addr) (As : List (Nat × Nat)) (w : World) (hlog : Log w base g As ca As.length) (hlen : As.length ≤ 262144) (hsl : NumSl w a (marksOf As)) (hmk : ∀ i, (marksOf As).getD i 0 < 18446744073709551616) :
    Calls Try.prog 22 #[.pointer (some ⟨g, 0, none⟩), .slice a As.length cap] w fun e w' => e = .returned (.bool true) ∧ w' = w := by
  have hd := pow_facts As.length (depth As.length) hlen (Nat.le_refl _)
  have hd18 := hd.1
  have htk : (marksOf As).take As.length = marksOf As := List.take_of_length_le (by rw [marksOf_length]; omega)
  have hml := marksOf_length As
  have HML : Hid ((marksOf As).length = As.length) := hml
  have F30 := hide (f30_any g base ca _ As w hlog)
  have F31 := hide (f31_any g base ca _ As w hlog)
  have F42 : Hid (∀ k, k < depth As.length → Calls Try.prog 42 #[.pointer (some ⟨g, 0, none⟩), .int .i64 (k : Int)] w fun e w' => e = .returned (.int .i64 (runs As.length (k + 1) : Int)) ∧ w' = w) := fun k hk => by
    have := f42_any g base ca _ k As w hlog hk (by omega)
    rw [htk, level_length, hml] at this
    exact this
  have F43 : Hid (∀ k j, k < depth As.length → j < runs As.length (k + 1) → Calls Try.prog 43 #[.pointer (some ⟨g, 0, none⟩), .int .i64 (k : Int), .int .i64 (j : Int)] w fun e w' => e = .returned (.int .u64 ((run (marksOf As) (k + 1) j : Nat) : Int)) ∧ w' = w) := fun k j hk hj => by
    have := f43_any g base ca _ k j As w hlog hk (by omega) (by rw [htk, level_length, hml]; exact hj)
    rw [htk] at this
    exact this
  clear hlog htk hd hml
  go_enter Try.func22, Try.ntmps22
  go_wp2_with fail
  refine F30.out.mono ?_
  rintro e w1 ⟨rfl, hw⟩
  obtain rfl := hw.symm
  clear hw
  have hnn : ((As.length : Int) == (As.length : Int)) = true := by simp
  go_wp2_with fail
  go_loop [6] (fun i => ∃ l : Nat, i = .int .i64 (l : Int) ∧ l ≤ depth As.length) (fun i => depth As.length + 1 - (intOf i).toNat)
  case atStart => exact ⟨0, rfl, Nat.zero_le _⟩
  case round =>
    obtain ⟨l, rfl, hl⟩ := hrel
    obtain ⟨hq18, hP2, hPlt, hPge⟩ := pow_facts As.length l hlen hl
    obtain ⟨P, hPdef⟩ : ∃ P, P = 2 ^ l := ⟨_, rfl⟩
    have hP := castPow l P hPdef
    rw [← hPdef] at hP2 hPlt hPge
    clear hPdef
    by_cases hq : l < depth As.length
    · have hPn := hPlt hq
      clear hPlt hPge
      go_wp2
      go_round
      case rel => exact ⟨l + 1, by go_num, by omega⟩
      case measure => simp [intOf]; omega
    · have hPn := hPge (by omega)
      obtain rfl : l = depth As.length := by omega
      clear hPlt hPge hq hl
      go_wp2_with fail
      refine F31.out.mono ?_
      rintro e w1 ⟨rfl, hw⟩
      obtain rfl := hw.symm
      clear hw F30 F31 hP
      have hdd : ((depth As.length : Int) == (depth As.length : Int)) = true := by simp
      go_wp2_with fail
      go_loop [7] (fun i => ∃ q : Nat, i = .int .i64 ((q : Int) + 1) ∧ q ≤ depth As.length) (fun i => depth As.length + 1 - (intOf i).toNat)
      case atStart => exact ⟨0, rfl, Nat.zero_le _⟩
      case round =>
        obtain ⟨q, rfl, hqd⟩ := hrel
        by_cases hq : q < depth As.length
        · obtain ⟨hq18, hP2, hPlt, _⟩ := pow_facts As.length q hlen hqd
          have hPq := hPlt hq
          obtain ⟨Q, hQdef⟩ : ∃ Q, Q = 2 ^ (q + 1) := ⟨_, rfl⟩
          have hQ := castPow (q + 1) Q hQdef
          have hQ0 : 0 < Q := by rw [hQdef]; exact two_pow_pos _
          have hQ2 : Q ≤ 1048576 := by rw [hQdef, Nat.pow_succ]; omega
          obtain ⟨R, hRdef⟩ : ∃ R, R = runs As.length (q + 1) := ⟨_, rfl⟩
          have hR := castRuns As.length Q R hQ0 (by rw [hRdef, hQdef]; rfl)
          have hRle : R ≤ As.length := by rw [hRdef]; exact runs_le _ _
          have hlr : ∀ j, j < R ↔ j * Q < As.length := fun j => by rw [hRdef, hQdef]; exact lt_runs _ _ _
          have HLR := hide hlr
          have F42' := hide (F42.out q hq)
          have F43' := hide (fun j => F43.out q j hq)
          rw [← hRdef] at F42' F43'
          have HQ : Hid (Q = 2 ^ (q + 1)) := hQdef
          have hQg : ∀ j, gather (marksOf As) (j * Q) = gather (marksOf As) (j * 2 ^ (q + 1)) := fun j => by rw [hQdef]
          have HG := hide hQg
          clear hQdef hRdef hlr hP2 hPlt hPq hQg
          go_wp2_with fail
          refine F42'.out.mono ?_
          rintro e w1 ⟨rfl, hw⟩
          obtain rfl := hw.symm
          clear hw F42'
          have hRR : ((R : Int) == (R : Int)) = true := by simp
          go_wp2_with fail
          go_loop [10] (fun i => ∃ j : Nat, i = .int .i64 (j : Int) ∧ j ≤ R) (fun i => R + 1 - (intOf i).toNat)
          case atStart => exact ⟨0, rfl, Nat.zero_le _⟩
          case round =>
            obtain ⟨j, rfl, hjR⟩ := hrel
            by_cases hj : j < R
            · have hjn := (HLR.out j).1 hj
              obtain ⟨L, hL⟩ : ∃ L, L = j * Q := ⟨_, rfl⟩
              have hLc : (j : Int) * (Q : Int) = (L : Int) := by rw [hL]; simp
              rw [← hL] at hjn
              have HL : Hid (L = j * Q) := hL
              clear hL
              obtain ⟨hi, hhi⟩ : ∃ hi, hi = if As.length < L + Q then As.length else L + Q := ⟨_, rfl⟩
              have hcut := gather_cut (marksOf As) (q + 1) j hi (by rw [hhi, HML.out, HL.out, HQ.out]) (by rw [HML.out, ← HQ.out, ← HL.out]; omega)
              rw [← HQ.out, ← HL.out] at hcut
              have HCUT : Hid (gather (marksOf As) L (hi - L) 0 = run (marksOf As) (q + 1) j) := hcut
              have hhb : L ≤ hi ∧ hi ≤ As.length := by rw [hhi]; split <;> omega
              obtain ⟨hh1, hh2⟩ := hhb
              have F43'' := hide (F43'.out j hj)
              clear hcut
              have hcase : ((As.length : Nat) < L + Q ∧ hi ≤ As.length ∧ As.length ≤ hi ∧ decide ((As.length : Int) < (L : Int) + (Q : Int)) = true) ∨ (L + Q ≤ As.length ∧ hi ≤ L + Q ∧ L + Q ≤ hi ∧ decide ((As.length : Int) < (L : Int) + (Q : Int)) = false) := by
                by_cases hbig : As.length < L + Q
                · rw [if_pos hbig] at hhi
                  exact .inl ⟨hbig, by omega, by omega, by simp; omega⟩
                · rw [if_neg hbig] at hhi
                  exact .inr ⟨by omega, by omega, by omega, by simp; omega⟩
              clear hhi
              rcases hcase with ⟨hb1, hb2, hb3, hb4⟩ | ⟨hb1, hb2, hb3, hb4⟩
              all_goals
                go_wp2_with fail
                go_loop [13, 14] (fun o i => ∃ c : Nat, L + c ≤ hi ∧ i = .int .i64 ((L : Int) + (c : Int)) ∧ o = .int .u64 ((gather (marksOf As) L c 0 : Nat) : Int)) (fun _ i => hi - (intOf i).toNat)
                case atStart => exact ⟨0, by omega, by go_num, rfl⟩
                case round =>
                  obtain ⟨c, hc1, rfl, rfl⟩ := hrel
                  by_cases hcl : L + c < hi
                  · obtain ⟨b, off, rfl, hbl, hcell⟩ := hsl (by rw [HML.out]; omega)
                    have g1 := hcell (L + c) (by rw [HML.out]; omega)
                    have hor : bits .or .u64 ((gather (marksOf As) L c 0 : Nat) : Int) (((marksOf As).getD (L + c) 0 : Nat) : Int) = ((gather (marksOf As) L (c + 1) 0 : Nat) : Int) := by
                      rw [u64_or_nat _ _ (gather_lt _ hmk _ _) (hmk _)]
                      rfl
                    clear hcell
                    generalize (marksOf As).getD (L + c) 0 = y at *
                    go_wp2
                    go_round
                    case rel => exact ⟨c + 1, by omega, by go_num, rfl⟩
                    case measure => simp [intOf]; omega
                  · obtain rfl : c = hi - L := by omega
                    rw [HCUT.out]
                    have hee : ((run (marksOf As) (q + 1) j : Int) == (run (marksOf As) (q + 1) j : Int)) = true := by simp
                    go_wp2_with fail
                    refine F43''.out.mono ?_
                    rintro e w1 ⟨rfl, hw⟩
                    obtain rfl := hw.symm
                    clear hw
                    go_wp2_with fail
                    go_round
                    case rel => exact ⟨j + 1, by go_num, by omega⟩
                    case measure => simp [intOf]; omega
            · go_wp2_with fail
              go_round
              case rel => exact ⟨q + 1, by go_num, by omega⟩
              case measure => simp [intOf]; omega
        · go_wp2_with fail
          go_ret
          exact ⟨rfl, rfl⟩

end Go.Proofs.Qxb6602565a
