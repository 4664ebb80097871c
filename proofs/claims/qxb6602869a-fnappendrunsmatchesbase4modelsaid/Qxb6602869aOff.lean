import Derived.Test.Qxb6602869aDig
namespace Go.Proofs.Qxb6602869a
open Go.RowKit
set_option linter.unusedVariables false

/-- The offset of the part of k digits behind the first. -/
def offs (fp : Nat) : Nat → Nat
  | 0 => fp / 2 ^ 58
  | k + 1 => offs fp k + dg fp (k + 1) * 4 ^ (k + 3)
def oAt (fp : Nat) : Nat → Nat
  | 0 => 0
  | i + 1 => offs fp i
def plAt : Nat → Nat
  | 0 => 1
  | i + 1 => 4 ^ (i + 3)
theorem oAt_succ (fp i : Nat) : oAt fp (i + 1) = oAt fp i + dg fp i * plAt i := by
  cases i with
  | zero => simp [oAt, plAt, offs, dg]
  | succ j => simp [oAt, plAt, offs]
theorem offs_lt (fp : Nat) (hfp : fp < 18446744073709551616) : ∀ k, offs fp k < 4 ^ (k + 3)
  | 0 => by simp [offs]; omega
  | k + 1 => by
    have h1 := offs_lt fp hfp k
    have h2 := dg_lt4 fp (k + 1) (by omega)
    have h3 : dg fp (k + 1) * 4 ^ (k + 3) ≤ 3 * 4 ^ (k + 3) := Nat.mul_le_mul_right _ (by omega)
    have h4 : 4 ^ (k + 1 + 3) = 4 ^ (k + 3) * 4 := Nat.pow_succ ..
    rw [offs, h4]
    omega
theorem plAt_le (i : Nat) (h : i ≤ 28) : plAt i ≤ 1152921504606846976 := by
  cases i with
  | zero => simp [plAt]
  | succ j =>
    have := Nat.pow_le_pow_right (n := 4) (by decide) (show j + 3 ≤ 30 by omega)
    simpa [plAt] using this
theorem oAt_lt (fp : Nat) (hfp : fp < 18446744073709551616) (i : Nat) : oAt fp i < plAt i := by
  cases i with
  | zero => simp [oAt, plAt]
  | succ j => simpa [oAt, plAt] using offs_lt fp hfp j

set_option maxRecDepth 100000 in
set_option maxHeartbeats 1000000 in
theorem f15_any (fp k b : Nat) (w : World) (hfp : fp < 18446744073709551616) (hk : k ≤ 27) (hbk : b = 6 + 2 * k) :
    Calls Try.prog 15 #[.agg #[.int .i64 (b : Int), .int .u64 ((fp / 2 ^ (64 - b) : Nat) : Int)]] w fun e w' => e = .returned (.int .i64 (offs fp k : Int)) ∧ Below w.heap.size w w' := by
  have C := fun W => f17_any fp k b W hfp hk hbk
  generalize fp / 2 ^ (64 - b) = P at *
  clear hbk
  go_enter Try.func15, Try.ntmps15
  go_wp2_with (go_at_call 17; refine (C _).mono ?_; rintro e w1 ⟨g, cap, rfl, hown, hb1⟩)
  have hb2 : Below w.heap.size w w1 := ((Below.refl _ _).alloc (Nat.le_refl _) _).trans (hb1.mono (by simp))
  have HO := hide hown
  clear hb1 hown
  go_wp2
  go_loop [3, 4, 10] (fun o p i => ∃ j : Nat, i = .int .i64 (j : Int) ∧ j ≤ k + 1 ∧ o = .int .i64 (oAt fp j : Int) ∧ p = .int .i64 (plAt j : Int)) (fun _ _ i => k + 1 - (intOf i).toNat)
  case atStart => exact ⟨0, rfl, by omega, rfl, rfl⟩
  case round =>
    obtain ⟨j, rfl, hj, rfl, rfl⟩ := hrel
    have e1 := oAt_succ fp j
    have e2 := oAt_lt fp hfp (j + 1)
    by_cases hlt : j < k + 1
    · have e3 := plAt_le (j + 1) (by omega)
      have hc : w1.cell? ⟨g, j, none⟩ = some (.int .i64 (dg fp j : Int)) := by rw [HO.out.cellAt j (by omega), dvals_get _ _ _ hlt]
      obtain ⟨M, hMd⟩ : ∃ M, M = dg fp j * plAt j := ⟨_, rfl⟩
      have hM : (dg fp j : Int) * (plAt j : Int) = (M : Int) := by rw [hMd]; simp
      rw [← hMd] at e1
      have E1 := hide e1
      have hMl : M ≤ 1152921504606846976 := by omega
      have e4 : 0 < j → plAt (j + 1) = plAt j * 4 := by intro h; cases j with | zero => omega | succ q => simp [plAt, Nat.pow_succ]
      have e5 : j = 0 → plAt (j + 1) = 64 := by intro h; subst h; rfl
      have e6 := plAt_le j (by omega)
      have e7 : oAt fp j + M ≤ 1152921504606846976 := by omega
      clear e1 hMd e2
      generalize oAt fp j = O at *
      by_cases h0 : j = 0
      · have E5 := hide (e5 h0)
        have t0 : ((j : Int) == 0) = true := by simp [h0]
        clear e4 e5 h0
        generalize plAt j = L at *
        go_wp2
        go_round
        case rel => exact ⟨j + 1, by go_num, by omega, by rw [E1.out]; go_num, by rw [E5.out]; rfl⟩
        case measure => simp [intOf]; omega
      · have E4 := hide (e4 (by omega))
        have e8 : plAt j * 4 ≤ 1152921504606846976 := by omega
        have t0 : ((j : Int) == 0) = false := by simp; omega
        clear e4 e5 h0
        generalize plAt j = L at *
        go_wp2
        go_round
        case rel => exact ⟨j + 1, by go_num, by omega, by rw [E1.out]; go_num, by rw [E4.out]; go_num⟩
        case measure => simp [intOf]; omega
    · obtain rfl : j = k + 1 := by omega
      go_wp2
      go_ret
      exact ⟨rfl, hb2⟩
end Go.Proofs.Qxb6602869a
