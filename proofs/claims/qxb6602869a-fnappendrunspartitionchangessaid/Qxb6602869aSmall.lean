import Derived.Test.Qxb6602869aBits
namespace Go.Proofs.Qxb6602869a
open Go.RowKit
set_option linter.unusedVariables false

set_option maxRecDepth 100000 in
set_option maxHeartbeats 1000000 in
theorem f9_any (M J : Nat) (w : World) (hM : M = 4 ^ J) (hl : M ≤ 1152921504606846976) :
    Calls Try.prog 9 #[.int .i64 (M : Int)] w fun e w' => e = .returned (.bool true) ∧ w' = w := by
  have HM := hide hM
  clear hM
  go_enter Try.func9, Try.ntmps9
  go_wp2
  go_loop [3] (fun p => ∃ i P : Nat, p = .int .i64 (P : Int) ∧ P = 4 ^ i ∧ i ≤ J) (fun p => (M : Nat) - (intOf p).toNat)
  case atStart => exact ⟨0, 1, rfl, rfl, by omega⟩
  case round =>
    obtain ⟨i, P, rfl, hP, hi⟩ := hrel
    have hpos : 0 < P := by rw [hP]; exact Nat.pow_pos (by decide)
    have hPM : P ≤ M := by rw [hP, HM.out]; exact Nat.pow_le_pow_right (by decide) hi
    have HP := hide hP
    clear hP
    by_cases hlt : i < J
    · have h4 : P * 4 ≤ M := by rw [HP.out, HM.out, ← Nat.pow_succ]; exact Nat.pow_le_pow_right (by decide) hlt
      have t1 : P < M := by omega
      have t2 : P ≤ 1152921504606846976 := by omega
      go_wp2
      go_round
      case rel => exact ⟨i + 1, P * 4, by go_num, by rw [HP.out, Nat.pow_succ], by omega⟩
      case measure => simp [intOf]; omega
    · obtain rfl : i = J := by omega
      have e : P = M := by rw [HP.out, HM.out]
      subst e
      go_wp2
      go_ret
      exact ⟨rfl, rfl⟩

set_option maxRecDepth 100000 in
set_option maxHeartbeats 1000000 in
theorem f10_one (fp : Nat) (f l : Int) (w : World) :
    Calls Try.prog 10 #[.agg #[.int .i64 0, .int .u64 0, .int .i64 f, .int .i64 l], .int .u64 (fp : Int), .int .i64 1] w fun e w' => e = .returned (.bool true) ∧ Below w.heap.size w w' := by
  go_enter Try.func10, Try.ntmps10
  go_wp2
  go_ret
  exact ⟨rfl, (Below.refl _ _).alloc (Nat.le_refl _) _⟩

set_option maxRecDepth 100000 in
set_option maxHeartbeats 1000000 in
theorem f10_more (fp : Nat) (m : Nat) (f l : Int) (w : World) (hfp : fp < 18446744073709551616) (hm : m ≤ 1152921504606846976) (hm2 : 2 ≤ m) :
    Calls Try.prog 10 #[.agg #[.int .i64 (pb (m : Int) : Int), .int .u64 ((fp / 2 ^ (64 - pb (m : Int)) : Nat) : Int), .int .i64 f, .int .i64 l], .int .u64 (fp : Int), .int .i64 (m : Int)] w fun e w' => e = .returned (.bool true) ∧ Below w.heap.size w w' := by
  obtain ⟨a1, a2, a3, a4, a5⟩ := pb_spec (m : Int) (by omega)
  generalize pb (m : Int) = b at *
  obtain ⟨P, hP⟩ : ∃ P, P = 2 ^ b := ⟨_, rfl⟩
  obtain ⟨Q, hQ⟩ : ∃ Q, Q = 2 ^ (b - 2) := ⟨_, rfl⟩
  obtain ⟨R, hR⟩ : ∃ R, R = 2 ^ (64 - b) := ⟨_, rfl⟩
  have cP := castPow b P hP
  have cQ := castPow (b - 2) Q hQ
  have cR := castPow (64 - b) R hR
  have hP1 : P ≤ 1152921504606846976 := by
    have := Nat.pow_le_pow_right (n := 2) (by decide) a3
    rw [hP]
    simpa using this
  have hQ1 : Q ≤ 1152921504606846976 := by
    have := Nat.pow_le_pow_right (n := 2) (by decide) (show b - 2 ≤ 60 by omega)
    rw [hQ]
    simpa using this
  rw [← hP] at a1
  rw [← hQ] at a5
  rw [← hR]
  have hq : (fp : Int) / (R : Int) = ((fp / R : Nat) : Int) := by simp
  generalize fp / R = q at *
  have t1 : (b : Int) % 2 = 0 := by omega
  have t2 : ¬ (m : Int) = 1 := by omega
  by_cases h6 : 6 < b
  · have a6 := a5 h6
    clear hP hQ hR a4 a5
    go_enter Try.func10, Try.ntmps10
    go_wp2
    go_ret
    exact ⟨rfl, (Below.refl _ _).alloc (Nat.le_refl _) _⟩
  · clear hP hQ hR a4 a5 cQ hQ1
    go_enter Try.func10, Try.ntmps10
    go_wp2
    go_ret
    exact ⟨rfl, (Below.refl _ _).alloc (Nat.le_refl _) _⟩
end Go.Proofs.Qxb6602869a
