import Derived.Test.Qxb6602869aRows
import Derived.WalkKit
import Derived.ProofKit
import Derived.WalkSmall
import Derived.OwnWalk
import Derived.Laws.BitsAllLaws
namespace Go.Proofs.Qxb6602869a
open Go.RowKit
set_option linter.unusedVariables false

theorem hide {p : Prop} (h : p) : Hid p := h
theorem castPow (q P : Nat) (h : P = 2 ^ q) : (2 : Int) ^ q = (P : Int) := by rw [h]; simp
theorem two_pow_pos (k : Nat) : 0 < 2 ^ k := Nat.pow_pos (by decide)

/-- The number of bits of a run's part. -/
def pbFrom (n : Int) : Nat → Nat → Nat
  | 0, b => b
  | f + 1, b => if ((2 ^ b : Nat) : Int) < n then pbFrom n f (b + 2) else b
def pb (n : Int) : Nat := pbFrom n 27 6

theorem pbFrom_spec (n : Int) : ∀ f b, (b = 6 ∨ (6 < b ∧ ((2 ^ (b - 2) : Nat) : Int) < n)) → b % 2 = 0 → 6 ≤ b → n ≤ ((2 ^ (b + 2 * f) : Nat) : Int) →
    n ≤ ((2 ^ pbFrom n f b : Nat) : Int) ∧ 6 ≤ pbFrom n f b ∧ pbFrom n f b ≤ b + 2 * f ∧ pbFrom n f b % 2 = 0 ∧ (6 < pbFrom n f b → ((2 ^ (pbFrom n f b - 2) : Nat) : Int) < n)
  | 0, b, h1, h2, h3, h4 => by
    rw [pbFrom]
    exact ⟨h4, h3, Nat.le_refl _, h2, fun h => by rcases h1 with h1 | h1; (exfalso; omega); exact h1.2⟩
  | f + 1, b, h1, h2, h3, h4 => by
    rw [pbFrom]
    by_cases h : ((2 ^ b : Nat) : Int) < n
    · rw [if_pos h]
      obtain ⟨a1, a2, a3, a4, a5⟩ := pbFrom_spec n f (b + 2) (.inr ⟨by omega, by simpa using h⟩) (by omega) (by omega) (by rw [show b + 2 + 2 * f = b + 2 * (f + 1) from by omega]; exact h4)
      exact ⟨a1, a2, by omega, a4, a5⟩
    · rw [if_neg h]
      exact ⟨by omega, h3, by omega, h2, fun q => by rcases h1 with h1 | h1; (exfalso; omega); exact h1.2⟩

theorem pb_spec (n : Int) (hn : n ≤ 1152921504606846976) : n ≤ ((2 ^ pb n : Nat) : Int) ∧ 6 ≤ pb n ∧ pb n ≤ 60 ∧ pb n % 2 = 0 ∧ (6 < pb n → ((2 ^ (pb n - 2) : Nat) : Int) < n) := by
  obtain ⟨a1, a2, a3, a4, a5⟩ := pbFrom_spec n 27 6 (.inl rfl) rfl (by omega) (by simpa using hn)
  exact ⟨a1, a2, a3, a4, a5⟩

/-- pb is the one number that does so. -/
theorem pb_unique (n : Int) (hn : n ≤ 1152921504606846976) (b : Nat) (h1 : n ≤ ((2 ^ b : Nat) : Int)) (h2 : 6 ≤ b) (h3 : b % 2 = 0) (h4 : 6 < b → ((2 ^ (b - 2) : Nat) : Int) < n) : pb n = b := by
  obtain ⟨a1, a2, a3, a4, a5⟩ := pb_spec n hn
  rcases Nat.lt_trichotomy (pb n) b with h | h | h
  · have := h4 (by omega)
    have h5 := Nat.pow_le_pow_right (n := 2) (by decide) (show pb n ≤ b - 2 by omega)
    omega
  · exact h
  · have := a5 (by omega)
    have h5 := Nat.pow_le_pow_right (n := 2) (by decide) (show b ≤ pb n - 2 by omega)
    omega

set_option maxRecDepth 100000 in
set_option maxHeartbeats 1000000 in
theorem f14_any (n : Int) (w : World) (hn : n ≤ 1152921504606846976) (hn0 : -9223372036854775808 ≤ n) :
    Calls Try.prog 14 #[.int .i64 n] w fun e w' => e = .returned (.int .i64 (pb n : Int)) ∧ w' = w := by
  obtain ⟨a1, a2, a3, a4, a5⟩ := pb_spec n hn
  have A1 := hide a1
  have A5 := hide a5
  clear a1 a5 hn0
  go_enter Try.func14, Try.ntmps14
  go_wp2
  go_loop [3] (fun i => ∃ b : Nat, i = .int .i64 (b : Int) ∧ 6 ≤ b ∧ b ≤ pb n ∧ b % 2 = 0) (fun i => pb n + 2 - (intOf i).toNat)
  case atStart => exact ⟨6, rfl, by omega, a2, rfl⟩
  case round =>
    obtain ⟨b, rfl, hb6, hbp, hbe⟩ := hrel
    obtain ⟨P, hPd⟩ : ∃ P, P = 2 ^ b := ⟨_, rfl⟩
    have hP := castPow b P hPd
    have hP1 : P ≤ 1152921504606846976 := by
      have := Nat.pow_le_pow_right (n := 2) (by decide) (show b ≤ 60 by omega)
      rw [hPd]
      simpa using this
    by_cases hlt : b < pb n
    · have hPn : (P : Int) < n := by
        have h1 := A5.out (by omega)
        have h2 := Nat.pow_le_pow_right (n := 2) (by decide) (show b ≤ pb n - 2 by omega)
        rw [← hPd] at h2
        omega
      clear hPd
      go_wp2
      go_round
      case rel => exact ⟨b + 2, by go_num, by omega, by omega, by omega⟩
      case measure => simp [intOf]; omega
    · obtain rfl : b = pb n := by omega
      have hPn : n ≤ (P : Int) := by rw [hPd]; exact A1.out
      clear hPd hlt
      go_wp2
      go_ret
      exact ⟨rfl, rfl⟩

set_option maxRecDepth 100000 in
set_option maxHeartbeats 1000000 in
theorem f13_any (fp b : Nat) (w : World) (hfp : fp < 18446744073709551616) (hb : b ≤ 64) :
    Calls Try.prog 13 #[.int .u64 (fp : Int), .int .i64 (b : Int)] w fun e w' => e = .returned (.agg #[.int .i64 (b : Int), .int .u64 ((fp / 2 ^ (64 - b) : Nat) : Int)]) ∧ Below w.heap.size w w' := by
  obtain ⟨P, hPd⟩ : ∃ P, P = 2 ^ (64 - b) := ⟨_, rfl⟩
  have hP := castPow (64 - b) P hPd
  rw [← hPd]
  have hQ : (fp : Int) / (P : Int) = ((fp / P : Nat) : Int) := by simp
  generalize fp / P = q at *
  clear hPd
  go_enter Try.func13, Try.ntmps13
  go_wp2
  exact bodyPost_ret (v := .agg #[.int .i64 (b : Int), .int .u64 (q : Int)]) (by simp [results, Try.results13, go_sem]) rfl ⟨rfl, (Below.refl _ _).alloc (Nat.le_refl _) _⟩

set_option maxRecDepth 100000 in
set_option maxHeartbeats 1000000 in
theorem f16_any (fp b c : Nat) (w : World) (hfp : fp < 18446744073709551616) (hb : b ≤ 64) (hc : c ≤ b) :
    Calls Try.prog 16 #[.agg #[.int .i64 (b : Int), .int .u64 ((fp / 2 ^ (64 - b) : Nat) : Int)], .int .i64 (c : Int)] w fun e w' => e = .returned (.agg #[.int .i64 (c : Int), .int .u64 ((fp / 2 ^ (64 - c) : Nat) : Int)]) ∧ Below w.heap.size w w' := by
  obtain ⟨P, hPd⟩ : ∃ P, P = 2 ^ (b - c) := ⟨_, rfl⟩
  have hP := castPow (b - c) P hPd
  have hQ : ((fp / 2 ^ (64 - b) : Nat) : Int) / (P : Int) = ((fp / 2 ^ (64 - c) : Nat) : Int) := by
    rw [hPd, ← Int.natCast_ediv, Nat.div_div_eq_div_mul, ← Nat.pow_add, show 64 - b + (b - c) = 64 - c from by omega]
  have hp1 : fp / 2 ^ (64 - b) ≤ fp := Nat.div_le_self _ _
  have hp2 : fp / 2 ^ (64 - c) ≤ fp := Nat.div_le_self _ _
  generalize fp / 2 ^ (64 - b) = p at *
  generalize fp / 2 ^ (64 - c) = q at *
  clear hPd
  go_enter Try.func16, Try.ntmps16
  go_wp2
  exact bodyPost_ret (v := .agg #[.int .i64 (c : Int), .int .u64 (q : Int)]) (by simp [results, Try.results16, go_sem]) rfl ⟨rfl, ((Below.refl _ _).alloc (Nat.le_refl _) _).alloc (by simp) _⟩

end Go.Proofs.Qxb6602869a
