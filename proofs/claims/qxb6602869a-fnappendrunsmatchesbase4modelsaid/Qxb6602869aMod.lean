import Derived.Test.Qxb6602869aBits
import Derived.Laws.Bits128
namespace Go.Proofs.Qxb6602869a
open Go.RowKit
set_option linter.unusedVariables false

theorem i64_and1 (n : Int) : bits .and .i64 n 1 = n % 2 := by
  have h1 : (BitVec.ofInt 64 1).toNat = 2 ^ 1 - 1 := by decide
  have key : (BitVec.ofInt 64 n &&& BitVec.ofInt 64 1).toNat = (n % ((2 ^ 64 : Nat) : Int)).toNat % 2 ^ 1 := by
    rw [BitVec.toNat_and, BitVec.toNat_ofInt, h1, Nat.and_two_pow_sub_one_eq_mod]
  show IntKind.i64.wrap ((BitVec.ofInt 64 n &&& BitVec.ofInt 64 1).toNat : Nat) = n % 2
  rw [key, IntKind.wrap_i64]
  omega

/-- The bits of a run of m changes, from the bit length l of m - 1. -/
theorem pb_len (m l : Nat) (h1 : 1 ≤ m) (h2 : m ≤ 1152921504606846976) (h3 : m - 1 < 2 ^ l) (h4 : l = 0 ∨ 2 ^ (l - 1) ≤ m - 1) : pb (m : Int) = if l + l % 2 < 6 then 6 else l + l % 2 := by
  refine pb_unique (m : Int) (by omega) _ ?_ ?_ ?_ ?_
  · have h : 2 ^ l ≤ 2 ^ (if l + l % 2 < 6 then 6 else l + l % 2) := Nat.pow_le_pow_right (by decide) (by split <;> omega)
    omega
  · split <;> omega
  · split <;> omega
  · intro h
    have h5 : 6 < l + l % 2 := by revert h; split <;> omega
    rw [if_neg (by omega)]
    have h6 : 2 ^ (l + l % 2 - 2) ≤ 2 ^ (l - 1) := Nat.pow_le_pow_right (by decide) (by omega)
    rcases h4 with h4 | h4 <;> omega

set_option maxRecDepth 100000 in
set_option maxHeartbeats 1000000 in
theorem f12_any (m : Nat) (w : World) (h1 : 1 ≤ m) (h2 : m ≤ 1152921504606846976) :
    Calls Try.prog 12 #[.int .i64 (m : Int)] w fun e w' => e = .returned (.int .i64 (pb (m : Int) : Int)) ∧ w' = w := by
  obtain ⟨u, rfl⟩ : ∃ u, m = u + 1 := ⟨m - 1, by omega⟩
  have hpb := fun l => pb_len (u + 1) l h1 h2
  generalize pb ((u + 1 : Nat) : Int) = pv at *
  have HPB := hide hpb
  clear hpb
  go_enter Try.func12, Try.ntmps12
  go_wp2
  go_loop [3, 4] (fun a b => ∃ l v : Nat, a = .int .i64 (l : Int) ∧ b = .int .u64 (v : Int) ∧ v = u / 2 ^ l ∧ (l = 0 ∨ 2 ^ (l - 1) ≤ u)) (fun _ b => (intOf b).toNat)
  case atStart => exact ⟨0, u, rfl, by go_num, by simp, .inl rfl⟩
  case round =>
    obtain ⟨l, v, rfl, rfl, hv, hl⟩ := hrel
    have hvu : v ≤ u := by rw [hv]; exact Nat.div_le_self _ _
    have hl60 : l ≤ 60 := by
      rcases hl with h | h
      · omega
      · rcases Nat.lt_or_ge 60 l with q | q
        · have := Nat.pow_le_pow_right (n := 2) (by decide) (show 60 ≤ l - 1 by omega)
          have e : (2 : Nat) ^ 60 = 1152921504606846976 := by decide
          omega
        · exact q
    have HV := hide hv
    have HL := hide hl
    clear hv hl
    by_cases h0 : v = 0
    · have hlt : u < 2 ^ l := by
        have := HV.out
        rw [h0] at this
        exact (Nat.div_eq_zero_iff_lt (two_pow_pos l)).1 this.symm
      have hp := HPB.out l (by simpa using hlt) (by simpa using HL.out)
      have HP := hide hp
      have ha : bits .and .i64 (l : Int) 1 = ((l % 2 : Nat) : Int) := by rw [i64_and1]; omega
      obtain ⟨x, hx⟩ : ∃ x, l % 2 = x := ⟨_, rfl⟩
      have hx2 : x < 2 := by omega
      rw [hx] at ha HP
      subst h0
      clear hp hx
      by_cases h6 : l + x < 6
      · rw [if_pos h6] at HP
        go_wp2
        go_ret
        exact ⟨by have := HP.out; subst this; rfl, rfl⟩
      · rw [if_neg h6] at HP
        go_wp2
        go_ret
        exact ⟨by have := HP.out; subst this; rfl, rfl⟩
    · go_wp2
      go_round
      case rel =>
        refine ⟨l + 1, v / 2, by go_num, by go_num, ?_, .inr ?_⟩
        · rw [HV.out, Nat.pow_succ, Nat.div_div_eq_div_mul]
        · rw [Nat.add_sub_cancel]
          have := HV.out
          rcases Nat.lt_or_ge u (2 ^ l) with q | q
          · rw [Nat.div_eq_of_lt q] at this
            omega
          · exact q
      case measure => simp [intOf]; omega

end Go.Proofs.Qxb6602869a
