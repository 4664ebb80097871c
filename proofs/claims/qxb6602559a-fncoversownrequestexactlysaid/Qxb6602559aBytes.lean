import Derived.Test.Qxb6602559aRows
import Derived.WalkKit
import Derived.ProofKit
namespace Go.Proofs.Qxb6602559a
open Go.RowKit

/-- A slice of strings that can be read in w: its elements 'ss'. -/
def StrSl (w : World) (a : Option Addr) (ss : List ByteArray) : Prop :=
  ss.length ≤ 9223372036854775807 ∧ (∀ i, (ss.getD i ByteArray.empty).size ≤ maxLen) ∧
    (0 < ss.length → ∃ b off, a = some ⟨b, off, none⟩ ∧ b < w.heap.size ∧ ∀ i, i < ss.length → w.cell? ⟨b, off + i, none⟩ = some (.string (ss.getD i ByteArray.empty)))

set_option maxHeartbeats 400000 in
theorem f15_any (a : Option Addr) (cap : Nat) (ss : List ByteArray) (w : World) (h : StrSl w a ss) :
    Calls Try.prog 15 #[.slice a ss.length cap] w fun e w' => ∃ n : Int, e = .returned (.int .i64 n) ∧ 0 ≤ n ∧ n ≤ 1048577 ∧ w' = w := by
  obtain ⟨hl, hs, hc⟩ := h
  go_enter Try.func15, Try.ntmps15
  go_wp2
  go_loop [3, 7] (fun t i => ∃ (k : Nat) (n : Int), k ≤ ss.length ∧ i = .int .i64 k ∧ t = .int .i64 n ∧ 0 ≤ n ∧ n ≤ 1048576) (fun _ i => ss.length - (intOf i).toNat)
  case atStart => exact ⟨0, 0, Nat.zero_le _, rfl, rfl, by omega, by omega⟩
  case round =>
    obtain ⟨k, n, hk, rfl, rfl, hn0, hn1⟩ := hrel
    by_cases hlt : k < ss.length
    · obtain ⟨b, off, rfl, _, hcell⟩ := hc (by omega)
      have hck := hcell k hlt
      have hsk := hs k
      unfold maxLen at hsk
      clear hs hcell hc
      generalize ss.getD k ByteArray.empty = s at *
      go_wp2
      · go_ret
        exact ⟨_, rfl, by omega, by omega, rfl⟩
      · go_ret
        exact ⟨_, rfl, by omega, by omega, rfl⟩
      · go_round
        case rel => exact ⟨k + 1, _, by omega, by go_num, rfl, by omega, by omega⟩
        case measure => simp [intOf]; omega
    · go_wp2
      go_ret
      exact ⟨n, rfl, hn0, by omega, rfl⟩

set_option maxHeartbeats 400000 in
theorem f26_any (sk sn : ByteArray) (a a' : Option Addr) (cap cap' : Nat) (ss ss' : List ByteArray) (w : World) (hk : sk.size ≤ maxLen) (hn : sn.size ≤ maxLen) (h : StrSl w a ss) (h' : StrSl w a' ss') :
    Calls Try.prog 26 #[.string sk, .string sn, .slice a ss.length cap, .slice a' ss'.length cap'] w fun e w' => ∃ n : Int, e = .returned (.int .i64 n) ∧ 0 ≤ n ∧ n ≤ 1048577 ∧ (n ≤ 1048576 → ss.length ≤ 4096 ∧ ss'.length ≤ 4096) ∧ w' = w := by
  have hl := h.1
  have hl' := h'.1
  unfold maxLen at hk hn
  by_cases hb : 1048576 < sk.size ∨ 1048576 < sn.size ∨ 4096 < ss.length ∨ 4096 < ss'.length
  · have hx : ∀ n : Int, n = 1048577 → (n ≤ 1048576 → ss.length ≤ 4096 ∧ ss'.length ≤ 4096) := fun n e g => by omega
    rcases (show 1048576 < sk.size ∨ (sk.size ≤ 1048576 ∧ 1048576 < sn.size) ∨ (sk.size ≤ 1048576 ∧ sn.size ≤ 1048576 ∧ 4096 < ss.length) ∨ (sk.size ≤ 1048576 ∧ sn.size ≤ 1048576 ∧ ss.length ≤ 4096 ∧ 4096 < ss'.length) from by omega) with g | ⟨g1, g⟩ | ⟨g1, g2, g⟩ | ⟨g1, g2, g3, g⟩
    all_goals
      clear hb hx
      go_enter Try.func26, Try.ntmps26
      go_wp2_with fail
      go_ret
      exact ⟨_, rfl, by omega, by omega, fun q => by omega, rfl⟩
  · have g1 : sk.size ≤ 1048576 := by omega
    have g2 : sn.size ≤ 1048576 := by omega
    have g3 : ss.length ≤ 4096 := by omega
    have g4 : ss'.length ≤ 4096 := by omega
    clear hb
    go_enter Try.func26, Try.ntmps26
    go_wp2_with fail
    refine (f15_any a cap ss _ h).mono ?_
    rintro e w1 ⟨n1, rfl, hn1, hn1', rfl⟩
    go_wp2_with fail
    refine (f15_any a' cap' ss' _ h').mono ?_
    rintro e w1 ⟨n2, rfl, hn2, hn2', rfl⟩
    go_wp2_with fail
    all_goals
      go_ret
      exact ⟨_, rfl, by omega, by omega, fun q => by omega, rfl⟩

/-- It returns some bool, and nothing has turned. -/
def RetBool (w : World) (e : Ending) (w' : World) : Prop := ∃ b : Bool, e = .returned (.bool b) ∧ w' = w

set_option maxRecDepth 100000 in
set_option maxHeartbeats 4000000 in
theorem f25_any (s0 s1 s4 s5 s8 s9 : ByteArray) (a2 a3 a6 a7 a10 a11 : Option Addr) (c2 c3 c6 c7 c10 c11 : Nat) (l2 l3 l6 l7 l10 l11 : List ByteArray) (w : World)
    (h0 : s0.size ≤ maxLen) (h1 : s1.size ≤ maxLen) (h4 : s4.size ≤ maxLen) (h5 : s5.size ≤ maxLen) (h8 : s8.size ≤ maxLen) (h9 : s9.size ≤ maxLen)
    (h2 : StrSl w a2 l2) (h3 : StrSl w a3 l3) (h6 : StrSl w a6 l6) (h7 : StrSl w a7 l7) (h10 : StrSl w a10 l10) (h11 : StrSl w a11 l11) :
    Calls Try.prog 25 #[.string s0, .string s1, .slice a2 l2.length c2, .slice a3 l3.length c3, .string s4, .string s5, .slice a6 l6.length c6, .slice a7 l7.length c7, .string s8, .string s9, .slice a10 l10.length c10, .slice a11 l11.length c11] w fun e w' => RetBool w e w' := by
  unfold maxLen at h0 h1 h4 h5 h8 h9
  have q2 := h2.1
  have q3 := h3.1
  have q6 := h6.1
  have q7 := h7.1
  have q10 := h10.1
  have q11 := h11.1
  go_enter Try.func25, Try.ntmps25
  go_wp2
  all_goals try (go_ret; exact ⟨_, rfl, rfl⟩)
  go_loop [25, 26] (fun t i => ∃ (k : Nat) (n : Int), k ≤ l2.length ∧ i = .int .i64 k ∧ t = .int .i64 n ∧ 0 ≤ n ∧ n ≤ 1048576) (fun _ i => l2.length - (intOf i).toNat)
  case atStart => exact ⟨0, _, Nat.zero_le _, rfl, rfl, by omega, by omega⟩
  case round =>
    obtain ⟨k, n, hk, rfl, rfl, hn0, hn1⟩ := hrel
    by_cases hlt : k < l2.length
    · obtain ⟨b, off, rfl, _, hcell⟩ := h2.2.2 (by omega)
      have hck := hcell k hlt
      have hsk := h2.2.1 k
      unfold maxLen at hsk
      clear hcell h2 h3 h6 h7 h10 h11
      generalize l2.getD k ByteArray.empty = s at *
      go_wp2
      · go_ret
        exact ⟨_, rfl, rfl⟩
      · go_ret
        exact ⟨_, rfl, rfl⟩
      · go_round
        case rel => exact ⟨k + 1, _, by omega, by go_num, rfl, by omega, by omega⟩
        case measure => simp [intOf]; omega
    · go_wp2
      all_goals try (go_ret; exact ⟨_, rfl, rfl⟩)
      go_loop [25, 27] (fun t i => ∃ (k : Nat) (n : Int), k ≤ l3.length ∧ i = .int .i64 k ∧ t = .int .i64 n ∧ 0 ≤ n ∧ n ≤ 1048576) (fun _ i => l3.length - (intOf i).toNat)
      case atStart => exact ⟨0, _, Nat.zero_le _, rfl, rfl, by omega, by omega⟩
      case round =>
        obtain ⟨k, n, hk, rfl, rfl, hn0, hn1⟩ := hrel
        by_cases hlt : k < l3.length
        · obtain ⟨b, off, rfl, _, hcell⟩ := h3.2.2 (by omega)
          have hck := hcell k hlt
          have hsk := h3.2.1 k
          unfold maxLen at hsk
          clear hcell h2 h3 h6 h7 h10 h11
          generalize l3.getD k ByteArray.empty = s at *
          go_wp2
          · go_ret
            exact ⟨_, rfl, rfl⟩
          · go_ret
            exact ⟨_, rfl, rfl⟩
          · go_round
            case rel => exact ⟨k + 1, _, by omega, by go_num, rfl, by omega, by omega⟩
            case measure => simp [intOf]; omega
        · go_wp2
          all_goals try (go_ret; exact ⟨_, rfl, rfl⟩)
          go_loop [25, 28] (fun t i => ∃ (k : Nat) (n : Int), k ≤ l6.length ∧ i = .int .i64 k ∧ t = .int .i64 n ∧ 0 ≤ n ∧ n ≤ 1048576) (fun _ i => l6.length - (intOf i).toNat)
          case atStart => exact ⟨0, _, Nat.zero_le _, rfl, rfl, by omega, by omega⟩
          case round =>
            obtain ⟨k, n, hk, rfl, rfl, hn0, hn1⟩ := hrel
            by_cases hlt : k < l6.length
            · obtain ⟨b, off, rfl, _, hcell⟩ := h6.2.2 (by omega)
              have hck := hcell k hlt
              have hsk := h6.2.1 k
              unfold maxLen at hsk
              clear hcell h2 h3 h6 h7 h10 h11
              generalize l6.getD k ByteArray.empty = s at *
              go_wp2
              · go_ret
                exact ⟨_, rfl, rfl⟩
              · go_ret
                exact ⟨_, rfl, rfl⟩
              · go_round
                case rel => exact ⟨k + 1, _, by omega, by go_num, rfl, by omega, by omega⟩
                case measure => simp [intOf]; omega
            · go_wp2
              all_goals try (go_ret; exact ⟨_, rfl, rfl⟩)
              go_loop [25, 29] (fun t i => ∃ (k : Nat) (n : Int), k ≤ l7.length ∧ i = .int .i64 k ∧ t = .int .i64 n ∧ 0 ≤ n ∧ n ≤ 1048576) (fun _ i => l7.length - (intOf i).toNat)
              case atStart => exact ⟨0, _, Nat.zero_le _, rfl, rfl, by omega, by omega⟩
              case round =>
                obtain ⟨k, n, hk, rfl, rfl, hn0, hn1⟩ := hrel
                by_cases hlt : k < l7.length
                · obtain ⟨b, off, rfl, _, hcell⟩ := h7.2.2 (by omega)
                  have hck := hcell k hlt
                  have hsk := h7.2.1 k
                  unfold maxLen at hsk
                  clear hcell h2 h3 h6 h7 h10 h11
                  generalize l7.getD k ByteArray.empty = s at *
                  go_wp2
                  · go_ret
                    exact ⟨_, rfl, rfl⟩
                  · go_ret
                    exact ⟨_, rfl, rfl⟩
                  · go_round
                    case rel => exact ⟨k + 1, _, by omega, by go_num, rfl, by omega, by omega⟩
                    case measure => simp [intOf]; omega
                · go_wp2
                  all_goals try (go_ret; exact ⟨_, rfl, rfl⟩)
                  go_loop [25, 30] (fun t i => ∃ (k : Nat) (n : Int), k ≤ l10.length ∧ i = .int .i64 k ∧ t = .int .i64 n ∧ 0 ≤ n ∧ n ≤ 1048576) (fun _ i => l10.length - (intOf i).toNat)
                  case atStart => exact ⟨0, _, Nat.zero_le _, rfl, rfl, by omega, by omega⟩
                  case round =>
                    obtain ⟨k, n, hk, rfl, rfl, hn0, hn1⟩ := hrel
                    by_cases hlt : k < l10.length
                    · obtain ⟨b, off, rfl, _, hcell⟩ := h10.2.2 (by omega)
                      have hck := hcell k hlt
                      have hsk := h10.2.1 k
                      unfold maxLen at hsk
                      clear hcell h2 h3 h6 h7 h10 h11
                      generalize l10.getD k ByteArray.empty = s at *
                      go_wp2
                      · go_ret
                        exact ⟨_, rfl, rfl⟩
                      · go_ret
                        exact ⟨_, rfl, rfl⟩
                      · go_round
                        case rel => exact ⟨k + 1, _, by omega, by go_num, rfl, by omega, by omega⟩
                        case measure => simp [intOf]; omega
                    · go_wp2
                      all_goals try (go_ret; exact ⟨_, rfl, rfl⟩)
                      go_loop [25, 31] (fun t i => ∃ (k : Nat) (n : Int), k ≤ l11.length ∧ i = .int .i64 k ∧ t = .int .i64 n ∧ 0 ≤ n ∧ n ≤ 1048576) (fun _ i => l11.length - (intOf i).toNat)
                      case atStart => exact ⟨0, _, Nat.zero_le _, rfl, rfl, by omega, by omega⟩
                      case round =>
                        obtain ⟨k, n, hk, rfl, rfl, hn0, hn1⟩ := hrel
                        by_cases hlt : k < l11.length
                        · obtain ⟨b, off, rfl, _, hcell⟩ := h11.2.2 (by omega)
                          have hck := hcell k hlt
                          have hsk := h11.2.1 k
                          unfold maxLen at hsk
                          clear hcell h2 h3 h6 h7 h10 h11
                          generalize l11.getD k ByteArray.empty = s at *
                          go_wp2
                          · go_ret
                            exact ⟨_, rfl, rfl⟩
                          · go_ret
                            exact ⟨_, rfl, rfl⟩
                          · go_round
                            case rel => exact ⟨k + 1, _, by omega, by go_num, rfl, by omega, by omega⟩
                            case measure => simp [intOf]; omega
                        · go_wp2
                          go_ret
                          exact ⟨_, rfl, rfl⟩

end Go.Proofs.Qxb6602559a
