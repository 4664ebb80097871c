import Derived.Test.Qxb6602565aPlain
import Derived.WalkKit
import Derived.ProofKit
import Derived.WalkSmall
import Derived.OwnWalk
namespace Go.Proofs.Qxb6602565a
open Go.RowKit
set_option linter.unusedVariables false

set_option maxRecDepth 100000 in
theorem f46_zero_in (g b ca n j p : Nat) (m : Nat) (w : World) (hj : j < n) (h0 : w.cell? ⟨g, 0, none⟩ = some (.slice (some ⟨b, 0, none⟩) n ca))
    (h1 : w.cell? ⟨b, j, none⟩ = some (.pointer (some ⟨p, 0, none⟩))) (h2 : w.cell? ⟨p, 4, none⟩ = some (.int .u64 (m : Int))) :
    Calls Try.prog 46 #[.pointer (some ⟨g, 0, none⟩), .int .i64 0, .int .i64 (j : Int)] w fun e w' => e = .returned (.int .u64 (m : Int)) ∧ w' = w := by
  go_enter Try.func46, Try.ntmps46
  go_wp2
  go_ret
  exact ⟨rfl, rfl⟩

set_option maxRecDepth 100000 in
theorem f46_zero_out (g ca n j : Nat) (a : Option Addr) (w : World) (hj : n ≤ j) (h0 : w.cell? ⟨g, 0, none⟩ = some (.slice a n ca)) :
    Calls Try.prog 46 #[.pointer (some ⟨g, 0, none⟩), .int .i64 0, .int .i64 (j : Int)] w fun e w' => e = .returned (.int .u64 0) ∧ w' = w := by
  go_enter Try.func46, Try.ntmps46
  go_wp2
  go_ret
  exact ⟨rfl, rfl⟩

set_option maxRecDepth 100000 in
theorem f46_pos_in (g r cl nl k b c n j : Nat) (m : Nat) (w : World) (hk : 1 ≤ k) (hkn : k ≤ nl) (hnl : nl ≤ 64) (hj : j < n) (h0 : w.cell? ⟨g, 3, none⟩ = some (.slice (some ⟨r, 0, none⟩) nl cl))
    (h1 : w.cell? ⟨r, k - 1, none⟩ = some (.slice (some ⟨b, 0, none⟩) n c)) (h2 : w.cell? ⟨b, j, none⟩ = some (.int .u64 (m : Int))) :
    Calls Try.prog 46 #[.pointer (some ⟨g, 0, none⟩), .int .i64 (k : Int), .int .i64 (j : Int)] w fun e w' => e = .returned (.int .u64 (m : Int)) ∧ w' = w := by
  have hk0 : ((k : Int) == 0) = false := by simp; omega
  go_enter Try.func46, Try.ntmps46
  go_wp2
  go_ret
  exact ⟨rfl, rfl⟩

set_option maxRecDepth 100000 in
theorem f46_pos_out (g r cl nl k c n j : Nat) (a : Option Addr) (w : World) (hk : 1 ≤ k) (hkn : k ≤ nl) (hnl : nl ≤ 64) (hj : n ≤ j) (h0 : w.cell? ⟨g, 3, none⟩ = some (.slice (some ⟨r, 0, none⟩) nl cl))
    (h1 : w.cell? ⟨r, k - 1, none⟩ = some (.slice a n c)) :
    Calls Try.prog 46 #[.pointer (some ⟨g, 0, none⟩), .int .i64 (k : Int), .int .i64 (j : Int)] w fun e w' => e = .returned (.int .u64 0) ∧ w' = w := by
  have hk0 : ((k : Int) == 0) = false := by simp; omega
  go_enter Try.func46, Try.ntmps46
  go_wp2
  go_ret
  exact ⟨rfl, rfl⟩

end Go.Proofs.Qxb6602565a
