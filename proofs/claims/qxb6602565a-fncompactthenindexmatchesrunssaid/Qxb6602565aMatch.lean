import Derived.Test.Qxb6602565aIdx
import Derived.Deep.QuietTactic
import Derived.BigQuiet
namespace Go.Proofs.Qxb6602565a
open Go.RowKit
set_option linter.unusedVariables false

/-- A slice of uint64 that can be read in w. -/
def NumSl (w : World) (a : Option Addr) (m : List Nat) : Prop :=
  0 < m.length → ∃ b off, a = some ⟨b, off, none⟩ ∧ b < w.heap.size ∧ ∀ i, i < m.length → w.cell? ⟨b, off + i, none⟩ = some (.int .u64 ((m.getD i 0 : Nat) : Int))

theorem NumSl.below {w w' : World} {a : Option Addr} {m : List Nat} (h : NumSl w a m) (hb : Below w.heap.size w w') : NumSl w' a m := fun q => by
  obtain ⟨b, off, e, hlt, hc⟩ := h q
  exact ⟨b, off, e, Nat.lt_of_lt_of_le hlt hb.size, fun i hi => (hb.cell (by exact hlt)).trans (hc i hi)⟩

set_option maxRecDepth 100000 in
theorem f26_any (g base ca built : Nat) (As : List (Nat × Nat)) (w : World) (hlog : Log w base g As ca built) :
    Calls Try.prog 26 #[.pointer (some ⟨g, 0, none⟩)] w fun e w' => e = .returned (.int .i64 (As.length : Int)) ∧ w' = w := by
  obtain ⟨ba, vl, lat, st, hh, _⟩ := hlog
  have c0 : w.cell? ⟨g, 0, none⟩ = some (.slice (some ⟨ba, 0, none⟩) As.length ca) := by simp [World.cell?, hh]
  clear hh
  go_enter Try.func26, Try.ntmps26
  go_wp2
  go_ret
  exact ⟨rfl, rfl⟩

set_option maxRecDepth 100000 in
theorem f29_any (g base ca built : Nat) (As : List (Nat × Nat)) (w : World) (hlog : Log w base g As ca built) :
    Calls Try.prog 29 #[.pointer (some ⟨g, 0, none⟩)] w fun e w' => e = .returned (.int .i64 (ca : Int)) ∧ w' = w := by
  obtain ⟨ba, vl, lat, st, hh, _⟩ := hlog
  have c0 : w.cell? ⟨g, 0, none⟩ = some (.slice (some ⟨ba, 0, none⟩) As.length ca) := by simp [World.cell?, hh]
  clear hh
  go_enter Try.func29, Try.ntmps29
  go_wp2
  go_ret
  exact ⟨rfl, rfl⟩

set_option maxRecDepth 100000 in
theorem f30_any (g base ca built : Nat) (As : List (Nat × Nat)) (w : World) (hlog : Log w base g As ca built) :
    Calls Try.prog 30 #[.pointer (some ⟨g, 0, none⟩)] w fun e w' => e = .returned (.int .i64 (built : Int)) ∧ w' = w := by
  obtain ⟨ba, vl, lat, st, hh, _⟩ := hlog
  have c0 : w.cell? ⟨g, 4, none⟩ = some (.int .i64 (built : Int)) := by simp [World.cell?, hh]
  clear hh
  go_enter Try.func30, Try.ntmps30
  go_wp2
  go_ret
  exact ⟨rfl, rfl⟩

theorem Lvs.shape {w : World} {base nl : Nat} {vl : Value} {F : Nat → List Nat} (h : Lvs w base vl nl F) : ∃ a c, vl = .slice a nl c := by
  rcases h with ⟨rfl, rfl⟩ | ⟨r, Vs, rfl, _⟩
  · exact ⟨none, 0, rfl⟩
  · exact ⟨_, _, rfl⟩

set_option maxRecDepth 100000 in
theorem f31_any (g base ca built : Nat) (As : List (Nat × Nat)) (w : World) (hlog : Log w base g As ca built) :
    Calls Try.prog 31 #[.pointer (some ⟨g, 0, none⟩)] w fun e w' => e = .returned (.int .i64 (depth built : Int)) ∧ w' = w := by
  obtain ⟨ba, vl, lat, st, hh, _, _, hlv, _⟩ := hlog
  obtain ⟨a, c, rfl⟩ := hlv.shape
  have c0 : w.cell? ⟨g, 3, none⟩ = some (.slice a (depth built) c) := by simp [World.cell?, hh]
  clear hh hlv
  go_enter Try.func31, Try.ntmps31
  go_wp2
  go_ret
  exact ⟨rfl, rfl⟩

theorem Log.level {w : World} {base g ca built : Nat} {As : List (Nat × Nat)} (h : Log w base g As ca built) (k : Nat) (hk : k < depth built) :
    ∃ r c v, w.cell? ⟨g, 3, none⟩ = some (.slice (some ⟨r, 0, none⟩) (depth built) c) ∧ w.cell? ⟨r, k, none⟩ = some v ∧ w.ownsRow base 48 1 v (level ((marksOf As).take built) (k + 1)).length (ints (level ((marksOf As).take built) (k + 1))) := by
  obtain ⟨ba, vl, lat, st, hh, _, _, hlv, _⟩ := h
  rcases hlv with ⟨_, h0⟩ | ⟨r, Vs, rfl, _, h2, _, hole⟩
  · omega
  · obtain ⟨l, h4, h5⟩ := hole.lev k (by omega) (by omega)
    have := h5 hk
    subst this
    exact ⟨r, Vs.length, _, by simp [World.cell?, hh], (hole.cell (show k < Vs.length by omega)).1, h4⟩

set_option maxRecDepth 100000 in
theorem f42_any (g base ca built k : Nat) (As : List (Nat × Nat)) (w : World) (hlog : Log w base g As ca built) (hk : k < depth built) (hd : depth built ≤ 64) :
    Calls Try.prog 42 #[.pointer (some ⟨g, 0, none⟩), .int .i64 (k : Int)] w fun e w' => e = .returned (.int .i64 ((level ((marksOf As).take built) (k + 1)).length : Int)) ∧ w' = w := by
  obtain ⟨r, c, v, h1, h2, h3⟩ := hlog.level k hk
  obtain ⟨a, cc, rfl, _⟩ := owns_shape h3
  clear h3
  generalize depth built = d at *
  generalize (level ((marksOf As).take built) (k + 1)).length = n at *
  go_enter Try.func42, Try.ntmps42
  go_wp2
  go_ret
  exact ⟨rfl, rfl⟩

set_option maxRecDepth 100000 in
theorem f43_any (g base ca built k j : Nat) (As : List (Nat × Nat)) (w : World) (hlog : Log w base g As ca built) (hk : k < depth built) (hd : depth built ≤ 64) (hj : j < (level ((marksOf As).take built) (k + 1)).length) :
    Calls Try.prog 43 #[.pointer (some ⟨g, 0, none⟩), .int .i64 (k : Int), .int .i64 (j : Int)] w fun e w' => e = .returned (.int .u64 ((run ((marksOf As).take built) (k + 1) j : Nat) : Int)) ∧ w' = w := by
  obtain ⟨r, c, v, h1, h2, h3⟩ := hlog.level k hk
  obtain ⟨b, cc, rfl, _, _⟩ := h3.form (by omega)
  have c4 : w.cell? ⟨b, j, none⟩ = some (.int .u64 ((run ((marksOf As).take built) (k + 1) j : Nat) : Int)) := by
    rw [h3.cellAt j (by omega), ints_getD _ _ hj, level_getD]
  clear h3
  generalize depth built = d at *
  generalize (level ((marksOf As).take built) (k + 1)).length = n at *
  generalize run ((marksOf As).take built) (k + 1) j = x at *
  go_enter Try.func43, Try.ntmps43
  go_wp2
  go_ret
  exact ⟨rfl, rfl⟩

theorem Log.acc {w : World} {base g ca built : Nat} {As : List (Nat × Nat)} (h : Log w base g As ca built) (i : Nat) (hi : i < As.length) :
    ∃ ba p, w.cell? ⟨g, 0, none⟩ = some (.slice (some ⟨ba, 0, none⟩) As.length ca) ∧ w.cell? ⟨ba, i, none⟩ = some (.pointer (some ⟨p, 0, none⟩)) ∧ w.cell? ⟨p, 0, none⟩ = some (.int .u64 (((As.getD i (0, 0)).1 : Nat) : Int)) ∧ w.cell? ⟨p, 4, none⟩ = some (.int .u64 (((As.getD i (0, 0)).2 : Nat) : Int)) := by
  obtain ⟨ba, vl, lat, st, hh, _, ⟨ps, hl, hown, hacc⟩, _, _⟩ := h
  obtain ⟨cs, hc, hc0, hc4⟩ := hacc i hi
  refine ⟨ba, ps.getD i 0, by simp [World.cell?, hh], ?_, by rw [cell_of_row w _ 0 _ _ _ hc]; exact hc0, by rw [cell_of_row w _ 4 _ _ _ hc]; exact hc4⟩
  rw [hown.cellAt i (by omega)]
  simp [ptrs, show i < ps.length from by omega]

set_option maxRecDepth 100000 in
theorem f28_any (g base ca built i : Nat) (As : List (Nat × Nat)) (w : World) (hlog : Log w base g As ca built) (hi : i < As.length) :
    Calls Try.prog 28 #[.pointer (some ⟨g, 0, none⟩), .int .i64 (i : Int)] w fun e w' => e = .returned (.int .u64 (((As.getD i (0, 0)).2 : Nat) : Int)) ∧ w' = w := by
  obtain ⟨ba, p, c0, c1, c2, c3⟩ := hlog.acc i hi
  generalize (As.getD i (0, 0)).2 = x at *
  go_enter Try.func28, Try.ntmps28
  go_wp2
  go_ret
  exact ⟨rfl, rfl⟩

set_option maxRecDepth 100000 in
theorem f27_any (g base ca built i : Nat) (As : List (Nat × Nat)) (w : World) (hlog : Log w base g As ca built) (hi : i < As.length) :
    Calls Try.prog 27 #[.pointer (some ⟨g, 0, none⟩), .int .i64 (i : Int)] w fun e w' => e = .returned (.int .u64 (((As.getD i (0, 0)).1 : Nat) : Int)) ∧ w' = w := by
  obtain ⟨ba, p, c0, c1, c2, c3⟩ := hlog.acc i hi
  generalize (As.getD i (0, 0)).1 = x at *
  go_enter Try.func27, Try.ntmps27
  go_wp2
  go_ret
  exact ⟨rfl, rfl⟩

end Go.Proofs.Qxb6602565a
