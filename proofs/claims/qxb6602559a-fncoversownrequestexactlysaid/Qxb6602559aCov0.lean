import Derived.Test.Qxb6602559aBytes
import Derived.Laws.StructEq
import Derived.Deep.QuietTactic
import Derived.BigQuiet
import Derived.WalkSmall
namespace Go.Proofs.Qxb6602559a
open Go.RowKit

theorem eq49 (a b c d : ByteArray) (w : World) : (binOp .eql 49 (.agg #[.string a, .string b]) (.agg #[.string c, .string d])).run Try.prog w = .ok (.bool (a.toList == c.toList && b.toList == d.toList)) w := by
  have u9 := Try.underlying9
  have a9 := Try.isAgg9
  have z9 := Try.sizeOf9
  have hS : Try.prog.underlying 49 = some (.struct (Try.prog.fieldsOf 49)) := by kernel_rfl
  have hp : Try.prog.stoodInHeld 49 = false := by kernel_rfl
  rw [run_eql_struct, show (10000 : Nat) = 9999 + 1 from rfl, run_equalIn_agg w 9999 49 _ _ hS hp]
  simp only [Program.fieldsOf, Try.underlying49]
  go_simp
  by_cases h1 : a.toList = c.toList <;> by_cases h2 : b.toList = d.toList <;> simp [h1, h2]

/-- The tags of a token: a slice of pairs of strings. -/
def TagSl (w : World) (a : Option Addr) (ns vs : List ByteArray) : Prop :=
  ns.length ≤ 4096 ∧ vs.length = ns.length ∧
    (0 < ns.length → ∃ b off, a = some ⟨b, off, none⟩ ∧ b < w.heap.size ∧ ∀ i, i < ns.length → w.cell? ⟨b, off + i * 2, none⟩ = some (.string (ns.getD i ByteArray.empty)) ∧ w.cell? ⟨b, off + i * 2 + 1, none⟩ = some (.string (vs.getD i ByteArray.empty)))

/-- Is the pair (n, v) among the pairs? -/
def HasPair (ns vs : List ByteArray) (n v : ByteArray) : Prop := ∃ i, i < ns.length ∧ ns.getD i ByteArray.empty = n ∧ vs.getD i ByteArray.empty = v

theorem toList_inj {a b : ByteArray} (h : (a.toList == b.toList) = true) : a = b := by
  have : a.toList = b.toList := by simpa using h
  rw [ByteArray.toList_eq, ByteArray.toList_eq] at this
  exact WideShapes.bytes_inj this

theorem toList_ne {a b : ByteArray} (h : (a.toList == b.toList) = false) : a ≠ b := by
  rintro rfl
  simp at h

theorem TagSl.below {w w' : World} {a : Option Addr} {ns vs : List ByteArray} (h : TagSl w a ns vs) (hb : Below w.heap.size w w') : TagSl w' a ns vs := by
  refine ⟨h.1, h.2.1, fun h0 => ?_⟩
  obtain ⟨b, off, e, hlt, hc⟩ := h.2.2 h0
  exact ⟨b, off, e, Nat.lt_of_lt_of_le hlt hb.size, fun i hi => ⟨(hb.cell (by exact hlt)).trans (hc i hi).1, (hb.cell (by exact hlt)).trans (hc i hi).2⟩⟩

def RetIdx (w : World) (p : Prop) (e : Ending) (w' : World) : Prop := ∃ n : Int, e = .returned (.int .i64 n) ∧ (0 ≤ n ↔ p) ∧ Below w.heap.size w w'

set_option maxRecDepth 100000 in
set_option maxHeartbeats 1000000 in
theorem f42_any (a : Option Addr) (cap : Nat) (ns vs : List ByteArray) (n v : ByteArray) (w : World) (h : TagSl w a ns vs) :
    Calls Try.prog 42 #[.slice a ns.length cap, .agg #[.string n, .string v]] w fun e w' => RetIdx w (HasPair ns vs n v) e w' := by
  have h1 := h.1
  have he := eq49
  go_enter Try.func42, Try.ntmps42
  go_wp2
  go_loopw [8] (fun i wr => ∃ (k : Nat), k ≤ ns.length ∧ i = .int .i64 k ∧ wr.cell? ⟨w.heap.size, 0, none⟩ = some (.string n) ∧ wr.cell? ⟨w.heap.size, 1, none⟩ = some (.string v) ∧ Below w.heap.size w wr ∧ (∀ j, j < k → ¬ (ns.getD j ByteArray.empty = n ∧ vs.getD j ByteArray.empty = v))) (fun i _ => ns.length - (intOf i).toNat)
  case atStart => exact ⟨0, Nat.zero_le _, rfl, by simp, by simp, (Below.refl _ _).alloc (Nat.le_refl _) _, fun j hj => absurd hj (by omega)⟩
  case round =>
    obtain ⟨k, hk, rfl, hc0, hc1, hnx, hno⟩ := hrel
    by_cases hlt : k < ns.length
    · obtain ⟨b, off, rfl, hb, hc⟩ := h.2.2 (by omega)
      have g0 : wr.cell? ⟨b, off + k * 2, none⟩ = some (.string (ns.getD k ByteArray.empty)) := (hnx.cell (by exact hb)).trans (hc k hlt).1
      have g1 : wr.cell? ⟨b, off + k * 2 + 1, none⟩ = some (.string (vs.getD k ByteArray.empty)) := (hnx.cell (by exact hb)).trans (hc k hlt).2
      obtain ⟨x, hx⟩ : ∃ x, x = ns.getD k ByteArray.empty := ⟨_, rfl⟩
      obtain ⟨y, hy⟩ : ∃ y, y = vs.getD k ByteArray.empty := ⟨_, rfl⟩
      rw [← hx] at g0
      rw [← hy] at g1
      have HX : Hid (x = ns.getD k ByteArray.empty) := hx
      have HY : Hid (y = vs.getD k ByteArray.empty) := hy
      clear hx hy hc
      cases e1 : (n.toList == x.toList)
      all_goals cases e2 : (v.toList == y.toList)
      all_goals
        go_wp2
        go_quiet (fail)
        go_wp2
      all_goals first
        | (have hq : (n.toList == x.toList) = false ∨ (v.toList == y.toList) = false := by first | exact .inl e1 | exact .inr e2
           have hne : ¬ (ns.getD k ByteArray.empty = n ∧ vs.getD k ByteArray.empty = v) := by
             rw [← HX.out, ← HY.out]
             rintro ⟨q1, q2⟩
             rcases hq with hq | hq
             · exact toList_ne hq q1.symm
             · exact toList_ne hq q2.symm
           go_roundw
           case rel => exact ⟨k + 1, by omega, by go_num, hc0, hc1, below_drewN hnx _, fun j hj => by rcases Nat.lt_or_ge j k with q | q; exact hno j q; exact (show j = k from by omega) ▸ hne⟩
           case measure => simp [intOf]; omega)
        | (go_ret
           exact ⟨_, rfl, ⟨fun _ => ⟨k, hlt, by rw [← HX.out]; exact (toList_inj e1).symm, by rw [← HY.out]; exact (toList_inj e2).symm⟩, fun _ => by omega⟩, below_drewN hnx _⟩)
    · go_wp2
      go_ret
      refine ⟨_, rfl, ?_, hnx⟩
      constructor
      · intro q; omega
      · rintro ⟨i, hi, q⟩
        exact absurd q (hno i (by omega))

set_option maxRecDepth 100000 in
theorem f37_any (a : Option Addr) (cap : Nat) (ns vs : List ByteArray) (n v : ByteArray) (w : World) (h : TagSl w a ns vs) :
    Calls Try.prog 37 #[.slice a ns.length cap, .agg #[.string n, .string v]] w fun e w' => ∃ b : Bool, e = .returned (.bool b) ∧ (b = true ↔ HasPair ns vs n v) ∧ Below w.heap.size w w' := by
  go_enter Try.func37, Try.ntmps37
  go_wp2_with fail
  have hb : Below w.heap.size w (w.alloc (.cells #[.string n, .string v] 49)) := (Below.refl _ _).alloc (Nat.le_refl _) _
  refine (f42_any a cap ns vs n v _ (h.below hb)).mono ?_
  rintro e w1 ⟨i, rfl, hi, hb1⟩
  have HI : Hid (0 ≤ i ↔ HasPair ns vs n v) := hi
  clear hi
  go_wp2_with fail
  go_ret
  exact ⟨_, rfl, by simp only [decide_eq_true_eq]; exact HI, hb.trans (hb1.mono hb.size)⟩

end Go.Proofs.Qxb6602559a
