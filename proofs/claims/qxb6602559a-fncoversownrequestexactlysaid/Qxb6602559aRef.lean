import Derived.Test.Qxb6602559aBytes
import Derived.Maps.Own
import Derived.Maps.OwnOps
import Derived.Maps.OwnSet
import Derived.Maps.RangeWalk
import Derived.Maps.StringElems
import Derived.RegionTactic
import Derived.BigRegion
import Derived.ChangeAlike
namespace Go.Proofs.Qxb6602559a
open Go.RowKit Go.WideMaps Go.Maps

theorem law : Keyed Try.prog 9 := string_keyed Try.underlying9
theorem zero9 (w : World) : (zeroValue 9).run Try.prog w = .ok (.string ByteArray.empty) w := by kernel_rfl

/-- The field Tags of a reference: nil, or a map; 'D': what it reads as. -/
def Tags (w : World) (m : Option Nat) (D : DataW Unit) : Prop :=
  (m = none ∧ D = .map []) ∨ ∃ b n, m = some b ∧ w.ownsMap Try.prog 9 (plainElem Try.prog 9) b n D

/-- Block g is a reference. -/
structure Ref (w : World) (g : Nat) (sk sn : ByteArray) (D : DataW Unit) : Prop where
  m : ∃ m, w.cell? ⟨g, 2, none⟩ = some (.map m) ∧ Tags w m D
  c0 : w.cell? ⟨g, 0, none⟩ = some (.string sk)
  c1 : w.cell? ⟨g, 1, none⟩ = some (.string sn)

theorem run_makeMap_hint (n : Int) (w : World) : (Instr.makeMap 51 (some (.int .i64 n))).run Try.prog w = .ok (.map (some w.heap.size)) (w.alloc (.map #[] 0)) := by
  simp [Instr.makeMap, run_underlying Try.underlying51, asInt, asIntOf, Result.andThen]

set_option maxRecDepth 100000 in
set_option maxHeartbeats 1000000 in
theorem f27_some (sk sn : ByteArray) (b off b' off' : Nat) (cap cap' : Nat) (ss ss' : List ByteArray) (w : World) (hl : ss.length ≤ 4096) (hl0 : 0 < ss.length) (hll : ss'.length = ss.length)
    (hs : ∀ i, (ss.getD i ByteArray.empty).size ≤ maxLen) (hs' : ∀ i, (ss'.getD i ByteArray.empty).size ≤ maxLen) (hb : b < w.heap.size) (hb' : b' < w.heap.size)
    (hc : ∀ i, i < ss.length → w.cell? ⟨b, off + i, none⟩ = some (.string (ss.getD i ByteArray.empty)))
    (hc' : ∀ i, i < ss.length → w.cell? ⟨b', off' + i, none⟩ = some (.string (ss'.getD i ByteArray.empty))) :
    Calls Try.prog 27 #[.string sk, .string sn, .slice (some ⟨b, off, none⟩) ss.length cap, .slice (some ⟨b', off', none⟩) ss.length cap'] w fun e w' =>
      ∃ g D, e = .returned (.pointer (some ⟨g, 0, none⟩)) ∧ Ref w' g sk sn D ∧ Below w.heap.size w w' := by
  have hmm := run_makeMap_hint
  go_enter Try.func27, Try.ntmps27
  go_wp2
  go_loopw [19] (fun i wr => ∃ k : Nat, k ≤ ss.length ∧ i = .int .i64 k ∧ (∃ D, wr.ownsMap Try.prog 9 (plainElem (H := Unit) Try.prog 9) w.heap.size k D) ∧ Below w.heap.size w wr)
    (fun i _ => ss.length - (intOf i).toNat)
  case atStart => exact ⟨0, Nat.zero_le _, rfl, ⟨_, World.ownsMap_made _ _ _ _⟩, (Below.refl _ _).alloc (Nat.le_refl _) _⟩
  case round =>
    obtain ⟨k, hk, rfl, ⟨D, hown⟩, hnx⟩ := hrel
    by_cases hlt : k < ss.length
    · have hck : wr.cell? ⟨b, off + k, none⟩ = some (.string (ss.getD k ByteArray.empty)) := (hnx.cell (by exact hb)).trans (hc k hlt)
      have hck' : wr.cell? ⟨b', off' + k, none⟩ = some (.string (ss'.getD k ByteArray.empty)) := (hnx.cell (by exact hb')).trans (hc' k hlt)
      have hsk := hs k
      have hsk' := hs' k
      clear hc hc' hs hs' hmm
      generalize ss.getD k ByteArray.empty = s at *
      generalize ss'.getD k ByteArray.empty = s' at *
      obtain ⟨w1, hrun, hown1, hg1⟩ := hown.drew.update law Try.underlying51 (by unfold maxLen; omega) (keyOf_string_mk Try.underlying9 hsk) (plainElem_string Try.underlying9 hsk')
      have R2 := (hnx.drew).grown hg1 hnx.size (fun j hj => by cases hj; exact Nat.le_refl _)
      clear hown hg1
      go_wp2
      go_region
      all_goals
        go_wp2
        go_roundw
        case rel => exact ⟨k + 1, by omega, by go_num, ⟨_, hown1⟩, R2⟩
        case measure => simp [intOf]; omega
    · go_wp2
      go_ret
      refine ⟨_, D, rfl, ⟨⟨_, ?_, .inr ⟨_, _, rfl, hown.alloc _⟩⟩, ?_, ?_⟩, hnx.alloc hnx.size _⟩
      all_goals simp

set_option maxRecDepth 100000 in
theorem f27_none (sk sn : ByteArray) (a a' : Option Addr) (cap cap' : Nat) (w : World) :
    Calls Try.prog 27 #[.string sk, .string sn, .slice a 0 cap, .slice a' 0 cap'] w fun e w' =>
      ∃ g D, e = .returned (.pointer (some ⟨g, 0, none⟩)) ∧ Ref w' g sk sn D ∧ Below w.heap.size w w' := by
  go_enter Try.func27, Try.ntmps27
  go_wp2
  go_ret
  refine ⟨_, .map [], rfl, ⟨⟨none, ?_, .inl ⟨rfl, rfl⟩⟩, ?_, ?_⟩, (Below.refl _ _).alloc (Nat.le_refl _) _⟩
  all_goals simp

theorem f27_any (sk sn : ByteArray) (a a' : Option Addr) (cap cap' : Nat) (ss ss' : List ByteArray) (w : World) (hl : ss.length ≤ 4096) (hll : ss'.length = ss.length) (h : StrSl w a ss) (h' : StrSl w a' ss') :
    Calls Try.prog 27 #[.string sk, .string sn, .slice a ss.length cap, .slice a' ss.length cap'] w fun e w' =>
      ∃ g D, e = .returned (.pointer (some ⟨g, 0, none⟩)) ∧ Ref w' g sk sn D ∧ Below w.heap.size w w' := by
  by_cases h0 : ss.length = 0
  · rw [h0]
    exact f27_none sk sn a a' cap cap' w
  · obtain ⟨b, off, rfl, hb, hc⟩ := h.2.2 (by omega)
    obtain ⟨b', off', rfl, hb', hc'⟩ := h'.2.2 (by omega)
    exact f27_some sk sn b off b' off' cap cap' ss ss' w hl (by omega) hll h.2.1 h'.2.1 hb hb' hc (fun i hi => hc' i (by omega))

theorem Tags.below {w w' : World} {m : Option Nat} {D : DataW Unit} (h : Tags w m D) (hb : Below w.heap.size w w') : Tags w' m D := by
  rcases h with h | ⟨b, n, rfl, es, clock, hh, r⟩
  · exact .inl h
  · have hlt : b < w.heap.size := by
      have := (Array.getElem?_eq_some_iff.1 hh).1
      exact this
    exact .inr ⟨b, n, rfl, es, clock, by rw [hb.block b hlt]; exact hh, r⟩

theorem Ref.lt {w : World} {g : Nat} {sk sn : ByteArray} {D : DataW Unit} (h : Ref w g sk sn D) : g < w.heap.size := by
  have := h.c0
  by_cases hg : g < w.heap.size
  · exact hg
  · simp [World.cell?, Array.getElem?_eq_none (Nat.le_of_not_lt hg)] at this

theorem Ref.below {w w' : World} {g : Nat} {sk sn : ByteArray} {D : DataW Unit} (h : Ref w g sk sn D) (hb : Below w.heap.size w w') : Ref w' g sk sn D := by
  have hlt := h.lt
  obtain ⟨m, hm, ht⟩ := h.m
  exact ⟨⟨m, (hb.cell (by exact hlt)).trans hm, ht.below hb⟩, (hb.cell (by exact hlt)).trans h.c0, (hb.cell (by exact hlt)).trans h.c1⟩

end Go.Proofs.Qxb6602559a
