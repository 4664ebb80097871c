import Derived.Test.Qxb6602565aLawC
import Derived.ProofKit
import Derived.OpenShut
import Derived.ShutString
import Derived.ChangeOld
import Derived.Below
import Derived.Deep.SlicePairs
namespace Go.Proofs.Qxb6602565a.fnCompactThenIndexMatchesRuns
open Go.ChangeShapes Go.WideShapes Go.ChangeAt Go.RowKit
open Go.ChangeMaps (open_string shut_string)
set_option linter.unusedVariables false

theorem own : ownKnob Try.prog.godebug = none := by kernel_rfl
theorem laidOut : laidOutB Try.prog = true := by kernel_rfl

open Go.Deep

def natOf : Value → Nat | .int _ q => q.toNat | _ => 0

theorem accs_open {H : Type} {enc : TypeId × Value → H} {W : World} {a : Option Addr} {len cap : Nat} {d : DataW H} {p : List MemPlace}
    (h : DataW.Trod enc Try.prog W 0 (fun _ => true) true 51 (.slice a len cap) d p) : ∃ As : List (Nat × Nat), len = As.length ∧ As.length ≤ 9223372036854775807 ∧ AccSl W a As ∧ ∀ i, (As.getD i (0, 0)).2 < 18446744073709551616 := by
  obtain ⟨fuel, hf⟩ := h
  rcases open_slice_pairs Try.underlying51 Try.underlying54 (by kernel_rfl) rfl rfl (by kernel_rfl) (by kernel_rfl) hf with ⟨hcs, _⟩ | ⟨x, l, c, m, n, V0, V1, D0, D1, P0, P1, hcs, _, hl, hm, hmm, _, hall⟩
  · simp [Value.cells] at hcs
    obtain ⟨rfl, rfl, rfl⟩ := hcs
    exact ⟨[], rfl, by simp, fun h => absurd h (by simp), fun i => by simp⟩
  · simp [Value.cells] at hcs
    obtain ⟨rfl, rfl, rfl⟩ := hcs
    simp only [if_true] at hmm
    unfold maxLen at hm
    have each : ∀ i, i < len → W.cell? (x.add (i * 2)) = some (.int .u64 (natOf (V0 i) : Int)) ∧ W.cell? (x.add (i * 2 + 1)) = some (.int .u64 (natOf (V1 i) : Int)) ∧ natOf (V1 i) < 18446744073709551616 := by
      intro i hi
      obtain ⟨h0, h1, t0, t1⟩ := hall i (by omega)
      obtain ⟨n0, e0, _, w0⟩ := DataW.trod_int Try.underlying48 t0
      obtain ⟨n1, e1, _, w1⟩ := DataW.trod_int Try.underlying48 t1
      have e0' : V0 i = .int .u64 n0 := by simpa using e0
      have e1' : V1 i = .int .u64 n1 := by simpa using e1
      have b0 := bounds_u64 w0
      have b1 := bounds_u64 w1
      rw [h0, h1, e0', e1']
      simp only [natOf]
      refine ⟨by rw [Int.toNat_of_nonneg b0.1], by rw [Int.toNat_of_nonneg b1.1], by omega⟩
    have hget : ∀ i, i < len → ((List.range len).map fun i => (natOf (V0 i), natOf (V1 i))).getD i (0, 0) = (natOf (V0 i), natOf (V1 i)) := fun i hi => by simp [hi]
    refine ⟨(List.range len).map fun i => (natOf (V0 i), natOf (V1 i)), by simp, by simp; omega, fun h0 => ?_, fun i => ?_⟩
    · simp at h0
      obtain ⟨b, off, spot⟩ := x
      have hspot : spot = none := by simpa [Addr.add] using World.cell?_spot (each 0 h0).1
      subst hspot
      refine ⟨b, off, rfl, ?_, fun i hi => ?_⟩
      · have c0 := (each 0 h0).1
        by_cases hb : b < W.heap.size
        · exact hb
        · simp [World.cell?, Addr.add, Array.getElem?_eq_none (Nat.le_of_not_lt hb)] at c0
      · simp at hi
        rw [hget i hi, ← Go.WideShapes.add_plain, Nat.add_assoc, ← Go.WideShapes.add_plain]
        exact ⟨(each i hi).1, (each i hi).2.1⟩
    · by_cases hi : i < len
      · rw [hget i hi]; exact (each i hi).2.2
      · rw [List.getD_eq_getElem?_getD, List.getElem?_eq_none (by simp; omega)]
        decide

theorem nums_open {H : Type} {enc : TypeId × Value → H} {W : World} {a : Option Addr} {len cap : Nat} {d : DataW H} {p : List MemPlace}
    (h : DataW.Trod enc Try.prog W 0 (fun _ => true) true 43 (.slice a len cap) d p) : ∃ m : List Nat, len = m.length ∧ m.length ≤ cap ∧ cap ≤ 9223372036854775807 ∧ NumSl W a m ∧ ∀ i, m.getD i 0 < 18446744073709551616 := by
  obtain ⟨fuel, hf⟩ := h
  rcases open_ints Try.underlying43 Try.underlying48 (by kernel_rfl) hf with ⟨hcs, _⟩ | ⟨x, l, c, zs, hcs, _, hl, hm, hz, _, hcell, hwz⟩
  · simp [Value.cells] at hcs
    obtain ⟨rfl, rfl, rfl⟩ := hcs
    exact ⟨[], rfl, by simp, by omega, fun h => absurd h (by simp), fun i => by simp⟩
  · simp [Value.cells] at hcs
    obtain ⟨rfl, rfl, rfl⟩ := hcs
    simp only [if_true] at hz
    unfold maxLen at hm
    have hget : ∀ i, i < len → (((zs.take len).map Int.toNat).getD i 0 : Int) = zs.getD i 0 ∧ ((zs.take len).map Int.toNat).getD i 0 < 18446744073709551616 := by
      intro i hi
      have hi' : i < zs.length := by omega
      have hw := hwz zs[i] (List.getElem_mem hi')
      have hb := bounds_u64 hw
      rw [List.getD_eq_getElem?_getD, List.getElem?_map, List.getElem?_take_of_lt hi, List.getElem?_eq_getElem hi', List.getD_eq_getElem?_getD, List.getElem?_eq_getElem hi']
      simp
      omega
    refine ⟨(zs.take len).map Int.toNat, by simp; omega, by simp; omega, by omega, fun h0 => ?_, fun i => ?_⟩
    · simp at h0
      obtain ⟨b, off, spot⟩ := x
      have hspot : spot = none := by simpa [Addr.add] using World.cell?_spot (hcell 0 (by omega))
      subst hspot
      refine ⟨b, off, rfl, ?_, fun i hi => ?_⟩
      · have c0 := hcell 0 (by omega)
        by_cases hb : b < W.heap.size
        · exact hb
        · simp [World.cell?, Addr.add, Array.getElem?_eq_none (Nat.le_of_not_lt hb)] at c0
      · simp at hi
        rw [← Go.WideShapes.add_plain, hcell i (by omega), (hget i (by omega)).1]
    · by_cases hi : i < len
      · exact (hget i hi).2
      · rw [List.getD_eq_getElem?_getD, List.getElem?_eq_none (by simp; omega)]
        decide

set_option maxRecDepth 100000 in
set_option maxHeartbeats 1000000 in
theorem lifted (os : Os) (started : os.Started) (H : Type) (enc : TypeId × Value → H) :
    ReturnsInHanded {} Try.checked os 7 .any (Rows.fnCompactThenIndexMatchesRunsSpec.pre6 enc Try.prog Try.f7 Rows.fnCompactThenIndexMatchesRunsRow.domain false) (Rows.fnCompactThenIndexMatchesRunsSpec.post enc Try.prog Try.f7 false true false false) := by
  refine returnsInHanded_of_change (C := Try.checked) own started (by kernel_rfl) Try.func7
    (ChangeSpec.witness6 (enc := enc) (C := Try.checked) false ⟨#[], #[.slice none 0 0, .slice none 0 0], []⟩ 8 (by kernel_rfl) (by kernel_rfl) (by kernel_rfl) (by kernel_rfl)) ?_
  intro W base args ds gs before hval0 hW hcnd _
  have hval : ∀ (j : Nat) t v, Try.f7.params[j]? = some t → args[j]? = some v → Value.okWide Try.prog W .any base t v := hval0
  have hW' := hW
  obtain ⟨p, q, hA0, hV, rfl, hfz, hnd⟩ := hW
  have hA : DataW.TrodAll enc Try.prog W 0 (fun _ => true) true Try.f7.params.toList args.toList ds p := hA0
  rw [Try.params7] at hA hval
  obtain ⟨v0, vs0, d0, ds0, p0, q0, hargs, rfl, rfl, h0, r0⟩ := trodAll_cons hA
  obtain ⟨v1, vs1, d1, ds1, p1, q1, rfl, rfl, rfl, h1, r1⟩ := trodAll_cons r0
  obtain ⟨rfl, rfl, rfl⟩ := trodAll_nil r1
  obtain rfl : args = #[v0, v1] := by cases args; simp_all
  obtain ⟨rfl, rfl⟩ := trodVars_none hV
  obtain ⟨a0, len0, cap0, rfl⟩ := okWide_slice Try.underlying51 (hval 0 51 v0 rfl rfl)
  have k0 := h0
  have lt0 : ∀ x ∈ p0, x.block < W.heap.size := by obtain ⟨m, hm⟩ := k0; exact DataW.trod_lt m _ _ _ hm
  obtain ⟨z0, e0, w0⟩ := accs_open h0
  subst e0
  obtain ⟨a1, len1, cap1, rfl⟩ := okWide_slice Try.underlying43 (hval 1 43 v1 rfl rfl)
  have k1 := h1
  have lt1 : ∀ x ∈ p1, x.block < W.heap.size := by obtain ⟨m, hm⟩ := k1; exact DataW.trod_lt m _ _ _ hm
  obtain ⟨z1, e1, w1⟩ := nums_open h1
  subst e1
  clear hA0 hval0
  refine (walkC a0 a1 cap0 cap1 z0 z1 W w0.2.2 w1.2.2.2 w0.1 (Nat.le_trans w1.1 w1.2.1) w0.2.1 w1.2.2.1).mono fun e W' ⟨he, bel⟩ => ?_
  subst he
  exact ⟨_, rfl, _, _, _, [], _, [], hW', trodAll_mk1 (shut_bool Try.underlying4 _), (trodAll_cons_mk (Below.trod laidOut (by kernel_rfl) (of_decide_eq_true (by kernel_rfl)) k0 bel lt0) (trodAll_cons_mk (Below.trod laidOut (by kernel_rfl) (of_decide_eq_true (by kernel_rfl)) k1 bel lt1) trodAll_mk0)), rfl, bel.frame _, fun h => by cases h⟩

theorem over : Rows.fnCompactThenIndexMatchesRunsRow.holds Try.pinned (OpenSpec.ofChange Rows.fnCompactThenIndexMatchesRunsSpec) :=
  OpenClaim.holds_of_wide 7 Try.f7 rfl rfl rfl rfl rfl rfl rfl ⟨rfl, rfl, rfl, rfl, rfl⟩ rfl rfl rfl rfl rfl (by kernel_rfl) Try.func7 (by kernel_rfl)
    (of_decide_eq_true (by kernel_rfl)) (by unfold Func.isWrapper; first | (rw [if_pos (by decide +kernel)]; kernel_rfl) | (rw [if_neg (by decide +kernel)]; exact ⟨rfl, rfl⟩))
    (fun os started H enc _ => lifted os started H enc)

/-- THE STATEMENT -/
theorem proved : Rows.FnCompactThenIndexMatchesRunsSaid := over
#print axioms proved
end Go.Proofs.Qxb6602565a.fnCompactThenIndexMatchesRuns
