import Derived.Test.Qxb6602869aLawM
import Derived.ProofKit
import Derived.OpenShut
import Derived.ShutString
import Derived.ChangeOld
import Derived.Below
import Derived.Deep.SlicePairs
namespace Go.Proofs.Qxb6602869a.fnAppendRunsMatchesBase4Model
open Go.ChangeShapes Go.WideShapes Go.ChangeAt Go.RowKit
open Go.ChangeMaps (open_string shut_string)
set_option linter.unusedVariables false

theorem own : ownKnob Try.prog.godebug = none := by kernel_rfl
theorem laidOut : laidOutB Try.prog = true := by kernel_rfl
theorem c3 : Try.prog.cellsOf 3 = 1 := by kernel_rfl
theorem c23 : Try.prog.cellsOf 23 = 1 := by kernel_rfl
theorem c28 : Try.prog.cellsOf 28 = 4 := by kernel_rfl

open Go.Deep

/-- An argument of runs, opened. -/
theorem files_open {H : Type} {enc : TypeId × Value → H} {W : World} {a : Option Addr} {len cap : Nat} {d : DataW H} {p : List MemPlace}
    (h : DataW.Trod enc Try.prog W 0 (fun _ => true) true 22 (.slice a len cap) d p) : ∃ l : List Rc, len = l.length ∧ l.length ≤ 9223372036854775807 ∧ ArgSl W a l := by
  obtain ⟨fuel, hf⟩ := h
  rcases open_slice Try.underlying22 hf with ⟨hcs, _⟩ | ⟨x, ln, c, m, n, D, Pl, hcs, _, hl, hm, hmm, _, hall⟩
  · simp [Value.cells] at hcs
    obtain ⟨rfl, rfl, rfl⟩ := hcs
    exact ⟨[], rfl, by simp, fun h => absurd h (by simp)⟩
  · simp [Value.cells] at hcs
    obtain ⟨rfl, rfl, rfl⟩ := hcs
    simp only [if_true] at hmm
    unfold maxLen at hm
    have each : ∀ i, i < len → ∃ r : Rc, W.cell? (x.add (i * 4)) = some (.int .i64 r.b) ∧ W.cell? (x.add (i * 4 + 1)) = some (.int .u64 r.p) ∧ W.cell? (x.add (i * 4 + 2)) = some (.int .i64 r.f) ∧ W.cell? (x.add (i * 4 + 3)) = some (.int .i64 r.l) := by
      intro i hi
      obtain ⟨cs', h1, h2⟩ := hall i (by omega)
      rw [c28] at h1
      obtain ⟨_, hlen, hcell⟩ := World.cells?_some h1
      obtain ⟨xs, k, hk, hxy, _, hxl, hf⟩ := DataW.trod_struct Try.underlying28 h2
      match xs, hxl, cs', hlen with
      | [y0, y1, y2, y3], _, [v0, v1, v2, v3], _ =>
        have g0 := hf 0 _ rfl
        have g1 := hf 1 _ rfl
        have g2 := hf 2 _ rfl
        have g3 := hf 3 _ rfl
        simp [c3, c23] at g0 g1 g2 g3
        have e0 := hcell 0 (by omega)
        have e1 := hcell 1 (by omega)
        have e2 := hcell 2 (by omega)
        have e3 := hcell 3 (by omega)
        rw [add_add] at e0 e1 e2 e3
        obtain ⟨n0, q0, _, _⟩ := DataW.trod_int Try.underlying3 g0
        obtain ⟨n1, q1, _, _⟩ := DataW.trod_int Try.underlying23 g1
        obtain ⟨n2, q2, _, _⟩ := DataW.trod_int Try.underlying3 g2
        obtain ⟨n3, q3, _, _⟩ := DataW.trod_int Try.underlying3 g3
        simp only [List.cons.injEq, and_true] at q0 q1 q2 q3
        subst q0 q1 q2 q3
        exact ⟨⟨n0, n1, n2, n3⟩, by simpa using e0, by simpa using e1, by simpa using e2, by simpa using e3⟩
    have hne : Inhabited Rc := ⟨rc0⟩
    obtain ⟨f, hf⟩ := choose_lt each
    have hget : ∀ i, i < len → ((List.range len).map f).getD i rc0 = f i := fun i hi => by simp [hi]
    refine ⟨(List.range len).map f, by simp, by simp; omega, fun h0 => ?_⟩
    simp at h0
    obtain ⟨b, off, spot⟩ := x
    have hspot : spot = none := by simpa [Addr.add] using World.cell?_spot (hf 0 h0).1
    subst hspot
    refine ⟨b, off, rfl, ?_, fun i hi => ?_⟩
    · have c0 := (hf 0 h0).1
      by_cases hb : b < W.heap.size
      · exact hb
      · simp [World.cell?, Addr.add, Array.getElem?_eq_none (Nat.le_of_not_lt hb)] at c0
    · simp at hi
      have := hf i hi
      rw [Go.WideShapes.add_plain, Go.WideShapes.add_plain, Go.WideShapes.add_plain, Go.WideShapes.add_plain, ← Nat.add_assoc, ← Nat.add_assoc, ← Nat.add_assoc] at this
      rw [hget i hi]
      exact this

theorem walk (a : Option Addr) (cap : Nat) (l : List Rc) (a0 : Int) (a1 : Int) (w : World) (hl : l.length ≤ 9223372036854775807) (harg : ArgSl w a l) (w0 : (Lit.int .u64 a0).wf = true) (w1 : (Lit.int .i64 a1).wf = true) :
    Calls Try.prog 3 #[.slice a l.length cap, .int .u64 a0, .int .i64 a1] w fun e w' => e = .returned (.bool true) ∧ Below w.heap.size w w' := by
  have h := bounds_u64 w0
  have h' := bounds_i64 w1
  obtain ⟨fp, rfl⟩ : ∃ fp : Nat, a0 = (fp : Int) := ⟨a0.toNat, by omega⟩
  exact f3_any fp a1 a cap l w (by omega) (by omega) hl harg

set_option maxRecDepth 100000 in
set_option maxHeartbeats 1000000 in
theorem lifted (os : Os) (started : os.Started) (H : Type) (enc : TypeId × Value → H) :
    ReturnsInHanded {} Try.checked os 3 .any (Rows.fnAppendRunsMatchesBase4ModelSpec.pre6 enc Try.prog Try.f3 Rows.fnAppendRunsMatchesBase4ModelRow.domain false) (Rows.fnAppendRunsMatchesBase4ModelSpec.post enc Try.prog Try.f3 false true false false) := by
  refine returnsInHanded_of_change (C := Try.checked) own started (by kernel_rfl) Try.func3
    (ChangeSpec.witness6 (enc := enc) (C := Try.checked) false ⟨#[], #[.slice none 0 0, .int .u64 0, .int .i64 0], []⟩ 8 (by kernel_rfl) (by kernel_rfl) (by kernel_rfl) (by kernel_rfl)) ?_
  intro W base args ds gs before hval0 hW hcnd _
  have hval : ∀ (j : Nat) t v, Try.f3.params[j]? = some t → args[j]? = some v → Value.okWide Try.prog W .any base t v := hval0
  have hW' := hW
  obtain ⟨p, q, hA0, hV, rfl, hfz, hnd⟩ := hW
  have hA : DataW.TrodAll enc Try.prog W 0 (fun _ => true) true Try.f3.params.toList args.toList ds p := hA0
  rw [Try.params3] at hA hval
  obtain ⟨v0, vs0, d0, ds0, p0, q0, hargs, rfl, rfl, h0, r0⟩ := trodAll_cons hA
  obtain ⟨v1, vs1, d1, ds1, p1, q1, rfl, rfl, rfl, h1, r1⟩ := trodAll_cons r0
  obtain ⟨v2, vs2, d2, ds2, p2, q2, rfl, rfl, rfl, h2, r2⟩ := trodAll_cons r1
  obtain ⟨rfl, rfl, rfl⟩ := trodAll_nil r2
  obtain rfl : args = #[v0, v1, v2] := by cases args; simp_all
  obtain ⟨rfl, rfl⟩ := trodVars_none hV
  obtain ⟨a0, len0, cap0, rfl⟩ := okWide_slice Try.underlying22 (hval 0 22 v0 rfl rfl)
  have k0 := h0
  have lt0 : ∀ x ∈ p0, x.block < W.heap.size := by obtain ⟨m, hm⟩ := k0; exact DataW.trod_lt m _ _ _ hm
  obtain ⟨z0, e0, w0⟩ := files_open h0
  subst e0
  obtain ⟨a1, rfl, rfl, rfl, w1⟩ := open_int Try.underlying23 (hval 1 23 v1 rfl rfl) h1
  obtain ⟨a2, rfl, rfl, rfl, w2⟩ := open_int Try.underlying3 (hval 2 3 v2 rfl rfl) h2
  clear hA0 hval0
  refine (walk a0 cap0 z0 a1 a2 W w0.1 w0.2 w1 w2).mono fun e W' ⟨he, bel⟩ => ?_
  subst he
  exact ⟨_, rfl, _, _, _, [], _, [], hW', trodAll_mk1 (shut_bool Try.underlying4 _), (trodAll_cons_mk (Below.trod laidOut (by kernel_rfl) (of_decide_eq_true (by kernel_rfl)) k0 bel lt0) (trodAll_cons_mk (shut_int Try.underlying23 w1) (trodAll_cons_mk (shut_int Try.underlying3 w2) trodAll_mk0))), rfl, bel.frame _, fun h => by cases h⟩

theorem over : Rows.fnAppendRunsMatchesBase4ModelRow.holds Try.pinned (OpenSpec.ofChange Rows.fnAppendRunsMatchesBase4ModelSpec) :=
  OpenClaim.holds_of_wide 3 Try.f3 rfl rfl rfl rfl rfl rfl rfl ⟨rfl, rfl, rfl, rfl, rfl⟩ rfl rfl rfl rfl rfl (by kernel_rfl) Try.func3 (by kernel_rfl)
    (of_decide_eq_true (by kernel_rfl)) (by unfold Func.isWrapper; first | (rw [if_pos (by decide +kernel)]; kernel_rfl) | (rw [if_neg (by decide +kernel)]; exact ⟨rfl, rfl⟩))
    (fun os started H enc _ => lifted os started H enc)

/-- THE STATEMENT -/
theorem proved : Rows.FnAppendRunsMatchesBase4ModelSaid := over
#print axioms proved
end Go.Proofs.Qxb6602869a.fnAppendRunsMatchesBase4Model
