import Derived.Test.Qxb6602559aCov1
import Derived.Maps.Own
import Derived.Maps.OwnOps
import Derived.Maps.OwnSet
import Derived.Maps.Views
import Derived.Deep.AppendLies
import Derived.Deep.RegionHeld3
namespace Go.Proofs.Qxb6602559a
open Go.RowKit Go.WideMaps Go.Maps

theorem law9 : Keyed Try.prog 9 := string_keyed Try.underlying9
theorem zero25 (w : World) : (zeroValue 25).run Try.prog w = .ok (.slice none 0 0) w := by kernel_rfl

/-- An element is read as itself. -/
def Rtok (v : Value) : Option (DataW Value × List MemPlace) := some (.held v, [])

/-- Block B is a map from strings to slices of strings; 'G s': the strings at key s; each slice lies in a row of its own from block 'base' on. -/
def Grp (w : World) (base B n : Nat) (G : List UInt8 → List ByteArray) : Prop :=
  ∃ (D : DataW Value) (V : List UInt8 → Value), w.ownsMap Try.prog 9 Rtok B n D ∧ (∀ s, D.atKey (.string s) (.held (.slice none 0 0)) = .held (V s)) ∧
    (∀ s, (G s).length ≤ n) ∧ (∀ s, w.ownsRow base 9 1 (V s) (G s).length ((G s).map Value.string)) ∧ (∀ s s' b, (V s).ownBlock = some b → (V s').ownBlock = some b → s = s')

/-- a slice's strings can be read in w. -/
def SlOf (w : World) (a : Option Addr) (l : List ByteArray) : Prop :=
  0 < l.length → ∃ b, a = some ⟨b, 0, none⟩ ∧ b < w.heap.size ∧ ∀ i, i < l.length → w.cell? ⟨b, i, none⟩ = some (.string (l.getD i ByteArray.empty))

theorem slOf_of_owns {w : World} {base n : Nat} {v : Value} {l : List ByteArray} (h : w.ownsRow base 9 1 v n (l.map Value.string)) (hn : n = l.length) : ∃ a cap, v = .slice a l.length cap ∧ SlOf w a l := by
  subst hn
  rcases h.2 with ⟨rfl, h0⟩ | ⟨g, cap, cur, rfl, _, hh, hnc, _, hcs, ht⟩
  · exact ⟨none, 0, by rw [h0], fun q => by omega⟩
  · refine ⟨_, cap, rfl, fun q => ⟨g, rfl, ?_, fun i hi => ?_⟩⟩
    · exact (Array.getElem?_eq_some_iff.1 hh).1
    · have h1 : cur.toList[i]? = some (.string (l.getD i ByteArray.empty)) := by
        have : (cur.toList.take (l.length * 1))[i]? = some (.string (l.getD i ByteArray.empty)) := by
          rw [ht, List.getElem?_map, List.getElem?_eq_getElem hi, List.getD_eq_getElem?_getD, List.getElem?_eq_getElem hi]
          rfl
        rw [List.getElem?_take_of_lt (by omega)] at this
        exact this
      simp [World.cell?, hh]
      simpa using h1

theorem look_eq {w : World} {B n : Nat} {D : DataW Value} {s : ByteArray} {v : Value} (hown : w.ownsMap Try.prog 9 Rtok B n D) (hs : s.size ≤ maxLen) (hat : D.atKey (.string s.data.toList) (.held (.slice none 0 0)) = .held v) :
    (Instr.lookup 30 (.map (some B)) (.string s) false).run Try.prog w = .ok v w := by
  obtain ⟨v', ps, hrun, hv⟩ := hown.lookup law9 Try.underlying30 (zero25 w) (zd := .held (.slice none 0 0)) (zp := []) rfl (keyOf_string_mk (P := Try.prog) (k := 9) Try.underlying9 hs)
  rw [hat] at hv
  have : v' = v := by
    simp only [Rtok, Option.some.injEq, Prod.mk.injEq] at hv
    injection hv.1
  rw [← this]
  exact hrun

theorem wpList_lookup_grp (w : World) {ops : Array Oper} {rest : List Oper} {o : Oper} {a : Act} {Q : Exit → Act → World → Prop}
    (hg : o.guard = none) (m x : Operand) (hop : o.op = Op.lookup 30 m x false) (base B n : Nat) (G : List UInt8 → List ByteArray) (hm : a.eval m = .map (some B)) (h : Grp w base B n G)
    (s : ByteArray) (hx : a.eval x = .string s) (hs : s.size ≤ maxLen)
    (hK : ∀ ao cap, SlOf w ao (G s.data.toList) → (G s.data.toList).length ≤ n → wpList Try.prog ops Q rest (a.put o.dst (.slice ao (G s.data.toList).length cap)) w) :
    wpList Try.prog ops Q (o :: rest) a w := by
  obtain ⟨D, V, hown, hat, hle, hrow, hne⟩ := h
  have hrun := look_eq hown hs (hat s.data.toList)
  obtain ⟨ao, cap, hv, hsl⟩ := slOf_of_owns (hrow s.data.toList) rfl
  rw [hv] at hrun
  refine wpList_plain hg fun K' hK' => ?_
  unfold Oper.wp
  simp [execOp, hop, hm, hx, hrun, Result.andThen]
  exact hK' _ _ (hK ao cap hsl (hle _))

theorem Grp.below {w w' : World} {base B n : Nat} {G : List UInt8 → List ByteArray} (h : Grp w base B n G) (hb : Below w.heap.size w w') : Grp w' base B n G := by
  obtain ⟨D, V, ⟨es, clock, hh, r⟩, hat, hle, hrow, hne⟩ := h
  refine ⟨D, V, ⟨es, clock, ?_, r⟩, hat, hle, fun s => ?_, hne⟩
  · rw [hb.block B (Array.getElem?_eq_some_iff.1 hh).1]; exact hh
  · obtain ⟨h1, h2⟩ := hrow s
    refine ⟨h1, ?_⟩
    rcases h2 with h2 | ⟨g, cap, cur, hv, hg, hh, r⟩
    · exact .inl h2
    · exact .inr ⟨g, cap, cur, hv, hg, by rw [hb.block g (Array.getElem?_eq_some_iff.1 hh).1]; exact hh, r⟩

/-- what 'covers' says. -/
def Cov (ns vs : List ByteArray) (G : List UInt8 → List ByteArray) (i : Nat) : Prop :=
  G (ns.getD i ByteArray.empty).data.toList ≠ [] ∧ ∀ j, j < (G (ns.getD i ByteArray.empty).data.toList).length → HasPair ns vs (ns.getD i ByteArray.empty) ((G (ns.getD i ByteArray.empty).data.toList).getD j ByteArray.empty)

def RetSays2 (w : World) (p : Prop) (e : Ending) (w' : World) : Prop := ∃ b : Bool, e = .returned (.bool b) ∧ (b = true ↔ p) ∧ Below w.heap.size w w'

theorem SlOf.below {w w' : World} {a : Option Addr} {l : List ByteArray} (h : SlOf w a l) (hb : Below w.heap.size w w') : SlOf w' a l := fun q => by
  obtain ⟨b, e, hlt, hc⟩ := h q
  exact ⟨b, e, Nat.lt_of_lt_of_le hlt hb.size, fun i hi => (hb.cell (by exact hlt)).trans (hc i hi)⟩

set_option maxRecDepth 100000 in
set_option maxHeartbeats 1000000 in
theorem f30_any (g base B n : Nat) (ns vs : List ByteArray) (G : List UInt8 → List ByteArray) (w : World) (ht : Tok w g ns vs) (hs : ∀ i, (ns.getD i ByteArray.empty).size ≤ maxLen) (hgp : Grp w base B n G) (hn : n ≤ 10000) :
    Calls Try.prog 30 #[.pointer (some ⟨g, 0, none⟩), .map (some B)] w fun e w' => RetSays2 w (∀ i, i < ns.length → Cov ns vs G i) e w' := by
  obtain ⟨a, cap, hc0, htag⟩ := ht
  have hlen := htag.1
  have hglt := World.block_lt_of_cell? _ _ hc0
  simp only at hglt
  go_enter Try.func30, Try.ntmps30
  go_wp2
  go_loopw [15] (fun i wr => ∃ (k : Nat), k ≤ ns.length ∧ i = .int .i64 k ∧ Below w.heap.size w wr ∧ ∀ j, j < k → Cov ns vs G j) (fun i _ => ns.length - (intOf i).toNat)
  case atStart => exact ⟨0, Nat.zero_le _, rfl, Below.refl _ _, fun j hj => absurd hj (by omega)⟩
  case round =>
    rename World => w1
    obtain ⟨k, hk, rfl, hnx, hall⟩ := hrel
    by_cases hlt : k < ns.length
    · obtain ⟨b, off, rfl, hb, hc⟩ := htag.2.2 (by omega)
      have g0 : w1.cell? ⟨b, off + k * 2, none⟩ = some (.string (ns.getD k ByteArray.empty)) := (hnx.cell (by exact hb)).trans (hc k hlt).1
      have g1 : w1.cell? ⟨b, off + k * 2 + 1, none⟩ = some (.string (vs.getD k ByteArray.empty)) := (hnx.cell (by exact hb)).trans (hc k hlt).2
      have hsk := hs k
      have hgp1 := hgp.below hnx
      obtain ⟨x, hx⟩ : ∃ x, x = ns.getD k ByteArray.empty := ⟨_, rfl⟩
      obtain ⟨y, hy⟩ : ∃ y, y = vs.getD k ByteArray.empty := ⟨_, rfl⟩
      rw [← hx] at g0 hsk
      rw [← hy] at g1
      have HX : Hid (x = ns.getD k ByteArray.empty) := hx
      have HA : Hid (∀ j, j < k → Cov ns vs G j) := hall
      have HC0 : Hid (w.cell? ⟨g, 0, none⟩ = some (.slice (some ⟨b, off, none⟩) ns.length cap)) := hc0
      clear hx hy hc hall hs hc0
      go_wp2_with (first | (at_lookup; refine wpList_lookup_grp _ rfl _ _ rfl base B n G rfl (hgp1.below ((Below.refl _ _).alloc (Nat.le_refl _) _)) x rfl hsk ?_) | go_in)
      intro ao cap' hsl hle
      generalize hl : G x.data.toList = l at *
      have HL : Hid (G x.data.toList = l) := hl
      clear hl hgp1
      by_cases h0 : l.length = 0
      · go_wp2_with fail
        go_ret
        refine ⟨false, rfl, ?_, hnx.alloc hnx.size _⟩
        simp only [Bool.false_eq_true, false_iff]
        intro q
        have := (q k hlt).1
        rw [← HX.out, HL.out] at this
        exact this (List.eq_nil_of_length_eq_zero h0)
      · have hl0 : ((l.length : Int) == 0) = false := by simp; intro q; exact h0 (by simp [q])
        go_wp2_with fail
        go_loopw [28] (fun i wv => ∃ (m : Nat), m ≤ l.length ∧ i = .int .i64 m ∧ Below w1.heap.size w1 wv ∧ Below (w1.heap.size + 1) (w1.alloc (.cells #[.string x, .string y] 49)) wv ∧ wv.cell? ⟨w1.heap.size, 0, none⟩ = some (.string x) ∧ ∀ j, j < m → HasPair ns vs x (l.getD j ByteArray.empty)) (fun i _ => l.length - (intOf i).toNat)
        case atStart => exact ⟨0, Nat.zero_le _, rfl, (Below.refl _ _).alloc (Nat.le_refl _) _, Below.refl _ _, by simp, fun j hj => absurd hj (by omega)⟩
        case round =>
          rename World => wv
          obtain ⟨m, hm, rfl, hnv, hnv2, hcx, hin⟩ := hrel
          by_cases hltm : m < l.length
          · obtain ⟨gb, rfl, hgb, hcl⟩ := hsl (by omega)
            have hnw : Below w.heap.size w wv := hnx.trans (hnv.mono hnx.size)
            have c1 : wv.cell? ⟨gb, m, none⟩ = some (.string (l.getD m ByteArray.empty)) := (hnv2.cell (by simpa using hgb)).trans (hcl m hltm)
            have hl1 : w1.heap.size < wv.heap.size := by simpa using World.block_lt_of_cell? _ _ hcx
            have c2 : wv.cell? ⟨g, 0, none⟩ = some (.slice (some ⟨b, off, none⟩) ns.length cap) := (hnw.cell (by exact hglt)).trans HC0.out
            have htv := htag.below hnw
            have hl2 : g < wv.heap.size := Nat.lt_of_lt_of_le hglt hnw.size
            generalize hv : l.getD m ByteArray.empty = v at *
            have HV : Hid (l.getD m ByteArray.empty = v) := hv
            have HIn : Hid (∀ j, j < m → HasPair ns vs x (l.getD j ByteArray.empty)) := hin
            clear hv hin hcl hsl htag hgp
            go_wp2_with fail
            go_region_held3 (fun w' => w'.cell? ⟨g, 0, none⟩ = some (.slice (some ⟨b, off, none⟩) ns.length cap) ∧ w'.cell? ⟨w1.heap.size, 0, none⟩ = some (.string x)) (first | go_keep | (exact ⟨(hb3.cell (by exact hl2)).trans c2, (hb3.cell (by exact hl1)).trans hcx⟩))
              ((go_at_call 37; refine (f37_any _ _ ns vs x v _ (htv.below (Below.refl _ _).drew)).mono ?_; rintro e w3 ⟨bb, rfl, hbb, hb3⟩))
            have hw3 : Below w1.heap.size w1 w3 := hnv.trans ((Below.refl _ _).drew.trans (hb3.mono (Nat.le_of_lt hl1)))
            have hw4 : Below (w1.heap.size + 1) (w1.alloc (.cells #[.string x, .string y] 49)) w3 := hnv2.trans ((Below.refl _ _).drew.trans (hb3.mono hl1))
            have HB : Hid (bb = true ↔ HasPair ns vs x v) := hbb
            have hcx3 := (hb3.cell (p := ⟨w1.heap.size, 0, none⟩) (by exact hl1)).trans hcx
            clear hbb hb3 hnv hnv2 hcx
            cases bb
            · go_wp2
              go_ret
              refine ⟨false, rfl, ?_, hnx.trans (hw3.mono hnx.size)⟩
              simp only [Bool.false_eq_true, false_iff]
              intro q
              have := (q k hlt).2 m
              rw [← HX.out, HL.out, HV.out] at this
              exact absurd (HB.out.2 (this hltm)) (by simp)
            · go_wp2
              go_roundw
              case rel =>
                refine ⟨m + 1, by omega, by go_num, hw3, hw4, hcx3, fun j hj => ?_⟩
                rcases Nat.lt_or_ge j m with q | q
                · exact HIn.out j q
                · obtain rfl : j = m := by omega
                  rw [HV.out]
                  exact HB.out.1 (by simp)
              case measure => simp [intOf]; omega
          · have hcov : Hid (Cov ns vs G k) := by
              unfold Cov Hid
              rw [← HX.out, HL.out]
              exact ⟨fun q => h0 (by rw [q]; rfl), fun j hj => hin j (by omega)⟩
            clear hin hgp htag hsl
            go_wp2
            go_roundw
            case rel =>
              refine ⟨k + 1, by omega, by go_num, hnx.trans (hnv.mono hnx.size), fun j hj => ?_⟩
              rcases Nat.lt_or_ge j k with q | q
              · exact HA.out j q
              · obtain rfl : j = k := by omega
                exact hcov.out
            case measure => simp [intOf]; omega
    · go_wp2
      go_ret
      refine ⟨true, rfl, ?_, hnx⟩
      simp only [true_iff]
      exact fun i hi => hall i (by omega)

end Go.Proofs.Qxb6602559a
