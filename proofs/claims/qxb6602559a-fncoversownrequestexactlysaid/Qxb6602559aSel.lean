import Derived.Test.Qxb6602559aRef
import Derived.Deep.QuietTactic
import Derived.BigQuiet
import Derived.WalkSmall
namespace Go.Proofs.Qxb6602559a
open Go.RowKit Go.WideMaps Go.Maps

theorem plain_empty : plainElem (H := Unit) Try.prog 9 (.string ByteArray.empty) = some (.lit (.string []), []) := plainElem_string Try.underlying9 (by decide)

/-- 'v, ok := m[k]' on a field Tags, nil or not. -/
theorem wpList_lookup_tags (w : World) {ops : Array Oper} {rest : List Oper} {o : Oper} {a : Act} {Q : Exit → Act → World → Prop}
    (hg : o.guard = none) (m x : Operand) (hop : o.op = Op.lookup 51 m x true) (mm : Option Nat) (D : DataW Unit) (hm : a.eval m = .map mm) (ht : Tags w mm D)
    (s : ByteArray) (hx : a.eval x = .string s) (hs : s.size ≤ maxLen)
    (hK : ∀ v : ByteArray, D.atKey (.string s.data.toList) (.lit (.string [])) = .lit (.string v.data.toList) →
      wpList Try.prog ops Q rest (a.put o.dst (.tuple #[.string v, .bool (Maps.has D (.string s.data.toList))])) w) :
    wpList Try.prog ops Q (o :: rest) a w := by
  have hkey := keyOf_string_mk (P := Try.prog) (k := 9) Try.underlying9 hs
  rcases ht with ⟨rfl, rfl⟩ | ⟨b, n, rfl, hown⟩
  · refine wpList_plain hg fun K' hK' => ?_
    have hrun := Maps.look_nil (w := w) true law Try.underlying51 (zero9 w) hkey
    unfold Oper.wp
    simp [execOp, hop, hm, hx, hrun, Result.andThen]
    exact hK' _ _ (hK _ rfl)
  · refine wpList_lookup_own_ok w hg m x 51 hop 9 9 law Try.underlying51 (plainElem Try.prog 9) (zero9 w) (.lit (.string [])) [] plain_empty b n D hm hown _ _ hx hkey ?_
    intro v ps hv
    obtain ⟨s', rfl, hz, _⟩ := plainElem_string_inv Try.underlying9 hv
    exact hK s' (congrArg Prod.fst hz)

/-- what 'selects' says. -/
def Sel (sk sn : ByteArray) (D : DataW Unit) (sk' sn' : ByteArray) (D' : DataW Unit) : Prop :=
  sk'.toList = sk.toList ∧ (sn.toList ≠ [] → sn'.toList = sn.toList) ∧ ∀ kl, Maps.has D kl = true → Maps.has D' kl = true ∧ ∀ z, D'.atKey kl z = D.atKey kl z

/-- It returns a bool that says p, and nothing old has turned. -/
def RetSays (w : World) (p : Prop) (e : Ending) (w' : World) : Prop := ∃ b : Bool, e = .returned (.bool b) ∧ (b = true ↔ p) ∧ Below w.heap.size w w'

set_option maxRecDepth 100000 in
set_option maxHeartbeats 1000000 in
theorem f31_no (sk sn sk' sn' : ByteArray) (D D' : DataW Unit) (g g' : Nat) (w : World) (h : Ref w g sk sn D) (h' : Ref w g' sk' sn' D')
    (hh : (sk'.toList == sk.toList) = false ∨ ((sk'.toList == sk.toList) = true ∧ sn.toList.isEmpty = false ∧ (sn'.toList == sn.toList) = false)) :
    Calls Try.prog 31 #[.pointer (some ⟨g, 0, none⟩), .pointer (some ⟨g', 0, none⟩)] w fun e w' => RetSays w (Sel sk sn D sk' sn' D') e w' := by
  have hp : Hid (¬ Sel sk sn D sk' sn' D') := by
    rintro ⟨e1, e2, _⟩
    rcases hh with hh | ⟨_, h2, h3⟩
    · simp [e1] at hh
    · rw [e2 (by intro e; simp [e] at h2)] at h3
      simp at h3
  obtain ⟨⟨m, hm, ht⟩, hk, hn⟩ := h
  obtain ⟨⟨m', hm', ht'⟩, hk', hn'⟩ := h'
  rcases hh with e1 | ⟨e1, e2, e3⟩
  all_goals
    go_enter Try.func31, Try.ntmps31
    go_wp2
    go_quiet (fail)
    go_wp2
    go_ret
    exact ⟨false, rfl, by simp; exact hp, below_drewN (Below.refl _ _) _⟩

theorem keyOf_str_inv {key : Value} {kl : Lit} (h : keyOf Try.prog 9 key = some kl) : ∃ x : ByteArray, key = .string x ∧ kl = .string x.data.toList ∧ x.size ≤ maxLen := by
  cases key <;> simp [keyOf, Try.underlying9, mapKey] at h
  exact ⟨_, rfl, by simp [h.2], h.1⟩

def Good (D D' : DataW Unit) (kl : Lit) : Prop := Maps.has D' kl = true ∧ ∀ z, D'.atKey kl z = D.atKey kl z

theorem atKey_any {D : DataW Unit} {kl : Lit} (h : Maps.has D kl = true) (z z' : DataW Unit) : D.atKey kl z = D.atKey kl z' := by
  cases D <;> try (cases h; done)
  rename_i es
  obtain ⟨p, hp, hpk⟩ := List.any_eq_true.1 h
  have hs : (es.find? (fun p => p.1.sameKey kl)).isSome = true := List.find?_isSome.2 ⟨p, hp, hpk⟩
  obtain ⟨x, hx⟩ := Option.isSome_iff_exists.1 hs
  simp [DataW.atKey, hx]

theorem good_of {D D' : DataW Unit} {kl : Lit} {s v : ByteArray} (hat : ∀ z, D.atKey kl z = .lit (.string s.data.toList)) (hv : D'.atKey kl (.lit (.string [])) = .lit (.string v.data.toList)) (hh : Maps.has D' kl = true) (hs : (v.toList == s.toList) = true) : Good D D' kl := by
  have : v = s := by
    have : v.toList = s.toList := by simpa using hs
    rw [ByteArray.toList_eq, ByteArray.toList_eq] at this
    exact WideShapes.bytes_inj this
  subst this
  exact ⟨hh, fun z => by rw [atKey_any hh z (.lit (.string [])), hv, hat]⟩

theorem not_good_of {D D' : DataW Unit} {kl : Lit} {s v : ByteArray} (hat : ∀ z, D.atKey kl z = .lit (.string s.data.toList)) (hv : D'.atKey kl (.lit (.string [])) = .lit (.string v.data.toList))
    (hs : Maps.has D' kl = false ∨ (v.toList == s.toList) = false) : ¬ Good D D' kl := by
  rintro ⟨h1, h2⟩
  rcases hs with hs | hs
  · simp [h1] at hs
  · rw [h2, hat] at hv
    have : s = v := by
      injection hv with hv
      injection hv with hv
      exact WideShapes.bytes_inj hv
    subst this
    simp at hs

theorem step_left {D D' : DataW Unit} {left : Lit → Bool} {kl : Lit} (h : ∀ k, Maps.has D k = true → left k = false → Good D D' k) (hg : Good D D' kl) :
    ∀ k, Maps.has D k = true → (left k && !k.sameKey kl) = false → Good D D' k := by
  intro k hk hl
  by_cases e : k = kl
  · rw [e]; exact hg
  · refine h k hk ?_
    rw [sameKey_ne e] at hl
    simpa using hl

set_option maxRecDepth 100000 in
set_option maxHeartbeats 1000000 in
theorem f31_yes (sk sn sk' sn' : ByteArray) (D D' : DataW Unit) (g g' : Nat) (w : World) (h : Ref w g sk sn D) (h' : Ref w g' sk' sn' D')
    (e1 : (sk'.toList == sk.toList) = true) (hh : sn.toList.isEmpty = true ∨ (sn.toList.isEmpty = false ∧ (sn'.toList == sn.toList) = true)) :
    Calls Try.prog 31 #[.pointer (some ⟨g, 0, none⟩), .pointer (some ⟨g', 0, none⟩)] w fun e w' => RetSays w (Sel sk sn D sk' sn' D') e w' := by
  have hlt := h.lt
  have hlt' := h'.lt
  have HS : Hid (Sel sk sn D sk' sn' D' ↔ ∀ kl, Maps.has D kl = true → Good D D' kl) := by
    constructor
    · exact fun h => h.2.2
    · refine fun h => ⟨by simpa using e1, fun hne => ?_, h⟩
      rcases hh with hh | ⟨_, hh⟩
      · exact absurd (by simpa using hh) hne
      · simpa using hh
  obtain ⟨⟨m, hm, ht⟩, hk, hn⟩ := h
  obtain ⟨⟨m', hm', ht'⟩, hk', hn'⟩ := h'
  rcases ht with ⟨rfl, hD⟩ | ⟨b, n, rfl, hown⟩
  · have hS : Hid (Sel sk sn D sk' sn' D') := HS.out.2 fun k hk => by rw [hD] at hk; cases hk
    have hr := fun w => run_range_nilMap (P := Try.prog) w 51 9 9 Try.underlying51
    have hn2 : ∀ (w : World) (k : Nat), (Instr.next (.pointer (some ⟨w.heap.size, 0, none⟩)) false 0).run Try.prog ((w.drewN k).alloc (.mapIter none 0 #[] 0)) = .ok (.tuple #[.bool false]) ((w.drewN k).alloc (.mapIter none 0 #[] 0)) :=
      fun w k => run_next_nilMap (P := Try.prog) (w.drewN k) 0 0 0 #[]
    clear hD
    rcases hh with e2 | ⟨e2, e3⟩
    all_goals
      go_enter Try.func31, Try.ntmps31
      go_wp2
      go_quiet (fail)
      go_wp2
      refine wp_loop_rounds 1 ?_
      rw [rounds_succ]
      go_wp2
      go_ret
      exact ⟨true, rfl, by simp only [true_iff]; exact hS, (below_drewN (Below.refl _ _) _).alloc (Nat.le_refl _) _⟩
  · rcases hh with e2 | ⟨e2, e3⟩
    all_goals
      go_enter Try.func31, Try.ntmps31
      go_wp2
      go_quiet (fail)
      go_wp2_with (first | (at_range; refine wpList_range_own _ rfl _ 51 rfl 9 9 law Try.underlying51 _ b n D rfl hown ?_; intro w0 hrg0 hg0 hs0) | go_in)
      go_frame
      have hb0 : Below w.heap.size w w0 := (Below.refl _ _).trans ((below_drewN (Below.refl _ _) _).grown hg0 (Nat.le_refl _) (fun k hk => by cases hk))
      clear hg0 hs0
      go_loopw [5] (fun _ wr => ∃ left cnt, wr.ranges Try.prog 9 (plainElem Try.prog 9) b w.heap.size n D left cnt ∧ Below w.heap.size w wr ∧ ∀ k, Maps.has D k = true → left k = false → Good D D' k) (fun _ wr => wr.rangeLeft b w.heap.size)
      case atStart => exact ⟨_, _, hrg0, hb0, fun k h1 h2 => by rw [h1] at h2; cases h2⟩
      case round =>
        obtain ⟨left, cnt, hrg, hnx, hgood⟩ := hrel
        clear hrg0 hb0
        go_wp2_with (first | (at_next; refine wpList_next_ranges _ rfl _ rfl 9 law _ Value.string Value.string (fun key kl hk => by obtain ⟨x, hx, _⟩ := keyOf_str_inv hk; exact ⟨x, hx⟩) (fun v y hv => by obtain ⟨c, hc, _⟩ := plainElem_string_inv Try.underlying9 hv; exact ⟨c, hc⟩) b w.heap.size n D left cnt rfl hrg ?_ ?_) | go_in)
        · intro _ hl0
          go_wp2
          go_ret
          exact ⟨true, rfl, by simp only [true_iff]; exact HS.out.2 fun k hk => hgood k hk (hl0 k), hnx⟩
        · intro x c kl yd yp w2 cnt2 hkey hlk hv hat hrg2 hlt2 hg2 hs2 hen
          obtain ⟨x', ex, rfl, hx⟩ := keyOf_str_inv hkey
          obtain rfl : x = x' := by injection ex
          obtain ⟨c', ec, ey, hc⟩ := plainElem_string_inv Try.underlying9 hv
          obtain rfl : c = c' := by injection ec
          obtain rfl : yd = .lit (.string c.data.toList) := congrArg Prod.fst ey
          clear ey ec ex
          have hnx2 := hnx.grown hg2 hnx.size (fun j hj => by cases hj; exact Nat.le_refl _)
          have hm2 := (hnx2.cell (p := ⟨g', 2, none⟩) (by exact hlt')).trans hm'
          have ht2 := ht'.below hnx2
          have hmeas : w2.rangeLeft b w.heap.size < wr.rangeLeft b w.heap.size := by rw [hrg2.left_eq, hrg.left_eq]; exact hlt2
          have hhas : Maps.has D (.string x.data.toList) = true := Maps.has_true_of_atKey hat
          clear hs2 hg2 hkey hv hm' ht' hown hnx hlt2 hrg hk hn hk' hn' hm hlt hlt'
          go_wp2_with (first | (at_lookup; refine wpList_lookup_tags _ rfl _ _ rfl m' D' rfl ht2 x rfl hx ?_) | go_in)
          intro v hva
          cases hD : Maps.has D' (.string x.data.toList)
          · have hng := HS.out.1
            clear hen
            go_wp2
            go_ret
            exact ⟨false, rfl, by simp only [Bool.false_eq_true, false_iff]; exact fun h => not_good_of hat hva (.inl hD) (HS.out.1 h _ hhas), hnx2⟩
          · cases he : (v.toList == c.toList)
            · go_wp2
              go_ret
              exact ⟨false, rfl, by simp only [Bool.false_eq_true, false_iff]; exact fun h => not_good_of hat hva (.inr he) (HS.out.1 h _ hhas), hnx2⟩
            · go_wp2
              go_roundw
              case rel => (repeat apply Exists.intro); exact ⟨⟨_, _, hrg2, hnx2, step_left hgood (good_of hat hva hD he)⟩, rfl⟩
              case measure => exact hmeas

theorem f31_any (sk sn sk' sn' : ByteArray) (D D' : DataW Unit) (g g' : Nat) (w : World) (h : Ref w g sk sn D) (h' : Ref w g' sk' sn' D') :
    Calls Try.prog 31 #[.pointer (some ⟨g, 0, none⟩), .pointer (some ⟨g', 0, none⟩)] w fun e w' => RetSays w (Sel sk sn D sk' sn' D') e w' := by
  cases e1 : (sk'.toList == sk.toList)
  · exact f31_no _ _ _ _ _ _ _ _ w h h' (.inl e1)
  · cases e2 : sn.toList.isEmpty
    · cases e3 : (sn'.toList == sn.toList)
      · exact f31_no _ _ _ _ _ _ _ _ w h h' (.inr ⟨e1, e2, e3⟩)
      · exact f31_yes _ _ _ _ _ _ _ _ w h h' e1 (.inr ⟨e2, e3⟩)
    · exact f31_yes _ _ _ _ _ _ _ _ w h h' e1 (.inl e2)

set_option maxRecDepth 100000 in
theorem f28_any (sk sn sk' sn' : ByteArray) (D D' : DataW Unit) (g g' : Nat) (w : World) (h : Ref w g sk sn D) (h' : Ref w g' sk' sn' D') :
    Calls Try.prog 28 #[.pointer (some ⟨g, 0, none⟩), .pointer (some ⟨g', 0, none⟩)] w fun e w' => RetSays w (Sel sk sn D sk' sn' D') e w' := by
  go_enter Try.func28, Try.ntmps28
  go_wp2_with fail
  refine (f31_any sk sn sk' sn' D D' g g' _ h h').mono ?_
  rintro e w1 ⟨b, rfl, hb⟩
  go_wp2_with fail
  go_ret
  exact ⟨b, rfl, hb⟩

set_option maxRecDepth 100000 in
theorem f28_wnil (x : Option Addr) (w : World) : Calls Try.prog 28 #[.pointer none, .pointer x] w fun e w' => e = .returned (.bool true) ∧ w' = w := by
  go_enter Try.func28, Try.ntmps28
  go_wp2
  go_ret
  exact ⟨rfl, rfl⟩

set_option maxRecDepth 100000 in
theorem f28_gnil (x : Addr) (w : World) : Calls Try.prog 28 #[.pointer (some x), .pointer none] w fun e w' => e = .returned (.bool false) ∧ Below w.heap.size w w' := by
  go_enter Try.func28, Try.ntmps28
  go_wp2
  go_quiet (fail)
  go_wp2
  go_ret
  exact ⟨rfl, below_drewN (Below.refl _ _) _⟩

end Go.Proofs.Qxb6602559a
