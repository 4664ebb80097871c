import Derived.Test.Qxb6602559aCov0
import Derived.WalkSpells
import Derived.RegionTactic
import Derived.BigRegion
import Derived.ChangeAlike
import Derived.OwnWalk
namespace Go.Proofs.Qxb6602559a
open Go.RowKit

set_option maxRecDepth 100000 in
set_option maxHeartbeats 4000000 in
theorem f14_any (a0 a1 : Option Addr) (c0 c1 : Nat) (l0 l1 : List ByteArray) (k : Int) (x : ByteArray) (w : World) (hx : x.size ≤ maxLen) (h0 : StrSl w a0 l0) (h1 : StrSl w a1 l1) :
    Calls Try.prog 14 #[.slice a0 l0.length c0, .slice a1 l1.length c1, .int .i64 k, .string x] w fun e w' => RetBool w e w' := by
  unfold maxLen at hx
  have q0 := h0.1
  have q1 := h1.1
  go_enter Try.func14, Try.ntmps14
  go_wp2
  all_goals try (go_ret; exact ⟨_, rfl, rfl⟩)
  go_loop [9, 10] (fun t i => ∃ (k : Nat) (n : Int), k ≤ l0.length ∧ i = .int .i64 k ∧ t = .int .i64 n ∧ 0 ≤ n ∧ n ≤ 1048576) (fun _ i => l0.length - (intOf i).toNat)
  case atStart => exact ⟨0, _, Nat.zero_le _, rfl, rfl, by omega, by omega⟩
  case round =>
    obtain ⟨k, n, hk, rfl, rfl, hn0, hn1⟩ := hrel
    by_cases hlt : k < l0.length
    · obtain ⟨b, off, rfl, _, hcell⟩ := h0.2.2 (by omega)
      have hck := hcell k hlt
      have hsk := h0.2.1 k
      unfold maxLen at hsk
      clear hcell h0 h1
      generalize l0.getD k ByteArray.empty = s at *
      go_wp2
      · go_ret
        exact ⟨_, rfl, rfl⟩
      · go_ret
        exact ⟨_, rfl, rfl⟩
      · go_round
        case rel => exact ⟨k + 1, _, by omega, by go_num, rfl, by omega, by omega⟩
        case measure => simp [intOf]; omega
    · go_wp2
      all_goals try (go_ret; exact ⟨_, rfl, rfl⟩)
      go_loop [9, 11] (fun t i => ∃ (k : Nat) (n : Int), k ≤ l1.length ∧ i = .int .i64 k ∧ t = .int .i64 n ∧ 0 ≤ n ∧ n ≤ 1048576) (fun _ i => l1.length - (intOf i).toNat)
      case atStart => exact ⟨0, _, Nat.zero_le _, rfl, rfl, by omega, by omega⟩
      case round =>
        obtain ⟨k, n, hk, rfl, rfl, hn0, hn1⟩ := hrel
        by_cases hlt : k < l1.length
        · obtain ⟨b, off, rfl, _, hcell⟩ := h1.2.2 (by omega)
          have hck := hcell k hlt
          have hsk := h1.2.1 k
          unfold maxLen at hsk
          clear hcell h0 h1
          generalize l1.getD k ByteArray.empty = s at *
          go_wp2
          · go_ret
            exact ⟨_, rfl, rfl⟩
          · go_ret
            exact ⟨_, rfl, rfl⟩
          · go_round
            case rel => exact ⟨k + 1, _, by omega, by go_num, rfl, by omega, by omega⟩
            case measure => simp [intOf]; omega
        · go_wp2
          all_goals (go_ret; exact ⟨_, rfl, rfl⟩)

/-- It returns a bool that says p, and nothing has turned. -/
def RetSame (w : World) (p : Prop) (e : Ending) (w' : World) : Prop := ∃ b : Bool, e = .returned (.bool b) ∧ (b = true ↔ p) ∧ w' = w

set_option maxRecDepth 100000 in
set_option maxHeartbeats 1000000 in
theorem f18_any (a a' : Option Addr) (cap cap' : Nat) (ns vs : List ByteArray) (n v : ByteArray) (w : World) (h : StrSl w a ns) (h' : StrSl w a' vs) (hl : vs.length = ns.length) :
    Calls Try.prog 18 #[.slice a ns.length cap, .slice a' ns.length cap', .string n, .string v] w fun e w' => RetSame w (HasPair ns vs n v) e w' := by
  have h1 := h.1
  go_enter Try.func18, Try.ntmps18
  go_wp2
  go_loop [12] (fun i => ∃ (k : Nat), k ≤ ns.length ∧ i = .int .i64 k ∧ (∀ j, j < k → ¬ (ns.getD j ByteArray.empty = n ∧ vs.getD j ByteArray.empty = v))) (fun i => ns.length - (intOf i).toNat)
  case atStart => exact ⟨0, Nat.zero_le _, rfl, fun j hj => absurd hj (by omega)⟩
  case round =>
    obtain ⟨k, hk, rfl, hno⟩ := hrel
    by_cases hlt : k < ns.length
    · obtain ⟨b, off, rfl, hb, hc⟩ := h.2.2 (by omega)
      obtain ⟨b', off', rfl, hb', hc'⟩ := h'.2.2 (by omega)
      have g0 := hc k hlt
      have g1 := hc' k (by omega)
      obtain ⟨x, hx⟩ : ∃ x, x = ns.getD k ByteArray.empty := ⟨_, rfl⟩
      obtain ⟨y, hy⟩ : ∃ y, y = vs.getD k ByteArray.empty := ⟨_, rfl⟩
      rw [← hx] at g0
      rw [← hy] at g1
      have HX : Hid (x = ns.getD k ByteArray.empty) := hx
      have HY : Hid (y = vs.getD k ByteArray.empty) := hy
      clear hx hy hc hc'
      cases e1 : (x.toList == n.toList)
      all_goals cases e2 : (y.toList == v.toList)
      all_goals go_wp2
      all_goals first
        | (have hq : (x.toList == n.toList) = false ∨ (y.toList == v.toList) = false := by first | exact .inl e1 | exact .inr e2
           have hne : ¬ (ns.getD k ByteArray.empty = n ∧ vs.getD k ByteArray.empty = v) := by
             rw [← HX.out, ← HY.out]
             rintro ⟨q1, q2⟩
             rcases hq with hq | hq
             · exact toList_ne hq q1
             · exact toList_ne hq q2
           go_round
           case rel => exact ⟨k + 1, by omega, by go_num, fun j hj => by rcases Nat.lt_or_ge j k with q | q; exact hno j q; exact (show j = k from by omega) ▸ hne⟩
           case measure => simp [intOf]; omega)
        | (go_ret
           exact ⟨_, rfl, ⟨fun _ => ⟨k, hlt, by rw [← HX.out]; exact toList_inj e1, by rw [← HY.out]; exact toList_inj e2⟩, fun _ => rfl⟩, rfl⟩)
    · go_wp2
      go_ret
      refine ⟨_, rfl, ?_, rfl⟩
      constructor
      · intro q; cases q
      · rintro ⟨i, hi, q⟩
        exact absurd q (hno i (by omega))

theorem info49 : (Try.prog.info? 49).map (fun i => (i.zero, i.size, i.bytes)) = some (some (.agg #[.string ByteArray.empty, .string ByteArray.empty]), 2, 32) := by kernel_rfl

/-- Block g is a token. -/
def Tok (w : World) (g : Nat) (ns vs : List ByteArray) : Prop := ∃ a cap, w.cell? ⟨g, 0, none⟩ = some (.slice a ns.length cap) ∧ TagSl w a ns vs

set_option maxRecDepth 100000 in
theorem f16_none (ns vs : List ByteArray) (cap : Nat) (a' : Option Addr) (cap' : Nat) (w : World) (h0 : ns.length = 0) (hl : vs.length = ns.length) :
    Calls Try.prog 16 #[.slice none 0 cap, .slice a' 0 cap'] w fun e w' => ∃ g, e = .returned (.pointer (some ⟨g, 0, none⟩)) ∧ Tok w' g ns vs ∧ Below w.heap.size w w' := by
  have he := fun w => Lib.run_eql_slice_nil (P := Try.prog) w 25 9 none 0 cap 0 0 Try.underlying25
  go_enter Try.func16, Try.ntmps16
  go_wp2
  go_ret
  refine ⟨_, rfl, ⟨none, 0, by simp [h0], by omega, hl, fun q => absurd q (by omega)⟩, (Below.refl _ _).alloc (Nat.le_refl _) _⟩

/-- The first m cells of block B are there and may be written. -/
def Free (w : World) (B m : Nat) : Prop := ∀ j, j < m → (∃ v, w.cell? ⟨B, j, none⟩ = some v) ∧ w.frozen? ⟨B, j, none⟩ = false

theorem Free.set {w : World} {B m : Nat} (h : Free w B m) (j : Nat) (v : Value) : Free (w.setCell ⟨B, j, none⟩ v) B m := by
  intro i hi
  rw [World.frozen?_setCell]
  refine ⟨?_, (h i hi).2⟩
  by_cases e : j = i
  · subst e
    obtain ⟨u, hu⟩ := (h j hi).1
    exact ⟨v, World.cell?_setCell_same _ _ _ hu⟩
  · obtain ⟨u, hu⟩ := (h i hi).1
    exact ⟨u, by rw [World.cell?_setCell_other _ _ _ _ (by simp)]; exact hu⟩

theorem free_of_owns {w : World} {base e size g n cap : Nat} {xs : List Value} (h : w.ownsRow base e size (.slice (some ⟨g, 0, none⟩) n cap) n xs) : Free w g (n * size) := by
  rcases h.2 with ⟨q, _⟩ | ⟨g', cap', cur, hv, _, hh, hnc, _, hcs, _⟩
  · cases q
  · injection hv with q1 q2 q3
    injection q1 with q1
    injection q1 with q1
    subst q1
    subst q3
    intro j hj
    have hj' : j < cur.size := by rw [hcs]; exact Nat.lt_of_lt_of_le hj (Nat.mul_le_mul_right _ hnc)
    exact ⟨⟨cur[j], by simp [World.cell?, hh, hj']⟩, by simp [World.frozen?, hh]⟩

theorem set2_cells {w : World} {B m k : Nat} (h : Free w B m) (h1 : k * 2 + 1 < m) (x y : Value) :
    ((w.setCell ⟨B, k * 2, none⟩ x).setCell ⟨B, k * 2 + 1, none⟩ y).cell? ⟨B, k * 2, none⟩ = some x ∧ ((w.setCell ⟨B, k * 2, none⟩ x).setCell ⟨B, k * 2 + 1, none⟩ y).cell? ⟨B, k * 2 + 1, none⟩ = some y ∧
    ∀ i, i < k → ((w.setCell ⟨B, k * 2, none⟩ x).setCell ⟨B, k * 2 + 1, none⟩ y).cell? ⟨B, i * 2, none⟩ = w.cell? ⟨B, i * 2, none⟩ ∧ ((w.setCell ⟨B, k * 2, none⟩ x).setCell ⟨B, k * 2 + 1, none⟩ y).cell? ⟨B, i * 2 + 1, none⟩ = w.cell? ⟨B, i * 2 + 1, none⟩ := by
  obtain ⟨u, hu⟩ := (h (k * 2) (by omega)).1
  obtain ⟨u', hu'⟩ := ((h.set (k * 2) x) (k * 2 + 1) (by omega)).1
  refine ⟨?_, World.cell?_setCell_same _ _ _ hu', fun i hi => ⟨?_, ?_⟩⟩
  · rw [World.cell?_setCell_other _ _ _ _ (by simp)]
    exact World.cell?_setCell_same _ _ _ hu
  · rw [World.cell?_setCell_other _ _ _ _ (by simp <;> omega), World.cell?_setCell_other _ _ _ _ (by simp <;> omega)]
  · rw [World.cell?_setCell_other _ _ _ _ (by simp <;> omega), World.cell?_setCell_other _ _ _ _ (by simp <;> omega)]

theorem tok_made {wr : World} {B : Nat} {ns vs : List ByteArray} (hn : ns.length ≤ 4096) (hl : vs.length = ns.length) (hfr : Free wr B (ns.length * 2))
    (hcs : ∀ j, j < ns.length → wr.cell? ⟨B, j * 2, none⟩ = some (.string (ns.getD j ByteArray.empty)) ∧ wr.cell? ⟨B, j * 2 + 1, none⟩ = some (.string (vs.getD j ByteArray.empty))) :
    Tok (wr.alloc (.cells #[.slice (some ⟨B, 0, none⟩) ns.length ns.length] 47)) wr.heap.size ns vs := by
  refine ⟨some ⟨B, 0, none⟩, ns.length, by simp, TagSl.below (w := wr) ⟨hn, hl, fun q => ⟨B, 0, rfl, ?_, fun i hi => by simpa using hcs i hi⟩⟩ ((Below.refl _ _).alloc (Nat.le_refl _) _)⟩
  obtain ⟨⟨u, hu⟩, _⟩ := hfr 0 (by omega)
  exact World.block_lt_of_cell? _ _ hu

set_option maxRecDepth 100000 in
set_option maxHeartbeats 1000000 in
theorem f16_some (x : Addr) (a' : Option Addr) (cap cap' : Nat) (ns vs : List ByteArray) (w : World) (h : StrSl w (some x) ns) (h' : StrSl w a' vs) (hn : ns.length ≤ 4096) (hl : vs.length = ns.length) :
    Calls Try.prog 16 #[.slice (some x) ns.length cap, .slice a' ns.length cap'] w fun e w' => ∃ g, e = .returned (.pointer (some ⟨g, 0, none⟩)) ∧ Tok w' g ns vs ∧ Below w.heap.size w w' := by
  have he := fun w => Lib.run_eql_slice_nil (P := Try.prog) w 25 9 (some x) ns.length cap 0 0 Try.underlying25
  obtain ⟨i0, hi, hz0, hz1, hz2⟩ := info_parts info49
  go_enter Try.func16, Try.ntmps16
  go_wp2_with (first | (at_make; refine wpList_make_full _ rfl _ _ 45 rfl w.heap.size 49 i0 _ 2 Try.underlying45 hi hz0 hz1 .i64 .i64 _ _ ns.length rfl rfl (by omega) (by omega) (by rw [hz2]; omega) (by unfold maxLen; omega) (Nat.le_refl _) ?_; intro w1 hown1 hgrow1) | go_in)
  have hfree := free_of_owns hown1
  have hb1 : Below w.heap.size w w1 := (Below.refl _ _).grown hgrow1 (Nat.le_refl _) (fun k hk => by cases hk)
  clear hown1 hgrow1
  go_loopw [16] (fun i wr => ∃ (k : Nat), k ≤ ns.length ∧ i = .int .i64 k ∧ Free wr w.heap.size (ns.length * 2) ∧ Below w.heap.size w wr ∧ (∀ j, j < k → wr.cell? ⟨w.heap.size, j * 2, none⟩ = some (.string (ns.getD j ByteArray.empty)) ∧ wr.cell? ⟨w.heap.size, j * 2 + 1, none⟩ = some (.string (vs.getD j ByteArray.empty)))) (fun i _ => ns.length - (intOf i).toNat)
  case atStart => exact ⟨0, Nat.zero_le _, rfl, hfree, hb1, fun j hj => absurd hj (by omega)⟩
  case round =>
    obtain ⟨k, hk, rfl, hfr, hnx, hcs⟩ := hrel
    clear hfree hb1
    by_cases hlt : k < ns.length
    · obtain ⟨b, off, hx, hb, hc⟩ := h.2.2 (by omega)
      obtain rfl : x = ⟨b, off, none⟩ := by injection hx
      obtain ⟨b', off', rfl, hb', hc'⟩ := h'.2.2 (by omega)
      have g0 := (hnx.cell (p := ⟨b, off + k, none⟩) (by exact hb)).trans (hc k hlt)
      have g1 := (hnx.cell (p := ⟨b', off' + k, none⟩) (by exact hb')).trans (hc' k (by omega))
      obtain ⟨⟨u0, c0⟩, f0⟩ := hfr (k * 2) (by omega)
      obtain ⟨⟨u1, c1⟩, f1⟩ := hfr (k * 2 + 1) (by omega)
      have HF : Hid (Free wr w.heap.size (ns.length * 2)) := hfr
      have HC : Hid (∀ j, j < k → wr.cell? ⟨w.heap.size, j * 2, none⟩ = some (.string (ns.getD j ByteArray.empty)) ∧ wr.cell? ⟨w.heap.size, j * 2 + 1, none⟩ = some (.string (vs.getD j ByteArray.empty))) := hcs
      clear hfr hcs hc hc' hx h h' he
      generalize hsx : ns.getD k ByteArray.empty = sx at g0
      generalize hsy : vs.getD k ByteArray.empty = sy at g1
      have HX : Hid (ns.getD k ByteArray.empty = sx) := hsx
      have HY : Hid (vs.getD k ByteArray.empty = sy) := hsy
      clear hsx hsy
      go_wp2
      go_region
      all_goals
        go_wp2
        go_roundw
        case rel =>
          obtain ⟨k0, k1, k2⟩ := set2_cells HF.out (k := k) (by omega) (.string sx) (.string sy)
          refine ⟨k + 1, by omega, by go_num, (HF.out.set _ _).set _ _, ((hnx.setCell (by exact Nat.le_refl _) _).setCell (by exact Nat.le_refl _) _).drew, fun j hj => ?_⟩
          rcases Nat.lt_or_ge j k with q | q
          · exact ⟨(k2 j q).1.trans (HC.out j q).1, (k2 j q).2.trans (HC.out j q).2⟩
          · obtain rfl : j = k := by omega
            rw [HX.out, HY.out]
            exact ⟨k0, k1⟩
        case measure => simp [intOf]; omega
    · go_wp2
      go_ret
      exact ⟨_, rfl, tok_made hn hl hfr (fun j hj => hcs j (by omega)), hnx.alloc hnx.size _⟩

theorem f16_any (a a' : Option Addr) (cap cap' : Nat) (ns vs : List ByteArray) (w : World) (h : StrSl w a ns) (h' : StrSl w a' vs) (hn : ns.length ≤ 4096) (hl : vs.length = ns.length) :
    Calls Try.prog 16 #[.slice a ns.length cap, .slice a' ns.length cap'] w fun e w' => ∃ g, e = .returned (.pointer (some ⟨g, 0, none⟩)) ∧ Tok w' g ns vs ∧ Below w.heap.size w w' := by
  cases a with
  | none =>
    have h0 : ns.length = 0 := by
      rcases Nat.eq_zero_or_pos ns.length with q | q
      · exact q
      · obtain ⟨b, off, e, _⟩ := h.2.2 q
        cases e
    have := f16_none ns vs cap a' cap' w h0 hl
    rw [h0]
    exact this
  | some x => exact f16_some x a' cap cap' ns vs w h h' hn hl

end Go.Proofs.Qxb6602559a
