import Derived.Test.Qxb6602565aLog
namespace Go.Proofs.Qxb6602565a
open Go.RowKit
set_option linter.unusedVariables false

def marksOf (As : List (Nat × Nat)) : List Nat := As.map Prod.snd
theorem marksOf_length (As : List (Nat × Nat)) : (marksOf As).length = As.length := by simp [marksOf]
theorem marksOf_getD (As : List (Nat × Nat)) (i : Nat) : (marksOf As).getD i 0 = (As.getD i (0, 0)).2 := by
  unfold marksOf
  rw [List.getD_eq_getElem?_getD, List.getD_eq_getElem?_getD, List.getElem?_map]
  cases As[i]? <;> rfl

/-- Block g is a log of the accesses As, with room for ca of them, indexed up to 'built'. -/
def Log (w : World) (base g : Nat) (As : List (Nat × Nat)) (ca built : Nat) : Prop :=
  ∃ (ba : Nat) (vl : Value) (lat : Int) (st : Bool), w.heap[g]? = some (.cells #[.slice (some ⟨ba, 0, none⟩) As.length ca, .int .u64 lat, .bool st, vl, .int .i64 (built : Int)] 79 (0, 0)) ∧ base ≤ g ∧
    Accs w base (.slice (some ⟨ba, 0, none⟩) As.length ca) As ∧ Lvs w base vl (depth built) (fun i => level ((marksOf As).take built) (i + 1)) ∧ built ≤ As.length

theorem info80 : (Try.prog.info? 80).map (fun i => (i.zero, i.size, i.bytes)) = some (some (.pointer none), 1, 8) := by kernel_rfl

theorem Accs.nil {w : World} {base b n : Nat} (h : w.ownsRow base 80 1 (.slice (some ⟨b, 0, none⟩) 0 n) 0 []) : Accs w base (.slice (some ⟨b, 0, none⟩) 0 n) [] :=
  ⟨[], rfl, h, fun i hi => absurd hi (by simp)⟩

theorem depth_zero : depth 0 = 0 := rfl

set_option maxRecDepth 100000 in
theorem f19_any (n : Nat) (base : Nat) (w : World) (hn : n ≤ 1048576) (hb : base ≤ w.heap.size) :
    Calls Try.prog 19 #[.int .i64 (n : Int)] w fun e w' => ∃ g, e = .returned (.pointer (some ⟨g, 0, none⟩)) ∧ Log w' base g [] n 0 ∧ Below base w w' := by
  obtain ⟨i0, hi, hz0, hz1, hz2⟩ := info_parts info80
  go_enter Try.func19, Try.ntmps19
  go_wp2_with (first | (at_make; refine wpList_make_own _ rfl _ _ 76 rfl base 80 i0 _ 1 Try.underlying76 hi hz0 hz1 .i64 .i64 _ n rfl rfl rfl (by rw [hz2]; omega) (by unfold maxLen; omega) hb ?_; intro w1 hown1 hgrow1) | go_in)
  go_ret
  have hb1 : base ≤ w1.heap.size := Nat.le_trans hb hgrow1.size
  refine ⟨_, rfl, ⟨w.heap.size, .slice none 0 0, 0, false, ?_, hb1, (Accs.nil hown1).keeps (Keeps.alloc 0 _ _) (by decide) (by decide), .inl ⟨rfl, rfl⟩, Nat.le_refl _⟩, ((Below.refl _ _).grown hgrow1 hb (fun k hk => by cases hk)).alloc hb1 _⟩
  rw [heap_alloc_new]
  rfl

theorem Accs.snoc {w w' : World} {base b b' n ca ca' p : Nat} {As : List (Nat × Nat)} {a : Nat × Nat} {ps : List Nat} (hl : ps.length = As.length) (hold : ∀ i, i < As.length → Acc w' (ps.getD i 0) (As.getD i (0, 0))) (hp : Acc w' p a)
    (hown : w'.ownsRow base 80 1 (.slice (some ⟨b', 0, none⟩) (As.length + 1) ca') (As.length + 1) (ptrs ps ++ [.pointer (some ⟨p, 0, none⟩)])) : Accs w' base (.slice (some ⟨b', 0, none⟩) (As ++ [a]).length ca') (As ++ [a]) := by
  refine ⟨ps ++ [p], by simp [hl], by simpa [ptrs] using hown, fun i hi => ?_⟩
  simp at hi
  rcases Nat.lt_or_ge i As.length with q | q
  · rw [List.getD_eq_getElem?_getD, List.getElem?_append_left (by omega), ← List.getD_eq_getElem?_getD, List.getD_eq_getElem?_getD (l := As ++ [a]), List.getElem?_append_left q, ← List.getD_eq_getElem?_getD]
    exact hold i q
  · obtain rfl : i = As.length := by omega
    rw [List.getD_eq_getElem?_getD, List.getElem?_append_right (by omega), List.getD_eq_getElem?_getD (l := As ++ [a]), List.getElem?_append_right (by omega)]
    simpa [hl] using hp

theorem take_marks (As : List (Nat × Nat)) (a : Nat × Nat) (b : Nat) (h : b ≤ As.length) : (marksOf (As ++ [a])).take b = (marksOf As).take b := by
  unfold marksOf
  rw [List.map_append, List.take_append_of_le_length (by simpa using h)]

theorem log_stored {w w1 : World} {base g ca ca' built ba b' : Nat} {vl : Value} {lat : Int} {st : Bool} {As : List (Nat × Nat)} {x y : Nat} {ps : List Nat}
    (hh : w.heap[g]? = some (.cells #[.slice (some ⟨ba, 0, none⟩) As.length ca, .int .u64 lat, .bool st, vl, .int .i64 (built : Int)] 79 (0, 0))) (hbg : base ≤ g) (hps : ps.length = As.length)
    (hacc : ∀ i, i < As.length → Acc w (ps.getD i 0) (As.getD i (0, 0))) (hlv : Lvs w base vl (depth built) (fun i => level ((marksOf As).take built) (i + 1))) (hbu : built ≤ As.length)
    (hown1 : w1.ownsRow base 80 1 (.slice (some ⟨b', 0, none⟩) (As.length + 1) ca') (As.length + 1) (ptrs ps ++ [.pointer (some ⟨w.heap.size, 0, none⟩)]))
    (hk : Keeps 80 ((w.alloc (.cells #[.int .u64 (x : Int), .int .u32 0, .int .u32 0, .int .i64 0, .int .u64 (y : Int)] 83)).alloc (.cells #[.pointer (some ⟨w.heap.size, 0, none⟩)] 80)) w1) :
    Log (w1.setCell ⟨g, 0, none⟩ (.slice (some ⟨b', 0, none⟩) (As.length + 1) ca')) base g (As ++ [(x, y)]) ca' built := by
  have hk0 : Keeps 80 w w1 := ((Keeps.alloc 80 _ _).trans (Keeps.alloc 80 _ _)).trans hk
  have h1 := hk0 _ _ _ _ hh (by decide)
  have hs : Keeps 79 w1 (w1.setCell ⟨g, 0, none⟩ (.slice (some ⟨b', 0, none⟩) (As.length + 1) ca')) := Keeps.setCell (a := ⟨g, 0, none⟩) h1 _
  have hp : Acc w1 w.heap.size (x, y) := by
    refine ⟨#[.int .u64 (x : Int), .int .u32 0, .int .u32 0, .int .i64 0, .int .u64 (y : Int)], hk _ _ _ _ ?_ (by decide), rfl, rfl⟩
    rw [Below.heap_alloc _ _ _ (by simp), heap_alloc_new]
  refine ⟨b', vl, lat, st, ?_, hbg, (Accs.snoc (w := w) (b := ba) (n := 0) (ca := 0) hps (fun i hi => (hacc i hi).keeps hk0 (by decide)) hp hown1).keeps hs (by decide) (by decide), ?_, by simp; omega⟩
  · rw [heap_setCell_same w1 g 0 _ 79 _ h1]
    simp
  · have := (hlv.keeps hk0 (by decide) (by decide)).keeps hs (by decide) (by decide)
    rw [show (fun i => level ((marksOf (As ++ [(x, y)])).take built) (i + 1)) = fun i => level ((marksOf As).take built) (i + 1) from by funext i; rw [take_marks _ _ _ hbu]]
    exact this

theorem owns_type {w : World} {base e n : Nat} {v : Value} {xs : List Value} (h : w.ownsRow base e 1 v n xs) : ∀ b, v.ownBlock = some b → ∃ cs fr, w.heap[b]? = some (.cells cs e fr) := by
  intro b hb
  rcases h.2 with ⟨rfl, _⟩ | ⟨g, cap, cur, rfl, _, hh, _⟩
  · cases hb
  · simp [Value.ownBlock] at hb
    subst hb
    exact ⟨_, _, hh⟩

set_option maxRecDepth 100000 in
set_option maxHeartbeats 1000000 in
theorem f20_fits (g base ca built : Nat) (As : List (Nat × Nat)) (x y : Nat) (w : World) (hlog : Log w base g As ca built) (hroom : As.length < ca) (hb : base ≤ w.heap.size) :
    Calls Try.prog 20 #[.pointer (some ⟨g, 0, none⟩), .int .u64 (x : Int), .int .u64 (y : Int)] w fun e w' => e = .returned (.tuple #[]) ∧ Log w' base g (As ++ [(x, y)]) ca built ∧ Below base w w' := by
  obtain ⟨ba, vl, lat, st, hh, hbg, ⟨ps, hps, hown, hacc⟩, hlv, hbu⟩ := hlog
  have c0 : w.cell? ⟨g, 0, none⟩ = some (.slice (some ⟨ba, 0, none⟩) As.length ca) := by simp [World.cell?, hh]
  have hba := (hown.lt ba rfl).1
  obtain ⟨i0, hi, hz0, hz1, hz2⟩ := info_parts info80
  have HH : Hid (w.heap[g]? = some (.cells #[.slice (some ⟨ba, 0, none⟩) As.length ca, .int .u64 lat, .bool st, vl, .int .i64 (built : Int)] 79 (0, 0))) := hh
  clear hh
  go_enter Try.func20, Try.ntmps20
  go_wp2_with (first | (at_builtin; refine wpList_append_fits _ rfl _ _ 76 rfl base 80 i0 1 Try.underlying76 hi hz1 ba As.length ca (ptrs ps) rfl ((hown.alloc _).alloc _) ⟨w.heap.size + 1, 0, none⟩ 1 1 [.pointer (some ⟨w.heap.size, 0, none⟩)] rfl rfl (World.news_of_block (cs := #[.pointer (some ⟨w.heap.size, 0, none⟩)]) (t := 80) (fr := (0, 0)) (heap_alloc2_new w _ _)) (by simp [Value.oneCell']) (by omega) ?_) | go_in)
  intro w1 hown1 hgrow1
  have hk : Keeps 80 _ w1 := Keeps.grown hgrow1 (fun b hb => by injection hb with hb; subst hb; exact owns_type ((hown.alloc _).alloc _) _ rfl)
  have hk0 : Keeps 80 w w1 := ((Keeps.alloc 80 _ _).trans (Keeps.alloc 80 _ _)).trans hk
  have h1 := hk0 _ _ _ _ HH.out (by decide)
  have c1 : w1.cell? ⟨g, 0, none⟩ = some (.slice (some ⟨ba, 0, none⟩) As.length ca) := by simp [World.cell?, h1]
  have f1 := frozen_of_row w1 g 0 _ _ h1
  have hb1 : Below base w w1 := (((Below.refl _ _).alloc hb _).alloc (by simp; omega) _).grown hgrow1 (by simp; omega) (fun k hk => by injection hk with hk; omega)
  clear h1 hgrow1
  go_wp2
  go_end0
  exact ⟨rfl, log_stored HH.out hbg hps hacc hlv hbu hown1 hk, hb1.setCell (by exact hbg) _⟩

set_option maxRecDepth 100000 in
set_option maxHeartbeats 1000000 in
theorem f20_any (g base ca built : Nat) (As : List (Nat × Nat)) (x y : Nat) (w : World) (hlog : Log w base g As ca built) (hlen : As.length ≤ 1048576) (hb : base ≤ w.heap.size) :
    Calls Try.prog 20 #[.pointer (some ⟨g, 0, none⟩), .int .u64 (x : Int), .int .u64 (y : Int)] w fun e w' => e = .returned (.tuple #[]) ∧ (∃ ca', Log w' base g (As ++ [(x, y)]) ca' built) ∧ Below base w w' := by
  obtain ⟨ba, vl, lat, st, hh, hbg, ⟨ps, hps, hown, hacc⟩, hlv, hbu⟩ := hlog
  have c0 : w.cell? ⟨g, 0, none⟩ = some (.slice (some ⟨ba, 0, none⟩) As.length ca) := by simp [World.cell?, hh]
  have hba := (hown.lt ba rfl).1
  obtain ⟨i0, hi, hz0, hz1, hz2⟩ := info_parts info80
  have HH : Hid (w.heap[g]? = some (.cells #[.slice (some ⟨ba, 0, none⟩) As.length ca, .int .u64 lat, .bool st, vl, .int .i64 (built : Int)] 79 (0, 0))) := hh
  clear hh
  go_enter Try.func20, Try.ntmps20
  go_wp2_with (first | (at_builtin; refine wpList_append_lies _ rfl _ _ 76 rfl base 80 i0 _ 1 8 Try.underlying76 hi hz0 hz1 hz2 rfl (by omega) (.slice (some ⟨ba, 0, none⟩) As.length ca) As.length (ptrs ps) rfl ((hown.alloc _).alloc _) ⟨w.heap.size + 1, 0, none⟩ 1 1 [.pointer (some ⟨w.heap.size, 0, none⟩)] rfl rfl (World.news_of_block (cs := #[.pointer (some ⟨w.heap.size, 0, none⟩)]) (t := 80) (fr := (0, 0)) (heap_alloc2_new w _ _)) (by simp [Value.oneCell']) (by omega) (by unfold maxLen; omega) (by omega) (by simp; omega) (w.heap.size + 2) (by simp) ?_) | go_in)
  intro b' ca' w1 hown1 hgrow1 hat hlt
  have hk : Keeps 80 _ w1 := Keeps.grown hgrow1 (owns_type ((hown.alloc _).alloc _))
  have hk0 : Keeps 80 w w1 := ((Keeps.alloc 80 _ _).trans (Keeps.alloc 80 _ _)).trans hk
  have h1 := hk0 _ _ _ _ HH.out (by decide)
  have c1 : w1.cell? ⟨g, 0, none⟩ = some (.slice (some ⟨ba, 0, none⟩) As.length ca) := by simp [World.cell?, h1]
  have f1 := frozen_of_row w1 g 0 _ _ h1
  have hb1 : Below base w w1 := (((Below.refl _ _).alloc hb _).alloc (by simp; omega) _).grown hgrow1 (by simp; omega) (fun k hk => by simp [Value.ownBlock] at hk; omega)
  clear h1 hgrow1 hat
  go_wp2
  go_end0
  exact ⟨rfl, ⟨ca', log_stored HH.out hbg hps hacc hlv hbu hown1 hk⟩, hb1.setCell (by exact hbg) _⟩

end Go.Proofs.Qxb6602565a
