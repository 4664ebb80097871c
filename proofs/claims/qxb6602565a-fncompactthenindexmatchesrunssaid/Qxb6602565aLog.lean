import Derived.Test.Qxb6602565aRead
import Derived.Deep.AppendLies
import Derived.Deep.AppendSrc
import Derived.OneCell
namespace Go.Proofs.Qxb6602565a
open Go.RowKit
set_option linter.unusedVariables false

/-! ### how a log lies in memory -/
def ints (l : List Nat) : List Value := l.map fun x : Nat => Value.int .u64 (x : Int)
theorem ints_length (l : List Nat) : (ints l).length = l.length := by simp [ints]
theorem ints_append (l l' : List Nat) : ints (l ++ l') = ints l ++ ints l' := by simp [ints]
theorem ints_take (l : List Nat) (n : Nat) : ints (l.take n) = (ints l).take n := by simp [ints, List.map_take]
theorem ints_getD (l : List Nat) (j : Nat) (h : j < l.length) : (ints l)[j]? = some (.int .u64 ((l.getD j 0 : Nat) : Int)) := by
  simp [ints, h]

/-- Block p is an access: its line, its marks. -/
def Acc (w : World) (p : Nat) (a : Nat × Nat) : Prop := ∃ cs, w.heap[p]? = some (.cells cs 83 (0, 0)) ∧ cs[0]? = some (.int .u64 (a.1 : Int)) ∧ cs[4]? = some (.int .u64 (a.2 : Int))

def ptrs (ps : List Nat) : List Value := ps.map fun p => Value.pointer (some ⟨p, 0, none⟩)

def capOf : Value → Nat | .slice _ _ c => c | _ => 0

/-- The slice of the accesses. -/
def Accs (w : World) (base : Nat) (va : Value) (As : List (Nat × Nat)) : Prop :=
  ∃ ps : List Nat, ps.length = As.length ∧ w.ownsRow base 80 1 va As.length (ptrs ps) ∧ ∀ i, i < As.length → Acc w (ps.getD i 0) (As.getD i (0, 0))

/-- The row of the levels: 'h': the one place of which nothing is said; 'v': a slice that lies in none of the others' rows. -/
structure Hole (w : World) (base r : Nat) (Vs : List Value) (nl : Nat) (F : Nat → List Nat) (h : Nat) (v : Value) : Prop where
  row : w.heap[r]? = some (.cells Vs.toArray 43 (0, 0))
  lev : ∀ i, i < Vs.length → i ≠ h → ∃ l, w.ownsRow base 48 1 (Vs.getD i undef) l.length (ints l) ∧ (i < nl → l = F i)
  inj : ∀ i j b, i < Vs.length → j < Vs.length → i ≠ h → j ≠ h → (Vs.getD i undef).ownBlock = some b → (Vs.getD j undef).ownBlock = some b → i = j
  far : ∀ i b, i < Vs.length → i ≠ h → (Vs.getD i undef).ownBlock = some b → v.ownBlock ≠ some b

/-- The slice of the levels: nl of them, level i (from 0 on) holds 'F i'. -/
def Lvs (w : World) (base : Nat) (vl : Value) (nl : Nat) (F : Nat → List Nat) : Prop :=
  (vl = .slice none 0 0 ∧ nl = 0) ∨ ∃ r Vs, vl = .slice (some ⟨r, 0, none⟩) nl Vs.length ∧ base ≤ r ∧ nl ≤ Vs.length ∧ Vs.length ≤ maxLen ∧ Hole w base r Vs nl F Vs.length (.slice none 0 0)

/-- w' holds all of w's rows but those of element type t. -/
def Keeps (t : TypeId) (w w' : World) : Prop := ∀ (b : Nat) (cs : Array Value) (t' : TypeId) (fr : Nat × Nat), w.heap[b]? = some (.cells cs t' fr) → t' ≠ t → w'.heap[b]? = some (.cells cs t' fr)

theorem Keeps.trans {t : TypeId} {a b c : World} (h : Keeps t a b) (k : Keeps t b c) : Keeps t a c := fun x cs t' fr q ht => k x cs t' fr (h x cs t' fr q ht) ht
theorem Keeps.refl (t : TypeId) (w : World) : Keeps t w w := fun _ _ _ _ q _ => q
theorem Keeps.alloc (t : TypeId) (w : World) (o : Obj) : Keeps t w (w.alloc o) := fun b cs t' fr q _ => by
  rw [Below.heap_alloc _ _ _ (lt_of_block q)]; exact q
theorem Keeps.drew (t : TypeId) (w : World) : Keeps t w w.drew := fun _ _ _ _ q _ => q
theorem Keeps.grown {t : TypeId} {w w' : World} {row : Option Nat} (hg : w.grownBy w' row) (hr : ∀ b, row = some b → ∃ cs fr, w.heap[b]? = some (.cells cs t fr)) : Keeps t w w' := fun b cs t' fr q ht => by
  rw [hg.block b (lt_of_block q) (fun e => by
    obtain ⟨cs', fr', q'⟩ := hr b e.symm
    rw [q] at q'
    injection q' with q'
    injection q' with _ q' _
    exact ht q')]
  exact q
theorem Keeps.setCell {t : TypeId} {w : World} {a : Addr} {cs : Array Value} {fr : Nat × Nat} (h : w.heap[a.block]? = some (.cells cs t fr)) (u : Value) : Keeps t w (w.setCell a u) := fun b cs' t' fr' q ht => by
  rw [Below.heap_setCell _ _ _ _ (fun e => by
    rw [e, h] at q
    injection q with q
    injection q with _ q _
    exact ht q.symm)]
  exact q
theorem Keeps.below {t : TypeId} {w w' : World} (h : Below w.heap.size w w') : Keeps t w w' := fun b cs t' fr q _ => by
  rw [h.block b (lt_of_block q)]; exact q

theorem owns_keeps {t : TypeId} {w w' : World} (hk : Keeps t w w') {base e n : Nat} {v : Value} {xs : List Value} (he : e ≠ t) (h : w.ownsRow base e 1 v n xs) : w'.ownsRow base e 1 v n xs := by
  obtain ⟨h1, h2⟩ := h
  refine ⟨h1, ?_⟩
  rcases h2 with h2 | ⟨g, cap, cur, hv, hg, hh, r⟩
  · exact .inl h2
  · exact .inr ⟨g, cap, cur, hv, hg, hk _ _ _ _ hh he, r⟩

theorem Acc.keeps {t : TypeId} {w w' : World} (hk : Keeps t w w') (ht : 83 ≠ t) {p : Nat} {a : Nat × Nat} (h : Acc w p a) : Acc w' p a := by
  obtain ⟨cs, h1, h2⟩ := h
  exact ⟨cs, hk _ _ _ _ h1 ht, h2⟩

theorem Accs.keeps {t : TypeId} {w w' : World} (hk : Keeps t w w') (h3 : 83 ≠ t) (h0 : 80 ≠ t) {base : Nat} {va : Value} {As : List (Nat × Nat)} (h : Accs w base va As) : Accs w' base va As := by
  obtain ⟨ps, q1, q2, q3⟩ := h
  exact ⟨ps, q1, owns_keeps hk h0 q2, fun i hi => (q3 i hi).keeps hk h3⟩

theorem Hole.keeps {t : TypeId} {w w' : World} (hk : Keeps t w w') (h3 : 43 ≠ t) (h8 : 48 ≠ t) {base r nl h : Nat} {Vs : List Value} {F : Nat → List Nat} {v : Value} (q : Hole w base r Vs nl F h v) : Hole w' base r Vs nl F h v :=
  ⟨hk _ _ _ _ q.row h3, fun i hi hne => by obtain ⟨l, q1, q2⟩ := q.lev i hi hne; exact ⟨l, owns_keeps hk h8 q1, q2⟩, q.inj, q.far⟩

theorem Lvs.keeps {t : TypeId} {w w' : World} (hk : Keeps t w w') (h3 : 43 ≠ t) (h8 : 48 ≠ t) {base nl : Nat} {vl : Value} {F : Nat → List Nat} (q : Lvs w base vl nl F) : Lvs w' base vl nl F := by
  rcases q with q | ⟨r, Vs, q1, q2, q3, q4, q5⟩
  · exact .inl q
  · exact .inr ⟨r, Vs, q1, q2, q3, q4, q5.keeps hk h3 h8⟩

/-- A slice that owns a row is cut shorter. -/
theorem owns_cut {w : World} {base e g n cap k : Nat} {xs : List Value} (h : w.ownsRow base e 1 (.slice (some ⟨g, 0, none⟩) n cap) n xs) (hk : k ≤ n) : w.ownsRow base e 1 (.slice (some ⟨g, 0, none⟩) k cap) k (xs.take k) := by
  obtain ⟨h1, h2⟩ := h
  rcases h2 with ⟨h2, _⟩ | ⟨g', cap', cur, hv, hg, hh, hnc, hcm, hcs, ht⟩
  · cases h2
  · injection hv with e1 e2 e3
    injection e1 with e1
    injection e1 with e1
    subst e1
    subst e3
    refine ⟨by rw [List.length_take, h1]; omega, .inr ⟨g, cap, cur, rfl, hg, hh, by omega, hcm, hcs, ?_⟩⟩
    rw [← ht, List.take_take]
    congr 1
    omega

/-- .. and at length 0 whatever was there. -/
theorem owns_zero {w : World} {base e g n cap : Nat} {xs : List Value} (h : w.ownsRow base e 1 (.slice (some ⟨g, 0, none⟩) n cap) n xs) : w.ownsRow base e 1 (.slice (some ⟨g, 0, none⟩) 0 cap) 0 [] := by
  have := owns_cut h (Nat.zero_le n)
  simpa using this

/-- Behind an append onto v: the other levels stand. -/
theorem Hole.appended {w w' : World} {base r nl h : Nat} {Vs : List Value} {F : Nat → List Nat} {v v' : Value} (q : Hole w base r Vs nl F h v) (hg : w.grownBy w' v.ownBlock) (hv : ∀ b, v.ownBlock = some b → ∃ cs fr, w.heap[b]? = some (.cells cs 48 fr))
    (hloc : v'.ownBlock = v.ownBlock ∨ v'.ownBlock = some w.heap.size) : Hole w' base r Vs nl F h v' := by
  have hk : Keeps 48 w w' := Keeps.grown hg hv
  refine ⟨hk _ _ _ _ q.row (by decide), fun i hi hne => ?_, q.inj, fun i b hi hne hb => ?_⟩
  · obtain ⟨l, q1, q2⟩ := q.lev i hi hne
    refine ⟨l, q1.kept hg ?_, q2⟩
    cases hb : (Vs.getD i undef).ownBlock with
    | none => exact .inl rfl
    | some b => exact .inr fun e => q.far i b hi hne hb e.symm
  · rcases hloc with e | e
    · rw [e]; exact q.far i b hi hne hb
    · rw [e]
      intro e2
      injection e2 with e2
      obtain ⟨l, q1, _⟩ := q.lev i hi hne
      have := (q1.lt b hb).2
      omega

/-- The place h is laid open: v is the slice that lies there, or a part of it. -/
theorem Hole.opened {w : World} {base r nl h : Nat} {Vs : List Value} {F : Nat → List Nat} (q : Hole w base r Vs nl F Vs.length (.slice none 0 0)) (hh : h < Vs.length) (v : Value) (hv : v.ownBlock = (Vs.getD h undef).ownBlock ∨ v.ownBlock = none) : Hole w base r Vs nl F h v :=
  ⟨q.row, fun i hi hne => q.lev i hi (by omega), fun i j b hi hj _ _ => q.inj i j b hi hj (by omega) (by omega), fun i b hi hne hb e => by
    rcases hv with hv | hv
    · exact hne (q.inj i h b hi hh (by omega) (by omega) hb (hv ▸ e))
    · rw [hv] at e; cases e⟩

theorem getD_set (Vs : List Value) (h i : Nat) (v : Value) (hh : h < Vs.length) : (Vs.set h v).getD i undef = if i = h then v else Vs.getD i undef := by
  rw [List.getD_eq_getElem?_getD, List.getD_eq_getElem?_getD, List.getElem?_set]
  by_cases e : h = i
  · subst e; simp [hh]
  · rw [if_neg e, if_neg (Ne.symm e)]

/-- The place h is filled: v is stored there. -/
theorem Hole.filled {w : World} {base r nl h : Nat} {Vs : List Value} {F F' : Nat → List Nat} {v : Value} {l : List Nat} (q : Hole w base r Vs nl F h v) (hh : h < Vs.length) (hv : w.ownsRow base 48 1 v l.length (ints l))
    (hF : ∀ i, i < nl → F' i = if i = h then l else F i) : Hole (w.setCell ⟨r, h, none⟩ v) base r (Vs.set h v) nl F' (Vs.set h v).length (.slice none 0 0) := by
  have hk : Keeps 43 w (w.setCell ⟨r, h, none⟩ v) := Keeps.setCell (a := ⟨r, h, none⟩) q.row v
  have hlen : (Vs.set h v).length = Vs.length := by simp
  refine ⟨?_, fun i hi _ => ?_, fun i j b hi hj _ _ h1 h2 => ?_, fun i b _ _ _ => by simp [Value.ownBlock]⟩
  · rw [heap_setCell_same w r h Vs.toArray 43 v q.row]
    simp
  · rw [hlen] at hi
    rw [getD_set _ _ _ _ hh]
    by_cases e : i = h
    · rw [if_pos e]
      exact ⟨l, owns_keeps hk (by decide) hv, fun hn => by rw [hF i hn, if_pos e]⟩
    · rw [if_neg e]
      obtain ⟨l', q1, q2⟩ := q.lev i hi e
      exact ⟨l', owns_keeps hk (by decide) q1, fun hn => by rw [hF i hn, if_neg e]; exact q2 hn⟩
  · rw [hlen] at hi hj
    rw [getD_set _ _ _ _ hh] at h1 h2
    by_cases e : i = h <;> by_cases e' : j = h
    · rw [e, e']
    · rw [if_pos e] at h1
      rw [if_neg e'] at h2
      exact absurd h1 (q.far j b hj e' h2)
    · rw [if_neg e] at h1
      rw [if_pos e'] at h2
      exact absurd h2 (q.far i b hi e h1)
    · rw [if_neg e] at h1
      rw [if_neg e'] at h2
      exact q.inj i j b hi hj e e' h1 h2

end Go.Proofs.Qxb6602565a
