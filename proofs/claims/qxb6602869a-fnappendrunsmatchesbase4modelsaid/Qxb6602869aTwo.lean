import Derived.Test.Qxb6602869aMod
import Derived.Test.Qxb6602869aRev
import Derived.Test.Qxb6602869aParL
namespace Go.Proofs.Qxb6602869a
open Go.RowKit
set_option linter.unusedVariables false

theorem info28 : (Try.prog.info? 28).map (fun i => (i.zero, i.size, i.bytes)) = some (some (.agg #[.int .i64 0, .int .u64 0, .int .i64 0, .int .i64 0]), 4, 32) := by kernel_rfl

def fsts (D : List (Nat × Nat)) : List Value := D.map fun q => .int .i64 (q.1 : Int)
def snds (D : List (Nat × Nat)) : List Value := D.map fun q => .int .i64 (q.2 : Int)
theorem fsts_snoc (D : List (Nat × Nat)) (x y : Nat) : fsts (D ++ [(x, y)]) = fsts D ++ [.int .i64 (x : Int)] := by simp [fsts]
theorem snds_snoc (D : List (Nat × Nat)) (x y : Nat) : snds (D ++ [(x, y)]) = snds D ++ [.int .i64 (y : Int)] := by simp [snds]

/-- The model's two rows: the blocks' starts and sizes. -/
def Two (base : Nat) (w wr : World) (v1 v2 : Value) (D : List (Nat × Nat)) : Prop :=
  wr.ownsRow base 3 1 v1 D.length (fsts D) ∧ wr.ownsRow base 3 1 v2 D.length (snds D) ∧ (∀ g, v1.ownBlock = some g → v2.ownBlock ≠ some g) ∧ Below base w wr ∧ base ≤ wr.heap.size

theorem Two.start (w : World) : Two w.heap.size w w (.slice none 0 0) (.slice none 0 0) [] :=
  ⟨World.ownsRow_nil _ _ _ _, World.ownsRow_nil _ _ _ _, fun g h => (by cases h), Below.refl _ _, Nat.le_refl _⟩

/-- Behind the first of the two appends. -/
theorem Two.one {base : Nat} {w wr w1 : World} {v1 v2 : Value} {D : List (Nat × Nat)} {x g cap : Nat} {o : Obj} (h : Two base w wr v1 v2 D)
    (hown : w1.ownsRow base 3 1 (.slice (some ⟨g, 0, none⟩) (D.length + 1) cap) (D.length + 1) (fsts D ++ [.int .i64 (x : Int)])) (hg : (wr.alloc o).grownBy w1 v1.ownBlock) (hat : v1.ownBlock = some g ∨ g = wr.heap.size + 1) :
    w1.ownsRow base 3 1 v2 D.length (snds D) ∧ v2.ownBlock ≠ some g ∧ Below base w w1 ∧ base ≤ w1.heap.size := by
  obtain ⟨h1, h2, h3, h4, h5⟩ := h
  have hsz := hg.size
  simp at hsz
  refine ⟨(h2.alloc o).kept hg ?_, ?_, ?_, by omega⟩
  · cases hv : v2.ownBlock with
    | none => exact .inl rfl
    | some k => exact .inr (fun q => h3 k q.symm hv)
  · intro hv
    rcases hat with hat | hat
    · exact h3 g hat hv
    · have := (h2.lt g hv).2
      omega
  · exact (h4.alloc h5 o).grown hg (by simp; omega) (fun k hk => (h1.lt k hk).1)

/-- Behind the second. -/
theorem Two.two {base : Nat} {w w1 w2 : World} {v2 : Value} {D : List (Nat × Nat)} {x y g cap g2 cap2 : Nat} {o : Obj}
    (hown : w1.ownsRow base 3 1 (.slice (some ⟨g, 0, none⟩) (D.length + 1) cap) (D.length + 1) (fsts D ++ [.int .i64 (x : Int)]))
    (h2 : w1.ownsRow base 3 1 v2 D.length (snds D)) (h3 : v2.ownBlock ≠ some g) (h4 : Below base w w1) (h5 : base ≤ w1.heap.size)
    (hown2 : w2.ownsRow base 3 1 (.slice (some ⟨g2, 0, none⟩) (D.length + 1) cap2) (D.length + 1) (snds D ++ [.int .i64 (y : Int)])) (hg : (w1.alloc o).grownBy w2 v2.ownBlock) (hat : v2.ownBlock = some g2 ∨ g2 = w1.heap.size + 1) :
    Two base w w2 (.slice (some ⟨g, 0, none⟩) (D.length + 1) cap) (.slice (some ⟨g2, 0, none⟩) (D.length + 1) cap2) (D ++ [(x, y)]) := by
  have hsz := hg.size
  simp at hsz
  have e : (D ++ [(x, y)]).length = D.length + 1 := by simp
  have hl := (hown.lt g rfl).2
  refine ⟨?_, ?_, ?_, ?_, by omega⟩
  · rw [e, fsts_snoc]
    exact (hown.alloc o).kept hg (.inr (fun q => h3 q.symm))
  · rw [e, snds_snoc]
    exact hown2
  · intro k hk hk2
    simp [Value.ownBlock] at hk hk2
    subst hk
    rcases hat with hat | hat
    · exact h3 (by rw [hat, hk2])
    · omega
  · exact (h4.alloc h5 o).grown hg (by simp; omega) (fun k hk => (h2.lt k hk).1)

theorem Lay.len {t q c s : Nat} {D : List (Nat × Nat)} (h : Lay t q c s D) : D.length ≤ (B t).length := by
  unfold Lay at h
  rw [h]
  simp
  omega

theorem Two.at {base : Nat} {w wr : World} {g1 g2 n c1 c2 : Nat} {D : List (Nat × Nat)} (h : Two base w wr (.slice (some ⟨g1, 0, none⟩) n c1) (.slice (some ⟨g2, 0, none⟩) n c2) D) (hn : D.length = n) (i : Nat) (hi : i < n) :
    wr.cell? ⟨g1, i, none⟩ = some (.int .i64 ((D.getD i (0, 0)).1 : Int)) ∧ wr.cell? ⟨g2, i, none⟩ = some (.int .i64 ((D.getD i (0, 0)).2 : Int)) ∧ g1 < wr.heap.size ∧ g2 < wr.heap.size := by
  obtain ⟨h1, h2, h3, h4, h5⟩ := h
  rw [hn] at h1 h2
  refine ⟨(h1.cellAt i (by omega)).trans ?_, (h2.cellAt i (by omega)).trans ?_, (h1.lt g1 rfl).2, (h2.lt g2 rfl).2⟩
  · simp [fsts, show i < D.length by omega]
  · simp [snds, show i < D.length by omega]

theorem rev_get (D : List (Nat × Nat)) (m : Nat) (h : m < D.length) : D.reverse.getD (D.length - 1 - m) (0, 0) = D.getD m (0, 0) := by
  rw [List.getD_eq_getElem?_getD, List.getElem?_reverse (by omega), List.getD_eq_getElem?_getD, show D.length - 1 - (D.length - 1 - m) = m from by omega]
theorem take_flat (fp o : Nat) (D : List (Nat × Nat)) (m : Nat) (h : m < D.length) : (D.take (m + 1)).flatMap (clip fp o) = (D.take m).flatMap (clip fp o) ++ clip fp o (D.getD m (0, 0)) := by
  rw [List.take_succ_eq_append_getElem h, List.flatMap_append]
  simp [h]

/-- The runs of the first m blocks. -/
def Rn (fp o : Nat) (D : List (Nat × Nat)) (m : Nat) : List Rc := (D.take m).flatMap (clip fp o)
theorem Rn_len (fp o : Nat) (D : List (Nat × Nat)) (m : Nat) : (Rn fp o D m).length ≤ m := by
  have := flat_length fp o (D.take m)
  simp [Rn] at this ⊢
  omega
theorem Rn_succ (fp o : Nat) (D : List (Nat × Nat)) (m : Nat) (h : m < D.length) : Rn fp o D (m + 1) = Rn fp o D m ++ clip fp o (D.getD m (0, 0)) := take_flat fp o D m h
theorem Rn_all (fp o : Nat) (D : List (Nat × Nat)) : Rn fp o D D.length = D.flatMap (clip fp o) := by unfold Rn; rw [List.take_length]
/-- The model's runs in the making. -/
def Acc (base fp o : Nat) (D : List (Nat × Nat)) (wo wq : World) (v : Value) (m : Nat) : Prop :=
  wq.ownsRow base 28 4 v (Rn fp o D m).length (rcells (Rn fp o D m)) ∧ Below base wo wq ∧ base ≤ wq.heap.size
theorem Acc.start (fp o : Nat) (D : List (Nat × Nat)) (wo : World) : Acc wo.heap.size fp o D wo wo (.slice none 0 0) 0 := by
  refine ⟨?_, Below.refl _ _, Nat.le_refl _⟩
  have : Rn fp o D 0 = [] := by simp [Rn]
  rw [this]
  exact World.ownsRow_nil _ _ _ _
theorem Acc.skip {base fp o : Nat} {D : List (Nat × Nat)} {wo wq : World} {v : Value} {m : Nat} (h : Acc base fp o D wo wq v m) (hm : m < D.length) (hc : clip fp o (D.getD m (0, 0)) = []) : Acc base fp o D wo wq.drew v (m + 1) := by
  obtain ⟨h1, h2, h3⟩ := h
  unfold Acc
  rw [Rn_succ fp o D m hm, hc, List.append_nil]
  exact ⟨h1, h2.drew, h3⟩
theorem Acc.app {base fp o : Nat} {D : List (Nat × Nat)} {wo wq : World} {v : Value} {m : Nat} {r : Rc} (h : Acc base fp o D wo wq v m) (hm : m < D.length) (hc : clip fp o (D.getD m (0, 0)) = [r]) :
    ∀ (W w1 : World) (v1 : Value), Below wq.heap.size wq W → W.grownBy w1 v.ownBlock → w1.ownsRow base 28 4 v1 ((Rn fp o D m).length + 1) (rcells (Rn fp o D m) ++ rcv r) → Acc base fp o D wo w1 v1 (m + 1) := by
  obtain ⟨h1, h2, h3⟩ := h
  intro W w1 v1 hW hg ho
  unfold Acc
  rw [Rn_succ fp o D m hm, hc, rcells_append, rcells_one]
  refine ⟨by simpa using ho, ?_, Nat.le_trans h3 (Nat.le_trans hW.size hg.size)⟩
  exact (h2.trans (hW.mono h3)).grown hg (Nat.le_trans h3 hW.size) (fun k hk => ((own_below h1 hW).lt k hk).1)
theorem B_pos (t : Nat) (h : 1 ≤ t) : 0 < (B t).length := by
  have hc := B_chain t
  cases hB : B t with
  | nil => rw [hB] at hc; simp [Chain] at hc; omega
  | cons a l => simp
end Go.Proofs.Qxb6602869a
