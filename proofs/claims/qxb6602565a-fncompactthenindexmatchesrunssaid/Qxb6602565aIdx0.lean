import Derived.Test.Qxb6602565aGrow
namespace Go.Proofs.Qxb6602565a
open Go.RowKit
set_option linter.unusedVariables false

theorem info43 : (Try.prog.info? 43).map (fun i => (i.zero, i.size, i.bytes)) = some (some (.slice none 0 0), 1, 24) := by kernel_rfl
theorem info48 : (Try.prog.info? 48).map (fun i => (i.zero, i.size, i.bytes)) = some (some (.int .u64 0), 1, 8) := by kernel_rfl

theorem zeroCells_nil (n : Nat) : Builtin.zeroCells (Value.cells (.slice none 0 0)) n = (List.replicate n (Value.slice none 0 0)).toArray := by
  have e : Builtin.zeroCells (Value.cells (.slice none 0 0)) n = madeCells #[Value.slice none 0 0] (n * 1) := rfl
  rw [e, Nat.mul_one]
  apply Array.ext'
  rw [toList_madeCells_one]

/-- 'append(levels, nil)' where there is no room: the new row, written out. -/
theorem wpList_append_level (w : World) {ops : Array Oper} {rest : List Oper} {o : Oper} {a : Act} {Q : Exit → Act → World → Prop} (hgd : o.guard = none) (s x : Operand)
    (ho : o.op = .call { callee := .builtin .append, args := #[s, x], argTypes := #[77, 77] }) (i : TypeInfo) (hi : Try.prog.info? 43 = some i) (hz : i.zero = some (.slice none 0 0)) (hsz : i.size = 1) (hby : i.bytes = 24)
    (ao : Option Addr) (n : Nat) (Vs : List Value) (hs : a.eval s = .slice ao n n) (hV : (ao = none ∧ n = 0 ∧ Vs = []) ∨ ∃ r, ao = some ⟨r, 0, none⟩ ∧ Vs.length = n ∧ w.heap[r]? = some (.cells Vs.toArray 43 (0, 0)))
    (ad : Addr) (hx : a.eval x = .slice (some ad) 1 1) (hc : ∀ j u, [Value.slice none 0 0][j]? = some u → w.cell? (ad.add j) = some u) (hn : n ≤ 100)
    (H : Nat) (hH : w.heap.size = H)
    (hK : ∀ m w', n + 1 ≤ m → m ≤ maxLen → w'.heap[H]? = some (.cells (Vs ++ List.replicate (m - n) (Value.slice none 0 0)).toArray 43 (0, 0)) → w.grownBy w' none → wpList Try.prog ops Q rest (a.put o.dst (.slice (some ⟨H, 0, none⟩) (n + 1) m)) w') :
    wpList Try.prog ops Q (o :: rest) a w := by
  have hold : (Builtin.firstCells i.size n (.slice ao n n)).run Try.prog w.drew = .ok Vs.toArray w.drew := by
    rw [hsz]
    rcases hV with ⟨rfl, rfl, rfl⟩ | ⟨r, rfl, hl, hh⟩
    · exact run_firstCells_none w.drew 1 0 0 0
    · exact run_firstCells_some w.drew 1 n ⟨r, 0, none⟩ n n Vs (by omega) (World.news_of_block (w := w.drew) (cs := Vs.toArray) hh)
  have hsrc : Src Try.prog i.size 77 (.slice (some ad) 1 1) 1 [.slice none 0 0] w := Src.ofSlice w Try.underlying77 ad 1 1 _ (by rw [hsz]; rfl) hc (by simp [Value.oneCell'])
  have hr := run_append_grow_src (P := Try.prog) w 77 77 o.type 43 i (.slice none 0 0) Try.underlying77 hi hz ao n n Vs hold (.slice (some ad) 1 1) 1 [.slice none 0 0] hsrc (by omega) (by omega) (growslice_fits (by omega) (by rw [hby]; omega))
  refine wpList_plain hgd fun K' hK' => ?_
  unfold Oper.wp execOp
  simp only [ho, resolve, invoke, builtin, Sem.run_bind, Sem.run_pure, Result.andThen_ok, List.map_toArray, List.map_cons, List.map_nil, hs, hx, hr]
  have hge := grownCap_ge w (n + 1) n 43
  have hle := grownCap_le_maxLen w (n + 1) n 43 (by unfold maxLen; omega)
  subst hH
  have := hK (grownCap w (n + 1) n 43) (w.drew.alloc (.cells (Vs ++ List.replicate (grownCap w (n + 1) n 43 - n) (Value.slice none 0 0)).toArray 43)) hge hle (heap_alloc_new w.drew _) ⟨rfl, rfl, rfl, by simp, fun k hk _ => Below.heap_alloc w.drew _ k hk⟩
  rw [zeroCells_nil]
  have e : (Vs ++ [Value.slice none 0 0]).toArray ++ (List.replicate (grownCap w (n + 1) n 43 - (n + 1)) (Value.slice none 0 0)).toArray = (Vs ++ List.replicate (grownCap w (n + 1) n 43 - n) (Value.slice none 0 0)).toArray := by
    rw [List.append_toArray, List.append_assoc, show grownCap w (n + 1) n 43 - n = (grownCap w (n + 1) n 43 - (n + 1)) + 1 from by omega, List.replicate_succ]
    rfl
  rw [e]
  exact hK' _ _ this

/-- What a slice of numbers that owns its row looks like. -/
theorem owns_shape {w : World} {base : Nat} {v : Value} {l : List Nat} (h : w.ownsRow base 48 1 v l.length (ints l)) : ∃ a c, v = .slice a l.length c ∧ l.length ≤ c := by
  rcases h.2 with ⟨rfl, h0⟩ | ⟨g, cap, cur, rfl, _, _, hnc, _⟩
  · exact ⟨none, 0, by rw [h0], by omega⟩
  · exact ⟨_, cap, rfl, hnc⟩

theorem owns_cut' {w : World} {base : Nat} {a : Option Addr} {n c f : Nat} {l : List Nat} (h : w.ownsRow base 48 1 (.slice a n c) l.length (ints l)) (hf : f ≤ l.length) : w.ownsRow base 48 1 (.slice a f c) f (ints (l.take f)) := by
  rcases h.2 with ⟨e, h0⟩ | ⟨g, cap, cur, e, _, _, _, _⟩
  · injection e with e1 e2 e3
    subst e1
    subst e3
    obtain rfl : f = 0 := by omega
    simpa [ints] using World.ownsRow_nil w base 48 1
  · injection e with e1 e2 e3
    subst e1
    subst e2
    subst e3
    rw [ints_take]
    exact owns_cut h hf

theorem Hole.more {w : World} {base r q : Nat} {Vs : List Value} {F : Nat → List Nat} {v : Value} (h : Hole w base r Vs q F q v) : Hole w base r Vs (q + 1) F q v :=
  ⟨h.row, fun i hi hne => by obtain ⟨l, h1, h2⟩ := h.lev i hi hne; exact ⟨l, h1, fun hn => h2 (by omega)⟩, h.inj, h.far⟩

/-- A row that has grown by places that hold nil. -/
theorem Hole.grown {w w' : World} {base r r' q k : Nat} {Vs : List Value} {F : Nat → List Nat} (h : Hole w base r Vs q F Vs.length (.slice none 0 0)) (hq : q ≤ Vs.length) (hk : Keeps 43 w w')
    (hrow : w'.heap[r']? = some (.cells (Vs ++ List.replicate k (Value.slice none 0 0)).toArray 43 (0, 0))) : Hole w' base r' (Vs ++ List.replicate k (Value.slice none 0 0)) q F (Vs ++ List.replicate k (Value.slice none 0 0)).length (.slice none 0 0) := by
  have key : ∀ i, i < (Vs ++ List.replicate k (Value.slice none 0 0)).length → (i < Vs.length ∧ (Vs ++ List.replicate k (Value.slice none 0 0)).getD i undef = Vs.getD i undef) ∨ (Vs.length ≤ i ∧ (Vs ++ List.replicate k (Value.slice none 0 0)).getD i undef = .slice none 0 0) := by
    intro i hi
    rcases Nat.lt_or_ge i Vs.length with h1 | h1
    · exact .inl ⟨h1, by rw [List.getD_eq_getElem?_getD, List.getElem?_append_left h1, ← List.getD_eq_getElem?_getD]⟩
    · refine .inr ⟨h1, ?_⟩
      rw [List.length_append, List.length_replicate] at hi
      rw [List.getD_eq_getElem?_getD, List.getElem?_append_right h1, List.getElem?_replicate, if_pos (by omega)]
      rfl
  refine ⟨hrow, fun i hi _ => ?_, fun i j b hi hj _ _ h1 h2 => ?_, fun i b _ _ _ => by simp [Value.ownBlock]⟩
  · rcases key i hi with ⟨a1, a2⟩ | ⟨a1, a2⟩
    · rw [a2]
      obtain ⟨l, h1, h2⟩ := h.lev i a1 (by omega)
      exact ⟨l, owns_keeps hk (by decide) h1, h2⟩
    · rw [a2]
      exact ⟨[], World.ownsRow_nil _ _ _ _, fun hn => by omega⟩
  · rcases key i hi with ⟨a1, a2⟩ | ⟨a1, a2⟩ <;> rcases key j hj with ⟨b1, b2⟩ | ⟨b1, b2⟩
    · rw [a2] at h1
      rw [b2] at h2
      exact h.inj i j b a1 b1 (by omega) (by omega) h1 h2
    · rw [b2] at h2; cases h2
    · rw [a2] at h1; cases h1
    · rw [a2] at h1; cases h1

/-- From nothing. -/
theorem hole_nil {w' : World} {base r' k : Nat} {F : Nat → List Nat} (hrow : w'.heap[r']? = some (.cells (List.replicate k (Value.slice none 0 0)).toArray 43 (0, 0))) : Hole w' base r' (List.replicate k (Value.slice none 0 0)) 0 F (List.replicate k (Value.slice none 0 0)).length (.slice none 0 0) := by
  have key : ∀ i, i < (List.replicate k (Value.slice none 0 0)).length → (List.replicate k (Value.slice none 0 0)).getD i undef = .slice none 0 0 := by
    intro i hi
    rw [List.length_replicate] at hi
    rw [List.getD_eq_getElem?_getD, List.getElem?_replicate, if_pos hi]
    rfl
  refine ⟨hrow, fun i hi _ => ?_, fun i j b hi hj _ _ h1 h2 => ?_, fun i b _ _ _ => by simp [Value.ownBlock]⟩
  · rw [key i hi]
    exact ⟨[], World.ownsRow_nil _ _ _ _, fun hn => by omega⟩
  · rw [key i hi] at h1; cases h1

/-- The levels where there is no room for one more. -/
theorem Lvs.full {w : World} {base q : Nat} {vl : Value} {F : Nat → List Nat} (h : Lvs w base vl q F) (hf : ∀ r n, vl = .slice (some ⟨r, 0, none⟩) q n → n ≤ q) :
    ∃ ao Vs, vl = .slice ao q q ∧ ((ao = none ∧ q = 0 ∧ Vs = []) ∨ ∃ r, ao = some ⟨r, 0, none⟩ ∧ Vs.length = q ∧ w.heap[r]? = some (.cells Vs.toArray 43 (0, 0))) ∧ Vs.length = q ∧
      ∀ (w' : World) (r' k : Nat), Keeps 43 w w' → w'.heap[r']? = some (.cells (Vs ++ List.replicate k (Value.slice none 0 0)).toArray 43 (0, 0)) → Hole w' base r' (Vs ++ List.replicate k (Value.slice none 0 0)) q F (Vs ++ List.replicate k (Value.slice none 0 0)).length (.slice none 0 0) := by
  rcases h with ⟨rfl, rfl⟩ | ⟨r, Vs, rfl, h1, h2, h3, h4⟩
  · exact ⟨none, [], rfl, .inl ⟨rfl, rfl, rfl⟩, rfl, fun w' r' k _ hr => hole_nil (by simpa using hr)⟩
  · have e : Vs.length = q := by have := hf r _ rfl; omega
    exact ⟨_, Vs, by rw [e], .inr ⟨r, rfl, e, h4.row⟩, e, fun w' r' k hk hr => h4.grown (by omega) hk hr⟩

/-- The levels while index is at level q + 1: those below are whole, the others as they were. -/
def mid (m : List Nat) (built q : Nat) (i : Nat) : List Nat := if i < q then level m (i + 1) else level (m.take built) (i + 1)

/-- The first f runs of level k. -/
def part (m : List Nat) (k f : Nat) : List Nat := (List.range f).map (run m k)
theorem part_length (m : List Nat) (k f : Nat) : (part m k f).length = f := by simp [part]
theorem part_succ (m : List Nat) (k f : Nat) : part m k (f + 1) = part m k f ++ [run m k f] := by simp [part, List.range_succ]
theorem part_runs (m : List Nat) (k : Nat) : part m k (runs m.length k) = level m k := rfl
theorem part_zero (m : List Nat) (k : Nat) : part m k 0 = [] := rfl

/-- What index keeps of a level that was there. -/
theorem take_level (m : List Nat) (built k f : Nat) (hb : built ≤ m.length) (hf : f = built / 2 ^ k) : f ≤ (level (m.take built) k).length ∧ (level (m.take built) k).take f = part m k f := by
  have hp := two_pow_pos k
  have h1 : f * 2 ^ k ≤ built := by rw [hf]; exact Nat.div_mul_le_self built (2 ^ k)
  have hlen : (level (m.take built) k).length = runs built k := by rw [level_length, List.length_take, Nat.min_eq_left hb]
  have h2 : f ≤ runs built k := by
    rcases Nat.eq_zero_or_pos f with h0 | h0
    · omega
    · have : f - 1 < runs built k := (lt_runs _ _ _).2 (Nat.lt_of_lt_of_le (Nat.mul_lt_mul_of_pos_right (by omega) hp) h1)
      omega
  refine ⟨by rw [hlen]; exact h2, ?_⟩
  unfold level part
  rw [← List.map_take, List.take_range, List.length_take, Nat.min_eq_left hb, Nat.min_eq_left h2]
  refine List.map_congr_left fun j hj => ?_
  exact run_take m built k j (Nat.le_trans (Nat.mul_le_mul_right _ (List.mem_range.1 hj)) h1)

end Go.Proofs.Qxb6602565a
