import Derived.Test.Qxb6602565aCmp0
namespace Go.Proofs.Qxb6602565a
open Go.RowKit
set_option linter.unusedVariables false

def newcap (ca k : Nat) : Nat := if 16 < ca ∧ 4 * k < ca then 2 * k else ca

set_option maxRecDepth 100000 in
set_option maxHeartbeats 1000000 in
theorem f48_same (base b k ca : Nat) (xs : List Value) (w : World) (hown : w.ownsRow base 80 1 (.slice (some ⟨b, 0, none⟩) k ca) k xs) (hk : k ≤ ca) (hca : ca ≤ 1048576) (hc : ca ≤ 16 ∨ (16 < ca ∧ ca ≤ 4 * k)) :
    Calls Try.prog 48 #[.slice (some ⟨b, 0, none⟩) k ca, .int .i64 (k : Int), .int .i64 (k : Int), .int .i64 16] w fun e w' => e = .returned (.slice (some ⟨b, 0, none⟩) k ca) ∧ w.grownBy w' none := by
  obtain ⟨i0, hi, hz0, hz1, hz2⟩ := info_parts info80
  have hi0 : (0 : Int) ≤ (k : Int) := by omega
  have hi1 : (k : Int) ≤ (ca : Int) := by omega
  have hst : ∀ (x : Addr) (W : World), (storeCells x []).run Try.prog W = .ok () W := fun x W => rfl
  have hd4 : 16 < ca → decide ((4 : Int) * (k : Int) < (ca : Int)) = false := fun h => by simp; omega
  by_cases hck : ca = k
  · subst hck
    rcases hc with hc | ⟨hc1, hc2⟩
    all_goals
      go_enter Try.func48, Try.ntmps48
      go_wp2
      go_region
      all_goals
        go_wp2
        go_ret
        exact ⟨rfl, ⟨rfl, rfl, rfl, Nat.le_refl _, fun _ _ _ => rfl⟩⟩
  · rcases hc with hc | ⟨hc1, hc2⟩
    all_goals
      go_enter Try.func48, Try.ntmps48
      go_wp2
      go_region
      all_goals
        go_wp2
        go_ret
        exact ⟨rfl, ⟨rfl, rfl, rfl, Nat.le_refl _, fun _ _ _ => rfl⟩⟩

/-- append within the capacity, at a step of a region that draws. -/
theorem step_append_fits {P : Program} (w : World) {ops : Array Oper} {o : Oper} {a : Act} {K : Act → World → Prop} {Q : Exit → Act → World → Prop} {E : Prop} (hgd : o.guard = none) (s x : Operand) (t : TypeId)
    (ho : o.op = .call { callee := .builtin .append, args := #[s, x], argTypes := #[t, t] })
    (base : Nat) (e : TypeId) (i : TypeInfo) (h1 : P.underlying t = some (.slice e)) (h2 : P.info? e = some i) (h4 : i.size = 1)
    (g k cap : Nat) (xs : List Value) (hs : a.eval s = .slice (some ⟨g, 0, none⟩) k cap) (hown : w.ownsRow base e 1 (.slice (some ⟨g, 0, none⟩) k cap) k xs) (ad : Addr) (m c : Nat) (news : List Value) (hx : a.eval x = .slice (some ad) m c) (hn : news.length = m * 1)
    (hc : ∀ j u, news[j]? = some u → w.cell? (ad.add j) = some u) (h1c : ∀ u ∈ news, u.oneCell' = true) (b1 : k + m ≤ cap)
    (hK : ∀ w', w'.ownsRow base e 1 (.slice (some ⟨g, 0, none⟩) (k + m) cap) (k + m) (xs ++ news) → w.grownBy w' (some g) → K (a.put o.dst (.slice (some ⟨g, 0, none⟩) (k + m) cap)) w') :
    if Region.wanted o (yielded ops a.tmps) = true then Oper.wp P o a w K Q else E := by
  have hw : Region.wanted o (yielded ops a.tmps) = true := by simp [Region.wanted, hgd]
  rw [if_pos hw]
  obtain ⟨w', hrun, r1, r2⟩ := run_append_fits (P := P) w base t o.type e i 1 h1 h2 h4 g k cap xs hown ad m c news hn hc h1c b1
  unfold Oper.wp execOp
  simp only [ho, resolve, invoke, builtin, Sem.run_bind, Sem.run_pure, Result.andThen_ok, List.map_toArray, List.map_cons, List.map_nil, hs, hx, hrun]
  exact hK w' r1 r2

theorem ptrs_one (ps : List Nat) : ∀ u ∈ ptrs ps, u.oneCell' = true := by
  intro u hu
  unfold ptrs at hu
  obtain ⟨p, _, rfl⟩ := List.mem_map.1 hu
  rfl

set_option maxRecDepth 100000 in
set_option maxHeartbeats 1000000 in
theorem f48_less (base b k ca : Nat) (ps : List Nat) (w : World) (hps : ps.length = k) (hown : w.ownsRow base 80 1 (.slice (some ⟨b, 0, none⟩) k ca) k (ptrs ps)) (hk : k ≤ ca) (hca : ca ≤ 1048576) (hc1 : 16 < ca) (hc2 : 4 * k < ca) (hb : base ≤ w.heap.size) :
    Calls Try.prog 48 #[.slice (some ⟨b, 0, none⟩) k ca, .int .i64 (k : Int), .int .i64 (k : Int), .int .i64 16] w fun e w' => ∃ b', e = .returned (.slice (some ⟨b', 0, none⟩) k (2 * k)) ∧ w'.ownsRow base 80 1 (.slice (some ⟨b', 0, none⟩) k (2 * k)) k (ptrs ps) ∧ w.grownBy w' none := by
  obtain ⟨i0, hi, hz0, hz1, hz2⟩ := info_parts info80
  obtain ⟨X, hXs, hmk⟩ : ∃ X : Array Value, X.size = 2 * k * 1 ∧ ∀ W : World, (Instr.makeSlice 76 (.int .i64 0) (.int .i64 (2 * (k : Int)))).run Try.prog W = .ok (.slice (some ⟨W.heap.size, 0, none⟩) 0 (2 * k)) (W.alloc (.cells X 80)) := by
    refine ⟨madeCells (Value.cells (.pointer none)) (2 * k), by rw [size_madeCells]; omega, fun W => ?_⟩
    have := run_make (P := Try.prog) W 76 80 i0 (.pointer none) Try.underlying76 hi hz0 .i64 .i64 0 (2 * (k : Int)) (by omega) (by omega) (by rw [hz2]; omega) (by omega)
    rw [this, hz1, show (2 * (k : Int)).toNat = 2 * k from by omega, Nat.mul_one]
    rfl
  have hnew : ((w.alloc (.cells X 80)).drew).ownsRow base 80 1 (.slice (some ⟨w.heap.size, 0, none⟩) 0 (2 * k)) 0 [] := World.ownsRow_made w X (2 * k) hb (by unfold maxLen; omega) hXs
  have hold : ∀ j u, (ptrs ps)[j]? = some u → ((w.alloc (.cells X 80)).drew).cell? ((⟨b, 0, none⟩ : Addr).add j) = some u := ((hown.alloc (.cells X 80)).drew).cells rfl
  have hst : ∀ (x : Addr) (W : World), (storeCells x []).run Try.prog W = .ok () W := fun x W => rfl
  have hi0 : (0 : Int) ≤ (k : Int) := by omega
  have hi1 : (k : Int) ≤ (ca : Int) := by omega
  have hck : ¬ ca = k := by omega
  have hd4 : decide ((4 : Int) * (k : Int) < (ca : Int)) = true := by simp; omega
  have hk2 : k ≤ 2 * k := by omega
  have hwr : IntKind.i64.wrap (2 * (k : Int)) = 2 * (k : Int) := by rw [IntKind.wrap_i64]; omega
  have HN := hide hnew
  have HO := hide hold
  clear hnew hold
  go_enter Try.func48, Try.ntmps48
  go_wp2
  go_region_law (first | (refine step_append_fits _ (by rfl) (.tmp 29) (.tmp 32) _ (by rfl) base 80 i0 Try.underlying76 hi hz1 w.heap.size 0 (2 * k) [] (by simp [Act.eval]) HN.out ⟨b, 0, none⟩ k ca (ptrs ps) (by simp [Act.eval]) (by simp [ptrs, hps]) HO.out (ptrs_one ps) (by omega) ?_; intro w1 hown1 hgrow1) | fail)
  all_goals
    have hg := hgrow1
    simp only [Nat.zero_add, List.nil_append] at hown1
    have hfin : w.grownBy w1 none := ⟨hg.os, hg.tape, hg.output, Nat.le_trans (by simp) hg.size, fun j hj _ => by
      rw [hg.block j (by simp; omega) (by simp; omega)]
      exact Below.heap_alloc w _ j hj⟩
    clear hg hgrow1
    go_wp2
    go_ret
    exact ⟨w.heap.size, rfl, hown1, hfin⟩

theorem f48_any (base b k ca : Nat) (ps : List Nat) (w : World) (hps : ps.length = k) (hown : w.ownsRow base 80 1 (.slice (some ⟨b, 0, none⟩) k ca) k (ptrs ps)) (hk : k ≤ ca) (hca : ca ≤ 1048576) (hb : base ≤ w.heap.size) :
    Calls Try.prog 48 #[.slice (some ⟨b, 0, none⟩) k ca, .int .i64 (k : Int), .int .i64 (k : Int), .int .i64 16] w fun e w' => ∃ b', e = .returned (.slice (some ⟨b', 0, none⟩) k (newcap ca k)) ∧ w'.ownsRow base 80 1 (.slice (some ⟨b', 0, none⟩) k (newcap ca k)) k (ptrs ps) ∧ w.grownBy w' none := by
  by_cases h : 16 < ca ∧ 4 * k < ca
  · have e : newcap ca k = 2 * k := by unfold newcap; rw [if_pos h]
    rw [e]
    exact f48_less base b k ca ps w hps hown hk hca h.1 h.2 hb
  · have e : newcap ca k = ca := by unfold newcap; rw [if_neg h]
    rw [e]
    refine (f48_same base b k ca (ptrs ps) w hown hk hca (by omega)).mono ?_
    rintro e w' ⟨h1, h2⟩
    exact ⟨b, h1, hown.kept h2 (.inr (by simp [Value.ownBlock])), h2⟩

end Go.Proofs.Qxb6602565a
