import Derived.Test.Qxb6602565aAre
import Derived.Lib.SliceRun
import Derived.Deep.RegionLaw
import Derived.Deep.RegionHeld3
namespace Go.Proofs.Qxb6602565a
open Go.RowKit
set_option linter.unusedVariables false

/-- Is the access with these marks still in its record? -/
def keptB (m : Nat) : Bool := decide (9223372036854775808 ≤ m)

theorem kept_bit (m : Nat) (h : m < 18446744073709551616) : (bits .and .u64 (m : Int) 9223372036854775808 != 0) = keptB m := by
  have e : (9223372036854775808 : Int) = ((9223372036854775808 : Nat) : Int) := rfl
  rw [e, u64_and_nat m 9223372036854775808 h (by decide), show (9223372036854775808 : Nat) = 2 ^ 63 from rfl, nat_bit]
  unfold keptB
  rw [show (9223372036854775808 : Nat) = 2 ^ 63 from rfl]
  by_cases hk : 2 ^ 63 ≤ m
  · have h1 : m / 2 ^ 63 = 1 := by omega
    rw [h1, decide_eq_true hk]
    rfl
  · have h1 : m / 2 ^ 63 = 0 := by omega
    rw [h1, decide_eq_false hk]
    rfl

set_option maxRecDepth 100000 in
theorem f47_any (p m : Nat) (w : World) (hm : m < 18446744073709551616) (hc : w.cell? ⟨p, 4, none⟩ = some (.int .u64 (m : Int))) :
    Calls Try.prog 47 #[.pointer (some ⟨p, 0, none⟩)] w fun e w' => e = .returned (.bool (keptB m)) ∧ w' = w := by
  rw [← kept_bit m hm]
  clear hm
  go_enter Try.func47, Try.ntmps47
  go_wp2
  go_ret
  exact ⟨rfl, rfl⟩

/-- 'append(kept, a)' with room: the whole row behind it. -/
theorem wpList_append_row (w : World) {ops : Array Oper} {rest : List Oper} {o : Oper} {a : Act} {Q : Exit → Act → World → Prop} (hgd : o.guard = none) (s x : Operand)
    (ho : o.op = .call { callee := .builtin .append, args := #[s, x], argTypes := #[76, 76] }) (i : TypeInfo) (hi : Try.prog.info? 80 = some i) (hsz : i.size = 1)
    (b k cap : Nat) (cur : Array Value) (hs : a.eval s = .slice (some ⟨b, 0, none⟩) k cap) (hrow : w.heap[b]? = some (.cells cur 80 (0, 0))) (hcur : cur.size = cap) (hk : k < cap)
    (ad : Addr) (v : Value) (hx : a.eval x = .slice (some ad) 1 1) (hc : ∀ j u, [v][j]? = some u → w.cell? (ad.add j) = some u) (h1 : v.oneCell' = true)
    (hK : ∀ (w' : World) (cur' : Array Value), w'.heap[b]? = some (.cells cur' 80 (0, 0)) → cur'.size = cap → cur'[k]? = some v → (∀ i, i ≠ k → cur'[i]? = cur[i]?) → w.grownBy w' (some b) → wpList Try.prog ops Q rest (a.put o.dst (.slice (some ⟨b, 0, none⟩) (k + 1) cap)) w') :
    wpList Try.prog ops Q (o :: rest) a w := by
  have hr := run_append_room (P := Try.prog) w 76 o.type 80 i Try.underlying76 hi b k cap cur hrow ad 1 1 [v] (by rw [hsz]; rfl) hc (by simpa using h1) (by omega) (by rw [hsz]; simp; omega)
  rw [hsz] at hr
  refine wpList_plain hgd fun K' hK' => ?_
  unfold Oper.wp execOp
  simp only [ho, resolve, invoke, builtin, Sem.run_bind, Sem.run_pure, Result.andThen_ok, List.map_toArray, List.map_cons, List.map_nil, hs, hx, hr]
  refine hK' _ _ (hK _ _ (setRow_heap w b cur _ 80 _ hrow) ?_ ?_ ?_ ⟨rfl, rfl, rfl, by simp, fun j _ hj => setRow_other w b j _ (fun e => hj (by rw [e]))⟩)
  · simp
    omega
  · have h1 : (List.take k cur.toList).length = k := by simp; omega
    simp only [List.getElem?_toArray, List.length_singleton, Nat.mul_one]
    rw [List.append_assoc, List.getElem?_append_right (by omega), h1, Nat.sub_self]
    rfl
  · intro j hj
    have h1 : (List.take (k * 1) cur.toList).length = k := by simp; omega
    simp only [List.getElem?_toArray, List.length_singleton, Nat.mul_one]
    rw [Nat.mul_one] at h1
    rcases Nat.lt_or_gt_of_ne hj with h | h
    · rw [List.append_assoc, List.getElem?_append_left (by omega), List.getElem?_take_of_lt h]
      simp
    · rw [List.getElem?_append_right (by simp; omega), List.getElem?_drop]
      simp only [List.length_append, List.length_singleton, h1]
      rw [show k + 1 + (j - (k + 1)) = j from by omega]
      simp

/-- A row behind a run of stores into it. -/
theorem row_setCells (b : Nat) (t : TypeId) : ∀ (vs : List Value) (o : Nat) (w : World) (cur : Array Value), w.heap[b]? = some (.cells cur t (0, 0)) →
    ∃ cur' : Array Value, (w.setCells b o vs).heap[b]? = some (.cells cur' t (0, 0)) ∧ cur'.size = cur.size ∧ ∀ i, i < o → cur'[i]? = cur[i]?
  | [], o, w, cur, h => ⟨cur, h, rfl, fun _ _ => rfl⟩
  | v :: r, o, w, cur, h => by
    obtain ⟨c, h1, h2, h3⟩ := row_setCells b t r (o + 1) (w.setCell ⟨b, o, none⟩ v) (cur.setIfInBounds o v) (heap_setCell_same w b o cur t v h)
    refine ⟨c, h1, by simpa using h2, fun i hi => ?_⟩
    rw [h3 i (by omega), Array.getElem?_setIfInBounds_ne (by omega)]

theorem other_setCells (b : Nat) : ∀ (vs : List Value) (o : Nat) (w : World) (k : Nat), k ≠ b → (w.setCells b o vs).heap[k]? = w.heap[k]?
  | [], _, _, _, _ => rfl
  | v :: r, o, w, k, h => by
    rw [World.setCells, other_setCells b r (o + 1) _ k h, heap_setCell_other w _ _ _ (by simpa using h)]

theorem size_setCells (b : Nat) : ∀ (vs : List Value) (o : Nat) (w : World), (w.setCells b o vs).heap.size = w.heap.size ∧ (w.setCells b o vs).os = w.os ∧ (w.setCells b o vs).tape = w.tape ∧ (w.setCells b o vs).output = w.output
  | [], _, _ => ⟨rfl, rfl, rfl, rfl⟩
  | v :: r, o, w => by
    obtain ⟨a, b', c, d⟩ := size_setCells b r (o + 1) (w.setCell ⟨b, o, none⟩ v)
    rw [World.setCells]
    exact ⟨a.trans (by simp [World.setCell]), b'.trans rfl, c.trans rfl, d.trans rfl⟩

theorem zero80 (w : World) : (zeroValue 80).run Try.prog w = .ok (.pointer none) w := by kernel_rfl

/-- 'clear(s[k:])'. -/
theorem wpList_clear_row (w : World) {ops : Array Oper} {rest : List Oper} {o : Oper} {a : Act} {Q : Exit → Act → World → Prop} (hgd : o.guard = none) (x : Operand)
    (ho : o.op = .call { callee := .builtin .clear, args := #[x], argTypes := #[76] }) (b k n c : Nat) (cur : Array Value) (hx : a.eval x = .slice (some ⟨b, k, none⟩) n c) (hrow : w.heap[b]? = some (.cells cur 80 (0, 0))) (hn : 0 < n) (hkn : k + n ≤ cur.size)
    (hK : ∀ (w' : World) (cur' : Array Value), w'.heap[b]? = some (.cells cur' 80 (0, 0)) → cur'.size = cur.size → (∀ i, i < k → cur'[i]? = cur[i]?) → w.grownBy w' (some b) → wpList Try.prog ops Q rest (a.put o.dst (.tuple #[])) w') :
    wpList Try.prog ops Q (o :: rest) a w := by
  have hr := Lib.run_clear_slice (P := Try.prog) w 76 80 o.type (.pointer none) Try.underlying76 zero80 rfl rfl b k n c hn (fun j hj => by rw [cell_of_row w b (k + j) _ _ _ hrow]; simp; omega) (fun j hj => frozen_of_row w b (k + j) _ _ hrow)
  obtain ⟨cur', h1, h2, h3⟩ := row_setCells b 80 (List.replicate n (.pointer none)) k w cur hrow
  obtain ⟨s1, s2, s3, s4⟩ := size_setCells b (List.replicate n (.pointer none)) k w
  refine wpList_plain hgd fun K' hK' => ?_
  unfold Oper.wp execOp
  simp only [ho, resolve, invoke, builtin, Sem.run_bind, Sem.run_pure, Result.andThen_ok, List.map_toArray, List.map_cons, List.map_nil, hx, hr]
  exact hK' _ _ (hK _ cur' h1 h2 h3 ⟨s2, s3, s4, by rw [s1]; exact Nat.le_refl _, fun j _ hj => other_setCells b _ k w j (fun e => hj (by rw [e]))⟩)

end Go.Proofs.Qxb6602565a
