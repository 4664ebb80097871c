import Derived.Test.Qxb6602869aBits
import Derived.Deep.AppendLies
namespace Go.Proofs.Qxb6602869a
open Go.RowKit
set_option linter.unusedVariables false

theorem info3 : (Try.prog.info? 3).map (fun i => (i.zero, i.size, i.bytes)) = some (some (.int .i64 0), 1, 8) := by kernel_rfl

theorem owns_mono {w : World} {base base' : Nat} {e : TypeId} {size : Nat} {v : Value} {n : Nat} {xs : List Value} (h : w.ownsRow base e size v n xs) (hb : base' ≤ base) : w.ownsRow base' e size v n xs := by
  refine ⟨h.1, h.2.elim .inl fun ⟨g, c, cur, h1, h2, h3⟩ => .inr ⟨g, c, cur, h1, Nat.le_trans hb h2, h3⟩⟩

/-- The i-th digit of a fingerprint. -/
def dg (fp i : Nat) : Nat := if i = 0 then fp / 2 ^ 58 else fp / 2 ^ (58 - 2 * i) % 4
def dvals (fp i : Nat) : List Value := (List.range i).map fun j => Value.int .i64 (dg fp j : Int)
theorem dvals_length (fp i : Nat) : (dvals fp i).length = i := by simp [dvals]
theorem dvals_succ (fp i : Nat) : dvals fp (i + 1) = dvals fp i ++ [Value.int .i64 (dg fp i : Int)] := by simp [dvals, List.range_succ]
theorem dvals_get (fp i j : Nat) (h : j < i) : (dvals fp i)[j]? = some (Value.int .i64 (dg fp j : Int)) := by simp [dvals, h]
theorem dg_lt (fp i : Nat) (hfp : fp < 18446744073709551616) : dg fp i < 64 := by
  unfold dg
  split
  · omega
  · omega
theorem dg_lt4 (fp i : Nat) (hi : 0 < i) : dg fp i < 4 := by
  unfold dg
  rw [if_neg (by omega)]
  omega

set_option maxRecDepth 100000 in
set_option maxHeartbeats 1000000 in
theorem f17_any (fp k b : Nat) (w : World) (hfp : fp < 18446744073709551616) (hk : k ≤ 27) (hbk : b = 6 + 2 * k) :
    Calls Try.prog 17 #[.agg #[.int .i64 (b : Int), .int .u64 ((fp / 2 ^ (64 - b) : Nat) : Int)]] w fun e w' => ∃ g cap, e = .returned (.slice (some ⟨g, 0, none⟩) (k + 1) cap) ∧ w'.ownsRow w.heap.size 3 1 (.slice (some ⟨g, 0, none⟩) (k + 1) cap) (k + 1) (dvals fp (k + 1)) ∧ Below w.heap.size w w' := by
  obtain ⟨i0, hi, hz0, hz1, hz2⟩ := info_parts info3
  obtain ⟨P, hPd⟩ : ∃ P, P = fp / 2 ^ (64 - b) := ⟨_, rfl⟩
  obtain ⟨Q, hQd⟩ : ∃ Q, Q = 2 ^ (b - 6) := ⟨_, rfl⟩
  have hQ := castPow (b - 6) Q hQd
  have hd0 : (P : Int) / (Q : Int) = (dg fp 0 : Int) := by
    rw [hPd, hQd, ← Int.natCast_ediv, Nat.div_div_eq_div_mul, ← Nat.pow_add, show 64 - b + (b - 6) = 58 from by omega]
    rfl
  have hl0 := dg_lt fp 0 hfp
  have hPl : P < 18446744073709551616 := by rw [hPd]; exact Nat.lt_of_le_of_lt (Nat.div_le_self _ _) hfp
  rw [← hPd]
  have HP := hide hPd
  have HQ := hide hQd
  have HB := hide hbk
  have hb6 : 6 ≤ b := by omega
  have hb60 : b ≤ 60 := by omega
  clear hPd hQd hbk
  have e1 : dvals fp 1 = [Value.int .i64 (dg fp 0 : Int)] := rfl
  have E1 := hide e1
  clear e1
  generalize dg fp 0 = d0 at *
  go_enter Try.func17, Try.ntmps17
  go_wp2
  go_loopw [4, 5] (fun v s wr => ∃ (i g cap : Nat) (z : Int), v = .slice (some ⟨g, 0, none⟩) i cap ∧ s = .int .i64 z ∧ z = 2 * (k : Int) - 2 * (i : Int) ∧ 1 ≤ i ∧ i ≤ k + 1 ∧ wr.ownsRow (w.heap.size + 1) 3 1 (.slice (some ⟨g, 0, none⟩) i cap) i (dvals fp i) ∧ wr.cell? ⟨w.heap.size, 1, none⟩ = some (.int .u64 (P : Int)) ∧ Below w.heap.size w wr) (fun _ s _ => (intOf s + 2).toNat)
  case atStart =>
    refine ⟨1, w.heap.size + 1, 1, _, rfl, rfl, by have := HB.out; omega, by omega, by omega, ?_, by simp, ((Below.refl _ _).alloc (Nat.le_refl _) _).alloc (by simp) _⟩
    rw [E1.out]
    have h := World.ownsRow_lit (base := w.heap.size + 1) (e := 3) (size := 1) (w.alloc (.cells #[.int .i64 (b : Int), .int .u64 (P : Int)] 36)) #[.int .i64 (d0 : Int)] 1 (by simp) (by unfold maxLen; omega) rfl
    rw [World.size_alloc] at h
    exact h
  case round =>
    obtain ⟨i, g, cap, z, rfl, rfl, hz, hi1, hik, hown, hcell, hbel⟩ := hrel
    clear hQ hd0
    by_cases hlt : i < k + 1
    · obtain ⟨s, rfl⟩ : ∃ s : Nat, z = (s : Int) := ⟨2 * k - 2 * i, by omega⟩
      have hs : s = 2 * k - 2 * i := by omega
      obtain ⟨S, hSd⟩ : ∃ S, S = 2 ^ s := ⟨_, rfl⟩
      have hS := castPow s S hSd
      have hd : bits .and .u64 ((P : Int) / (S : Int)) 3 = (dg fp i : Int) := by
        unfold dg
        rw [if_neg (by omega), ← Int.natCast_ediv]
        have h0 := u64_and_nat (P / S) 3 (Nat.lt_of_le_of_lt (Nat.div_le_self _ _) hPl) (by decide)
        rw [show ((3 : Nat) : Int) = 3 from rfl] at h0
        rw [h0, nat_mask2, HP.out, hSd, Nat.div_div_eq_div_mul, ← Nat.pow_add, show 64 - b + s = 58 - 2 * i from by have := HB.out; omega]
      have hl := dg_lt4 fp i (by omega)
      have hsz := hbel.size
      have hE := hide (dvals_succ fp i)
      have hgl := (hown.lt g rfl)
      have HZ := hide hz
      have hs60 : s ≤ 60 := by omega
      clear hSd hz hs
      generalize dg fp i = d at *
      have hg1 : wr.heap.size + 1 ≤ wr.heap.size + 1 := Nat.le_refl _
      have hbs : w.heap.size + 1 ≤ wr.heap.size := by omega
      go_wp2_with (first | (at_builtin; refine wpList_append_lies _ rfl _ _ 42 rfl (w.heap.size + 1) 3 i0 _ 1 8 Try.underlying42 hi hz0 hz1 hz2 rfl (by omega) (.slice (some ⟨g, 0, none⟩) i cap) i (dvals fp i) rfl (hown.alloc _) ⟨wr.heap.size, 0, none⟩ 1 1 [.int .i64 (d : Int)] rfl rfl (World.news_of_block (cs := #[.int .i64 (d : Int)]) (t := 3) (fr := (0, 0)) (heap_alloc_new wr _)) (by simp [Value.oneCell']) (by omega) (by unfold maxLen; omega) (by omega) (by simp; omega) (wr.heap.size + 1) (by simp) ?_) | go_in)
      intro g' cap' w1 hown1 hgrow1 hat hlt1
      have hc1 : w1.cell? ⟨w.heap.size, 1, none⟩ = some (.int .u64 (P : Int)) := hgrow1.cell (by rw [Below.cell ((Below.refl _ _).alloc (Nat.le_refl _) _) (by simp; omega)]; exact hcell) (by simp [Value.ownBlock]; omega)
      have hb1 : Below w.heap.size w w1 := (hbel.alloc (by omega) _).grown hgrow1 (by simp; omega) (fun k hk => by simp [Value.ownBlock] at hk; omega)
      rw [← hE.out] at hown1
      clear hgrow1 hat
      go_wp2
      go_roundw
      case rel => exact ⟨i + 1, g', cap', (s : Int) - 2, rfl, rfl, by have := HZ.out; omega, by omega, by omega, hown1, hc1, hb1⟩
      case measure => simp [intOf]; omega
    · have hzn : z = -2 := by omega
      have hik' : i = k + 1 := by omega
      subst hik'
      subst hzn
      clear hz
      go_wp2
      go_ret
      exact ⟨g, cap, rfl, owns_mono hown (by omega), hbel⟩
end Go.Proofs.Qxb6602869a
