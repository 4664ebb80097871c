import Derived.Test.Qxb6602565aLvl
namespace Go.Proofs.Qxb6602565a
open Go.RowKit
set_option linter.unusedVariables false

theorem Log.below {w w' : World} {base g ca built : Nat} {As : List (Nat × Nat)} (h : Log w base g As ca built) (hb : Below w.heap.size w w') : Log w' base g As ca built := by
  have hk : Keeps 0 w w' := Keeps.below hb
  obtain ⟨ba, vl, lat, st, hh, h1, h2, h3, h4⟩ := h
  exact ⟨ba, vl, lat, st, hk _ _ _ _ hh (by decide), h1, h2.keeps hk (by decide) (by decide), h3.keeps hk (by decide) (by decide), h4⟩

set_option maxRecDepth 100000 in
set_option maxHeartbeats 1000000 in
theorem f23_any (g base ca built cap : Nat) (a : Option Addr) (As : List (Nat × Nat)) (m : List Nat) (w : World) (hlog : Log w base g As ca built) (hlen : As.length ≤ 262144) (hm : m = As.map Prod.snd) (hsl : NumSl w a m) :
    Calls Try.prog 23 #[.pointer (some ⟨g, 0, none⟩), .slice a m.length cap] w fun e w' => e = .returned (.bool true) ∧ Below w.heap.size w w' := by
  have hml : m.length = As.length := by rw [hm]; simp
  have hget : ∀ i, ((As.getD i (0, 0)).2) = m.getD i 0 := fun i => by
    rw [hm, List.getD_eq_getElem?_getD, List.getD_eq_getElem?_getD, List.getElem?_map]
    cases As[i]? <;> rfl
  rw [hml]
  have F26 := hide (f26_any g base ca _ As w hlog)
  have FX : Hid (∀ i wr, Below w.heap.size w wr → i < As.length → Calls Try.prog 28 #[.pointer (some ⟨g, 0, none⟩), .int .i64 (i : Int)] wr fun e w' => e = .returned (.int .u64 ((m.getD i 0 : Nat) : Int)) ∧ w' = wr) := fun i wr hb hi => by
    rw [← hget]
    exact f28_any g base ca _ i As wr (hlog.below hb) hi
  have HML : Hid (m.length = As.length) := hml
  have hnn : ((As.length : Int) == (As.length : Int)) = true := by simp
  clear hlog hget hm hml
  go_enter Try.func23, Try.ntmps23
  go_wp2_with fail
  refine F26.out.mono ?_
  rintro e w1 ⟨rfl, hw⟩
  obtain rfl := hw.symm
  clear hw F26
  go_wp2_with fail
  go_loopw [5] (fun i wr => ∃ k : Nat, i = .int .i64 (k : Int) ∧ k ≤ As.length ∧ Below w.heap.size w wr) (fun i _ => As.length - (intOf i).toNat)
  case atStart => exact ⟨0, rfl, Nat.zero_le _, Below.refl _ _⟩
  case round =>
    obtain ⟨k, rfl, hk, hnx⟩ := hrel
    by_cases hlt : k < As.length
    · obtain ⟨b, off, rfl, hb, hc⟩ := hsl (by rw [HML.out]; omega)
      have g1 : wr.cell? ⟨b, off + k, none⟩ = some (.int .u64 ((m.getD k 0 : Nat) : Int)) := (hnx.cell (by exact hb)).trans (hc k (by rw [HML.out]; omega))
      have FK := hide (fun n => FX.out k (wr.drewN n) (below_drewN hnx n) hlt)
      clear hc FX
      generalize m.getD k 0 = x at *
      have hee : ((x : Int) == (x : Int)) = true := by simp
      go_wp2_with fail
      go_quiet ((go_at_call 28; exact Calls.quiet_of_same (FK.out _)))
      go_wp2_with fail
      go_roundw
      case rel => exact ⟨k + 1, by go_num, by omega, below_drewN hnx _⟩
      case measure => simp [intOf]; omega
    · go_wp2_with fail
      go_ret
      exact ⟨rfl, hnx⟩

set_option maxRecDepth 100000 in
set_option maxHeartbeats 1000000 in
theorem f34_any (g base ca built cap : Nat) (a : Option Addr) (As : List (Nat × Nat)) (m : List Nat) (w : World) (hlog : Log w base g As ca built) (hlen : As.length ≤ 262144) (hm : m = As.map Prod.fst) (hsl : NumSl w a m) :
    Calls Try.prog 34 #[.pointer (some ⟨g, 0, none⟩), .slice a m.length cap] w fun e w' => e = .returned (.bool true) ∧ Below w.heap.size w w' := by
  have hml : m.length = As.length := by rw [hm]; simp
  have hget : ∀ i, ((As.getD i (0, 0)).1) = m.getD i 0 := fun i => by
    rw [hm, List.getD_eq_getElem?_getD, List.getD_eq_getElem?_getD, List.getElem?_map]
    cases As[i]? <;> rfl
  rw [hml]
  have F26 := hide (f26_any g base ca _ As w hlog)
  have FX : Hid (∀ i wr, Below w.heap.size w wr → i < As.length → Calls Try.prog 27 #[.pointer (some ⟨g, 0, none⟩), .int .i64 (i : Int)] wr fun e w' => e = .returned (.int .u64 ((m.getD i 0 : Nat) : Int)) ∧ w' = wr) := fun i wr hb hi => by
    rw [← hget]
    exact f27_any g base ca _ i As wr (hlog.below hb) hi
  have HML : Hid (m.length = As.length) := hml
  have hnn : ((As.length : Int) == (As.length : Int)) = true := by simp
  clear hlog hget hm hml
  go_enter Try.func34, Try.ntmps34
  go_wp2_with fail
  refine F26.out.mono ?_
  rintro e w1 ⟨rfl, hw⟩
  obtain rfl := hw.symm
  clear hw F26
  go_wp2_with fail
  go_loopw [5] (fun i wr => ∃ k : Nat, i = .int .i64 (k : Int) ∧ k ≤ As.length ∧ Below w.heap.size w wr) (fun i _ => As.length - (intOf i).toNat)
  case atStart => exact ⟨0, rfl, Nat.zero_le _, Below.refl _ _⟩
  case round =>
    obtain ⟨k, rfl, hk, hnx⟩ := hrel
    by_cases hlt : k < As.length
    · obtain ⟨b, off, rfl, hb, hc⟩ := hsl (by rw [HML.out]; omega)
      have g1 : wr.cell? ⟨b, off + k, none⟩ = some (.int .u64 ((m.getD k 0 : Nat) : Int)) := (hnx.cell (by exact hb)).trans (hc k (by rw [HML.out]; omega))
      have FK := hide (fun n => FX.out k (wr.drewN n) (below_drewN hnx n) hlt)
      clear hc FX
      generalize m.getD k 0 = x at *
      have hee : ((x : Int) == (x : Int)) = true := by simp
      go_wp2_with fail
      go_quiet ((go_at_call 27; exact Calls.quiet_of_same (FK.out _)))
      go_wp2_with fail
      go_roundw
      case rel => exact ⟨k + 1, by go_num, by omega, below_drewN hnx _⟩
      case measure => simp [intOf]; omega
    · go_wp2_with fail
      go_ret
      exact ⟨rfl, hnx⟩

end Go.Proofs.Qxb6602565a
