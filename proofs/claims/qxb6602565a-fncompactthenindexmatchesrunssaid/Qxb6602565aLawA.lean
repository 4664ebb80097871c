import Derived.Test.Qxb6602565aAre
namespace Go.Proofs.Qxb6602565a
open Go.RowKit
set_option linter.unusedVariables false

/-- The first j accesses that the law appends. -/
def accs (m : List Nat) (j : Nat) : List (Nat × Nat) := (List.range j).map fun i => (i, m.getD i 0)
theorem accs_length (m : List Nat) (j : Nat) : (accs m j).length = j := by simp [accs]
theorem accs_succ (m : List Nat) (j : Nat) : accs m (j + 1) = accs m j ++ [(j, m.getD j 0)] := by simp [accs, List.range_succ]
theorem accs_marks (m : List Nat) (j : Nat) (h : j ≤ m.length) : marksOf (accs m j) = m.take j := by
  apply List.ext_getElem?
  intro i
  unfold marksOf accs
  by_cases hi : i < j
  · rw [List.getElem?_take_of_lt hi]
    simp [hi, show i < m.length from by omega]
  · rw [List.getElem?_eq_none (by simp; omega), List.getElem?_eq_none (by rw [List.length_take]; omega)]

theorem accs_lt (m : List Nat) (hm : ∀ i, m.getD i 0 < 18446744073709551616) (j : Nat) (h : j ≤ m.length) (i : Nat) : (marksOf (accs m j)).getD i 0 < 18446744073709551616 := by
  rw [accs_marks m j h]
  by_cases hi : i < j
  · rw [getD_take _ _ _ hi]; exact hm i
  · rw [List.getD_eq_getElem?_getD, List.getElem?_eq_none (by rw [List.length_take]; omega)]; decide

set_option maxRecDepth 100000 in
theorem f18_any (a : Option Addr) (n cap : Nat) (p : Int) (w : World) (hn : n ≤ 9223372036854775807) :
    Calls Try.prog 18 #[.slice a n cap, .int .i64 p] w fun e w' => e = .returned (.bool (decide (n ≤ 1048576))) ∧ w' = w := by
  by_cases h : n ≤ 1048576
  · rw [decide_eq_true h]
    go_enter Try.func18, Try.ntmps18
    go_wp2
    go_ret
    exact ⟨rfl, rfl⟩
  · rw [decide_eq_false h]
    go_enter Try.func18, Try.ntmps18
    go_wp2
    go_ret
    exact ⟨rfl, rfl⟩

theorem NumSl.take {w : World} {a : Option Addr} {m : List Nat} (h : NumSl w a m) (j : Nat) : NumSl w a (m.take j) := fun q => by
  rw [List.length_take] at q
  obtain ⟨b, off, e, hlt, hc⟩ := h (by omega)
  refine ⟨b, off, e, hlt, fun i hi => ?_⟩
  rw [List.length_take] at hi
  rw [getD_take _ _ _ (by omega)]
  exact hc i (by omega)

set_option maxRecDepth 100000 in
set_option maxHeartbeats 4000000 in
theorem walkA (a : Option Addr) (cap : Nat) (m : List Nat) (p : Int) (w : World) (hm : ∀ i, m.getD i 0 < 18446744073709551616) (hcap : m.length ≤ cap) (hlen : m.length ≤ 9223372036854775807) (hcl : cap ≤ 9223372036854775807) (hsl : NumSl w a m) :
    Calls Try.prog 5 #[.slice a m.length cap, .int .i64 p] w fun e w' => e = .returned (.bool true) ∧ Below w.heap.size w w' := by
  go_enter Try.func5, Try.ntmps5
  go_wp2_with fail
  refine (f18_any a m.length cap p _ hlen).mono ?_
  rintro e w1 ⟨rfl, hw⟩
  obtain rfl := hw.symm
  clear hw
  by_cases hsm : m.length ≤ 131072
  case neg =>
    by_cases h2 : m.length ≤ 1048576
    · rw [decide_eq_true h2]
      go_wp2_with fail
      go_ret
      exact ⟨rfl, Below.refl _ _⟩
    · rw [decide_eq_false h2]
      go_wp2_with fail
      go_ret
      exact ⟨rfl, Below.refl _ _⟩
  rw [decide_eq_true (show m.length ≤ 1048576 by omega)]
  by_cases hp : 0 ≤ p ∧ p ≤ m.length
  case neg =>
    rcases (show p < 0 ∨ (0 ≤ p ∧ (m.length : Int) < p) from by omega) with q | ⟨q1, q⟩
    all_goals
      clear hp
      go_wp2_with fail
      go_ret
      exact ⟨rfl, Below.refl _ _⟩
  obtain ⟨hp0, hp1⟩ := hp
  obtain ⟨pn, rfl⟩ := Int.eq_ofNat_of_zero_le hp0
  have hpn : pn ≤ m.length := by omega
  have d1 : decide ((131072 : Int) < (m.length : Int)) = false := by simp; omega
  have d2 : decide ((m.length : Int) < (pn : Int)) = false := by simp; omega
  go_wp2_with fail
  refine (f19_any m.length w.heap.size _ (by omega) (Nat.le_refl _)).mono ?_
  rintro e w1 ⟨g, rfl, hlog, hbel⟩
  go_wp2_with fail
  go_loopw [6] (fun i wr => ∃ j : Nat, i = .int .i64 (j : Int) ∧ j ≤ pn ∧ Log wr w.heap.size g (accs m j) m.length 0 ∧ Below w.heap.size w wr) (fun i _ => pn - (intOf i).toNat)
  case atStart => exact ⟨0, rfl, Nat.zero_le _, hlog, hbel⟩
  case round =>
    rename World => w2
    obtain ⟨j, rfl, hj, hlg, hbl⟩ := hrel
    clear hlog hbel
    by_cases hlt : j < pn
    · obtain ⟨b, off, rfl, hb, hc⟩ := hsl (by omega)
      have g1 : w2.cell? ⟨b, off + j, none⟩ = some (.int .u64 ((m.getD j 0 : Nat) : Int)) := (hbl.cell (by exact hb)).trans (hc j (by omega))
      have hst := f20_fits g w.heap.size m.length 0 (accs m j) j (m.getD j 0) w2 hlg (by rw [accs_length]; omega) hbl.size
      rw [← accs_succ] at hst
      have HST := hide hst
      clear hst hc
      generalize m.getD j 0 = x at *
      go_wp2_with fail
      refine HST.out.mono ?_
      rintro e w3 ⟨rfl, hlg3, hbl3⟩
      have hb13 := hbl.trans hbl3
      clear hbl hbl3 hlg HST
      go_wp2_with fail
      go_roundw
      case rel => exact ⟨j + 1, by go_num, by omega, hlg3, hb13⟩
      case measure => simp [intOf]; omega
    · obtain rfl : j = pn := by omega
      have h21 := hide (f21_any g w.heap.size m.length 0 (accs m j) w2 hlg (by rw [accs_length]; omega) hbl.size (accs_lt m hm j hpn))
      rw [accs_length] at h21
      go_wp2_with fail
      refine h21.out.mono ?_
      rintro e w3 ⟨rfl, hlg3, hbl3⟩
      have hb13 := hbl.trans hbl3
      have hbW : Below w.heap.size w w3 := hb13
      have h22 := f22_any g w.heap.size m.length cap a (accs m j) w3 (by rw [accs_length]; exact hlg3) (by rw [accs_length]; omega) (by rw [accs_marks m j hpn]; exact (hsl.take j).below hb13) (accs_lt m hm j hpn)
      rw [accs_length] at h22
      have H22 := hide h22
      clear h22 hbl hbl3 hlg h21
      go_wp2_with fail
      refine H22.out.mono ?_
      rintro e w4 ⟨rfl, hw⟩
      obtain rfl := hw.symm
      clear hw H22
      go_wp2_with fail
      go_loopw [7] (fun i wr => ∃ k : Nat, i = .int .i64 (k : Int) ∧ j ≤ k ∧ k ≤ m.length ∧ Log wr w.heap.size g (accs m k) m.length j ∧ Below w.heap.size w wr) (fun i _ => m.length - (intOf i).toNat)
      case atStart => exact ⟨j, rfl, Nat.le_refl _, hpn, hlg3, hb13⟩
      case round =>
        rename World => w5
        obtain ⟨k, rfl, hjk, hkm, hlg5, hbl5⟩ := hrel
        clear hlg3 hb13 hbW
        by_cases hlt2 : k < m.length
        · obtain ⟨b, off, rfl, hb, hc⟩ := hsl (by omega)
          have g1 : w5.cell? ⟨b, off + k, none⟩ = some (.int .u64 ((m.getD k 0 : Nat) : Int)) := (hbl5.cell (by exact hb)).trans (hc k (by omega))
          have hst := f20_fits g w.heap.size m.length j (accs m k) k (m.getD k 0) w5 hlg5 (by rw [accs_length]; omega) hbl5.size
          rw [← accs_succ] at hst
          have HST := hide hst
          clear hst hc
          generalize m.getD k 0 = x at *
          go_wp2_with fail
          refine HST.out.mono ?_
          rintro e w6 ⟨rfl, hlg6, hbl6⟩
          have hb16 := hbl5.trans hbl6
          clear hbl5 hbl6 hlg5 HST
          go_wp2_with fail
          go_roundw
          case rel => exact ⟨k + 1, by go_num, by omega, by omega, hlg6, hb16⟩
          case measure => simp [intOf]; omega
        · obtain rfl : k = m.length := by omega
          have h21 := hide (f21_any g w.heap.size m.length j (accs m m.length) w5 hlg5 (by rw [accs_length]; omega) hbl5.size (accs_lt m hm m.length (Nat.le_refl _)))
          rw [accs_length] at h21
          go_wp2_with fail
          refine h21.out.mono ?_
          rintro e w6 ⟨rfl, hlg6, hbl6⟩
          have hb16 := hbl5.trans hbl6
          have hmm : marksOf (accs m m.length) = m := by rw [accs_marks m m.length (Nat.le_refl _), List.take_of_length_le (Nat.le_refl _)]
          have hsl6 := hsl.below hb16
          have h22 := f22_any g w.heap.size m.length cap a (accs m m.length) w6 (by rw [accs_length]; exact hlg6) (by rw [accs_length]; omega) (by rw [hmm]; exact hsl6) (accs_lt m hm m.length (Nat.le_refl _))
          rw [accs_length] at h22
          have H22 := hide h22
          have H23 := hide (f23_any g w.heap.size m.length m.length cap a (accs m m.length) m w6 hlg6 (by rw [accs_length]; omega) hmm.symm hsl6)
          clear h22 hbl5 hbl6 hlg5 h21 hmm
          go_wp2_with fail
          refine H22.out.mono ?_
          rintro e w7 ⟨rfl, hw⟩
          obtain rfl := hw.symm
          clear hw H22
          go_wp2_with fail
          refine H23.out.mono ?_
          rintro e w8 ⟨rfl, hb8⟩
          have hfin := hb16.trans (hb8.mono hb16.size)
          clear hb8 hb16
          go_wp2_with fail
          go_ret
          exact ⟨rfl, hfin⟩

end Go.Proofs.Qxb6602565a
