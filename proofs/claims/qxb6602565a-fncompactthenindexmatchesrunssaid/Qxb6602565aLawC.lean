import Derived.Test.Qxb6602565aLawB
import Derived.Test.Qxb6602565aLawA
namespace Go.Proofs.Qxb6602565a
open Go.RowKit
set_option linter.unusedVariables false

set_option maxRecDepth 100000 in
theorem f33_any (a a' : Option Addr) (n m cap cap' : Nat) (w : World) (hn : n ≤ 9223372036854775807) (hm : m ≤ 9223372036854775807) :
    Calls Try.prog 33 #[.slice a n cap, .slice a' m cap'] w fun e w' => e = .returned (.bool (decide (n ≤ 1048576 ∧ m ≤ 1048576 ∧ n + m ≤ 1048576))) ∧ w' = w := by
  by_cases h : n ≤ 1048576 ∧ m ≤ 1048576 ∧ n + m ≤ 1048576
  · rw [decide_eq_true h]
    obtain ⟨h1, h2, h3⟩ := h
    go_enter Try.func33, Try.ntmps33
    go_wp2
    go_ret
    exact ⟨rfl, rfl⟩
  · rw [decide_eq_false h]
    rcases (show 1048576 < n ∨ (n ≤ 1048576 ∧ 1048576 < m) ∨ (n ≤ 1048576 ∧ m ≤ 1048576 ∧ 1048576 < n + m) from by omega) with q | ⟨q1, q⟩ | ⟨q1, q2, q⟩
    all_goals
      clear h
      go_enter Try.func33, Try.ntmps33
      go_wp2
      go_ret
      exact ⟨rfl, rfl⟩

def linesOf (As : List (Nat × Nat)) : List Nat := As.map Prod.fst

theorem NumSl.ofOwns {w : World} {base b n cap : Nat} {l : List Nat} (h : w.ownsRow base 48 1 (.slice (some ⟨b, 0, none⟩) n cap) n (ints l)) (hn : n = l.length) : NumSl w (some ⟨b, 0, none⟩) l := fun q => by
  refine ⟨b, 0, rfl, (h.lt b rfl).2, fun i hi => ?_⟩
  rw [Nat.zero_add, h.cellAt i (by omega)]
  exact ints_getD l i hi

theorem more_snoc (K : List (Nat × Nat)) (mo : List Nat) (j : Nat) : K ++ accs mo (j + 1) = (K ++ accs mo j) ++ [(j, mo.getD j 0)] := by rw [accs_succ, List.append_assoc]

theorem more_lt {K : List (Nat × Nat)} {mo : List Nat} (hK : ∀ a ∈ K, a.2 < 18446744073709551616) (hm : ∀ i, mo.getD i 0 < 18446744073709551616) (j : Nat) : ∀ i, (marksOf (K ++ accs mo j)).getD i 0 < 18446744073709551616 := by
  intro i
  by_cases hi : i < (marksOf (K ++ accs mo j)).length
  · have hmem : (marksOf (K ++ accs mo j)).getD i 0 ∈ marksOf (K ++ accs mo j) := by
      rw [List.getD_eq_getElem?_getD, List.getElem?_eq_getElem hi]
      exact List.getElem_mem hi
    unfold marksOf at hmem ⊢
    obtain ⟨a, ha, e⟩ := List.mem_map.1 hmem
    rw [← e]
    rcases List.mem_append.1 ha with h | h
    · exact hK a h
    · unfold accs at h
      obtain ⟨t, _, rfl⟩ := List.mem_map.1 h
      exact hm t
  · rw [List.getD_eq_getElem?_getD, List.getElem?_eq_none (by omega)]
    decide

theorem kept_lt {As : List (Nat × Nat)} (h : ∀ i, (As.getD i (0, 0)).2 < 18446744073709551616) : ∀ a ∈ keptOf As, a.2 < 18446744073709551616 := by
  intro a ha
  obtain ⟨i, hi, rfl⟩ := List.getElem_of_mem (List.mem_filter.1 ha).1
  have := h i
  rw [List.getD_eq_getElem?_getD, List.getElem?_eq_getElem hi] at this
  exact this

set_option maxRecDepth 100000 in
set_option maxHeartbeats 4000000 in
theorem walkC (a a' : Option Addr) (cap cap' : Nat) (As : List (Nat × Nat)) (mo : List Nat) (w : World) (hmk : ∀ i, (As.getD i (0, 0)).2 < 18446744073709551616) (hmo : ∀ i, mo.getD i 0 < 18446744073709551616) (hlen : As.length ≤ 9223372036854775807) (hlen' : mo.length ≤ 9223372036854775807) (hsl : AccSl w a As) (hsl' : NumSl w a' mo) :
    Calls Try.prog 7 #[.slice a As.length cap, .slice a' mo.length cap'] w fun e w' => e = .returned (.bool true) ∧ Below w.heap.size w w' := by
  go_enter Try.func7, Try.ntmps7
  go_wp2_with fail
  refine (f33_any a a' As.length mo.length cap cap' _ hlen hlen').mono ?_
  rintro e w1 ⟨rfl, hw⟩
  obtain rfl := hw.symm
  clear hw
  by_cases hsm : As.length ≤ 1048576 ∧ mo.length ≤ 1048576 ∧ As.length + mo.length ≤ 1048576
  case neg =>
    rw [decide_eq_false hsm]
    go_wp2_with fail
    go_ret
    exact ⟨rfl, Below.refl _ _⟩
  rw [decide_eq_true hsm]
  obtain ⟨hs1, hs2, hs3⟩ := hsm
  by_cases hbig : 2 * As.length + mo.length ≤ 131072
  case neg =>
    go_wp2_with fail
    go_ret
    exact ⟨rfl, Below.refl _ _⟩
  have d1 : decide ((131072 : Int) < 2 * (As.length : Int) + (mo.length : Int)) = false := by simp; omega
  go_wp2_with fail
  refine (f19_any As.length w.heap.size _ (by omega) (Nat.le_refl _)).mono ?_
  rintro e w1 ⟨g, rfl, hlog, hbel⟩
  go_wp2_with fail
  go_loopw [6] (fun i wr => ∃ j : Nat, i = .int .i64 (j : Int) ∧ j ≤ As.length ∧ Log wr w.heap.size g (As.take j) As.length 0 ∧ Below w.heap.size w wr) (fun i _ => As.length - (intOf i).toNat)
  case atStart => exact ⟨0, rfl, Nat.zero_le _, hlog, hbel⟩
  case round =>
    rename World => w2
    obtain ⟨j, rfl, hj, hlg, hbl⟩ := hrel
    clear hlog hbel
    by_cases hlt : j < As.length
    · obtain ⟨b, off, rfl, hb, hc⟩ := hsl (by omega)
      have g1 : w2.cell? ⟨b, off + j * 2, none⟩ = some (.int .u64 (((As.getD j (0, 0)).1 : Nat) : Int)) := (hbl.cell (by exact hb)).trans (hc j hlt).1
      have g2 : w2.cell? ⟨b, off + j * 2 + 1, none⟩ = some (.int .u64 (((As.getD j (0, 0)).2 : Nat) : Int)) := (hbl.cell (by exact hb)).trans (hc j hlt).2
      have hst := f20_fits g w.heap.size As.length 0 (As.take j) (As.getD j (0, 0)).1 (As.getD j (0, 0)).2 w2.drew (hlg.below (Below.refl _ _).drew) (by rw [List.length_take]; omega) hbl.size
      rw [← take_succ_acc As j hlt] at hst
      have HST := hide hst
      have lb : b < w2.heap.size := Nat.lt_of_lt_of_le hb hbl.size
      have hj0 : (0 : Int) ≤ (j : Int) := by omega
      have hj1 : (j : Int) < (As.length : Int) := by omega
      clear hst hc
      generalize (As.getD j (0, 0)).1 = x1 at *
      generalize (As.getD j (0, 0)).2 = x2 at *
      go_wp2_with fail
      go_region_held3 (fun w' => w'.cell? ⟨b, off + j * 2, none⟩ = some (.int .u64 (x1 : Int)) ∧ w'.cell? ⟨b, off + j * 2 + 1, none⟩ = some (.int .u64 (x2 : Int))) (first | go_keep | (exact ⟨(hbl3.cell (by exact hb)).trans g1, (hbl3.cell (by exact hb)).trans g2⟩))
        ((go_at_call 20; refine HST.out.mono ?_; rintro e w3 ⟨rfl, hlg3, hbl3⟩))
      have hb13 : Below w.heap.size w w3 := hbl.trans ((Below.refl _ _).drew.trans hbl3)
      clear hbl hbl3 hlg HST
      go_wp2_with fail
      go_roundw
      case rel => exact ⟨j + 1, by go_num, by omega, hlg3, hb13⟩
      case measure => simp [intOf]; omega
    · obtain rfl : j = As.length := by omega
      rw [take_all] at hlg
      have hmk' : ∀ i, (marksOf As).getD i 0 < 18446744073709551616 := fun i => by rw [marksOf_getD]; exact hmk i
      go_wp2_with fail
      refine (f21_any g w.heap.size As.length 0 As _ hlg (by omega) hbl.size hmk').mono ?_
      rintro e w3 ⟨rfl, hlg3, hb3⟩
      have bel3 := hbl.trans hb3
      clear hb3 hbl hlg hj hlt
      go_wp2_with fail
      refine (f25_any g w.heap.size As.length As.length As _ hlg3 (by omega) bel3.size hmk).mono ?_
      intro e w4 hpost
      obtain ⟨cc, bb, hA⟩ := after_of hpost
      obtain ⟨rfl, hb4, _⟩ := hpost
      have bel4 := bel3.trans hb4
      have hlg4 := hA.log
      have hKle := kept_le As
      have hKlt := kept_lt hmk
      clear hb4 bel3 hlg3 hA
      generalize hKdef : keptOf As = K at *
      have HK := hide hKdef
      clear hKdef
      go_wp2_with fail
      go_loopw [7] (fun i wr => ∃ (j cc : Nat), i = .int .i64 (j : Int) ∧ j ≤ mo.length ∧ Log wr w.heap.size g (K ++ accs mo j) cc bb ∧ Below w.heap.size w wr) (fun i _ => mo.length - (intOf i).toNat)
      case atStart => exact ⟨0, cc, rfl, Nat.zero_le _, by simpa [accs] using hlg4, bel4⟩
      case round =>
        rename World => w5
        obtain ⟨j, c5, rfl, hj, hlg5, hbl5⟩ := hrel
        clear hlg4 bel4
        by_cases hlt : j < mo.length
        · obtain ⟨b, off, rfl, hb, hc⟩ := hsl' (by omega)
          have g1 : w5.cell? ⟨b, off + j, none⟩ = some (.int .u64 ((mo.getD j 0 : Nat) : Int)) := (hbl5.cell (by exact hb)).trans (hc j hlt)
          have hst := f20_any g w.heap.size c5 bb (K ++ accs mo j) j (mo.getD j 0) w5 hlg5 (by rw [List.length_append, accs_length]; omega) hbl5.size
          rw [← more_snoc] at hst
          have HST := hide hst
          clear hst hc
          generalize mo.getD j 0 = x at *
          go_wp2_with fail
          refine HST.out.mono ?_
          rintro e w6 ⟨rfl, ⟨c6, hlg6⟩, hbl6⟩
          have hb16 := hbl5.trans hbl6
          clear hbl5 hbl6 hlg5 HST
          go_wp2_with fail
          go_roundw
          case rel => exact ⟨j + 1, c6, by go_num, by omega, hlg6, hb16⟩
          case measure => simp [intOf]; omega
        · obtain rfl : j = mo.length := by omega
          have hLlen : (K ++ accs mo mo.length).length ≤ 262144 := by rw [List.length_append, accs_length]; omega
          have hLmk := more_lt hKlt hmo mo.length
          go_wp2_with fail
          refine (f21_any g w.heap.size c5 bb (K ++ accs mo mo.length) _ hlg5 hLlen hbl5.size hLmk).mono ?_
          rintro e w6 ⟨rfl, hlg6, hb6⟩
          have bel6 := hbl5.trans hb6
          clear hb6 hbl5 hlg5 hj hlt
          obtain ⟨i48, hi, hz0, hz1, hz2⟩ := info_parts info48
          have HL6 := hide hlg6
          clear hlg6
          go_wp2_with (first | (at_make; refine wpList_make_own _ rfl _ _ 43 rfl w6.heap.size 48 i48 _ 1 Try.underlying43 hi hz0 hz1 .i64 .i64 _ (As.length + mo.length) rfl rfl (by omega) (by rw [hz2]; omega) (by unfold maxLen; omega) (Nat.le_refl _) ?_) | fail)
          intro w7 hown7 hgrow7
          go_wp2_with (first | (at_make; refine wpList_make_own _ rfl _ _ 43 rfl w6.heap.size 48 i48 _ 1 Try.underlying43 hi hz0 hz1 .i64 .i64 _ (As.length + mo.length) rfl rfl (by omega) (by rw [hz2]; omega) (by unfold maxLen; omega) hgrow7.size ?_) | fail)
          intro w8 hown8 hgrow8
          have hwl : w6.heap.size < w7.heap.size := (hown7.lt _ rfl).2
          have hown7' := hown7.kept hgrow8 (.inr (by simp [Value.ownBlock]))
          have hb8 : Below w6.heap.size w6 w8 := ((Below.refl _ _).grown hgrow7 (Nat.le_refl _) (fun k hk => by cases hk)).grown hgrow8 hgrow7.size (fun k hk => by cases hk)
          obtain ⟨Bl, hBl⟩ : ∃ Bl, w7.heap.size = Bl := ⟨_, rfl⟩
          obtain ⟨CC, hCC⟩ : ∃ CC, As.length + mo.length = CC := ⟨_, rfl⟩
          rw [hCC] at hown7' hown8
          rw [hBl] at hown8 hwl
          rw [hCC, hBl]
          have hC1 : As.length + mo.length ≤ CC := by omega
          have hC2 : CC ≤ 1048576 := by omega
          have HK1 := hide (HK.out)
          clear hown7 hgrow7 hgrow8 hBl hCC
          go_wp2_with fail
          go_loopw [8, 9, 10] (fun wv lv i wr => ∃ j : Nat, i = .int .i64 (j : Int) ∧ j ≤ As.length ∧ wv = .slice (some ⟨w6.heap.size, 0, none⟩) (keptOf (As.take j)).length CC ∧ lv = .slice (some ⟨Bl, 0, none⟩) (keptOf (As.take j)).length CC ∧
              wr.ownsRow w6.heap.size 48 1 (.slice (some ⟨w6.heap.size, 0, none⟩) (keptOf (As.take j)).length CC) (keptOf (As.take j)).length (ints (marksOf (keptOf (As.take j)))) ∧ wr.ownsRow w6.heap.size 48 1 (.slice (some ⟨Bl, 0, none⟩) (keptOf (As.take j)).length CC) (keptOf (As.take j)).length (ints (linesOf (keptOf (As.take j)))) ∧ Below w6.heap.size w6 wr) (fun _ _ i _ => As.length - (intOf i).toNat)
          case atStart => exact ⟨0, rfl, Nat.zero_le _, rfl, rfl, hown7', hown8, hb8⟩
          case round =>
            rename World => w9
            obtain ⟨j, rfl, hj, rfl, rfl, how, hol, hb9⟩ := hrel
            clear hown7' hown8 hb8
            have hbel9 : Below w.heap.size w w9 := bel6.trans (hb9.mono bel6.size)
            have hkj : (keptOf (As.take j)).length ≤ j := Nat.le_trans (kept_le _) (by rw [List.length_take]; omega)
            by_cases hlt : j < As.length
            · obtain ⟨b, off, rfl, hbb, hc⟩ := hsl (by omega)
              have hcw : ∀ wr, Below w.heap.size w wr → wr.cell? ⟨b, off + j * 2, none⟩ = some (.int .u64 (((As.getD j (0, 0)).1 : Nat) : Int)) ∧ wr.cell? ⟨b, off + j * 2 + 1, none⟩ = some (.int .u64 (((As.getD j (0, 0)).2 : Nat) : Int)) := fun wr h => ⟨(h.cell (by exact hbb)).trans (hc j hlt).1, (h.cell (by exact hbb)).trans (hc j hlt).2⟩
              obtain ⟨g1, g2⟩ := hcw w9 hbel9
              have HCW := hide hcw
              have hbit := kept_bit (As.getD j (0, 0)).2 (hmk j)
              have hstep := kept_step As j hlt
              clear hc hcw
              cases hkk : keptB (As.getD j (0, 0)).2
              · rw [hkk] at hbit hstep
                have HS := hide (show keptOf (As.take (j + 1)) = keptOf (As.take j) from by simpa using hstep)
                clear hstep hkk HCW
                generalize (As.getD j (0, 0)).1 = x1 at *
                generalize (As.getD j (0, 0)).2 = x2 at *
                go_wp2_with fail
                go_roundw
                case rel =>
                  refine ⟨j + 1, by go_num, by omega, ?_⟩
                  rw [HS.out]
                  exact ⟨rfl, rfl, how, hol, hb9⟩
                case measure => simp [intOf]; omega
              · rw [hkk] at hbit hstep
                have HS := hide (show keptOf (As.take (j + 1)) = keptOf (As.take j) ++ [As.getD j (0, 0)] from by simpa using hstep)
                obtain ⟨x1, hx1⟩ : ∃ x, x = (As.getD j (0, 0)).1 := ⟨_, rfl⟩
                obtain ⟨x2, hx2⟩ : ∃ x, x = (As.getD j (0, 0)).2 := ⟨_, rfl⟩
                have HX := hide (show As.getD j (0, 0) = (x1, x2) from by rw [hx1, hx2])
                rw [← hx1] at g1 HCW
                rw [← hx2] at g2 HCW hbit
                clear hstep hkk hx1 hx2
                generalize hKj : keptOf (As.take j) = Kj at *
                have HKj := hide hKj
                clear hKj
                go_wp2_with (first | (at_builtin; refine wpList_append_fits _ rfl (.tmp 89) (.tmp 95) 43 rfl w6.heap.size 48 i48 1 Try.underlying43 hi hz1 w6.heap.size Kj.length CC (ints (marksOf Kj)) rfl (how.alloc _) ⟨w9.heap.size, 0, none⟩ 1 1 [.int .u64 (x2 : Int)] rfl rfl (World.news_of_block (cs := #[.int .u64 (x2 : Int)]) (t := 48) (fr := (0, 0)) (heap_alloc_new w9 _)) (by simp [Value.oneCell']) (by omega) ?_) | fail)
                intro w10 how10 hg10
                have hb69 : w6.heap.size ≤ w9.heap.size := hb9.size
                have hb10 : Below w6.heap.size w6 w10 := (hb9.alloc hb69 (.cells #[.int .u64 (x2 : Int)] 48)).grown hg10 (by simp; omega) (fun k hk => by injection hk with hk; omega)
                have hol10 := (hol.alloc (.cells #[.int .u64 (x2 : Int)] 48)).kept hg10 (.inr (by simp [Value.ownBlock]; omega))
                obtain ⟨g3, g4⟩ := HCW.out w10 (bel6.trans (hb10.mono bel6.size))
                have hb610 : w6.heap.size ≤ w10.heap.size := hb10.size
                clear how hol hb9 hg10 hbel9
                go_wp2_with (first | (at_builtin; refine wpList_append_fits _ rfl (.tmp 97) (.tmp 103) 43 rfl w6.heap.size 48 i48 1 Try.underlying43 hi hz1 Bl Kj.length CC (ints (linesOf Kj)) rfl (hol10.alloc _) ⟨w10.heap.size, 0, none⟩ 1 1 [.int .u64 (x1 : Int)] rfl rfl (World.news_of_block (cs := #[.int .u64 (x1 : Int)]) (t := 48) (fr := (0, 0)) (heap_alloc_new w10 _)) (by simp [Value.oneCell']) (by omega) ?_) | fail)
                intro w11 hol11 hg11
                have hb11 : Below w6.heap.size w6 w11 := (hb10.alloc hb610 (.cells #[.int .u64 (x1 : Int)] 48)).grown hg11 (by simp; omega) (fun k hk => by injection hk with hk; omega)
                have how11 := (how10.alloc (.cells #[.int .u64 (x1 : Int)] 48)).kept hg11 (.inr (by simp [Value.ownBlock]; omega))
                clear how10 hol10 hb10 hg11
                go_wp2_with fail
                go_roundw
                case rel =>
                  refine ⟨j + 1, by go_num, by omega, ?_⟩
                  rw [HS.out, HX.out]
                  exact ⟨by simp, by simp, by simpa [marksOf, ints] using how11, by simpa [linesOf, ints] using hol11, hb11⟩
                case measure => simp [intOf]; omega
            · obtain rfl : j = As.length := by omega
              rw [take_all, HK.out] at how hol
              rw [take_all, HK.out]
              clear hkj hlt hj hbel9
              go_wp2_with fail
              go_loopw [8, 9, 11] (fun wv lv i wr => ∃ j : Nat, i = .int .i64 (j : Int) ∧ j ≤ mo.length ∧ wv = .slice (some ⟨w6.heap.size, 0, none⟩) (K ++ accs mo j).length CC ∧ lv = .slice (some ⟨Bl, 0, none⟩) (K ++ accs mo j).length CC ∧
                  wr.ownsRow w6.heap.size 48 1 (.slice (some ⟨w6.heap.size, 0, none⟩) (K ++ accs mo j).length CC) (K ++ accs mo j).length (ints (marksOf (K ++ accs mo j))) ∧ wr.ownsRow w6.heap.size 48 1 (.slice (some ⟨Bl, 0, none⟩) (K ++ accs mo j).length CC) (K ++ accs mo j).length (ints (linesOf (K ++ accs mo j))) ∧ Below w6.heap.size w6 wr) (fun _ _ i _ => mo.length - (intOf i).toNat)
              case atStart => exact ⟨0, rfl, Nat.zero_le _, by simp [accs], by simp [accs], by simpa [accs] using how, by simpa [accs] using hol, hb9⟩
              case round =>
                rename World => w9
                obtain ⟨j, rfl, hj, rfl, rfl, how, hol, hb9⟩ := hrel
                have hbel9 : Below w.heap.size w w9 := bel6.trans (hb9.mono bel6.size)
                have hkj : (K ++ accs mo j).length ≤ As.length + j := by rw [List.length_append, accs_length]; omega
                by_cases hlt : j < mo.length
                · obtain ⟨b, off, rfl, hbb, hc⟩ := hsl' (by omega)
                  have g1 : w9.cell? ⟨b, off + j, none⟩ = some (.int .u64 ((mo.getD j 0 : Nat) : Int)) := (hbel9.cell (by exact hbb)).trans (hc j hlt)
                  have HS := hide (more_snoc K mo j)
                  clear hc
                  generalize mo.getD j 0 = x2 at *
                  generalize hKj : K ++ accs mo j = Kj at *
                  have HKj := hide hKj
                  clear hKj
                  go_wp2_with (first | (at_builtin; refine wpList_append_fits _ rfl (.tmp 111) (.tmp 116) 43 rfl w6.heap.size 48 i48 1 Try.underlying43 hi hz1 w6.heap.size Kj.length CC (ints (marksOf Kj)) rfl (how.alloc _) ⟨w9.heap.size, 0, none⟩ 1 1 [.int .u64 (x2 : Int)] rfl rfl (World.news_of_block (cs := #[.int .u64 (x2 : Int)]) (t := 48) (fr := (0, 0)) (heap_alloc_new w9 _)) (by simp [Value.oneCell']) (by omega) ?_) | fail)
                  intro w10 how10 hg10
                  have hb69 : w6.heap.size ≤ w9.heap.size := hb9.size
                  have hb10 : Below w6.heap.size w6 w10 := (hb9.alloc hb69 (.cells #[.int .u64 (x2 : Int)] 48)).grown hg10 (by simp; omega) (fun k hk => by injection hk with hk; omega)
                  have hol10 := (hol.alloc (.cells #[.int .u64 (x2 : Int)] 48)).kept hg10 (.inr (by simp [Value.ownBlock]; omega))
                  have hb610 : w6.heap.size ≤ w10.heap.size := hb10.size
                  clear how hol hb9 hg10 hbel9
                  go_wp2_with (first | (at_builtin; refine wpList_append_fits _ rfl (.tmp 118) (.tmp 121) 43 rfl w6.heap.size 48 i48 1 Try.underlying43 hi hz1 Bl Kj.length CC (ints (linesOf Kj)) rfl (hol10.alloc _) ⟨w10.heap.size, 0, none⟩ 1 1 [.int .u64 (j : Int)] rfl rfl (World.news_of_block (cs := #[.int .u64 (j : Int)]) (t := 48) (fr := (0, 0)) (heap_alloc_new w10 _)) (by simp [Value.oneCell']) (by omega) ?_) | fail)
                  intro w11 hol11 hg11
                  have hb11 : Below w6.heap.size w6 w11 := (hb10.alloc hb610 (.cells #[.int .u64 (j : Int)] 48)).grown hg11 (by simp; omega) (fun k hk => by injection hk with hk; omega)
                  have how11 := (how10.alloc (.cells #[.int .u64 (j : Int)] 48)).kept hg11 (.inr (by simp [Value.ownBlock]; omega))
                  clear how10 hol10 hb10 hg11
                  go_wp2_with fail
                  go_roundw
                  case rel =>
                    refine ⟨j + 1, by go_num, by omega, ?_⟩
                    rw [HS.out]
                    exact ⟨by simp, by simp, by simpa [marksOf, ints] using how11, by simpa [linesOf, ints] using hol11, hb11⟩
                  case measure => simp [intOf]; omega
                · obtain rfl : j = mo.length := by omega
                  have hlg9 := HL6.out.below hb9
                  have hnw : NumSl w9 (some ⟨w6.heap.size, 0, none⟩) (marksOf (K ++ accs mo mo.length)) := NumSl.ofOwns how (marksOf_length _).symm
                  have hnl : NumSl w9 (some ⟨Bl, 0, none⟩) (linesOf (K ++ accs mo mo.length)) := NumSl.ofOwns hol (by simp [linesOf])
                  have h23 := f23_any g w.heap.size c5 _ CC (some ⟨w6.heap.size, 0, none⟩) (K ++ accs mo mo.length) _ w9 hlg9 hLlen rfl hnw
                  rw [List.length_map] at h23
                  have h34 : ∀ wr, Below w9.heap.size w9 wr → Calls Try.prog 34 #[.pointer (some ⟨g, 0, none⟩), .slice (some ⟨Bl, 0, none⟩) (K ++ accs mo mo.length).length CC] wr fun e w' => e = .returned (.bool true) ∧ Below wr.heap.size wr w' := fun wr hb => by
                    have := f34_any g w.heap.size c5 _ CC (some ⟨Bl, 0, none⟩) (K ++ accs mo mo.length) _ wr (hlg9.below hb) hLlen rfl (hnl.below hb)
                    rw [List.length_map] at this
                    exact this
                  have h22 : ∀ wr, Below w9.heap.size w9 wr → Calls Try.prog 22 #[.pointer (some ⟨g, 0, none⟩), .slice (some ⟨w6.heap.size, 0, none⟩) (K ++ accs mo mo.length).length CC] wr fun e w' => e = .returned (.bool true) ∧ w' = wr := fun wr hb =>
                    f22_any g w.heap.size c5 CC (some ⟨w6.heap.size, 0, none⟩) (K ++ accs mo mo.length) wr (hlg9.below hb) hLlen (hnw.below hb) hLmk
                  have H23 := hide h23
                  have H34 := hide h34
                  have H22 := hide h22
                  clear h23 h34 h22 hnw hnl hlg9 how hol hkj
                  generalize (K ++ accs mo mo.length).length = nn at *
                  go_wp2_with fail
                  refine H23.out.mono ?_
                  rintro e w10 ⟨rfl, hb10⟩
                  have H34' := hide (H34.out w10 hb10)
                  clear H23 H34
                  go_wp2_with fail
                  refine H34'.out.mono ?_
                  rintro e w11 ⟨rfl, hb11⟩
                  have hb911 : Below w9.heap.size w9 w11 := hb10.trans (hb11.mono hb10.size)
                  have H22' := hide (H22.out w11 hb911)
                  clear H22 H34' hb10 hb11
                  go_wp2_with fail
                  refine H22'.out.mono ?_
                  rintro e w12 ⟨rfl, hw⟩
                  obtain rfl := hw.symm
                  clear hw H22'
                  go_wp2_with fail
                  go_ret
                  exact ⟨rfl, hbel9.trans (hb911.mono hbel9.size)⟩

end Go.Proofs.Qxb6602565a
