import Derived.Test.Qxb6602565aCmp
namespace Go.Proofs.Qxb6602565a
open Go.RowKit
set_option linter.unusedVariables false

/-- A slice of accesses (line, marks) that can be read in w. -/
def AccSl (w : World) (a : Option Addr) (As : List (Nat × Nat)) : Prop :=
  0 < As.length → ∃ b off, a = some ⟨b, off, none⟩ ∧ b < w.heap.size ∧ ∀ i, i < As.length → w.cell? ⟨b, off + i * 2, none⟩ = some (.int .u64 (((As.getD i (0, 0)).1 : Nat) : Int)) ∧ w.cell? ⟨b, off + i * 2 + 1, none⟩ = some (.int .u64 (((As.getD i (0, 0)).2 : Nat) : Int))

theorem take_succ_acc (As : List (Nat × Nat)) (j : Nat) (h : j < As.length) : As.take (j + 1) = As.take j ++ [As.getD j (0, 0)] := by
  rw [List.take_succ_eq_append_getElem h]
  simp [h]

theorem kept_step (As : List (Nat × Nat)) (j : Nat) (h : j < As.length) : keptOf (As.take (j + 1)) = if keptB (As.getD j (0, 0)).2 then keptOf (As.take j) ++ [As.getD j (0, 0)] else keptOf (As.take j) := by
  rw [take_succ_acc As j h]
  unfold keptOf
  rw [List.filter_append, List.filter_cons]
  cases keptB (As.getD j (0, 0)).2 <;> simp

theorem kept_at (As : List (Nat × Nat)) (j : Nat) (h : j < As.length) (hk : keptB (As.getD j (0, 0)).2 = true) : (keptOf (As.take j)).length < (keptOf As).length ∧ (keptOf As).getD (keptOf (As.take j)).length (0, 0) = As.getD j (0, 0) := by
  have e : keptOf As = keptOf (As.take (j + 1)) ++ keptOf (As.drop (j + 1)) := by
    unfold keptOf
    rw [← List.filter_append, List.take_append_drop]
  have e2 := kept_step As j h
  rw [if_pos hk] at e2
  rw [e2] at e
  refine ⟨by rw [e]; simp <;> omega, ?_⟩
  rw [e, List.append_assoc, List.getD_eq_getElem?_getD, List.getElem?_append_right (Nat.le_refl _)]
  simp

theorem kept_le (As : List (Nat × Nat)) : (keptOf As).length ≤ As.length := List.length_filter_le _ _

theorem kept_all {As : List (Nat × Nat)} (h : (keptOf As).length = As.length) : keptOf As = As := by
  unfold keptOf at h ⊢
  exact List.filter_eq_self.2 (List.length_filter_eq_length_iff.1 h)

theorem take_all (As : List (Nat × Nat)) : As.take As.length = As := List.take_of_length_le (Nat.le_refl _)

set_option maxRecDepth 100000 in
theorem f24_any (a : Option Addr) (n cap : Nat) (p : Bool) (w : World) (hn : n ≤ 9223372036854775807) :
    Calls Try.prog 24 #[.slice a n cap, .bool p] w fun e w' => e = .returned (.bool (decide (n ≤ 1048576))) ∧ w' = w := by
  by_cases h : n ≤ 1048576
  · rw [decide_eq_true h]
    go_enter Try.func24, Try.ntmps24
    go_wp2
    go_ret
    exact ⟨rfl, rfl⟩
  · rw [decide_eq_false h]
    go_enter Try.func24, Try.ntmps24
    go_wp2
    go_ret
    exact ⟨rfl, rfl⟩

theorem row_of_owns {w : World} {base e g n cap : Nat} {xs : List Value} (h : w.ownsRow base e 1 (.slice (some ⟨g, 0, none⟩) n cap) n xs) : ∃ cur : Array Value, w.heap[g]? = some (.cells cur e (0, 0)) ∧ cur.size = cap := by
  rcases h.2 with ⟨q, _⟩ | ⟨g', cap', cur, hv, _, hh, hnc, _, hcs, _⟩
  · cases q
  · injection hv with q1 q2 q3
    injection q1 with q1
    injection q1 with q1
    subst q1
    subst q3
    exact ⟨cur, hh, by omega⟩

/-- What the law knows of the log behind compact. -/
structure After (w : World) (base g : Nat) (As : List (Nat × Nat)) (ca built cc bb : Nat) : Prop where
  log : Log w base g (keptOf As) cc bb
  or : ((keptOf As).length = As.length ∧ cc = ca ∧ bb = built) ∨ ((keptOf As).length < As.length ∧ cc = newcap ca (keptOf As).length ∧ bb = 0 ∧ (cc < ca → w.cell? ⟨g, 3, none⟩ = some (.slice none 0 0)))

theorem after_of {w w' : World} {base g : Nat} {As : List (Nat × Nat)} {ca built : Nat} {e : Ending} (h : CmpPost w base g As ca built e w') : ∃ cc bb, After w' base g As ca built cc bb := by
  obtain ⟨_, _, ⟨h1, h2⟩ | ⟨h1, h2, h3⟩⟩ := h
  · exact ⟨ca, built, by rw [kept_all h1]; exact h2, .inl ⟨h1, rfl, rfl⟩⟩
  · exact ⟨_, 0, h2, .inr ⟨h1, rfl, rfl, h3⟩⟩

set_option maxRecDepth 100000 in
set_option maxHeartbeats 4000000 in
theorem walkB (a : Option Addr) (cap : Nat) (As : List (Nat × Nat)) (ind : Bool) (w : World) (hmk : ∀ i, (As.getD i (0, 0)).2 < 18446744073709551616) (hlen : As.length ≤ 9223372036854775807) (hsl : AccSl w a As) :
    Calls Try.prog 6 #[.slice a As.length cap, .bool ind] w fun e w' => e = .returned (.bool true) ∧ Below w.heap.size w w' := by
  go_enter Try.func6, Try.ntmps6
  go_wp2_with fail
  refine (f24_any a As.length cap ind _ hlen).mono ?_
  rintro e w1 ⟨rfl, hw⟩
  obtain rfl := hw.symm
  clear hw
  by_cases hsm : As.length ≤ 65536
  case neg =>
    by_cases h2 : As.length ≤ 1048576
    · rw [decide_eq_true h2]
      go_wp2_with fail
      go_ret
      exact ⟨rfl, Below.refl _ _⟩
    · rw [decide_eq_false h2]
      go_wp2_with fail
      go_ret
      exact ⟨rfl, Below.refl _ _⟩
  rw [decide_eq_true (show As.length ≤ 1048576 by omega)]
  have d1 : decide ((65536 : Int) < (As.length : Int)) = false := by simp; omega
  go_wp2_with fail
  refine (f19_any As.length w.heap.size _ (by omega) (Nat.le_refl _)).mono ?_
  rintro e w1 ⟨g, rfl, hlog, hbel⟩
  go_wp2_with fail
  go_loopw [7] (fun i wr => ∃ j : Nat, i = .int .i64 (j : Int) ∧ j ≤ As.length ∧ Log wr w.heap.size g (As.take j) As.length 0 ∧ Below w.heap.size w wr) (fun i _ => As.length - (intOf i).toNat)
  case atStart => exact ⟨0, rfl, Nat.zero_le _, hlog, hbel⟩
  case round =>
    rename World => w2
    obtain ⟨j, rfl, hj, hlg, hbl⟩ := hrel
    clear hlog hbel
    by_cases hlt : j < As.length
    · obtain ⟨b, off, rfl, hb, hc⟩ := hsl (by omega)
      have g1 : w2.cell? ⟨b, off + j * 2, none⟩ = some (.int .u64 (((As.getD j (0, 0)).1 : Nat) : Int)) := (hbl.cell (by exact hb)).trans (hc j hlt).1
      have g2 : w2.cell? ⟨b, off + j * 2 + 1, none⟩ = some (.int .u64 (((As.getD j (0, 0)).2 : Nat) : Int)) := (hbl.cell (by exact hb)).trans (hc j hlt).2
      have hst := f20_fits g w.heap.size As.length 0 (As.take j) (As.getD j (0, 0)).1 (As.getD j (0, 0)).2 w2.drew (hlg.below (Below.refl _ _).drew) (by rw [List.length_take]; omega) hbl.size
      rw [← take_succ_acc As j hlt] at hst
      have HST := hide hst
      have lb : b < w2.heap.size := Nat.lt_of_lt_of_le hb hbl.size
      have hj0 : (0 : Int) ≤ (j : Int) := by omega
      have hj1 : (j : Int) < (As.length : Int) := by omega
      clear hst hc
      generalize (As.getD j (0, 0)).1 = x1 at *
      generalize (As.getD j (0, 0)).2 = x2 at *
      go_wp2_with fail
      go_region_held3 (fun w' => w'.cell? ⟨b, off + j * 2, none⟩ = some (.int .u64 (x1 : Int)) ∧ w'.cell? ⟨b, off + j * 2 + 1, none⟩ = some (.int .u64 (x2 : Int))) (first | go_keep | (exact ⟨(hbl3.cell (by exact hb)).trans g1, (hbl3.cell (by exact hb)).trans g2⟩))
        ((go_at_call 20; refine HST.out.mono ?_; rintro e w3 ⟨rfl, hlg3, hbl3⟩))
      have hb13 : Below w.heap.size w w3 := hbl.trans ((Below.refl _ _).drew.trans hbl3)
      clear hbl hbl3 hlg HST
      go_wp2_with fail
      go_roundw
      case rel => exact ⟨j + 1, by go_num, by omega, hlg3, hb13⟩
      case measure => simp [intOf]; omega
    · obtain rfl : j = As.length := by omega
      rw [take_all] at hlg
      have hmk' : ∀ i, (marksOf As).getD i 0 < 18446744073709551616 := fun i => by rw [marksOf_getD]; exact hmk i
      cases ind
      · go_wp2_with fail
        refine (f25_any g w.heap.size As.length 0 As _ hlg (by omega) hbl.size hmk).mono ?_
        intro e w4 hpost
        obtain ⟨cc, bb, hA⟩ := after_of hpost
        obtain ⟨rfl, hb4, _⟩ := hpost
        have bel4 := hbl.trans hb4
        clear hb4 hbl hlg
        have hlogC := hA.log
        have F26 := hide (fun wr (hb : Below w4.heap.size w4 wr) => f26_any g w.heap.size cc bb (keptOf As) wr (hlogC.below hb))
        have F27 := hide (fun wr (hb : Below w4.heap.size w4 wr) i => f27_any g w.heap.size cc bb i (keptOf As) wr (hlogC.below hb))
        have F28 := hide (fun wr (hb : Below w4.heap.size w4 wr) i => f28_any g w.heap.size cc bb i (keptOf As) wr (hlogC.below hb))
        have F29 := hide (fun wr (hb : Below w4.heap.size w4 wr) => f29_any g w.heap.size cc bb (keptOf As) wr (hlogC.below hb))
        have F30 := hide (fun wr (hb : Below w4.heap.size w4 wr) => f30_any g w.heap.size cc bb (keptOf As) wr (hlogC.below hb))
        have F31 := hide (fun wr (hb : Below w4.heap.size w4 wr) => f31_any g w.heap.size cc bb (keptOf As) wr (hlogC.below hb))
        have HLC := hide hlogC
        have HAF := hide hA
        clear hlogC hA
        go_wp2_with fail
        go_loopw [8, 9] (fun kv i wr => ∃ j : Nat, i = .int .i64 (j : Int) ∧ j ≤ As.length ∧ kv = .int .i64 ((keptOf (As.take j)).length : Int) ∧ Below w4.heap.size w4 wr) (fun _ i _ => As.length - (intOf i).toNat)
        case atStart => exact ⟨0, rfl, Nat.zero_le _, rfl, Below.refl _ _⟩
        case round =>
          rename World => w5
          obtain ⟨j, rfl, hj, rfl, hb5⟩ := hrel
          have hkj : (keptOf (As.take j)).length ≤ j := Nat.le_trans (kept_le _) (by rw [List.length_take]; omega)
          by_cases hlt : j < As.length
          · obtain ⟨b, off, rfl, hbb, hc⟩ := hsl (by omega)
            have hbel5 : Below w.heap.size w w5 := bel4.trans (hb5.mono bel4.size)
            have g1 : w5.cell? ⟨b, off + j * 2, none⟩ = some (.int .u64 (((As.getD j (0, 0)).1 : Nat) : Int)) := (hbel5.cell (by exact hbb)).trans (hc j hlt).1
            have g2 : w5.cell? ⟨b, off + j * 2 + 1, none⟩ = some (.int .u64 (((As.getD j (0, 0)).2 : Nat) : Int)) := (hbel5.cell (by exact hbb)).trans (hc j hlt).2
            have hbit := kept_bit (As.getD j (0, 0)).2 (hmk j)
            have hstep := kept_step As j hlt
            have F26' := hide (F26.out w5 hb5)
            clear hc
            cases hkk : keptB (As.getD j (0, 0)).2
            · rw [hkk] at hbit hstep
              have HS := hide (show keptOf (As.take (j + 1)) = keptOf (As.take j) from by simpa using hstep)
              clear hstep F26' hkk
              generalize (As.getD j (0, 0)).1 = x1 at *
              generalize (As.getD j (0, 0)).2 = x2 at *
              go_wp2_with fail
              go_roundw
              case rel => exact ⟨j + 1, by go_num, by omega, by rw [HS.out], hb5⟩
              case measure => simp [intOf]; omega
            · obtain ⟨hka, hkg⟩ := kept_at As j hlt hkk
              rw [hkk] at hbit hstep
              have HS := hide (show (keptOf (As.take (j + 1))).length = (keptOf (As.take j)).length + 1 from by rw [hstep]; simp)
              have F27' : Hid (∀ n, Calls Try.prog 27 #[.pointer (some ⟨g, 0, none⟩), .int .i64 ((keptOf (As.take j)).length : Int)] (w5.drewN n) fun e w' => e = .returned (.int .u64 (((As.getD j (0, 0)).1 : Nat) : Int)) ∧ w' = w5.drewN n) := fun n => by
                have := F27.out (w5.drewN n) (below_drewN hb5 n) _ hka
                rw [hkg] at this
                exact this
              have F28' : Hid (∀ n, Calls Try.prog 28 #[.pointer (some ⟨g, 0, none⟩), .int .i64 ((keptOf (As.take j)).length : Int)] (w5.drewN n) fun e w' => e = .returned (.int .u64 (((As.getD j (0, 0)).2 : Nat) : Int)) ∧ w' = w5.drewN n) := fun n => by
                have := F28.out (w5.drewN n) (below_drewN hb5 n) _ hka
                rw [hkg] at this
                exact this
              have hKle := kept_le As
              clear hstep hkg hkk
              generalize (As.getD j (0, 0)).1 = x1 at *
              generalize (As.getD j (0, 0)).2 = x2 at *
              generalize (keptOf (As.take j)).length = kj at *
              have he1 : ((x1 : Int) == (x1 : Int)) = true := by simp
              have he2 : ((x2 : Int) == (x2 : Int)) = true := by simp
              go_wp2_with fail
              refine F26'.out.mono ?_
              rintro e w6 ⟨rfl, hw⟩
              obtain rfl := hw.symm
              clear hw F26'
              go_wp2_with fail
              go_quiet (first | (go_at_call 27; exact Calls.quiet_of_same (F27'.out _)) | (go_at_call 28; exact Calls.quiet_of_same (F28'.out _)))
              go_wp2_with fail
              go_roundw
              case rel => exact ⟨j + 1, by go_num, by omega, by rw [HS.out]; go_num, below_drewN hb5 _⟩
              case measure => simp [intOf]; omega
          · obtain rfl : j = As.length := by omega
            rw [take_all]
            have F26' := hide (F26.out w5 hb5)
            have F29' := hide (F29.out w5 hb5)
            have F30' := hide (F30.out w5 hb5)
            have F31' := hide (F31.out w5 hb5)
            have hbel5 : Below w.heap.size w w5 := bel4.trans (hb5.mono bel4.size)
            have hKle := kept_le As
            clear F26 F27 F28 F29 F30 F31 hkj
            generalize hKK : (keptOf As).length = K at *
            have hkk0 : ((K : Int) == (K : Int)) = true := by simp
            go_wp2_with fail
            refine F26'.out.mono ?_
            rintro e w6 ⟨rfl, hw⟩
            obtain rfl := hw.symm
            clear hw F26'
            have hd0 : depth 0 = 0 := rfl
            rcases HAF.out.or with ⟨e1, e2, e3⟩ | ⟨e1, e2, e3, e4⟩
            · obtain rfl : K = As.length := hKK.symm.trans e1
              subst e2
              subst e3
              have hnn : ((As.length : Int) == (As.length : Int)) = true := by simp
              have HE1 := hide e1
              clear hKK e1 HAF
              go_wp2_with fail
              refine F29'.out.mono ?_
              rintro e w6 ⟨rfl, hw⟩
              obtain rfl := hw.symm
              clear hw F29'
              go_wp2_with fail
              refine F30'.out.mono ?_
              rintro e w6 ⟨rfl, hw⟩
              obtain rfl := hw.symm
              clear hw F30'
              go_wp2_with fail
              refine F31'.out.mono ?_
              rintro e w6 ⟨rfl, hw⟩
              obtain rfl := hw.symm
              clear hw F31'
              go_wp2_with fail
              go_ret
              exact ⟨rfl, hbel5⟩
            · obtain hKn : K < As.length := by omega
              subst e3
              have hkn : ((K : Int) == (As.length : Int)) = false := by simp; omega
              have hcc : cc = newcap As.length K := by rw [e2, hKK]
              have HNC := hide hcc
              have HNIL : Hid (cc < As.length → w5.cell? ⟨g, 3, none⟩ = some (.slice none 0 0)) := fun h => by
                have := e4 h
                rw [hb5.cell (by simpa using World.block_lt_of_cell? _ _ this)]
                exact this
              clear hKK e1 e2 e4 HAF hcc
              go_wp2_with fail
              refine F30'.out.mono ?_
              rintro e w6 ⟨rfl, hw⟩
              obtain rfl := hw.symm
              clear hw F30'
              go_wp2_with fail
              refine F31'.out.mono ?_
              rintro e w6 ⟨rfl, hw⟩
              obtain rfl := hw.symm
              clear hw F31'
              by_cases hsh : 16 < As.length ∧ 4 * K < As.length
              · obtain rfl : cc = 2 * K := by rw [HNC.out]; unfold newcap; rw [if_pos hsh]
                obtain ⟨hs1, hs2⟩ := hsh
                have F32' := hide (f32_nil g w5 (HNIL.out (by omega)))
                have hcq : ((((2 * K : Nat) : Int)) == 2 * (K : Int)) = true := by simp
                clear HNC HNIL
                go_wp2_with fail
                refine F29'.out.mono ?_
                rintro e w6 ⟨rfl, hw⟩
                obtain rfl := hw.symm
                clear hw F29'
                go_wp2_with fail
                refine F32'.out.mono ?_
                rintro e w6 ⟨rfl, hw⟩
                obtain rfl := hw.symm
                clear hw F32'
                go_wp2_with fail
                go_ret
                exact ⟨rfl, hbel5⟩
              · obtain rfl : cc = As.length := by rw [HNC.out]; unfold newcap; rw [if_neg hsh]
                have hcq : ((As.length : Int) == (As.length : Int)) = true := by simp
                have hsh2 : As.length ≤ 16 ∨ (16 < As.length ∧ As.length ≤ 4 * K) := by omega
                clear HNC HNIL hsh
                rcases hsh2 with hs1 | ⟨hs1, hs2⟩
                all_goals
                  go_wp2_with fail
                  refine F29'.out.mono ?_
                  rintro e w6 ⟨rfl, hw⟩
                  obtain rfl := hw.symm
                  clear hw
                  go_wp2_with fail
                  go_ret
                  exact ⟨rfl, hbel5⟩
      · go_wp2_with fail
        refine (f21_any g w.heap.size As.length 0 As _ hlg (by omega) hbl.size hmk').mono ?_
        rintro e w3 ⟨rfl, hlg3, hb3⟩
        have bel3 := hbl.trans hb3
        clear hb3 hbl hlg
        go_wp2_with fail
        refine (f25_any g w.heap.size As.length As.length As _ hlg3 (by omega) bel3.size hmk).mono ?_
        intro e w4 hpost
        obtain ⟨cc, bb, hA⟩ := after_of hpost
        obtain ⟨rfl, hb4, _⟩ := hpost
        have bel4 := bel3.trans hb4
        clear hb4 bel3 hlg3
        have hlogC := hA.log
        have F26 := hide (fun wr (hb : Below w4.heap.size w4 wr) => f26_any g w.heap.size cc bb (keptOf As) wr (hlogC.below hb))
        have F27 := hide (fun wr (hb : Below w4.heap.size w4 wr) i => f27_any g w.heap.size cc bb i (keptOf As) wr (hlogC.below hb))
        have F28 := hide (fun wr (hb : Below w4.heap.size w4 wr) i => f28_any g w.heap.size cc bb i (keptOf As) wr (hlogC.below hb))
        have F29 := hide (fun wr (hb : Below w4.heap.size w4 wr) => f29_any g w.heap.size cc bb (keptOf As) wr (hlogC.below hb))
        have F30 := hide (fun wr (hb : Below w4.heap.size w4 wr) => f30_any g w.heap.size cc bb (keptOf As) wr (hlogC.below hb))
        have F31 := hide (fun wr (hb : Below w4.heap.size w4 wr) => f31_any g w.heap.size cc bb (keptOf As) wr (hlogC.below hb))
        have HLC := hide hlogC
        have HAF := hide hA
        clear hlogC hA
        go_wp2_with fail
        go_loopw [8, 9] (fun kv i wr => ∃ j : Nat, i = .int .i64 (j : Int) ∧ j ≤ As.length ∧ kv = .int .i64 ((keptOf (As.take j)).length : Int) ∧ Below w4.heap.size w4 wr) (fun _ i _ => As.length - (intOf i).toNat)
        case atStart => exact ⟨0, rfl, Nat.zero_le _, rfl, Below.refl _ _⟩
        case round =>
          rename World => w5
          obtain ⟨j, rfl, hj, rfl, hb5⟩ := hrel
          have hkj : (keptOf (As.take j)).length ≤ j := Nat.le_trans (kept_le _) (by rw [List.length_take]; omega)
          by_cases hlt : j < As.length
          · obtain ⟨b, off, rfl, hbb, hc⟩ := hsl (by omega)
            have hbel5 : Below w.heap.size w w5 := bel4.trans (hb5.mono bel4.size)
            have g1 : w5.cell? ⟨b, off + j * 2, none⟩ = some (.int .u64 (((As.getD j (0, 0)).1 : Nat) : Int)) := (hbel5.cell (by exact hbb)).trans (hc j hlt).1
            have g2 : w5.cell? ⟨b, off + j * 2 + 1, none⟩ = some (.int .u64 (((As.getD j (0, 0)).2 : Nat) : Int)) := (hbel5.cell (by exact hbb)).trans (hc j hlt).2
            have hbit := kept_bit (As.getD j (0, 0)).2 (hmk j)
            have hstep := kept_step As j hlt
            have F26' := hide (F26.out w5 hb5)
            clear hc
            cases hkk : keptB (As.getD j (0, 0)).2
            · rw [hkk] at hbit hstep
              have HS := hide (show keptOf (As.take (j + 1)) = keptOf (As.take j) from by simpa using hstep)
              clear hstep F26' hkk
              generalize (As.getD j (0, 0)).1 = x1 at *
              generalize (As.getD j (0, 0)).2 = x2 at *
              go_wp2_with fail
              go_roundw
              case rel => exact ⟨j + 1, by go_num, by omega, by rw [HS.out], hb5⟩
              case measure => simp [intOf]; omega
            · obtain ⟨hka, hkg⟩ := kept_at As j hlt hkk
              rw [hkk] at hbit hstep
              have HS := hide (show (keptOf (As.take (j + 1))).length = (keptOf (As.take j)).length + 1 from by rw [hstep]; simp)
              have F27' : Hid (∀ n, Calls Try.prog 27 #[.pointer (some ⟨g, 0, none⟩), .int .i64 ((keptOf (As.take j)).length : Int)] (w5.drewN n) fun e w' => e = .returned (.int .u64 (((As.getD j (0, 0)).1 : Nat) : Int)) ∧ w' = w5.drewN n) := fun n => by
                have := F27.out (w5.drewN n) (below_drewN hb5 n) _ hka
                rw [hkg] at this
                exact this
              have F28' : Hid (∀ n, Calls Try.prog 28 #[.pointer (some ⟨g, 0, none⟩), .int .i64 ((keptOf (As.take j)).length : Int)] (w5.drewN n) fun e w' => e = .returned (.int .u64 (((As.getD j (0, 0)).2 : Nat) : Int)) ∧ w' = w5.drewN n) := fun n => by
                have := F28.out (w5.drewN n) (below_drewN hb5 n) _ hka
                rw [hkg] at this
                exact this
              have hKle := kept_le As
              clear hstep hkg hkk
              generalize (As.getD j (0, 0)).1 = x1 at *
              generalize (As.getD j (0, 0)).2 = x2 at *
              generalize (keptOf (As.take j)).length = kj at *
              have he1 : ((x1 : Int) == (x1 : Int)) = true := by simp
              have he2 : ((x2 : Int) == (x2 : Int)) = true := by simp
              go_wp2_with fail
              refine F26'.out.mono ?_
              rintro e w6 ⟨rfl, hw⟩
              obtain rfl := hw.symm
              clear hw F26'
              go_wp2_with fail
              go_quiet (first | (go_at_call 27; exact Calls.quiet_of_same (F27'.out _)) | (go_at_call 28; exact Calls.quiet_of_same (F28'.out _)))
              go_wp2_with fail
              go_roundw
              case rel => exact ⟨j + 1, by go_num, by omega, by rw [HS.out]; go_num, below_drewN hb5 _⟩
              case measure => simp [intOf]; omega
          · obtain rfl : j = As.length := by omega
            rw [take_all]
            have F26' := hide (F26.out w5 hb5)
            have F29' := hide (F29.out w5 hb5)
            have F30' := hide (F30.out w5 hb5)
            have F31' := hide (F31.out w5 hb5)
            have hbel5 : Below w.heap.size w w5 := bel4.trans (hb5.mono bel4.size)
            have hKle := kept_le As
            clear F26 F27 F28 F29 F30 F31 hkj
            generalize hKK : (keptOf As).length = K at *
            have hkk0 : ((K : Int) == (K : Int)) = true := by simp
            go_wp2_with fail
            refine F26'.out.mono ?_
            rintro e w6 ⟨rfl, hw⟩
            obtain rfl := hw.symm
            clear hw F26'
            have hd0 : depth 0 = 0 := rfl
            rcases HAF.out.or with ⟨e1, e2, e3⟩ | ⟨e1, e2, e3, e4⟩
            · obtain rfl : K = As.length := hKK.symm.trans e1
              subst e2
              subst e3
              have hnn : ((As.length : Int) == (As.length : Int)) = true := by simp
              have HE1 := hide e1
              clear hKK e1 HAF
              go_wp2_with fail
              refine F29'.out.mono ?_
              rintro e w6 ⟨rfl, hw⟩
              obtain rfl := hw.symm
              clear hw F29'
              obtain ⟨i48, hi, hz0, hz1, hz2⟩ := info_parts info48
              have hlogA : Log w5 w.heap.size g As As.length As.length := by
                have := HLC.out.below hb5
                rw [kept_all HE1.out] at this
                exact this
              have HLA := hide hlogA
              clear hlogA HLC F30' F31'
              go_wp2_with (first | (at_make; refine wpList_make_full _ rfl _ _ 43 rfl w5.heap.size 48 i48 _ 1 Try.underlying43 hi hz0 hz1 .i64 .i64 _ _ As.length rfl rfl rfl rfl (by rw [hz2]; omega) (by unfold maxLen; omega) (Nat.le_refl _) ?_; intro w7 hown7 hgrow7) | fail)
              obtain ⟨cur7, hrow7, hsz7⟩ := row_of_owns hown7
              have hb7 : Below w5.heap.size w5 w7 := (Below.refl _ _).grown hgrow7 (Nat.le_refl _) (fun k hk => by cases hk)
              clear hown7 hgrow7
              go_loopw [11] (fun i wr => ∃ (j : Nat) (cur : Array Value), i = .int .i64 (j : Int) ∧ j ≤ As.length ∧ wr.heap[w5.heap.size]? = some (.cells cur 48 (0, 0)) ∧ cur.size = As.length ∧ (∀ i, i < j → cur[i]? = some (.int .u64 (((marksOf As).getD i 0 : Nat) : Int))) ∧ Below w5.heap.size w5 wr) (fun i _ => As.length - (intOf i).toNat)
              case atStart => exact ⟨0, cur7, rfl, Nat.zero_le _, hrow7, hsz7, fun i hi => absurd hi (by omega), hb7⟩
              case round =>
                rename World => w8
                obtain ⟨j, cur, rfl, hj, hrow, hsz, hcs, hb8⟩ := hrel
                clear hrow7 hsz7 hb7
                have hbel8 : Below w.heap.size w w8 := hbel5.trans (hb8.mono hbel5.size)
                by_cases hlt : j < As.length
                · obtain ⟨b, off, rfl, hbb, hc⟩ := hsl (by omega)
                  have g2 : w8.cell? ⟨b, off + j * 2 + 1, none⟩ = some (.int .u64 (((marksOf As).getD j 0 : Nat) : Int)) := by
                    rw [marksOf_getD]
                    exact (hbel8.cell (by exact hbb)).trans (hc j hlt).2
                  have g3 : w8.cell? ⟨w5.heap.size, j, none⟩ = some cur[j] := by rw [cell_of_row w8 _ j _ _ _ hrow]; simp [hsz, hlt]
                  have f3 := frozen_of_row w8 w5.heap.size j _ _ hrow
                  have r1 := heap_setCell_same w8 w5.heap.size j cur 48 (.int .u64 (((marksOf As).getD j 0 : Nat) : Int)) hrow
                  have r2 : ∀ i, i < j + 1 → (cur.setIfInBounds j (.int .u64 (((marksOf As).getD j 0 : Nat) : Int)))[i]? = some (.int .u64 (((marksOf As).getD i 0 : Nat) : Int)) := fun i hi => by
                    rcases Nat.lt_or_ge i j with q | q
                    · rw [Array.getElem?_setIfInBounds_ne (by omega)]; exact hcs i q
                    · obtain rfl : i = j := by omega
                      rw [Array.getElem?_setIfInBounds_self_of_lt (by omega)]
                  have r3 := hb8.setCell (p := ⟨w5.heap.size, j, none⟩) (by exact Nat.le_refl _) (.int .u64 (((marksOf As).getD j 0 : Nat) : Int))
                  have RR := hide (And.intro r1 (And.intro r2 r3))
                  clear r1 r2 r3 hrow hcs hc
                  generalize (marksOf As).getD j 0 = x2 at *
                  go_wp2_with fail
                  go_roundw
                  case rel => exact ⟨j + 1, _, by go_num, by omega, RR.out.1, by simp [hsz], RR.out.2.1, RR.out.2.2⟩
                  case measure => simp [intOf]; omega
                · obtain rfl : j = As.length := by omega
                  have hns : NumSl w8 (some ⟨w5.heap.size, 0, none⟩) (marksOf As) := fun _ => ⟨w5.heap.size, 0, rfl, lt_of_block hrow, fun i hi => by
                    rw [Nat.zero_add, cell_of_row w8 _ i _ _ _ hrow]
                    exact hcs i (by rw [marksOf_length] at hi; exact hi)⟩
                  have F22' := hide (f22_any g w.heap.size As.length As.length (some ⟨w5.heap.size, 0, none⟩) As w8 (HLA.out.below hb8) (by omega) hns hmk')
                  clear hns hrow hcs
                  go_wp2_with fail
                  refine F22'.out.mono ?_
                  rintro e w9 ⟨rfl, hw⟩
                  obtain rfl := hw.symm
                  clear hw F22'
                  go_wp2_with fail
                  go_ret
                  exact ⟨rfl, hbel8⟩
            · obtain hKn : K < As.length := by omega
              subst e3
              have hkn : ((K : Int) == (As.length : Int)) = false := by simp; omega
              have hcc : cc = newcap As.length K := by rw [e2, hKK]
              have HNC := hide hcc
              have HNIL : Hid (cc < As.length → w5.cell? ⟨g, 3, none⟩ = some (.slice none 0 0)) := fun h => by
                have := e4 h
                rw [hb5.cell (by simpa using World.block_lt_of_cell? _ _ this)]
                exact this
              clear hKK e1 e2 e4 HAF hcc
              go_wp2_with fail
              refine F30'.out.mono ?_
              rintro e w6 ⟨rfl, hw⟩
              obtain rfl := hw.symm
              clear hw F30'
              go_wp2_with fail
              refine F31'.out.mono ?_
              rintro e w6 ⟨rfl, hw⟩
              obtain rfl := hw.symm
              clear hw F31'
              by_cases hsh : 16 < As.length ∧ 4 * K < As.length
              · obtain rfl : cc = 2 * K := by rw [HNC.out]; unfold newcap; rw [if_pos hsh]
                obtain ⟨hs1, hs2⟩ := hsh
                have F32' := hide (f32_nil g w5 (HNIL.out (by omega)))
                have hcq : ((((2 * K : Nat) : Int)) == 2 * (K : Int)) = true := by simp
                clear HNC HNIL
                go_wp2_with fail
                refine F29'.out.mono ?_
                rintro e w6 ⟨rfl, hw⟩
                obtain rfl := hw.symm
                clear hw F29'
                go_wp2_with fail
                refine F32'.out.mono ?_
                rintro e w6 ⟨rfl, hw⟩
                obtain rfl := hw.symm
                clear hw F32'
                go_wp2_with fail
                go_ret
                exact ⟨rfl, hbel5⟩
              · obtain rfl : cc = As.length := by rw [HNC.out]; unfold newcap; rw [if_neg hsh]
                have hcq : ((As.length : Int) == (As.length : Int)) = true := by simp
                have hsh2 : As.length ≤ 16 ∨ (16 < As.length ∧ As.length ≤ 4 * K) := by omega
                clear HNC HNIL hsh
                rcases hsh2 with hs1 | ⟨hs1, hs2⟩
                all_goals
                  go_wp2_with fail
                  refine F29'.out.mono ?_
                  rintro e w6 ⟨rfl, hw⟩
                  obtain rfl := hw.symm
                  clear hw
                  go_wp2_with fail
                  go_ret
                  exact ⟨rfl, hbel5⟩

end Go.Proofs.Qxb6602565a
