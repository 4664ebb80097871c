import Derived.Test.Qxb6602559aCov3
import Derived.Test.Qxb6602559aSelLaw
namespace Go.Proofs.Qxb6602559a
open Go.RowKit Go.WideMaps Go.Maps

theorem run_makeMap30 (n : Int) (w : World) : (Instr.makeMap 30 (some (.int .i64 n))).run Try.prog w = .ok (.map (some w.heap.size)) (w.alloc (.map #[] 0)) := by
  simp [Instr.makeMap, run_underlying Try.underlying30, asInt, asIntOf, Result.andThen]

theorem info9 : (Try.prog.info? 9).map (fun i => (i.zero, i.size, i.bytes)) = some (some (.string ByteArray.empty), 1, 16) := by kernel_rfl

theorem Tok.below {w w' : World} {g : Nat} {ns vs : List ByteArray} (h : Tok w g ns vs) (hb : Below w.heap.size w w') : Tok w' g ns vs := by
  obtain ⟨a, cap, hc, ht⟩ := h
  exact ⟨a, cap, (hb.cell (by simpa using World.block_lt_of_cell? _ _ hc)).trans hc, ht.below hb⟩

set_option maxRecDepth 100000 in
set_option maxHeartbeats 4000000 in
theorem walk5 (a0 a1 : Option Addr) (c0 c1 : Nat) (l0 l1 : List ByteArray) (k : Int) (x : ByteArray) (w : World) (hx : x.size ≤ maxLen) (h0 : StrSl w a0 l0) (h1 : StrSl w a1 l1) :
    Calls Try.prog 5 #[.slice a0 l0.length c0, .slice a1 l1.length c1, .int .i64 k, .string x] w fun e w' => e = .returned (.bool true) ∧ Below w.heap.size w w' := by
  have q0 := h0.1
  have q1 := h1.1
  have hx' := hx
  unfold maxLen at hx'
  have hmm := run_makeMap30
  go_enter Try.func5, Try.ntmps5
  go_wp2_with fail
  refine (f14_any a0 a1 c0 c1 l0 l1 k x _ hx h0 h1).mono ?_
  rintro e w1 ⟨b, rfl, hw⟩
  obtain rfl := hw.symm
  clear hw
  cases b
  · go_wp2_with fail
    go_ret
    exact ⟨rfl, Below.refl _ _⟩
  by_cases hl : l0.length ≤ 4096 ∧ l1.length ≤ 4096
  case neg =>
    rcases (show 4096 < l0.length ∨ (l0.length ≤ 4096 ∧ 4096 < l1.length) from by omega) with g | ⟨g1, g⟩
    all_goals
      clear hl
      go_wp2_with fail
      go_ret
      exact ⟨rfl, Below.refl _ _⟩
  obtain ⟨m0, m1⟩ := hl
  by_cases hxx : 1048576 < x.size
  · go_wp2_with fail
    go_ret
    exact ⟨rfl, Below.refl _ _⟩
  have d1 : decide ((4096 : Int) < (l0.length : Int)) = false := by simp; omega
  have d1' : decide ((4096 : Int) < (l1.length : Int)) = false := by simp; omega
  have d2 : decide ((1048576 : Int) < (x.size : Int)) = false := by simp; omega
  go_wp2_with fail
  refine (f15_any a0 c0 l0 _ h0).mono ?_
  rintro e w1 ⟨n1, rfl, n10, n11, hw⟩
  obtain rfl := hw.symm
  clear hw
  go_wp2_with fail
  refine (f15_any a1 c1 l1 _ h1).mono ?_
  rintro e w1 ⟨n2, rfl, n20, n21, hw⟩
  obtain rfl := hw.symm
  clear hw
  by_cases hn : 1048576 < n1 + n2 + x.size
  · go_wp2_with fail
    go_ret
    exact ⟨rfl, Below.refl _ _⟩
  have d3 : decide ((1048576 : Int) < n1 + n2 + (x.size : Int)) = false := by simp; omega
  by_cases hll : l1.length = l0.length
  case neg =>
    go_wp2_with fail
    go_ret
    exact ⟨rfl, Below.refl _ _⟩
  go_wp2_with fail
  refine (f16_any a0 a1 c0 c1 l0 l1 _ h0 h1 m0 hll).mono ?_
  rintro e w1 ⟨g, rfl, htok, hb1⟩
  go_wp2_with fail
  obtain ⟨i0, hi, hz0, hz1, hz2⟩ := info_parts info9
  go_loopw [53] (fun i wr => ∃ j : Nat, j ≤ l0.length ∧ i = .int .i64 j ∧ Grp wr (w1.heap.size + 1) w1.heap.size j (grouped l0 l1 j) ∧ Below w1.heap.size w1 wr ∧ w1.heap.size + 1 ≤ wr.heap.size) (fun i _ => l0.length - (intOf i).toNat)
  case atStart => exact ⟨0, Nat.zero_le _, rfl, grp_made _ _, (Below.refl _ _).alloc (Nat.le_refl _) _, by simp⟩
  case round =>
    obtain ⟨j, hj, rfl, hgp, hnx, hsz⟩ := hrel
    clear hmm
    by_cases hlt : j < l0.length
    · obtain ⟨b, off, rfl, hb, hc⟩ := h0.2.2 (by omega)
      obtain ⟨b', off', rfl, hb', hc'⟩ := h1.2.2 (by omega)
      have hnw : Below w.heap.size w wr := Below.then hb1 hnx
      have g0 : wr.cell? ⟨b, off + j, none⟩ = some (.string (l0.getD j ByteArray.empty)) := (hnw.cell (by exact hb)).trans (hc j hlt)
      have g1 : wr.cell? ⟨b', off' + j, none⟩ = some (.string (l1.getD j ByteArray.empty)) := (hnw.cell (by exact hb')).trans (hc' j (by omega))
      have hsj := h0.2.1 j
      obtain ⟨D, V, hown, hat, hle, hrow, hne⟩ := hgp
      obtain ⟨sx, hsx⟩ : ∃ s, s = l0.getD j ByteArray.empty := ⟨_, rfl⟩
      obtain ⟨sy, hsy⟩ : ∃ s, s = l1.getD j ByteArray.empty := ⟨_, rfl⟩
      rw [← hsx] at g0 hsj
      rw [← hsy] at g1
      have HX : Hid (sx = l0.getD j ByteArray.empty) := hsx
      have HY : Hid (sy = l1.getD j ByteArray.empty) := hsy
      have hr := hrow sx.data.toList
      have hlen := hle sx.data.toList
      have k1 := look_eq hown.drew hsj (hat sx.data.toList)
      have k2 := look_eq ((hown.alloc (.cells #[.string sy] 9)).drew) hsj (hat sx.data.toList)
      have hVw : some w1.heap.size ≠ (V sx.data.toList).ownBlock := fun q => by
        have := (hr.lt _ q.symm).1
        omega
      have hVb : (V sx.data.toList).ownBlock ≠ some b' := fun q => by
        have := (hr.lt b' q).1
        have := hb1.size
        omega
      have HAll : Hid ((∀ s, D.atKey (.string s) (.held (.slice none 0 0)) = .held (V s)) ∧ (∀ s, (grouped l0 l1 j s).length ≤ j) ∧ (∀ s, wr.ownsRow (w1.heap.size + 1) 9 1 (V s) (grouped l0 l1 j s).length ((grouped l0 l1 j s).map Value.string)) ∧ (∀ s s' b, (V s).ownBlock = some b → (V s').ownBlock = some b → s = s')) := ⟨hat, hle, hrow, hne⟩
      have hbw : b' < w1.heap.size := Nat.lt_of_lt_of_le hb' hb1.size
      have hnb : b' < wr.heap.size := Nat.lt_of_lt_of_le hb' hnw.size
      have hbB : some b' ≠ some w1.heap.size := fun q => by injection q; omega
      have g1a : ((wr.alloc (.cells #[.string sy] 9)).drew).cell? ⟨b', off' + j, none⟩ = some (.string sy) := (World.grownBy_alloc wr (.cells #[.string sy] 9) none).cell g1 (by simp)
      clear hc hc' hat hle hrow hne hsx hsy h0 h1
      have ho1 := (hr.alloc (.cells #[.string sy] 9)).drew
      generalize hL : grouped l0 l1 j sx.data.toList = L at hr hlen ho1
      generalize hVV : V sx.data.toList = v0 at hr k1 k2 hVb ho1 hVw
      have HL : Hid (grouped l0 l1 j sx.data.toList = L) := hL
      have HV : Hid (V sx.data.toList = v0) := hVV
      clear hL hVV
      go_wp2_with fail
      go_region_held3 (fun w' => w'.cell? ⟨b', off' + j, none⟩ = some (.string sy))
        (first | go_keep | exact hk3 | exact hgrow.cell g1a (Ne.symm hVb))
        ((refine step_append_lies _ (by rfl) _ _ _ (by rfl) (w1.heap.size + 1) 9 i0 _ 1 16 Try.underlying25 hi hz0 hz1 hz2 rfl (by omega) v0 L.length (L.map Value.string) (by rfl) ho1
            ⟨wr.heap.size, 0, none⟩ 1 1 [.string sy] (by rfl) (by rfl) (World.news_of_block (cs := #[.string sy]) (t := 9) (fr := (0, 0)) (heap_alloc_new wr _)) (by simp [Value.oneCell'])
            (by omega) (by unfold maxLen; omega) (by omega) (by simp; omega) (wr.heap.size + 1) (by simp) ?_; intro gg cap w2 hown1 hgrow hat1 hlt2; obtain ⟨w3, hrun3, hown3, hg3⟩ := ((hown.alloc (.cells #[.string sy] 9)).drew.kept hgrow hVw).update law9 Try.underlying30 (by unfold maxLen; omega) (keyOf_string_mk (P := Try.prog) (k := 9) Try.underlying9 hsj) (val := .slice (some ⟨gg, 0, none⟩) (L.length + 1) cap) (d := .held (.slice (some ⟨gg, 0, none⟩) (L.length + 1) cap)) (ps := []) rfl; have hk3 := hg3.cell (hgrow.cell g1a (Ne.symm hVb)) hbB))
      all_goals
        clear k1 k2 hrun3
        go_wp2
        go_roundw
        case rel =>
          obtain ⟨p1, p2, p3, p4⟩ := HAll.out
          have hst := grp_step (W := (wr.alloc (.cells #[.string sy] 9)).drew) (base := w1.heap.size + 1) (B := w1.heap.size) (n := j) (G := grouped l0 l1 j) (by omega) ((hown.alloc _).drew) p1 p2 (fun s => ((p3 s).alloc _).drew) p4 sx.data.toList sy gg cap (by rw [HL.out]; exact hown1) (by rw [HV.out]; exact hgrow) (by rw [HV.out]; rcases hat1 with q | q; exact .inl q; exact .inr (by simp [q])) (by rw [HL.out]; exact hown3) hg3
          refine ⟨j + 1, by omega, by go_num, ?_, ?_, ?_⟩
          · have e : grouped l0 l1 (j + 1) = fun t => if t = sx.data.toList then grouped l0 l1 j t ++ [sy] else grouped l0 l1 j t := by
              funext t
              rw [grouped_succ, HX.out, HY.out]
            rw [e]
            exact hst
          · exact ((hnx.alloc hnx.size _).drew.grown hgrow (by simp; omega) (fun q hq => by have := (hr.lt q hq).1; omega)).grown hg3 (by have := hgrow.size; simp at this; omega) (fun q hq => by injection hq with hq; omega)
          · have := hgrow.size
            have := hg3.size
            simp at *
            omega
        case measure => simp [intOf]; omega
    · obtain rfl : j = l0.length := by omega
      have htok1 := htok.below hnx
      have hb2 := Below.then hb1 hnx
      have hsall := h0.2.1
      go_wp2_with fail
      refine (f17_any g _ _ _ l0 l1 _ _ htok1 hsall hgp (by omega)).mono ?_
      rintro e w2 ⟨x2, rfl, t2, b2⟩
      obtain rfl : x2 = true := t2.2 (cov_own l0 l1)
      have hb3 := Below.then hb2 b2
      have hgp2 := hgp.below b2
      have htok2 := htok1.below b2
      have hsz2 : w1.heap.size + 1 ≤ w2.heap.size := Nat.le_trans hsz b2.size
      have hw12 : Below w1.heap.size w1 w2 := hnx.trans (b2.mono hnx.size)
      clear t2 b2 hnx hgp htok1 hb2
      by_cases hk : 0 ≤ k ∧ k < l0.length
      case neg =>
        rcases (show k < 0 ∨ (0 ≤ k ∧ (l0.length : Int) ≤ k) from by omega) with q | ⟨q1, q⟩
        all_goals
          clear hk
          go_wp2_with fail
          go_ret
          exact ⟨rfl, hb3⟩
      obtain ⟨hk0, hk1⟩ := hk
      obtain ⟨kn, rfl⟩ := Int.eq_ofNat_of_zero_le hk0
      have hkn : kn < l0.length := by omega
      obtain ⟨b, off, rfl, hb, hc⟩ := h0.2.2 (by omega)
      have g0 : w2.cell? ⟨b, off + kn, none⟩ = some (.string (l0.getD kn ByteArray.empty)) := (hb3.cell (by exact hb)).trans (hc kn hkn)
      have hsk := hsall kn
      obtain ⟨D, V, hown, hat, hle, hrow, hne⟩ := hgp2
      obtain ⟨sx, hsx⟩ : ∃ s, s = l0.getD kn ByteArray.empty := ⟨_, rfl⟩
      rw [← hsx] at g0 hsk
      have HX : Hid (sx = l0.getD kn ByteArray.empty) := hsx
      have hr := hrow sx.data.toList
      have hlen := hle sx.data.toList
      have k1 := look_eq hown hsk (hat sx.data.toList)
      have hVw : some w1.heap.size ≠ (V sx.data.toList).ownBlock := fun q => by
        have := (hr.lt _ q.symm).1
        omega
      have HAll : Hid ((∀ s, D.atKey (.string s) (.held (.slice none 0 0)) = .held (V s)) ∧ (∀ s, (grouped l0 l1 l0.length s).length ≤ l0.length) ∧ (∀ s, w2.ownsRow (w1.heap.size + 1) 9 1 (V s) (grouped l0 l1 l0.length s).length ((grouped l0 l1 l0.length s).map Value.string)) ∧ (∀ s s' b, (V s).ownBlock = some b → (V s').ownBlock = some b → s = s')) := ⟨hat, hle, hrow, hne⟩
      clear hc hat hle hrow hne hsx
      generalize hL : grouped l0 l1 l0.length sx.data.toList = L at hr hlen
      generalize hVV : V sx.data.toList = v0 at hr k1 hVw
      have HL : Hid (grouped l0 l1 l0.length sx.data.toList = L) := hL
      have HV : Hid (V sx.data.toList = v0) := hVV
      clear hL hVV
      go_wp2_with (first | (at_builtin; refine wpList_append_lies _ rfl _ _ 25 rfl (w1.heap.size + 1) 9 i0 _ 1 16 Try.underlying25 hi hz0 hz1 hz2 rfl (by omega) v0 L.length (L.map Value.string) rfl (hr.alloc _) ⟨w2.heap.size, 0, none⟩ 1 1 [.string x] rfl rfl (World.news_of_block (cs := #[.string x]) (t := 9) (fr := (0, 0)) (heap_alloc_new w2 _)) (by simp [Value.oneCell']) (by omega) (by unfold maxLen; omega) (by omega) (by simp; omega) (w2.heap.size + 1) (by simp) ?_) | go_in)
      intro gg cap w3 hown3 hgrow hat3 hlt3
      clear k1
      go_wp2_with (first | (at_mapUpdate; refine wpList_mapUpdate_own _ rfl _ _ _ 30 rfl 9 25 law9 Try.underlying30 _ w1.heap.size _ _ rfl ((hown.alloc _).kept hgrow hVw) (by unfold maxLen; omega) _ _ _ rfl rfl (keyOf_string_mk (P := Try.prog) (k := 9) Try.underlying9 hsk) _ [] rfl ?_) | go_in)
      intro w4 hown4 hg4
      obtain ⟨p1, p2, p3, p4⟩ := HAll.out
      have hst := grp_step (W := w2.alloc (.cells #[.string x] 9)) (base := w1.heap.size + 1) (B := w1.heap.size) (n := l0.length) (G := grouped l0 l1 l0.length) (by omega) (hown.alloc _) p1 p2 (fun s => (p3 s).alloc _) p4 sx.data.toList x gg cap (by rw [HL.out]; exact hown3) (by rw [HV.out]; exact hgrow) (by rw [HV.out]; rcases hat3 with q | q; exact .inl q; exact .inr (by simp [q])) (by rw [HL.out]; exact hown4) hg4
      have hb4 : Below w1.heap.size w2 w4 := (((Below.refl _ _).alloc hw12.size _).grown hgrow (by simp; omega) (fun q hq => by have := (hr.lt q hq).1; omega)).grown hg4 (by have := hgrow.size; simp at this; omega) (fun q hq => by injection hq with hq; omega)
      have hw14 := hw12.trans hb4
      have HX' : Hid (l0.getD kn ByteArray.empty = sx) := HX.out.symm
      clear hown3 hgrow hat3 hlt3 hown4 hg4 hown hr hlen p1 p2 p3 p4 HAll HL HV HX hVw hb4 hw12 htok2 hb3 hsz2
      go_wp2_with fail
      refine (f17_any g _ _ _ l0 l1 _ _ (htok.below hw14) hsall hst (by omega)).mono ?_
      rintro e w5 ⟨x5, rfl, t5, b5⟩
      have hw15 := hw14.trans (b5.mono hw14.size)
      have hst5 := hst.below b5
      have hbw5 : Below w.heap.size w w5 := Below.then hb1 hw15
      have h05 := h0.below hbw5
      have h15 := h1.below hbw5
      have T5 : Hid (x5 = true ↔ HasPair l0 l1 sx x) := by
        refine t5.trans ?_
        rw [← HX'.out]
        exact cov_extra l0 l1 kn hkn x _ (fun t => rfl)
      clear t5 b5 hst hw14
      go_wp2_with fail
      refine (f18_any (some ⟨b, off, none⟩) a1 c0 c1 l0 l1 sx x _ h05 h15 hll).mono ?_
      rintro e w6 ⟨x6, rfl, t6, hw6⟩
      obtain rfl := hw6.symm
      clear hw6
      obtain rfl : x5 = x6 := Bool.eq_iff_iff.2 (T5.out.trans t6.symm)
      clear T5 t6 h05 h15
      obtain ⟨D5, V5, hown5, hat5, hle5, hrow5, hne5⟩ := hst5
      have HA5 : Hid ((∀ s, D5.atKey (.string s) (.held (.slice none 0 0)) = .held (V5 s)) ∧ (∀ s, (if s = sx.data.toList then grouped l0 l1 l0.length s ++ [x] else grouped l0 l1 l0.length s).length ≤ l0.length + 1) ∧ (∀ s, w5.ownsRow (w1.heap.size + 1) 9 1 (V5 s) (if s = sx.data.toList then grouped l0 l1 l0.length s ++ [x] else grouped l0 l1 l0.length s).length ((if s = sx.data.toList then grouped l0 l1 l0.length s ++ [x] else grouped l0 l1 l0.length s).map Value.string)) ∧ (∀ s s' b, (V5 s).ownBlock = some b → (V5 s').ownBlock = some b → s = s')) := ⟨hat5, hle5, hrow5, hne5⟩
      clear hat5 hle5 hrow5 hne5
      cases x5
      all_goals
        go_wp2_with (first | (at_delete; refine wpList_delete_own _ rfl _ _ 30 9 rfl 25 law9 Try.underlying30 _ w1.heap.size _ _ rfl hown5 _ _ rfl (keyOf_string_mk (P := Try.prog) (k := 9) Try.underlying9 hsk) ?_) | fail)
        intro w7 hown7 hturn
        obtain ⟨p1, p2, p3, p4⟩ := HA5.out
        have hst7 := grp_drop (w := w5) (base := w1.heap.size + 1) (B := w1.heap.size) (n := l0.length + 1) (n' := l0.length + 1) (by omega) (Nat.le_refl _) p1 p2 p3 p4 sx.data.toList hown7 hturn.grown
        have hw17 := hw15.grown hturn.grown hw15.size (fun q hq => by injection hq with hq; omega)
        clear HA5 p1 p2 p3 p4 hown7 hturn hown5
        go_wp2_with fail
        refine (f17_any g _ _ _ l0 l1 _ _ (htok.below hw17) hsall hst7 (by omega)).mono ?_
        rintro e w8 ⟨x8, rfl, t8, b8⟩
        obtain rfl : x8 = false := by
          cases x8
          · rfl
          · exact absurd (t8.1 rfl) (cov_gone l0 l1 kn hkn _ (by rw [HX'.out, if_pos rfl]))
        have hw18 := hw17.trans (b8.mono hw17.size)
        clear t8 b8 hst7
        go_wp2_with fail
        go_ret
        exact ⟨rfl, Below.then hb1 hw18⟩

end Go.Proofs.Qxb6602559a
