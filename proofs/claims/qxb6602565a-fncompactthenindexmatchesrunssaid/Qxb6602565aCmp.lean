import Derived.Test.Qxb6602565aCmp1
namespace Go.Proofs.Qxb6602565a
open Go.RowKit
set_option linter.unusedVariables false

/-- The accesses that are still in their records. -/
def keptOf (As : List (Nat × Nat)) : List (Nat × Nat) := As.filter fun a => keptB a.2

/-- Of the first j accesses, with their blocks, those that are kept. -/
def zk (ps : List Nat) (As : List (Nat × Nat)) (j : Nat) : List (Nat × (Nat × Nat)) := ((ps.zip As).take j).filter fun z => keptB z.2.2

theorem zk_succ (ps : List Nat) (As : List (Nat × Nat)) (j : Nat) (hl : ps.length = As.length) (hj : j < As.length) :
    zk ps As (j + 1) = if keptB (As.getD j (0, 0)).2 then zk ps As j ++ [(ps.getD j 0, As.getD j (0, 0))] else zk ps As j := by
  unfold zk
  have hz : j < (ps.zip As).length := by simp; omega
  have e : (ps.zip As)[j] = (ps.getD j 0, As.getD j (0, 0)) := by simp [hj, show j < ps.length from by omega]
  rw [List.take_succ_eq_append_getElem hz, List.filter_append, e]
  by_cases h : keptB (As.getD j (0, 0)).2
  · rw [if_pos h, List.filter_cons, if_pos h]; rfl
  · rw [if_neg h, List.filter_cons, if_neg h]; simp

theorem zk_length_le (ps : List Nat) (As : List (Nat × Nat)) (j : Nat) : (zk ps As j).length ≤ j := by
  unfold zk
  refine Nat.le_trans (List.length_filter_le _ _) ?_
  rw [List.length_take]
  omega

theorem zk_kept (ps : List Nat) (As : List (Nat × Nat)) (hl : ps.length = As.length) : (zk ps As As.length).map Prod.snd = keptOf As := by
  unfold zk keptOf
  rw [List.take_of_length_le (by simp; omega)]
  have e : As = (ps.zip As).map Prod.snd := (List.map_snd_zip (by omega)).symm
  conv => rhs; rw [e, List.filter_map]
  rfl

theorem zk_mem {ps : List Nat} {As : List (Nat × Nat)} (hl : ps.length = As.length) {j : Nat} {z : Nat × (Nat × Nat)} (h : z ∈ zk ps As j) : ∃ i, i < As.length ∧ z = (ps.getD i 0, As.getD i (0, 0)) := by
  unfold zk at h
  have h1 := List.mem_of_mem_take (List.mem_filter.1 h).1
  obtain ⟨i, hi, rfl⟩ := List.getElem_of_mem h1
  rw [List.length_zip] at hi
  have a1 : i < ps.length := by omega
  have a2 : i < As.length := by omega
  exact ⟨i, a2, by simp [a1, a2]⟩

/-- The row of the accesses while compact is at j. -/
structure RowAt (cur : Array Value) (ps : List Nat) (As : List (Nat × Nat)) (ca j : Nat) : Prop where
  size : cur.size = ca
  head : ∀ i, i < (zk ps As j).length → cur[i]? = some (.pointer (some ⟨((zk ps As j).map Prod.fst).getD i 0, 0, none⟩))
  rest : ∀ i, j ≤ i → i < As.length → cur[i]? = some (.pointer (some ⟨ps.getD i 0, 0, none⟩))

theorem RowAt.drop {cur : Array Value} {ps : List Nat} {As : List (Nat × Nat)} {ca j : Nat} (h : RowAt cur ps As ca j) (hl : ps.length = As.length) (hj : j < As.length) (hk : keptB (As.getD j (0, 0)).2 = false) : RowAt cur ps As ca (j + 1) := by
  have e : zk ps As (j + 1) = zk ps As j := by rw [zk_succ _ _ _ hl hj, hk]; rfl
  exact ⟨h.size, by rw [e]; exact h.head, fun i hi => h.rest i (by omega)⟩

theorem zk_snoc {ps : List Nat} {As : List (Nat × Nat)} {j : Nat} (hl : ps.length = As.length) (hj : j < As.length) (hk : keptB (As.getD j (0, 0)).2 = true) : (zk ps As (j + 1)).length = (zk ps As j).length + 1 := by
  rw [zk_succ _ _ _ hl hj, hk]
  simp

theorem RowAt.keep {cur cur' : Array Value} {ps : List Nat} {As : List (Nat × Nat)} {ca j : Nat} (h : RowAt cur ps As ca j) (hl : ps.length = As.length) (hj : j < As.length) (hk : keptB (As.getD j (0, 0)).2 = true)
    (hs : cur'.size = ca) (h1 : cur'[(zk ps As j).length]? = some (.pointer (some ⟨ps.getD j 0, 0, none⟩))) (h2 : ∀ i, i ≠ (zk ps As j).length → cur'[i]? = cur[i]?) : RowAt cur' ps As ca (j + 1) := by
  have e : zk ps As (j + 1) = zk ps As j ++ [(ps.getD j 0, As.getD j (0, 0))] := by rw [zk_succ _ _ _ hl hj, hk]; rfl
  refine ⟨hs, fun i hi => ?_, fun i hi hi2 => ?_⟩
  · rw [e, List.length_append, List.length_singleton] at hi
    rw [e, List.map_append]
    rcases Nat.lt_or_ge i (zk ps As j).length with q | q
    · rw [h2 i (by omega), h.head i q, List.getD_eq_getElem?_getD, List.getD_eq_getElem?_getD, List.getElem?_append_left (by simpa using q)]
    · obtain rfl : i = (zk ps As j).length := by omega
      rw [h1]
      generalize ps.getD j 0 = x
      rw [List.getD_eq_getElem?_getD, List.getElem?_append_right (by simp)]
      simp
  · have := zk_length_le ps As j
    rw [h2 i (by omega)]
    exact h.rest i (by omega) hi2

theorem owns_of_row {w : World} {base b ca k : Nat} {cur : Array Value} {l : List Nat} (hb : base ≤ b) (hrow : w.heap[b]? = some (.cells cur 80 (0, 0))) (hs : cur.size = ca) (hca : ca ≤ 1048576) (hk : k = l.length) (hkc : k ≤ ca)
    (h : ∀ i, i < l.length → cur[i]? = some (.pointer (some ⟨l.getD i 0, 0, none⟩))) : w.ownsRow base 80 1 (.slice (some ⟨b, 0, none⟩) k ca) k (ptrs l) := by
  subst hk
  refine ⟨by simp [ptrs], .inr ⟨b, ca, cur, rfl, hb, hrow, hkc, by unfold maxLen; omega, by omega, ?_⟩⟩
  apply List.ext_getElem?
  intro i
  by_cases hi : i < l.length
  · rw [List.getElem?_take_of_lt (by omega)]
    have := h i hi
    simp [ptrs, hi] at this ⊢
    exact this
  · rw [List.getElem?_eq_none (by rw [List.length_take]; omega), List.getElem?_eq_none (by simp [ptrs]; omega)]

theorem accs_kept {w : World} {base b' c : Nat} {ps : List Nat} {As : List (Nat × Nat)} (hl : ps.length = As.length) (hacc : ∀ i, i < As.length → Acc w (ps.getD i 0) (As.getD i (0, 0)))
    (hown : w.ownsRow base 80 1 (.slice (some ⟨b', 0, none⟩) (zk ps As As.length).length c) (zk ps As As.length).length (ptrs ((zk ps As As.length).map Prod.fst))) : Accs w base (.slice (some ⟨b', 0, none⟩) (keptOf As).length c) (keptOf As) := by
  have e := zk_kept ps As hl
  have el : (keptOf As).length = (zk ps As As.length).length := by rw [← e]; simp
  rw [el]
  refine ⟨(zk ps As As.length).map Prod.fst, by simp [el], by rw [el]; exact hown, fun i hi => ?_⟩
  rw [el] at hi
  obtain ⟨i', hi', e'⟩ := zk_mem hl (List.getElem_mem hi)
  have := hacc i' hi'
  rw [← e, List.getD_eq_getElem?_getD, List.getD_eq_getElem?_getD, List.getElem?_map, List.getElem?_map, List.getElem?_eq_getElem hi, e']
  exact this

theorem Lvs.cut0 {w : World} {base n nl c : Nat} {a : Option Addr} {F F' : Nat → List Nat} (h : Lvs w base (.slice a n c) nl F) : Lvs w base (.slice a 0 c) 0 F' := by
  rcases h with ⟨e, h0⟩ | ⟨r, Vs, e, h1, h2, h3, h4⟩
  · injection e with e1 e2 e3
    subst e1
    subst e3
    exact .inl ⟨rfl, rfl⟩
  · injection e with e1 e2 e3
    subst e1
    subst e3
    exact .inr ⟨r, Vs, rfl, h1, Nat.zero_le _, h3, h4.row, fun i hi hne => by obtain ⟨l, x, _⟩ := h4.lev i hi hne; exact ⟨l, x, fun hn => absurd hn (by omega)⟩, h4.inj, h4.far⟩

/-- The log behind compact's three stores. -/
theorem log_compacted {w3 : World} {base g b' k nc : Nat} {va vl vl' : Value} {lat bu : Int} {st : Bool} {K : List (Nat × Nat)} (hbg : base ≤ g)
    (hh : w3.heap[g]? = some (.cells #[va, .int .u64 lat, .bool st, vl, .int .i64 bu] 79 (0, 0))) (hA : Accs w3 base (.slice (some ⟨b', 0, none⟩) K.length nc) K) (hL : Lvs w3 base vl' 0 (fun i => level ((marksOf K).take 0) (i + 1))) (hk : k = K.length) :
    Log (((w3.setCell ⟨g, 0, none⟩ (.slice (some ⟨b', 0, none⟩) k nc)).setCell ⟨g, 4, none⟩ (.int .i64 0)).setCell ⟨g, 3, none⟩ vl') base g K nc 0 := by
  subst hk
  have h1 := heap_setCell_same w3 g 0 _ 79 (.slice (some ⟨b', 0, none⟩) K.length nc) hh
  have h2 := heap_setCell_same _ g 4 _ 79 (.int .i64 0) h1
  have h3 := heap_setCell_same _ g 3 _ 79 vl' h2
  have k1 : Keeps 79 w3 _ := Keeps.setCell (a := ⟨g, 0, none⟩) hh (.slice (some ⟨b', 0, none⟩) K.length nc)
  have k2 : Keeps 79 _ _ := Keeps.setCell (a := ⟨g, 4, none⟩) h1 (.int .i64 0)
  have k3 : Keeps 79 _ _ := Keeps.setCell (a := ⟨g, 3, none⟩) h2 vl'
  have kk := (k1.trans k2).trans k3
  exact ⟨b', vl', lat, st, by rw [h3]; simp, hbg, hA.keeps kk (by decide) (by decide), hL.keeps kk (by decide) (by decide), Nat.zero_le _⟩

/-- What compact leaves. -/
def CmpPost (w : World) (base g : Nat) (As : List (Nat × Nat)) (ca built : Nat) (e : Ending) (w' : World) : Prop :=
  e = .returned (.tuple #[]) ∧ Below base w w' ∧ (((keptOf As).length = As.length ∧ Log w' base g As ca built) ∨
    ((keptOf As).length < As.length ∧ Log w' base g (keptOf As) (newcap ca (keptOf As).length) 0 ∧ (newcap ca (keptOf As).length < ca → w'.cell? ⟨g, 3, none⟩ = some (.slice none 0 0))))

set_option maxRecDepth 100000 in
set_option maxHeartbeats 4000000 in
theorem f44_any (g base ca built : Nat) (As : List (Nat × Nat)) (w : World) (hlog : Log w base g As ca built) (hca : ca ≤ 1048576) (hb : base ≤ w.heap.size) (hmk : ∀ i, (As.getD i (0, 0)).2 < 18446744073709551616) :
    Calls Try.prog 44 #[.pointer (some ⟨g, 0, none⟩)] w fun e w' => CmpPost w base g As ca built e w' := by
  obtain ⟨ba, vl, lat, st, hh, hbg, ⟨ps, hps, hown, hacc⟩, hlv, hbu⟩ := hlog
  obtain ⟨i0, hi, hz0, hz1, hz2⟩ := info_parts info80
  have hba := (hown.lt ba rfl).1
  obtain ⟨cur0, hrow0, hcur0, hnc, hat0⟩ : ∃ cur : Array Value, w.heap[ba]? = some (.cells cur 80 (0, 0)) ∧ cur.size = ca ∧ As.length ≤ ca ∧ RowAt cur ps As ca 0 := by
    rcases hown.2 with ⟨q, _⟩ | ⟨g', cap', cur, hv, _, hr, hnc, _, hcs, ht⟩
    · cases q
    · injection hv with q1 q2 q3
      injection q1 with q1
      injection q1 with q1
      subst q1
      subst q3
      refine ⟨cur, hr, by omega, hnc, ⟨by omega, fun i hi => absurd hi (by simp [zk]), fun i _ hi => ?_⟩⟩
      have h1 : (cur.toList.take (As.length * 1))[i]? = (ptrs ps)[i]? := by rw [ht]
      rw [List.getElem?_take_of_lt (by omega)] at h1
      simp [ptrs, show i < ps.length from by omega] at h1 ⊢
      exact h1
  have c0 : w.cell? ⟨g, 0, none⟩ = some (.slice (some ⟨ba, 0, none⟩) As.length ca) := by simp [World.cell?, hh]
  have HH := hide hh
  have hbg0 : ∀ wr, Keeps 80 w wr → wr.heap[g]? = some (.cells #[.slice (some ⟨ba, 0, none⟩) As.length ca, .int .u64 lat, .bool st, vl, .int .i64 (built : Int)] 79 (0, 0)) := fun wr hk => hk _ _ _ _ hh (by decide)
  have HG := hide hbg0
  clear hh hbg0 hown
  go_enter Try.func44, Try.ntmps44
  go_wp2
  go_loopw [2, 15] (fun kv i wr => ∃ (j : Nat) (cur : Array Value), i = .int .i64 (j : Int) ∧ j ≤ As.length ∧ kv = .slice (some ⟨ba, 0, none⟩) (zk ps As j).length ca ∧ wr.heap[ba]? = some (.cells cur 80 (0, 0)) ∧ RowAt cur ps As ca j ∧ Keeps 80 w wr ∧ Below base w wr) (fun _ i _ => As.length - (intOf i).toNat)
  case atStart => exact ⟨0, cur0, rfl, Nat.zero_le _, rfl, hrow0, hat0, Keeps.refl _ _, Below.refl _ _⟩
  case round =>
    rename World => w1
    obtain ⟨j, cur, rfl, hj, rfl, hrow, hat, hkp, hbl⟩ := hrel
    have hkle := zk_length_le ps As j
    have hb1 : base ≤ w1.heap.size := Nat.le_trans hb hbl.size
    by_cases hlt : j < As.length
    · have g1 : w1.cell? ⟨ba, j, none⟩ = some (.pointer (some ⟨ps.getD j 0, 0, none⟩)) := by rw [cell_of_row w1 ba j _ _ _ hrow]; exact hat.rest j (Nat.le_refl _) hlt
      obtain ⟨cs, hcs, _, hc4⟩ := (hacc j hlt).keeps hkp (by decide)
      have g2 : w1.cell? ⟨ps.getD j 0, 4, none⟩ = some (.int .u64 (((As.getD j (0, 0)).2 : Nat) : Int)) := by rw [cell_of_row w1 _ 4 _ _ _ hcs]; exact hc4
      have F47 := hide (f47_any (ps.getD j 0) (As.getD j (0, 0)).2 w1 (hmk j) g2)
      obtain ⟨p, hp⟩ : ∃ p, p = ps.getD j 0 := ⟨_, rfl⟩
      rw [← hp] at g1 F47
      have HP := hide hp
      have HROW := hide hrow
      have HAT := hide hat
      have hsz := hat.size
      clear g2 hcs hc4 hrow hat hp hrow0 hat0 hcur0
      go_wp2_with fail
      refine F47.out.mono ?_
      rintro e w2 ⟨rfl, hw⟩
      obtain rfl := hw.symm
      clear hw F47
      cases hkk : keptB (As.getD j (0, 0)).2
      · have r1 := HAT.out.drop hps hlt hkk
        have e1 : zk ps As (j + 1) = zk ps As j := by rw [zk_succ _ _ _ hps hlt, hkk]; rfl
        have E1 := hide e1
        clear e1
        go_wp2_with fail
        go_roundw
        case rel => exact ⟨j + 1, cur, by go_num, by omega, by rw [E1.out], HROW.out, r1, hkp, hbl⟩
        case measure => simp [intOf]; omega
      · have hrow' : (w1.alloc (.cells #[.pointer (some ⟨p, 0, none⟩)] 80)).heap[ba]? = some (.cells cur 80 (0, 0)) := Keeps.alloc 0 _ _ _ _ _ _ HROW.out (by decide)
        have HROW' := hide hrow'
        clear hrow'
        go_wp2_with (first | (at_builtin; refine wpList_append_row _ rfl _ _ rfl i0 hi hz1 ba (zk ps As j).length ca cur rfl HROW'.out hsz (by omega) ⟨w1.heap.size, 0, none⟩ (.pointer (some ⟨p, 0, none⟩)) rfl (World.news_of_block (cs := #[.pointer (some ⟨p, 0, none⟩)]) (t := 80) (fr := (0, 0)) (heap_alloc_new w1 _)) rfl ?_) | go_in)
        intro w3 cur3 hrow3 hs3 hk3 ho3 hg3
        rw [HP.out] at hk3
        have r1 := HAT.out.keep hps hlt hkk hs3 hk3 ho3
        have r2 : Keeps 80 w w3 := hkp.trans ((Keeps.alloc 80 _ _).trans (Keeps.grown hg3 (fun b hb => by injection hb with hb; subst hb; exact ⟨_, _, HROW'.out⟩)))
        have r3 := (hbl.alloc hb1 (.cells #[.pointer (some ⟨p, 0, none⟩)] 80)).grown hg3 (by simp; omega) (fun k hk => by injection hk with hk; omega)
        have e1 := zk_snoc hps hlt hkk
        rw [← e1]
        have HR := hide (And.intro hrow3 (And.intro r1 (And.intro r2 r3)))
        clear hrow3 hs3 hk3 ho3 hg3 r1 r2 r3 e1
        go_wp2_with fail
        go_roundw
        case rel => exact ⟨j + 1, cur3, by go_num, by omega, rfl, HR.out.1, HR.out.2.1, HR.out.2.2.1, HR.out.2.2.2⟩
        case measure => simp [intOf]; omega
    · obtain rfl : j = As.length := by omega
      have ezk := zk_kept ps As hps
      have elen : (keptOf As).length = (zk ps As As.length).length := by rw [← ezk]; simp
      have hh1 := HG.out w1 hkp
      have c01 : w1.cell? ⟨g, 0, none⟩ = some (.slice (some ⟨ba, 0, none⟩) As.length ca) := by simp [World.cell?, hh1]
      have hown1 : w1.ownsRow base 80 1 (.slice (some ⟨ba, 0, none⟩) (zk ps As As.length).length ca) (zk ps As As.length).length (ptrs ((zk ps As As.length).map Prod.fst)) :=
        owns_of_row hba hrow hat.size hca (by simp) (by omega) (fun i hi => hat.head i (by simpa using hi))
      have hsz := hat.size
      by_cases hall : (zk ps As As.length).length = As.length
      · -- all are kept
        have hlog' : Log w1 base g As ca built := by
          have ek : keptOf As = As := by
            unfold keptOf at elen ⊢
            exact List.filter_eq_self.2 (List.length_filter_eq_length_iff.1 (elen.trans hall))
          have hA := accs_kept hps (fun i hi => (hacc i hi).keeps hkp (by decide)) hown1
          rw [ek] at hA
          exact ⟨ba, vl, lat, st, hh1, hbg, hA, hlv.keeps hkp (by decide) (by decide), hbu⟩
        have hpost : CmpPost w base g As ca built (.returned (.tuple #[])) w1 := ⟨rfl, hbl, .inl ⟨elen.trans hall, hlog'⟩⟩
        have HPO := hide hpost
        have hbq : (((zk ps As As.length).length : Int) == (As.length : Int)) = true := by simp [hall]
        generalize (zk ps As As.length).length = kk at *
        clear hlog' hpost hown1 hrow hat hall hkle elen
        go_wp2_with fail
        exact bodyPost_ret (results_none (by kernel_rfl) _ _ _) rfl HPO.out
      · have hkn : (zk ps As As.length).length < As.length := by omega
        have hbq : (((zk ps As As.length).length : Int) == (As.length : Int)) = false := by simp; omega
        have HROW := hide hrow
        have HH1 := hide hh1
        have HAT := hide hat
        obtain ⟨avl, cvl, rfl⟩ := hlv.shape
        clear hall hrow hat hrow0 hat0 hcur0 hh1
        generalize hkk : (zk ps As As.length).length = kk at *
        have hck : ¬ ca = kk := by omega
        have HKK := hide hkk
        clear hkk
        go_wp2_with (first | (refine wpList_clear_row _ rfl (.tmp 40) rfl ba kk (As.length - kk) _ cur rfl HROW.out (by omega) (by omega) ?_) | fail)
        intro w2 cur2 hrow2 hs2 hk2 hg2
        have hkw2 : Keeps 80 w w2 := hkp.trans (Keeps.grown hg2 (fun b hb => by injection hb with hb; subst hb; exact ⟨_, _, HROW.out⟩))
        have bel2 := hbl.grown hg2 hb1 (fun k hk => by injection hk with hk; omega)
        have hb2 : base ≤ w2.heap.size := Nat.le_trans hb bel2.size
        have hown2 : w2.ownsRow base 80 1 (.slice (some ⟨ba, 0, none⟩) kk ca) kk (ptrs ((zk ps As As.length).map Prod.fst)) :=
          owns_of_row hba hrow2 (by omega) hca (by simp [HKK.out]) (by omega) (fun i hi => by
            have hi' : i < (zk ps As As.length).length := by simpa using hi
            rw [hk2 i (by rw [← HKK.out]; exact hi')]
            exact HAT.out.head i hi')
        have F48 := hide (f48_any base ba kk ca ((zk ps As As.length).map Prod.fst) w2 (by simp [HKK.out]) hown2 (by omega) hca hb2)
        clear hown2 hrow2 hs2 hk2 hg2 hown1 HROW HAT
        go_wp2_with fail
        refine F48.out.mono ?_
        rintro e w3 ⟨b', rfl, hown3, hg3⟩
        have hk23 : Keeps 0 w2 w3 := Keeps.grown hg3 (fun b hb => by cases hb)
        have hkw3 : Keeps 80 w w3 := hkw2.trans (Keeps.grown hg3 (fun b hb => by cases hb))
        have bel3 := bel2.grown hg3 hb2 (fun b hb => by cases hb)
        have hh3 := HG.out w3 hkw3
        have c03 : w3.cell? ⟨g, 0, none⟩ = some (.slice (some ⟨ba, 0, none⟩) As.length ca) := by simp [World.cell?, hh3]
        have c33 : w3.cell? ⟨g, 3, none⟩ = some (.slice avl (depth built) cvl) := by simp [World.cell?, hh3]
        have c43 : w3.cell? ⟨g, 4, none⟩ = some (.int .i64 (built : Int)) := by simp [World.cell?, hh3]
        have f03 := frozen_of_row w3 g 0 _ _ hh3
        have f33 := frozen_of_row w3 g 3 _ _ hh3
        have f43 := frozen_of_row w3 g 4 _ _ hh3
        have hA3 : Accs w3 base (.slice (some ⟨b', 0, none⟩) (keptOf As).length (newcap ca kk)) (keptOf As) := accs_kept hps (fun i hi => (hacc i hi).keeps hkw3 (by decide)) (by rw [HKK.out]; exact hown3)
        have hL3 := hlv.keeps hkw3 (by decide) (by decide)
        have hncle : newcap ca kk ≤ 1048576 := by unfold newcap; split <;> omega
        by_cases hcap : newcap ca kk < ca
        · have hfin : CmpPost w base g As ca built (.returned (.tuple #[])) (((w3.setCell ⟨g, 0, none⟩ (.slice (some ⟨b', 0, none⟩) kk (newcap ca kk))).setCell ⟨g, 4, none⟩ (.int .i64 0)).setCell ⟨g, 3, none⟩ (.slice none 0 0)) := by
            refine ⟨rfl, ((bel3.setCell (by exact hbg) _).setCell (by exact hbg) _).setCell (by exact hbg) _, .inr ⟨by omega, ?_, fun _ => ?_⟩⟩
            · rw [elen]
              exact log_compacted hbg hh3 hA3 (.inl ⟨rfl, rfl⟩) elen.symm
            · have h1 := heap_setCell_same w3 g 0 _ 79 (.slice (some ⟨b', 0, none⟩) kk (newcap ca kk)) hh3
              have h2 := heap_setCell_same _ g 4 _ 79 (.int .i64 0) h1
              have h3 := heap_setCell_same _ g 3 _ 79 (.slice none 0 0) h2
              rw [cell_of_row _ g 3 _ _ _ h3]
              simp
          have HFIN := hide hfin
          clear hfin hh3 hA3 hL3 hown3 hg3
          generalize newcap ca kk = nc at *
          go_wp2_with fail
          exact bodyPost_ret (results_none (by kernel_rfl) _ _ _) rfl HFIN.out
        · have hfin : CmpPost w base g As ca built (.returned (.tuple #[])) (((w3.setCell ⟨g, 0, none⟩ (.slice (some ⟨b', 0, none⟩) kk (newcap ca kk))).setCell ⟨g, 4, none⟩ (.int .i64 0)).setCell ⟨g, 3, none⟩ (.slice avl 0 cvl)) := by
            refine ⟨rfl, ((bel3.setCell (by exact hbg) _).setCell (by exact hbg) _).setCell (by exact hbg) _, .inr ⟨by omega, ?_, fun h => ?_⟩⟩
            · rw [elen]
              exact log_compacted hbg hh3 hA3 hL3.cut0 elen.symm
            · rw [elen] at h
              exact absurd h hcap
          have HFIN := hide hfin
          clear hfin hh3 hA3 hL3 hown3 hg3
          generalize newcap ca kk = nc at *
          go_wp2_with fail
          go_end0
          exact HFIN.out

set_option maxRecDepth 100000 in
theorem f25_any (g base ca built : Nat) (As : List (Nat × Nat)) (w : World) (hlog : Log w base g As ca built) (hca : ca ≤ 1048576) (hb : base ≤ w.heap.size) (hmk : ∀ i, (As.getD i (0, 0)).2 < 18446744073709551616) :
    Calls Try.prog 25 #[.pointer (some ⟨g, 0, none⟩)] w fun e w' => CmpPost w base g As ca built e w' := by
  go_enter Try.func25, Try.ntmps25
  go_wp2_with fail
  refine (f44_any g base ca built As _ hlog hca hb hmk).mono ?_
  rintro e w1 ⟨rfl, h1⟩
  go_wp2_with fail
  go_end0
  exact ⟨rfl, h1⟩

set_option maxRecDepth 100000 in
theorem f32_nil (g : Nat) (w : World) (hc : w.cell? ⟨g, 3, none⟩ = some (.slice none 0 0)) :
    Calls Try.prog 32 #[.pointer (some ⟨g, 0, none⟩)] w fun e w' => e = .returned (.bool true) ∧ w' = w := by
  have he := fun w => Lib.run_eql_slice_nil (P := Try.prog) w 77 43 none 0 0 0 0 Try.underlying77
  go_enter Try.func32, Try.ntmps32
  go_wp2
  go_ret
  exact ⟨rfl, rfl⟩

end Go.Proofs.Qxb6602565a
