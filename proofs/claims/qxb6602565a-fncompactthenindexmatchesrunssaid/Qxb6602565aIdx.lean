import Derived.Test.Qxb6602565aIdx1
namespace Go.Proofs.Qxb6602565a
open Go.RowKit
set_option linter.unusedVariables false

/-- What holds of the log's own blocks while index runs. -/
structure Mid (w : World) (base g ba ca : Nat) (As : List (Nat × Nat)) (lat : Int) (st : Bool) (vl : Value) (built : Nat) : Prop where
  hh : w.heap[g]? = some (.cells #[.slice (some ⟨ba, 0, none⟩) As.length ca, .int .u64 lat, .bool st, vl, .int .i64 (built : Int)] 79 (0, 0))
  acc : Accs w base (.slice (some ⟨ba, 0, none⟩) As.length ca) As

theorem Mid.keeps {t : TypeId} {w w' : World} {base g ba ca built : Nat} {As : List (Nat × Nat)} {lat : Int} {st : Bool} {vl : Value} (h : Mid w base g ba ca As lat st vl built) (hk : Keeps t w w') (h1 : 79 ≠ t) (h2 : 80 ≠ t) (h3 : 83 ≠ t) : Mid w' base g ba ca As lat st vl built :=
  ⟨hk _ _ _ _ h.hh h1, h.acc.keeps hk h3 h2⟩

theorem Mid.cells {w : World} {base g ba ca built : Nat} {As : List (Nat × Nat)} {lat : Int} {st : Bool} {vl : Value} (h : Mid w base g ba ca As lat st vl built) :
    w.cell? ⟨g, 0, none⟩ = some (.slice (some ⟨ba, 0, none⟩) As.length ca) ∧ w.cell? ⟨g, 3, none⟩ = some vl ∧ w.cell? ⟨g, 4, none⟩ = some (.int .i64 (built : Int)) ∧ w.frozen? ⟨g, 3, none⟩ = false ∧ w.frozen? ⟨g, 4, none⟩ = false :=
  ⟨by simp [World.cell?, h.hh], by simp [World.cell?, h.hh], by simp [World.cell?, h.hh], frozen_of_row w g 3 _ _ h.hh, frozen_of_row w g 4 _ _ h.hh⟩

theorem Mid.setLevels {w : World} {base g ba ca built : Nat} {As : List (Nat × Nat)} {lat : Int} {st : Bool} {vl : Value} (h : Mid w base g ba ca As lat st vl built) (vl' : Value) : Mid (w.setCell ⟨g, 3, none⟩ vl') base g ba ca As lat st vl' built := by
  have hk : Keeps 79 w (w.setCell ⟨g, 3, none⟩ vl') := Keeps.setCell (a := ⟨g, 3, none⟩) h.hh _
  exact ⟨by rw [heap_setCell_same w g 3 _ 79 _ h.hh]; simp, h.acc.keeps hk (by decide) (by decide)⟩

theorem Mid.setBuilt {w : World} {base g ba ca built : Nat} {As : List (Nat × Nat)} {lat : Int} {st : Bool} {vl : Value} (h : Mid w base g ba ca As lat st vl built) (b' : Nat) : Mid (w.setCell ⟨g, 4, none⟩ (.int .i64 (b' : Int))) base g ba ca As lat st vl b' := by
  have hk : Keeps 79 w (w.setCell ⟨g, 4, none⟩ (.int .i64 (b' : Int))) := Keeps.setCell (a := ⟨g, 4, none⟩) h.hh _
  exact ⟨by rw [heap_setCell_same w g 4 _ 79 _ h.hh]; simp, h.acc.keeps hk (by decide) (by decide)⟩

theorem Hole.cell {w : World} {base r nl h q : Nat} {Vs : List Value} {F : Nat → List Nat} {v : Value} (x : Hole w base r Vs nl F h v) (hq : q < Vs.length) : w.cell? ⟨r, q, none⟩ = some (Vs.getD q undef) ∧ w.frozen? ⟨r, q, none⟩ = false :=
  ⟨by rw [cell_of_row w r q _ _ _ x.row]; simp [hq], frozen_of_row w r q _ _ x.row⟩

theorem mid_succ (m : List Nat) (built q i : Nat) : mid m built (q + 1) i = if i = q then level m (q + 1) else mid m built q i := by
  unfold mid
  by_cases e : i = q
  · subst e; simp
  · rw [if_neg e]
    by_cases h : i < q
    · rw [if_pos h, if_pos (by omega)]
    · rw [if_neg h, if_neg (by omega)]

theorem Hole.whole {w : World} {base r nl q built : Nat} {Vs : List Value} {m : List Nat} {v : Value} (x : Hole w base r Vs nl (mid m built q) q v) (h0 : 0 < q) (hV : q < Vs.length) (hnl : q < nl) :
    ∃ v', w.cell? ⟨r, q - 1, none⟩ = some v' ∧ w.ownsRow base 48 1 v' (level m q).length (ints (level m q)) := by
  obtain ⟨l, h1, h2⟩ := x.lev (q - 1) (by omega) (by omega)
  have e : l = level m q := by
    rw [h2 (by omega)]
    unfold mid
    rw [if_pos (by omega), show q - 1 + 1 = q from by omega]
  subst e
  exact ⟨_, (x.cell (show q - 1 < Vs.length by omega)).1, h1⟩

theorem or_run (m : List Nat) (hm : ∀ i, m.getD i 0 < 18446744073709551616) (q j : Nat) : bits .or .u64 ((run m q (2 * j) : Nat) : Int) ((run m q (2 * j + 1) : Nat) : Int) = ((run m (q + 1) j : Nat) : Int) := by
  rw [u64_or_nat _ _ (run_lt m hm _ _) (run_lt m hm _ _)]
  rfl

theorem hide {p : Prop} (h : p) : Hid p := h

theorem runs_mul (n k : Nat) : runs n k * 2 ^ k ≤ n + 2 ^ k := by
  unfold runs
  have := Nat.div_mul_le_self (n + 2 ^ k - 1) (2 ^ k)
  generalize 2 ^ k = p at *
  omega

theorem runs_le (n k : Nat) : runs n k ≤ n := by
  unfold runs
  have hp := two_pow_pos k
  rcases Nat.eq_zero_or_pos n with h | h
  · subst h
    rw [Nat.zero_add, Nat.div_eq_of_lt (by omega)]
    omega
  · rw [Nat.div_le_iff_le_mul_add_pred hp]
    have : n * 1 ≤ 2 ^ k * n := by rw [Nat.mul_comm (2 ^ k) n]; exact Nat.mul_le_mul_left n hp
    omega

theorem owns_shape' {w : World} {base e n : Nat} {v : Value} {xs : List Value} (h : w.ownsRow base e 1 v n xs) : ∃ a c, v = .slice a n c ∧ n ≤ c := by
  rcases h.2 with ⟨rfl, h0⟩ | ⟨g, cap, cur, rfl, _, _, hnc, _⟩
  · exact ⟨none, 0, by rw [h0], by omega⟩
  · exact ⟨_, cap, rfl, hnc⟩

theorem Lvs.congr {w : World} {base nl : Nat} {vl : Value} {F F' : Nat → List Nat} (h : Lvs w base vl nl F) (hF : ∀ i, i < nl → F i = F' i) : Lvs w base vl nl F' := by
  rcases h with h | ⟨r, Vs, h1, h2, h3, h4, h5⟩
  · exact .inl h
  · exact .inr ⟨r, Vs, h1, h2, h3, h4, h5.row, fun i hi hne => by obtain ⟨l, a, b⟩ := h5.lev i hi hne; exact ⟨l, a, fun hn => (b hn).trans (hF i hn)⟩, h5.inj, h5.far⟩

theorem mid_zero (m : List Nat) (built : Nat) : mid m built 0 = fun i => level (m.take built) (i + 1) := by funext i; simp [mid]

theorem pow_facts (n q : Nat) (hn : n ≤ 262144) (hq : q ≤ depth n) : q ≤ 18 ∧ 2 ^ q ≤ 262144 * 2 ∧ (q < depth n → 2 ^ q < n) ∧ (q = depth n → n ≤ 2 ^ q) := by
  have hd := depth_le n 18 (by omega) (by simpa using hn)
  have h18 : q ≤ 18 := by omega
  refine ⟨h18, ?_, (lt_depth n q (by omega)).1, fun e => e ▸ (depth_spec n (by omega)).2⟩
  have := Nat.pow_le_pow_right (n := 2) (by decide) h18
  simp at this
  omega

theorem castPow (q P : Nat) (h : P = 2 ^ q) : (2 : Int) ^ q = (P : Int) := by rw [h]; simp

theorem castDiv (a b f : Nat) (h : f = a / b) : (a : Int) / (b : Int) = (f : Int) := by rw [h]; simp

set_option maxRecDepth 100000 in
set_option maxHeartbeats 4000000 in
theorem f41_go (g base ca built : Nat) (As : List (Nat × Nat)) (w : World) (hlog : Log w base g As ca built) (hlen : As.length ≤ 262144) (hb : base ≤ w.heap.size) (hlt : built < As.length) (hmk : ∀ i, (marksOf As).getD i 0 < 18446744073709551616) :
    Calls Try.prog 41 #[.pointer (some ⟨g, 0, none⟩)] w fun e w' => e = .returned (.tuple #[]) ∧ Log w' base g As ca As.length ∧ Below base w w' := by
  obtain ⟨ba, vl0, lat, st, hh0, hbg, hacc0, hlv0, hbu⟩ := hlog
  have m0 : Mid w base g ba ca As lat st vl0 built := ⟨hh0, hacc0⟩
  obtain ⟨c0, c3, c4, f3, f4⟩ := m0.cells
  obtain ⟨i48, hi, hz0, hz1, hz2⟩ := info_parts info48
  have hbn : ((built : Int) == (As.length : Int)) = false := by simp; omega
  clear hh0 hacc0
  go_enter Try.func41, Try.ntmps41
  go_wp2
  go_loopw [3] (fun i wr => ∃ (q : Nat) (vl : Value), i = .int .i64 ((q : Int) + 1) ∧ q ≤ depth As.length ∧ Mid wr base g ba ca As lat st vl built ∧ Lvs wr base vl (max q (depth built)) (mid (marksOf As) built q) ∧ Below base w wr) (fun i _ => depth As.length + 1 - (intOf i).toNat)
  case atStart => exact ⟨0, vl0, rfl, Nat.zero_le _, m0, by rw [Nat.max_eq_right (Nat.zero_le _), mid_zero]; exact hlv0, Below.refl _ _⟩
  case round =>
    rename World => w1
    obtain ⟨q, vl, rfl, hqd, m1, hlv, hbel⟩ := hrel
    obtain ⟨c0, c3, c4, f3, f4⟩ := m1.cells
    obtain ⟨hq18, hP2, hPlt, hPge⟩ := pow_facts As.length q hlen hqd
    obtain ⟨P, hPdef⟩ : ∃ P, P = 2 ^ q := ⟨_, rfl⟩
    have hP := castPow q P hPdef
    rw [← hPdef] at hP2 hPlt hPge
    have HP : Hid (P = 2 ^ q) := hPdef
    clear hPdef m0 hlv0
    by_cases hq : q < depth As.length
    · have hPn := hPlt hq
      clear hPlt hPge
      obtain ⟨Q, hQdef⟩ : ∃ Q, Q = 2 ^ (q + 1) := ⟨_, rfl⟩
      have hQ := castPow (q + 1) Q hQdef
      have hQP : Q = 2 * P := by rw [hQdef, Nat.pow_succ, HP.out]; omega
      obtain ⟨f, hfdef⟩ : ∃ f, f = built / Q := ⟨_, rfl⟩
      have hF := castDiv built Q f hfdef
      have hfr : f ≤ runs As.length (q + 1) := by
        rcases Nat.eq_zero_or_pos f with h0 | h0
        · omega
        · have : f - 1 < runs As.length (q + 1) := (lt_runs _ _ _).2 (by
            rw [← hQdef]
            have h1 : f * Q ≤ built := by rw [hfdef]; exact Nat.div_mul_le_self built Q
            have h2 : (f - 1) * Q ≤ f * Q := Nat.mul_le_mul_right _ (by omega)
            omega)
          omega
      have HQ : Hid (Q = 2 ^ (q + 1)) := hQdef
      have HF : Hid (f = built / Q) := hfdef
      have hQ0 : 0 < Q := by rw [hQdef]; exact two_pow_pos _
      have HQP : Hid (Q = 2 * P) := hQP
      have hQ2 : Q ≤ 1048576 := by omega
      clear hQdef hfdef hQP
      by_cases hqb : q < depth built
      · -- the level is there
        rcases hlv with ⟨_, hz⟩ | ⟨r, Vs, rfl, hbr, hnl, hVm, hole⟩
        · omega
        rw [Nat.max_eq_right (by omega)] at *
        obtain ⟨l, hl1, hl2⟩ := hole.lev q (by omega) (by omega)
        have hl : l = level ((marksOf As).take built) (q + 1) := by rw [hl2 hqb]; unfold mid; rw [if_neg (by omega)]
        obtain ⟨hcr, hfq⟩ := hole.cell (show q < Vs.length by omega)
        obtain ⟨a0, cc, hv0, hcc⟩ := owns_shape hl1
        obtain ⟨hfl, htk⟩ := take_level (marksOf As) built (q + 1) f (by rw [marksOf_length]; omega) (by rw [← HQ.out]; exact HF.out)
        rw [← hl] at hfl htk
        rw [hv0] at hcr hl1
        have ownW := owns_cut' hl1 hfl
        rw [htk] at ownW
        have holeW := hole.opened (show q < Vs.length by omega) (.slice a0 f cc) (.inl (by rw [hv0]; cases a0 <;> rfl))
        have mW := m1
        have belW := hbel
        have hfc : f ≤ cc := by omega
        have hnq : ((depth built : Int) == (q : Int)) = false := by simp; omega
        have hdb : depth built ≤ 18 := by
          have := depth_mono built As.length (by omega) (by omega)
          have := (pow_facts As.length (depth As.length) hlen (Nat.le_refl _)).1
          omega
        clear hl hl1 hl2 htk hole m1 hbel hv0
        generalize hnd : depth built = nd at *
        go_wp2
        go_loopw [5, 6] (fun lv jv wv => ∃ j : Nat, f ≤ j ∧ j ≤ runs As.length (q + 1) ∧ jv = .int .i64 (j : Int) ∧ wv.ownsRow base 48 1 lv j (ints (part (marksOf As) (q + 1) j)) ∧ Mid wv base g ba ca As lat st (.slice (some ⟨r, 0, none⟩) nd Vs.length) built ∧ Hole wv base r Vs nd (mid (marksOf As) built q) q lv ∧ Below base w wv) (fun _ jv _ => runs As.length (q + 1) - (intOf jv).toNat)
        case atStart => exact ⟨f, Nat.le_refl _, hfr, rfl, ownW, mW, holeW, belW⟩
        case round =>
          rename World => wv
          rename (∃ j : Nat, _) => hrel2
          obtain ⟨j, hfj, hjr, rfl, hown, mV, holeV, belV⟩ := hrel2
          clear ownW mW holeW belW
          obtain ⟨al, cll, rfl, hcll⟩ := owns_shape' hown
          have hbw : base ≤ wv.heap.size := Nat.le_trans hb belV.size
          obtain ⟨c0, c3, c4, f3, f4⟩ := mV.cells
          obtain ⟨hcr, hfq⟩ := holeV.cell (show q < Vs.length by omega)
          have hjQ := lt_runs As.length (q + 1) j
          rw [← HQ.out] at hjQ
          by_cases hj : j < runs As.length (q + 1)
          · have hjQ1 : (j : Int) * (Q : Int) < (As.length : Int) := by have := hjQ.1 hj; exact_mod_cast this
            clear hjQ
            have hjQ0 : (0 : Int) ≤ (j : Int) * (Q : Int) := Int.mul_nonneg (by omega) (by omega)
            have hj2 : (j : Int) ≤ (j : Int) * (Q : Int) := by
              have h1 : j * 1 ≤ j * Q := Nat.mul_le_mul_left j hQ0
              have h2 : (((j * Q : Nat)) : Int) = (j : Int) * (Q : Int) := by simp
              omega
            have hlevq : 0 < q → ∃ r' nl' cl' v', Value.slice (some ⟨r, 0, none⟩) nd Vs.length = .slice (some ⟨r', 0, none⟩) nl' cl' ∧ q ≤ nl' ∧ nl' ≤ 64 ∧ wv.cell? ⟨r', q - 1, none⟩ = some v' ∧ wv.ownsRow base 48 1 v' (level (marksOf As) q).length (ints (level (marksOf As) q)) := fun h0 => by
              obtain ⟨v', h1, h2⟩ := holeV.whole h0 (by omega) (by omega)
              exact ⟨r, nd, Vs.length, v', rfl, by omega, by omega, h1, h2⟩
            have k1 := f46_run g base ba ca As lat st (.slice (some ⟨r, 0, none⟩) nd Vs.length) built q (2 * j) wv mV.hh mV.acc hlevq
            have k2 := f46_run g base ba ca As lat st (.slice (some ⟨r, 0, none⟩) nd Vs.length) built q (2 * j + 1) wv mV.hh mV.acc hlevq
            have K1 := hide k1
            have K2 := hide k2
            have hor := or_run (marksOf As) hmk q j
            clear k1 k2 hlevq
            go_wp2_with fail
            rw [show (2 * (j : Int)) = ((2 * j : Nat) : Int) from by omega]
            refine K1.out.mono ?_
            rintro e w5 ⟨rfl, hw5⟩
            obtain rfl := hw5.symm
            clear hw5
            go_wp2_with fail
            rw [show (2 * (j : Int) + 1) = ((2 * j + 1 : Nat) : Int) from by omega]
            refine K2.out.mono ?_
            rintro e w5 ⟨rfl, hw5⟩
            obtain rfl := hw5.symm
            clear hw5 K1 K2
            go_wp2_with (first | (at_builtin; refine wpList_append_lies _ rfl _ _ 43 rfl base 48 i48 _ 1 8 Try.underlying43 hi hz0 hz1 hz2 rfl (by omega) _ j (ints (part (marksOf As) (q + 1) j)) rfl (hown.alloc _) ⟨wv.heap.size, 0, none⟩ 1 1 [.int .u64 ((run (marksOf As) (q + 1) j : Nat) : Int)] rfl rfl (World.news_of_block (cs := #[.int .u64 ((run (marksOf As) (q + 1) j : Nat) : Int)]) (t := 48) (fr := (0, 0)) (heap_alloc_new wv _)) (by simp [Value.oneCell']) (by omega) (by unfold maxLen; omega) (by omega) (by simp; omega) (wv.heap.size + 1) (by simp) ?_) | go_in)
            intro gg cap' w6 hown6 hgrow hat hlt6
            have hk6 : Keeps 48 wv w6 := (Keeps.alloc 48 _ _).trans (Keeps.grown hgrow (owns_type (hown.alloc _)))
            have r1 := mV.keeps hk6 (by decide) (by decide) (by decide)
            have r2 := (holeV.keeps (Keeps.alloc 0 _ (.cells #[.int .u64 ((run (marksOf As) (q + 1) j : Nat) : Int)] 48)) (by decide) (by decide)).appended hgrow (owns_type (hown.alloc _)) (v' := .slice (some ⟨gg, 0, none⟩) (j + 1) cap') (by rcases hat with h | h; exact .inl h.symm; exact .inr (by simp [Value.ownBlock, h]))
            have r3 := (belV.alloc hbw (.cells #[.int .u64 ((run (marksOf As) (q + 1) j : Nat) : Int)] 48)).grown hgrow (by simp; omega) (fun k hk => (hown.lt k hk).1)
            have HO : Hid (w6.ownsRow base 48 1 (.slice (some ⟨gg, 0, none⟩) (j + 1) cap') (j + 1) (ints (part (marksOf As) (q + 1) (j + 1)))) := by
              rw [part_succ, ints_append]
              exact hown6
            clear hown6 hgrow hat hlt6 hk6 mV holeV belV hown
            go_wp2
            go_roundw
            case rel => exact ⟨j + 1, by omega, by omega, by go_num, HO.out, r1, r2, r3⟩
            case measure => simp [intOf]; omega
          · obtain rfl : j = runs As.length (q + 1) := by omega
            have hjQ1 : (As.length : Int) ≤ (runs As.length (q + 1) : Int) * (Q : Int) := by
              have h1 : ¬ runs As.length (q + 1) * Q < As.length := fun h => hj (hjQ.2 h)
              have h2 : ((runs As.length (q + 1) * Q : Nat) : Int) = (runs As.length (q + 1) : Int) * (Q : Int) := by simp
              omega
            have hjQ2 : (runs As.length (q + 1) : Int) * (Q : Int) ≤ 2097152 := by
              have h1 := runs_mul As.length (q + 1)
              rw [← HQ.out] at h1
              have h2 : ((runs As.length (q + 1) * Q : Nat) : Int) = (runs As.length (q + 1) : Int) * (Q : Int) := by simp
              omega
            have hj3 : runs As.length (q + 1) ≤ 262144 := by have := runs_le As.length (q + 1); omega
            clear hjQ hj
            have hrow := holeV.row
            have r1 := mV.keeps (Keeps.setCell (a := ⟨r, q, none⟩) holeV.row (.slice al (runs As.length (q + 1)) cll)) (by decide) (by decide) (by decide)
            have hown' : wv.ownsRow base 48 1 (.slice al (runs As.length (q + 1)) cll) (level (marksOf As) (q + 1)).length (ints (level (marksOf As) (q + 1))) := by
              rw [← part_runs, part_length, marksOf_length]
              exact hown
            have r2 := holeV.filled (F' := mid (marksOf As) built (q + 1)) (show q < Vs.length by omega) hown' (fun i _ => mid_succ _ _ _ _)
            have r3 := belV.setCell (p := ⟨r, q, none⟩) (by exact hbr) (.slice al (runs As.length (q + 1)) cll)
            have r4 : Lvs (wv.setCell ⟨r, q, none⟩ (.slice al (runs As.length (q + 1)) cll)) base (.slice (some ⟨r, 0, none⟩) nd Vs.length) (max (q + 1) nd) (mid (marksOf As) built (q + 1)) := by
              rw [show max (q + 1) nd = nd from by omega]
              exact .inr ⟨r, Vs.set q (.slice al (runs As.length (q + 1)) cll), by rw [List.length_set], hbr, by rw [List.length_set]; omega, by rw [List.length_set]; exact hVm, r2⟩
            clear mV holeV belV hown hown' r2 hrow
            generalize runs As.length (q + 1) = jj at *
            go_wp2
            go_roundw
            case rel => exact ⟨q + 1, _, by go_num, by omega, r1, r4, r3⟩
            case measure => simp [intOf]; omega
      · -- the level is new
        have hdq : depth built ≤ q := by omega
        have hf0 : f = 0 := by
          rw [HF.out]
          have h1 := (depth_spec built (by omega)).2
          have h2 := Nat.pow_le_pow_right (n := 2) (by decide) hdq
          rw [← HP.out] at h2
          have h3 := HQP.out
          exact Nat.div_eq_of_lt (by omega)
        subst hf0
        rw [Nat.max_eq_left hdq] at hlv
        have hdm : max (q + 1) (depth built) = q + 1 := by omega
        by_cases hroom : ∃ r n, vl = .slice (some ⟨r, 0, none⟩) q n ∧ q < n
        · -- there is room
          rcases hlv with ⟨e, _⟩ | ⟨r, Vs, rfl, hbr, hnl, hVm, hole⟩
          · obtain ⟨r', n', e', _⟩ := hroom
            rw [e] at e'
            cases e'
          have hqV : q < Vs.length := by
            obtain ⟨r', n', e', h'⟩ := hroom
            injection e' with _ _ e'
            omega
          clear hroom
          obtain ⟨l, hl1, hl2⟩ := hole.lev q hqV (by omega)
          obtain ⟨hcr, hfq⟩ := hole.cell hqV
          obtain ⟨a0, cc, hv0, hcc⟩ := owns_shape hl1
          rw [hv0] at hcr hl1
          have hrg : ¬ r = g := by
            intro e
            subst e
            have := m1.hh
            rw [hole.row] at this
            injection this with this
            injection this with _ this _
            exact absurd this (by decide)
          have hgr : ¬ g = r := fun e => hrg e.symm
          have hkg : Keeps 79 w1 (w1.setCell ⟨g, 3, none⟩ (.slice (some ⟨r, 0, none⟩) (q + 1) Vs.length)) := Keeps.setCell (a := ⟨g, 3, none⟩) m1.hh _
          have ownW : (w1.setCell ⟨g, 3, none⟩ (.slice (some ⟨r, 0, none⟩) (q + 1) Vs.length)).ownsRow base 48 1 (.slice a0 0 cc) 0 (ints (part (marksOf As) (q + 1) 0)) := owns_keeps hkg (by decide) (by simpa [part_zero] using owns_cut' hl1 (Nat.zero_le _))
          have holeW := ((hole.keeps hkg (by decide) (by decide)).opened hqV (.slice a0 0 cc) (.inl (by rw [hv0]; cases a0 <;> rfl))).more
          have mW := m1.setLevels (.slice (some ⟨r, 0, none⟩) (q + 1) Vs.length)
          have belW := hbel.setCell (p := ⟨g, 3, none⟩) (by exact hbg) (.slice (some ⟨r, 0, none⟩) (q + 1) Vs.length)
          have hdd : decide ((q : Int) + 1 ≤ (Vs.length : Int)) = true := by simp; omega
          clear hl1 hl2 hole m1 hbel hv0 hkg
          go_wp2
          generalize w1.setCell ⟨g, 3, none⟩ (.slice (some ⟨r, 0, none⟩) (q + 1) Vs.length) = W at *
          go_loopw [5, 6] (fun lv jv wv => ∃ j : Nat, 0 ≤ j ∧ j ≤ runs As.length (q + 1) ∧ jv = .int .i64 (j : Int) ∧ wv.ownsRow base 48 1 lv j (ints (part (marksOf As) (q + 1) j)) ∧ Mid wv base g ba ca As lat st (.slice (some ⟨r, 0, none⟩) (q + 1) Vs.length) built ∧ Hole wv base r Vs (q + 1) (mid (marksOf As) built q) q lv ∧ Below base w wv) (fun _ jv _ => runs As.length (q + 1) - (intOf jv).toNat)
          case atStart => exact ⟨0, Nat.le_refl _, hfr, rfl, ownW, mW, holeW, belW⟩
          case round =>
            rename World => wv
            rename (∃ j : Nat, _) => hrel2
            obtain ⟨j, hfj, hjr, rfl, hown, mV, holeV, belV⟩ := hrel2
            clear ownW mW holeW belW
            obtain ⟨al, cll, rfl, hcll⟩ := owns_shape' hown
            have hbw : base ≤ wv.heap.size := Nat.le_trans hb belV.size
            obtain ⟨c0, c3, c4, f3, f4⟩ := mV.cells
            obtain ⟨hcr, hfq⟩ := holeV.cell (show q < Vs.length by omega)
            have hjQ := lt_runs As.length (q + 1) j
            rw [← HQ.out] at hjQ
            by_cases hj : j < runs As.length (q + 1)
            · have hjQ1 : (j : Int) * (Q : Int) < (As.length : Int) := by have := hjQ.1 hj; exact_mod_cast this
              clear hjQ
              have hjQ0 : (0 : Int) ≤ (j : Int) * (Q : Int) := Int.mul_nonneg (by omega) (by omega)
              have hj2 : (j : Int) ≤ (j : Int) * (Q : Int) := by
                have h1 : j * 1 ≤ j * Q := Nat.mul_le_mul_left j hQ0
                have h2 : (((j * Q : Nat)) : Int) = (j : Int) * (Q : Int) := by simp
                omega
              have hlevq : 0 < q → ∃ r' nl' cl' v', Value.slice (some ⟨r, 0, none⟩) (q + 1) Vs.length = .slice (some ⟨r', 0, none⟩) nl' cl' ∧ q ≤ nl' ∧ nl' ≤ 64 ∧ wv.cell? ⟨r', q - 1, none⟩ = some v' ∧ wv.ownsRow base 48 1 v' (level (marksOf As) q).length (ints (level (marksOf As) q)) := fun h0 => by
                obtain ⟨v', h1, h2⟩ := holeV.whole h0 (by omega) (by omega)
                exact ⟨r, (q + 1), Vs.length, v', rfl, by omega, by omega, h1, h2⟩
              have k1 := f46_run g base ba ca As lat st (.slice (some ⟨r, 0, none⟩) (q + 1) Vs.length) built q (2 * j) wv mV.hh mV.acc hlevq
              have k2 := f46_run g base ba ca As lat st (.slice (some ⟨r, 0, none⟩) (q + 1) Vs.length) built q (2 * j + 1) wv mV.hh mV.acc hlevq
              have K1 := hide k1
              have K2 := hide k2
              have hor := or_run (marksOf As) hmk q j
              clear k1 k2 hlevq
              go_wp2_with fail
              rw [show (2 * (j : Int)) = ((2 * j : Nat) : Int) from by omega]
              refine K1.out.mono ?_
              rintro e w5 ⟨rfl, hw5⟩
              obtain rfl := hw5.symm
              clear hw5
              go_wp2_with fail
              rw [show (2 * (j : Int) + 1) = ((2 * j + 1 : Nat) : Int) from by omega]
              refine K2.out.mono ?_
              rintro e w5 ⟨rfl, hw5⟩
              obtain rfl := hw5.symm
              clear hw5 K1 K2
              go_wp2_with (first | (at_builtin; refine wpList_append_lies _ rfl _ _ 43 rfl base 48 i48 _ 1 8 Try.underlying43 hi hz0 hz1 hz2 rfl (by omega) _ j (ints (part (marksOf As) (q + 1) j)) rfl (hown.alloc _) ⟨wv.heap.size, 0, none⟩ 1 1 [.int .u64 ((run (marksOf As) (q + 1) j : Nat) : Int)] rfl rfl (World.news_of_block (cs := #[.int .u64 ((run (marksOf As) (q + 1) j : Nat) : Int)]) (t := 48) (fr := (0, 0)) (heap_alloc_new wv _)) (by simp [Value.oneCell']) (by omega) (by unfold maxLen; omega) (by omega) (by simp; omega) (wv.heap.size + 1) (by simp) ?_) | go_in)
              intro gg cap' w6 hown6 hgrow hat hlt6
              have hk6 : Keeps 48 wv w6 := (Keeps.alloc 48 _ _).trans (Keeps.grown hgrow (owns_type (hown.alloc _)))
              have r1 := mV.keeps hk6 (by decide) (by decide) (by decide)
              have r2 := (holeV.keeps (Keeps.alloc 0 _ (.cells #[.int .u64 ((run (marksOf As) (q + 1) j : Nat) : Int)] 48)) (by decide) (by decide)).appended hgrow (owns_type (hown.alloc _)) (v' := .slice (some ⟨gg, 0, none⟩) (j + 1) cap') (by rcases hat with h | h; exact .inl h.symm; exact .inr (by simp [Value.ownBlock, h]))
              have r3 := (belV.alloc hbw (.cells #[.int .u64 ((run (marksOf As) (q + 1) j : Nat) : Int)] 48)).grown hgrow (by simp; omega) (fun k hk => (hown.lt k hk).1)
              have HO : Hid (w6.ownsRow base 48 1 (.slice (some ⟨gg, 0, none⟩) (j + 1) cap') (j + 1) (ints (part (marksOf As) (q + 1) (j + 1)))) := by
                rw [part_succ, ints_append]
                exact hown6
              clear hown6 hgrow hat hlt6 hk6 mV holeV belV hown
              go_wp2
              go_roundw
              case rel => exact ⟨j + 1, by omega, by omega, by go_num, HO.out, r1, r2, r3⟩
              case measure => simp [intOf]; omega
            · obtain rfl : j = runs As.length (q + 1) := by omega
              have hjQ1 : (As.length : Int) ≤ (runs As.length (q + 1) : Int) * (Q : Int) := by
                have h1 : ¬ runs As.length (q + 1) * Q < As.length := fun h => hj (hjQ.2 h)
                have h2 : ((runs As.length (q + 1) * Q : Nat) : Int) = (runs As.length (q + 1) : Int) * (Q : Int) := by simp
                omega
              have hjQ2 : (runs As.length (q + 1) : Int) * (Q : Int) ≤ 2097152 := by
                have h1 := runs_mul As.length (q + 1)
                rw [← HQ.out] at h1
                have h2 : ((runs As.length (q + 1) * Q : Nat) : Int) = (runs As.length (q + 1) : Int) * (Q : Int) := by simp
                omega
              have hj3 : runs As.length (q + 1) ≤ 262144 := by have := runs_le As.length (q + 1); omega
              clear hjQ hj
              have hrow := holeV.row
              have r1 := mV.keeps (Keeps.setCell (a := ⟨r, q, none⟩) holeV.row (.slice al (runs As.length (q + 1)) cll)) (by decide) (by decide) (by decide)
              have hown' : wv.ownsRow base 48 1 (.slice al (runs As.length (q + 1)) cll) (level (marksOf As) (q + 1)).length (ints (level (marksOf As) (q + 1))) := by
                rw [← part_runs, part_length, marksOf_length]
                exact hown
              have r2 := holeV.filled (F' := mid (marksOf As) built (q + 1)) (show q < Vs.length by omega) hown' (fun i _ => mid_succ _ _ _ _)
              have r3 := belV.setCell (p := ⟨r, q, none⟩) (by exact hbr) (.slice al (runs As.length (q + 1)) cll)
              have r4 : Lvs (wv.setCell ⟨r, q, none⟩ (.slice al (runs As.length (q + 1)) cll)) base (.slice (some ⟨r, 0, none⟩) (q + 1) Vs.length) (max (q + 1) (depth built)) (mid (marksOf As) built (q + 1)) := by
                rw [show max (q + 1) (depth built) = (q + 1) from by omega]
                exact .inr ⟨r, Vs.set q (.slice al (runs As.length (q + 1)) cll), by rw [List.length_set], hbr, by rw [List.length_set]; omega, by rw [List.length_set]; exact hVm, r2⟩
              clear mV holeV belV hown hown' r2 hrow
              generalize runs As.length (q + 1) = jj at *
              go_wp2
              go_roundw
              case rel => exact ⟨q + 1, _, by go_num, by omega, r1, r4, r3⟩
              case measure => simp [intOf]; omega
        · -- there is none
          obtain ⟨ao, Vs0, rfl, hV, hV0, hnew⟩ := hlv.full (fun r n e => Nat.le_of_not_lt fun h => hroom ⟨r, n, e, h⟩)
          clear hroom
          have hVa : (ao = none ∧ q = 0 ∧ Vs0 = []) ∨ ∃ r, ao = some ⟨r, 0, none⟩ ∧ Vs0.length = q ∧ (w1.alloc (.cells #[.slice none 0 0] 43)).heap[r]? = some (.cells Vs0.toArray 43 (0, 0)) := by
            rcases hV with h | ⟨r, h1, h2, h3⟩
            · exact .inl h
            · exact .inr ⟨r, h1, h2, Keeps.alloc 0 _ _ _ _ _ _ h3 (by decide)⟩
          have HVa := hide hVa
          have HNew := hide hnew
          obtain ⟨i43, h43, h43z, h43s, h43b⟩ := info_parts info43
          have hdd : decide ((q : Int) + 1 ≤ (q : Int)) = false := by simp; omega
          have hb1 : base ≤ w1.heap.size := Nat.le_trans hb hbel.size
          clear hV hVa hnew
          go_wp2_with (first | (at_builtin; refine wpList_append_level _ rfl _ _ rfl i43 h43 h43z h43s h43b ao q Vs0 rfl HVa.out ⟨w1.heap.size, 0, none⟩ rfl (World.news_of_block (cs := #[.slice none 0 0]) (t := 43) (fr := (0, 0)) (heap_alloc_new w1 _)) (by omega) (w1.heap.size + 1) (by simp) ?_) | go_in)
          intro mm w3 hm1 hm2 hrow3 hg3
          have hk3 : Keeps 43 w1 w3 := (Keeps.alloc 43 _ _).trans (Keeps.grown hg3 (fun b hb => by cases hb))
          have m3 := m1.keeps hk3 (by decide) (by decide) (by decide)
          have hole := HNew.out w3 (w1.heap.size + 1) (mm - q) hk3 hrow3
          have bel3 := (hbel.alloc hb1 (.cells #[.slice none 0 0] 43)).grown hg3 (by simp; omega) (fun b hb => by cases hb)
          have hbr : base ≤ w1.heap.size + 1 := by omega
          have hrg : ¬ w1.heap.size + 1 = g := by
            intro e
            have h1 := m3.hh
            rw [← e, hrow3] at h1
            injection h1 with h1
            injection h1 with _ h1 _
            exact absurd h1 (by decide)
          have hgr : ¬ g = w1.heap.size + 1 := fun e => hrg e.symm
          obtain ⟨Vs, hVs⟩ : ∃ Vs, Vs = Vs0 ++ List.replicate (mm - q) (Value.slice none 0 0) := ⟨_, rfl⟩
          have hVlen : Vs.length = mm := by rw [hVs, List.length_append, List.length_replicate]; omega
          have hVq : Vs.getD q undef = .slice none 0 0 := by
            rw [hVs, List.getD_eq_getElem?_getD, List.getElem?_append_right (by omega), List.getElem?_replicate, if_pos (by omega)]
            rfl
          rw [← hVs] at hole
          subst hVlen
          have hqV : q < Vs.length := by omega
          obtain ⟨hcr, hfq⟩ := hole.cell hqV
          rw [hVq] at hcr
          obtain ⟨c03, c33, c43, f33, f43⟩ := m3.cells
          have hkg : Keeps 79 w3 (w3.setCell ⟨g, 3, none⟩ (.slice (some ⟨w1.heap.size + 1, 0, none⟩) (q + 1) Vs.length)) := Keeps.setCell (a := ⟨g, 3, none⟩) m3.hh _
          have ownW : (w3.setCell ⟨g, 3, none⟩ (.slice (some ⟨w1.heap.size + 1, 0, none⟩) (q + 1) Vs.length)).ownsRow base 48 1 (.slice none 0 0) 0 (ints (part (marksOf As) (q + 1) 0)) := World.ownsRow_nil _ _ _ _
          have holeW := ((hole.keeps hkg (by decide) (by decide)).opened hqV (.slice none 0 0) (.inr rfl)).more
          have mW := m3.setLevels (.slice (some ⟨w1.heap.size + 1, 0, none⟩) (q + 1) Vs.length)
          have belW := bel3.setCell (p := ⟨g, 3, none⟩) (by exact hbg) (.slice (some ⟨w1.heap.size + 1, 0, none⟩) (q + 1) Vs.length)
          have hVm := hm2
          clear HVa HNew hVs hV0 hrow3 hg3 hk3 hole m3 bel3 hkg hVq m1 hbel hm2
          generalize w1.heap.size + 1 = r at *
          go_wp2
          generalize w3.setCell ⟨g, 3, none⟩ (.slice (some ⟨r, 0, none⟩) (q + 1) Vs.length) = W at *
          go_loopw [5, 6] (fun lv jv wv => ∃ j : Nat, 0 ≤ j ∧ j ≤ runs As.length (q + 1) ∧ jv = .int .i64 (j : Int) ∧ wv.ownsRow base 48 1 lv j (ints (part (marksOf As) (q + 1) j)) ∧ Mid wv base g ba ca As lat st (.slice (some ⟨r, 0, none⟩) (q + 1) Vs.length) built ∧ Hole wv base r Vs (q + 1) (mid (marksOf As) built q) q lv ∧ Below base w wv) (fun _ jv _ => runs As.length (q + 1) - (intOf jv).toNat)
          case atStart => exact ⟨0, Nat.le_refl _, hfr, rfl, ownW, mW, holeW, belW⟩
          case round =>
            rename World => wv
            rename (∃ j : Nat, _) => hrel2
            obtain ⟨j, hfj, hjr, rfl, hown, mV, holeV, belV⟩ := hrel2
            clear ownW mW holeW belW
            obtain ⟨al, cll, rfl, hcll⟩ := owns_shape' hown
            have hbw : base ≤ wv.heap.size := Nat.le_trans hb belV.size
            obtain ⟨c0, c3, c4, f3, f4⟩ := mV.cells
            obtain ⟨hcr, hfq⟩ := holeV.cell (show q < Vs.length by omega)
            have hjQ := lt_runs As.length (q + 1) j
            rw [← HQ.out] at hjQ
            by_cases hj : j < runs As.length (q + 1)
            · have hjQ1 : (j : Int) * (Q : Int) < (As.length : Int) := by have := hjQ.1 hj; exact_mod_cast this
              clear hjQ
              have hjQ0 : (0 : Int) ≤ (j : Int) * (Q : Int) := Int.mul_nonneg (by omega) (by omega)
              have hj2 : (j : Int) ≤ (j : Int) * (Q : Int) := by
                have h1 : j * 1 ≤ j * Q := Nat.mul_le_mul_left j hQ0
                have h2 : (((j * Q : Nat)) : Int) = (j : Int) * (Q : Int) := by simp
                omega
              have hlevq : 0 < q → ∃ r' nl' cl' v', Value.slice (some ⟨r, 0, none⟩) (q + 1) Vs.length = .slice (some ⟨r', 0, none⟩) nl' cl' ∧ q ≤ nl' ∧ nl' ≤ 64 ∧ wv.cell? ⟨r', q - 1, none⟩ = some v' ∧ wv.ownsRow base 48 1 v' (level (marksOf As) q).length (ints (level (marksOf As) q)) := fun h0 => by
                obtain ⟨v', h1, h2⟩ := holeV.whole h0 (by omega) (by omega)
                exact ⟨r, (q + 1), Vs.length, v', rfl, by omega, by omega, h1, h2⟩
              have k1 := f46_run g base ba ca As lat st (.slice (some ⟨r, 0, none⟩) (q + 1) Vs.length) built q (2 * j) wv mV.hh mV.acc hlevq
              have k2 := f46_run g base ba ca As lat st (.slice (some ⟨r, 0, none⟩) (q + 1) Vs.length) built q (2 * j + 1) wv mV.hh mV.acc hlevq
              have K1 := hide k1
              have K2 := hide k2
              have hor := or_run (marksOf As) hmk q j
              clear k1 k2 hlevq
              go_wp2_with fail
              rw [show (2 * (j : Int)) = ((2 * j : Nat) : Int) from by omega]
              refine K1.out.mono ?_
              rintro e w5 ⟨rfl, hw5⟩
              obtain rfl := hw5.symm
              clear hw5
              go_wp2_with fail
              rw [show (2 * (j : Int) + 1) = ((2 * j + 1 : Nat) : Int) from by omega]
              refine K2.out.mono ?_
              rintro e w5 ⟨rfl, hw5⟩
              obtain rfl := hw5.symm
              clear hw5 K1 K2
              go_wp2_with (first | (at_builtin; refine wpList_append_lies _ rfl _ _ 43 rfl base 48 i48 _ 1 8 Try.underlying43 hi hz0 hz1 hz2 rfl (by omega) _ j (ints (part (marksOf As) (q + 1) j)) rfl (hown.alloc _) ⟨wv.heap.size, 0, none⟩ 1 1 [.int .u64 ((run (marksOf As) (q + 1) j : Nat) : Int)] rfl rfl (World.news_of_block (cs := #[.int .u64 ((run (marksOf As) (q + 1) j : Nat) : Int)]) (t := 48) (fr := (0, 0)) (heap_alloc_new wv _)) (by simp [Value.oneCell']) (by omega) (by unfold maxLen; omega) (by omega) (by simp; omega) (wv.heap.size + 1) (by simp) ?_) | go_in)
              intro gg cap' w6 hown6 hgrow hat hlt6
              have hk6 : Keeps 48 wv w6 := (Keeps.alloc 48 _ _).trans (Keeps.grown hgrow (owns_type (hown.alloc _)))
              have r1 := mV.keeps hk6 (by decide) (by decide) (by decide)
              have r2 := (holeV.keeps (Keeps.alloc 0 _ (.cells #[.int .u64 ((run (marksOf As) (q + 1) j : Nat) : Int)] 48)) (by decide) (by decide)).appended hgrow (owns_type (hown.alloc _)) (v' := .slice (some ⟨gg, 0, none⟩) (j + 1) cap') (by rcases hat with h | h; exact .inl h.symm; exact .inr (by simp [Value.ownBlock, h]))
              have r3 := (belV.alloc hbw (.cells #[.int .u64 ((run (marksOf As) (q + 1) j : Nat) : Int)] 48)).grown hgrow (by simp; omega) (fun k hk => (hown.lt k hk).1)
              have HO : Hid (w6.ownsRow base 48 1 (.slice (some ⟨gg, 0, none⟩) (j + 1) cap') (j + 1) (ints (part (marksOf As) (q + 1) (j + 1)))) := by
                rw [part_succ, ints_append]
                exact hown6
              clear hown6 hgrow hat hlt6 hk6 mV holeV belV hown
              go_wp2
              go_roundw
              case rel => exact ⟨j + 1, by omega, by omega, by go_num, HO.out, r1, r2, r3⟩
              case measure => simp [intOf]; omega
            · obtain rfl : j = runs As.length (q + 1) := by omega
              have hjQ1 : (As.length : Int) ≤ (runs As.length (q + 1) : Int) * (Q : Int) := by
                have h1 : ¬ runs As.length (q + 1) * Q < As.length := fun h => hj (hjQ.2 h)
                have h2 : ((runs As.length (q + 1) * Q : Nat) : Int) = (runs As.length (q + 1) : Int) * (Q : Int) := by simp
                omega
              have hjQ2 : (runs As.length (q + 1) : Int) * (Q : Int) ≤ 2097152 := by
                have h1 := runs_mul As.length (q + 1)
                rw [← HQ.out] at h1
                have h2 : ((runs As.length (q + 1) * Q : Nat) : Int) = (runs As.length (q + 1) : Int) * (Q : Int) := by simp
                omega
              have hj3 : runs As.length (q + 1) ≤ 262144 := by have := runs_le As.length (q + 1); omega
              clear hjQ hj
              have hrow := holeV.row
              have r1 := mV.keeps (Keeps.setCell (a := ⟨r, q, none⟩) holeV.row (.slice al (runs As.length (q + 1)) cll)) (by decide) (by decide) (by decide)
              have hown' : wv.ownsRow base 48 1 (.slice al (runs As.length (q + 1)) cll) (level (marksOf As) (q + 1)).length (ints (level (marksOf As) (q + 1))) := by
                rw [← part_runs, part_length, marksOf_length]
                exact hown
              have r2 := holeV.filled (F' := mid (marksOf As) built (q + 1)) (show q < Vs.length by omega) hown' (fun i _ => mid_succ _ _ _ _)
              have r3 := belV.setCell (p := ⟨r, q, none⟩) (by exact hbr) (.slice al (runs As.length (q + 1)) cll)
              have r4 : Lvs (wv.setCell ⟨r, q, none⟩ (.slice al (runs As.length (q + 1)) cll)) base (.slice (some ⟨r, 0, none⟩) (q + 1) Vs.length) (max (q + 1) (depth built)) (mid (marksOf As) built (q + 1)) := by
                rw [show max (q + 1) (depth built) = (q + 1) from by omega]
                exact .inr ⟨r, Vs.set q (.slice al (runs As.length (q + 1)) cll), by rw [List.length_set], hbr, by rw [List.length_set]; omega, by rw [List.length_set]; exact hVm, r2⟩
              clear mV holeV belV hown hown' r2 hrow
              generalize runs As.length (q + 1) = jj at *
              go_wp2
              go_roundw
              case rel => exact ⟨q + 1, _, by go_num, by omega, r1, r4, r3⟩
              case measure => simp [intOf]; omega
    · have hqe : q = depth As.length := by omega
      have hPn := hPge hqe
      have hdb := depth_mono built As.length (by omega) (by omega)
      have r1 := m1.setBuilt As.length
      have r2 := (hlv.keeps (Keeps.setCell (a := ⟨g, 4, none⟩) m1.hh (.int .i64 (As.length : Int))) (by decide) (by decide)).congr (F' := fun i => level ((marksOf As).take As.length) (i + 1)) (fun i hi => by
        unfold mid
        rw [if_pos (by omega), List.take_of_length_le (by rw [marksOf_length]; omega)])
      rw [show max q (depth built) = depth As.length from by omega] at r2
      have r3 := hbel.setCell (p := ⟨g, 4, none⟩) (by exact hbg) (.int .i64 (As.length : Int))
      have RR := hide (And.intro r1 (And.intro r2 r3))
      clear r1 r2 r3 m1 hlv hbel hqe
      go_wp2
      go_end0
      exact ⟨rfl, ⟨ba, vl, lat, st, RR.out.1.hh, hbg, RR.out.1.acc, RR.out.2.1, Nat.le_refl _⟩, RR.out.2.2⟩

set_option maxRecDepth 100000 in
theorem f41_same (g base ca : Nat) (As : List (Nat × Nat)) (w : World) (hlog : Log w base g As ca As.length) :
    Calls Try.prog 41 #[.pointer (some ⟨g, 0, none⟩)] w fun e w' => e = .returned (.tuple #[]) ∧ w' = w := by
  obtain ⟨ba, vl0, lat, st, hh0, hbg, hacc0, hlv0, hbu⟩ := hlog
  have m0 : Mid w base g ba ca As lat st vl0 As.length := ⟨hh0, hacc0⟩
  obtain ⟨c0, c3, c4, f3, f4⟩ := m0.cells
  have hbn : ((As.length : Int) == (As.length : Int)) = true := by simp
  clear hh0 hacc0 m0 hlv0
  go_enter Try.func41, Try.ntmps41
  go_wp2
  exact bodyPost_ret (results_none (by kernel_rfl) _ _ _) rfl ⟨rfl, rfl⟩

theorem f41_any (g base ca built : Nat) (As : List (Nat × Nat)) (w : World) (hlog : Log w base g As ca built) (hlen : As.length ≤ 262144) (hb : base ≤ w.heap.size) (hmk : ∀ i, (marksOf As).getD i 0 < 18446744073709551616) :
    Calls Try.prog 41 #[.pointer (some ⟨g, 0, none⟩)] w fun e w' => e = .returned (.tuple #[]) ∧ Log w' base g As ca As.length ∧ Below base w w' := by
  rcases Nat.lt_or_ge built As.length with h | h
  · exact f41_go g base ca built As w hlog hlen hb h hmk
  · have hle : built ≤ As.length := by obtain ⟨_, _, _, _, _, _, _, _, h⟩ := hlog; exact h
    obtain rfl : built = As.length := by omega
    refine (f41_same g base ca As w hlog).mono ?_
    rintro e w' ⟨h1, h2⟩
    subst h2
    exact ⟨h1, hlog, Below.refl _ _⟩

set_option maxRecDepth 100000 in
theorem f21_any (g base ca built : Nat) (As : List (Nat × Nat)) (w : World) (hlog : Log w base g As ca built) (hlen : As.length ≤ 262144) (hb : base ≤ w.heap.size) (hmk : ∀ i, (marksOf As).getD i 0 < 18446744073709551616) :
    Calls Try.prog 21 #[.pointer (some ⟨g, 0, none⟩)] w fun e w' => e = .returned (.tuple #[]) ∧ Log w' base g As ca As.length ∧ Below base w w' := by
  go_enter Try.func21, Try.ntmps21
  go_wp2_with fail
  refine (f41_any g base ca built As _ hlog hlen hb hmk).mono ?_
  rintro e w1 ⟨rfl, h1, h2⟩
  go_wp2_with fail
  go_end0
  exact ⟨rfl, h1, h2⟩

end Go.Proofs.Qxb6602565a
