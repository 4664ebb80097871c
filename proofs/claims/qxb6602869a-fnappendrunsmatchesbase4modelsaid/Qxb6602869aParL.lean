import Derived.Test.Qxb6602869aZZ
import Derived.Test.Qxb6602869aPar
namespace Go.Proofs.Qxb6602869a
set_option linter.unusedVariables false

theorem runs_neg (fp : Nat) (n : Int) (h : n < 1) : runs fp n = [] := by
  unfold runs runsAt
  exact chain_none fp _ _ 0 _ (B_chain _) (by omega)

/-- The length of run i. -/
def rl (L : List Rc) (i : Nat) : Int := (L.getD i rc0).l - (L.getD i rc0).f + 1

structure Parted (fp : Nat) (n : Int) (L : List Rc) : Prop where
  pos : 0 < L.length
  first : (L.getD 0 rc0).f = 1
  last : (L.getD (L.length - 1) rc0).l = n
  each : ∀ i, i < L.length → 1 ≤ (L.getD i rc0).f ∧ (L.getD i rc0).f ≤ (L.getD i rc0).l ∧ (L.getD i rc0).l ≤ n ∧ L.getD i rc0 = rcOf fp (L.getD i rc0).f (L.getD i rc0).l
  next : ∀ i, i + 1 < L.length → (L.getD (i + 1) rc0).f = (L.getD i rc0).l + 1 ∧ ∃ j, rl L (i + 1) = ((4 ^ j : Nat) : Int)
  down : ∀ i, i + 2 < L.length → rl L (i + 2) ≤ rl L (i + 1)
  three : ∀ i, i + 4 < L.length → rl L (i + 4) < rl L (i + 1)

theorem getD_map_unc (fp o : Nat) (Y : List (Nat × Nat)) (i : Nat) (h : i < Y.length) : (Y.map (unc fp o)).getD i rc0 = unc fp o (Y.getD i (0, 0)) := by
  rw [List.getD_eq_getElem?_getD, List.getElem?_map, List.getElem?_eq_getElem h, List.getD_eq_getElem?_getD, List.getElem?_eq_getElem h]
  rfl
theorem getD_map_snd (Y : List (Nat × Nat)) (i : Nat) (h : i < Y.length) : (Y.map Prod.snd).getD i 0 = (Y.getD i (0, 0)).2 := by
  rw [List.getD_eq_getElem?_getD, List.getElem?_map, List.getElem?_eq_getElem h, List.getD_eq_getElem?_getD, List.getElem?_eq_getElem h]
  rfl

theorem parted (fp : Nat) (n : Int) (h1 : 1 ≤ n) : Parted fp n (runs fp n) := by
  unfold runs runsAt
  generalize offs fp (kOf n) = o
  obtain ⟨Y1, q, Y, e1, e2, hch, e4⟩ := chain_cut fp o _ 0 _ (B_chain (n + o).toNat) (Nat.zero_le _) (by omega)
  obtain ⟨hg, hp⟩ := B_sizes (n + o).toNat
  rw [e1] at hg hp
  have hgd : Good (Y.map Prod.snd) := by
    rw [List.map_append, List.map_cons, show q.2 :: Y.map Prod.snd = [q.2] ++ Y.map Prod.snd from rfl, ← List.append_assoc] at hg
    exact hg.drop
  have hpw : ∀ i, i < Y.length → ∃ j, (Y.getD i (0, 0)).2 = 4 ^ j := fun i hi => by
    refine hp _ (List.mem_append_right _ (List.mem_cons_of_mem _ ?_))
    rw [List.getD_eq_getElem?_getD, List.getElem?_eq_getElem hi]
    exact List.getElem_mem hi
  have hle := hch.le
  rw [e4]
  generalize hr : rcOf fp 1 ((q.1 : Int) + q.2 - o) = r0
  have f0 : r0.f = 1 := by rw [← hr, rcOf_f]
  have l0 : r0.l = (q.1 : Int) + q.2 - o := by rw [← hr, rcOf_l]
  have g0 : (r0 :: Y.map (unc fp o)).getD 0 rc0 = r0 := rfl
  have gs : ∀ i, i < Y.length → (r0 :: Y.map (unc fp o)).getD (i + 1) rc0 = unc fp o (Y.getD i (0, 0)) := fun i hi => by
    rw [List.getD_cons_succ]
    exact getD_map_unc fp o Y i hi
  have uf : ∀ u, (unc fp o u).f = (u.1 : Int) + 1 - o := fun u => by unfold unc; rw [rcOf_f]
  have ul : ∀ u, (unc fp o u).l = (u.1 : Int) + u.2 - o := fun u => by unfold unc; rw [rcOf_l]
  have rls : ∀ i, i < Y.length → rl (r0 :: Y.map (unc fp o)) (i + 1) = ((Y.getD i (0, 0)).2 : Int) := fun i hi => by
    unfold rl
    rw [gs i hi, uf, ul]
    omega
  have hlen : (r0 :: Y.map (unc fp o)).length = Y.length + 1 := by simp
  refine ⟨by rw [hlen]; omega, by rw [g0, f0], ?_, ?_, ?_, ?_, ?_⟩
  · rw [hlen, Nat.add_sub_cancel]
    cases hY : Y.length with
    | zero =>
      have : Y = [] := List.eq_nil_of_length_eq_zero hY
      subst this
      rw [Chain] at hch
      rw [g0, l0]
      omega
    | succ k =>
      rw [gs k (by omega), ul]
      have := (chain_get Y _ _ k hch (by omega)).2.2.2.2.1 (by omega)
      omega
  · intro i hi
    rw [hlen] at hi
    cases i with
    | zero =>
      rw [g0, f0, l0]
      exact ⟨by omega, by omega, by omega, hr.symm⟩
    | succ k =>
      rw [gs k (by omega), uf, ul]
      obtain ⟨a1, a2, a3, _⟩ := chain_get Y _ _ k hch (by omega)
      exact ⟨by omega, by omega, by omega, rfl⟩
  · intro i hi
    rw [hlen] at hi
    refine ⟨?_, ?_⟩
    · rw [gs i (by omega), uf]
      cases i with
      | zero =>
        rw [g0, l0]
        have := (chain_get Y _ _ 0 hch (by omega)).2.2.2.1 rfl
        omega
      | succ k =>
        rw [gs k (by omega), ul]
        have := (chain_get Y _ _ k hch (by omega)).2.2.2.2.2 (by omega)
        omega
    · obtain ⟨j, hj⟩ := hpw i (by omega)
      exact ⟨j, by rw [rls i (by omega), hj]⟩
  · intro i hi
    rw [hlen] at hi
    rw [show i + 2 = (i + 1) + 1 from rfl, rls (i + 1) (by omega), rls i (by omega)]
    have := (hgd i).1 (by rw [List.length_map]; omega)
    rw [getD_map_snd _ _ (by omega), getD_map_snd _ _ (by omega)] at this
    omega
  · intro i hi
    rw [hlen] at hi
    rw [show i + 4 = (i + 3) + 1 from rfl, rls (i + 3) (by omega), rls i (by omega)]
    have := (hgd i).2 (by rw [List.length_map]; omega)
    rw [getD_map_snd _ _ (by omega), getD_map_snd _ _ (by omega)] at this
    omega
end Go.Proofs.Qxb6602869a
