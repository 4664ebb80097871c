import Derived.Test.Qxb6602869aPar
namespace Go.Proofs.Qxb6602869a
set_option linter.unusedVariables false

/-- The base-4 digits of a part, read from the last. -/
def rr (fp k : Nat) : Nat → Nat
  | 0 => 0
  | j + 1 => rr fp k j * 4 + dg fp (k - j)
theorem rr_lt (fp k : Nat) : ∀ j, j ≤ k → rr fp k j < 4 ^ j
  | 0, _ => by simp [rr]
  | j + 1, h => by
    have h1 := rr_lt fp k j (by omega)
    have h2 := dg_lt4 fp (k - j) (by omega)
    rw [rr, Nat.pow_succ]
    omega
theorem rr_succ (fp k : Nat) : ∀ j, j ≤ k → rr fp (k + 1) (j + 1) = dg fp (k + 1) * 4 ^ j + rr fp k j
  | 0, _ => by simp [rr]
  | j + 1, h => by
    rw [rr, rr_succ fp k j (by omega), rr, show k + 1 - (j + 1) = k - j from by omega, Nat.pow_succ, Nat.add_mul, Nat.mul_assoc]
    omega
theorem offs_rr (fp : Nat) : ∀ k, offs fp k = fp / 2 ^ 58 + 64 * rr fp k k
  | 0 => by simp [offs, rr]
  | k + 1 => by
    rw [offs, offs_rr fp k, rr_succ fp k k (Nat.le_refl _), show 4 ^ (k + 3) = 4 ^ k * 64 from by rw [Nat.pow_add], ← Nat.mul_assoc, Nat.mul_add, Nat.mul_comm 64 (dg fp (k + 1) * 4 ^ k)]
    omega

/-- What is left of the part's later digits behind j rounds. -/
def rs (fp k j : Nat) : Nat := fp / 2 ^ (58 - 2 * k) % 4 ^ k / 4 ^ j
theorem rs_zero (fp k : Nat) : rs fp k 0 = fp / 2 ^ (58 - 2 * k) % 4 ^ k := by simp [rs]
theorem rs_succ (fp k j : Nat) : rs fp k (j + 1) = rs fp k j / 4 := by
  unfold rs
  rw [Nat.pow_succ, Nat.div_div_eq_div_mul]
theorem rs_mod (fp k j : Nat) (h : j < k) (hk : k ≤ 29) : rs fp k j % 4 = dg fp (k - j) := by
  unfold rs dg
  rw [if_neg (by omega)]
  have e1 : (4 : Nat) ^ k = 4 ^ j * 4 ^ (k - j) := by rw [← Nat.pow_add]; congr 1; omega
  rw [e1, Nat.mod_mul_right_div_self]
  have e2 : (4 : Nat) ∣ 4 ^ (k - j) := by
    obtain ⟨q, hq⟩ : ∃ q, k - j = q + 1 := ⟨k - j - 1, by omega⟩
    rw [hq, Nat.pow_succ]
    exact Nat.dvd_mul_left _ _
  rw [Nat.mod_mod_of_dvd _ e2, Nat.div_div_eq_div_mul]
  congr 2
  rw [show (4 : Nat) = 2 ^ 2 from rfl, ← Nat.pow_mul, ← Nat.pow_add]
  congr 1
  omega

/-- The blocks as the model lays them: from the right end. D: laid so far; c of this level's units are left; q: the levels above. -/
def Lay (t q c s : Nat) (D : List (Nat × Nat)) : Prop := B t = (B q).map (sc (4 * s)) ++ ((un q c).map (sc s) ++ D.reverse)
theorem Lay.start (t : Nat) : Lay t (t / 4) (t % 4) 1 [] := by
  unfold Lay
  have e : sc 1 = id := by funext q; simp [sc]
  rw [e]
  simpa using B_eq t
theorem Lay.put {t q c s : Nat} {D : List (Nat × Nat)} (h : Lay t q (c + 1) s D) : Lay t q c s (D ++ [((4 * q + c) * s, s)]) := by
  unfold Lay at h ⊢
  rw [h]
  congr 1
  have e : un q (c + 1) = un q c ++ [(q * 4 + c, 1)] := by unfold un; rw [List.range_succ, List.map_append]; rfl
  rw [e, List.map_append, List.append_assoc, List.reverse_append]
  congr 1
  simp [sc, Nat.mul_comm]
theorem Lay.up {t q s : Nat} {D : List (Nat × Nat)} (h : Lay t q 0 s D) : Lay t (q / 4) (q % 4) (s * 4) D := by
  unfold Lay at h ⊢
  rw [h, B_eq q, List.map_append, List.append_assoc, List.map_map]
  have e1 : sc (4 * s) ∘ sc 4 = sc (4 * (s * 4)) := by funext u; simp [sc, Nat.mul_comm, Nat.mul_left_comm]
  have e2 : (un q 0).map (sc s) = [] := rfl
  rw [e1, e2, Nat.mul_comm 4 s]
  rfl
theorem Lay.done {t s : Nat} {D : List (Nat × Nat)} (h : Lay t 0 0 s D) : D = (B t).reverse := by
  unfold Lay at h
  rw [h, B_zero]
  simp [un]
end Go.Proofs.Qxb6602869a
