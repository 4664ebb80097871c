import Derived.Test.Qxb6602565aRows
import Derived.Laws.BitsAllLaws
namespace Go.Proofs.Qxb6602565a

/-! ### the marks of a run: no Go in sight -/

/-- The OR of the marks of run j at level k: of the accesses from j * 2^k up to (j + 1) * 2^k. -/
def run (m : List Nat) : Nat → Nat → Nat
  | 0, j => m.getD j 0
  | k + 1, j => run m k (2 * j) ||| run m k (2 * j + 1)

/-- How many runs level k has over n accesses. -/
def runs (n k : Nat) : Nat := (n + 2 ^ k - 1) / 2 ^ k

/-- How many levels there are over n accesses: the least L with n ≤ 2^L (by trying, L at most 64). -/
def depthFrom (n : Nat) : Nat → Nat → Nat
  | 0, l => l
  | f + 1, l => if 2 ^ l < n then depthFrom n f (l + 1) else l
def depth (n : Nat) : Nat := depthFrom n 64 0

/-- Level k of the log, k from 1 on. -/
def level (m : List Nat) (k : Nat) : List Nat := (List.range (runs m.length k)).map (run m k)

/-- All levels. -/
def levels (m : List Nat) : List (List Nat) := (List.range (depth m.length)).map fun i => level m (i + 1)

theorem two_pow_pos (k : Nat) : 0 < 2 ^ k := Nat.pow_pos (by decide)

theorem lt_runs (n k j : Nat) : j < runs n k ↔ j * 2 ^ k < n := by
  unfold runs
  have h := two_pow_pos k
  generalize 2 ^ k = p at *
  rw [Nat.lt_iff_add_one_le, Nat.le_div_iff_mul_le h, Nat.add_mul]
  omega

theorem run_zero (m : List Nat) : ∀ k j, m.length ≤ j * 2 ^ k → run m k j = 0
  | 0, j, h => by
    simp at h
    simp [run, List.getElem?_eq_none h]
  | k + 1, j, h => by
    have e : j * 2 ^ (k + 1) = 2 * j * 2 ^ k := by rw [Nat.pow_succ, Nat.mul_comm 2 j, Nat.mul_assoc, Nat.mul_comm (2 ^ k) 2]
    rw [e] at h
    rw [run, run_zero m k (2 * j) h, run_zero m k (2 * j + 1) (Nat.le_trans h (Nat.mul_le_mul_right _ (by omega)))]
    rfl

theorem run_congr (m m' : List Nat) : ∀ k j, (∀ i, i < (j + 1) * 2 ^ k → m.getD i 0 = m'.getD i 0) → run m k j = run m' k j
  | 0, j, h => h j (by simp)
  | k + 1, j, h => by
    have e : (j + 1) * 2 ^ (k + 1) = (2 * j + 1 + 1) * 2 ^ k := by
      rw [Nat.pow_succ, show 2 * j + 1 + 1 = (j + 1) * 2 from by omega, Nat.mul_assoc, Nat.mul_comm (2 ^ k) 2]
    rw [e] at h
    rw [run, run, run_congr m m' k (2 * j) (fun i hi => h i (Nat.lt_of_lt_of_le hi (Nat.mul_le_mul_right _ (by omega)))), run_congr m m' k (2 * j + 1) h]

theorem run_lt (m : List Nat) (hm : ∀ i, m.getD i 0 < 18446744073709551616) : ∀ k j, run m k j < 18446744073709551616
  | 0, j => hm j
  | k + 1, j => by
    rw [run]
    exact Nat.or_lt_two_pow (n := 64) (run_lt m hm k _) (run_lt m hm k _)

/-- The OR of m[lo], .., m[lo + c - 1], gathered from the left onto x. -/
def gather (m : List Nat) (lo : Nat) : Nat → Nat → Nat
  | 0, x => x
  | c + 1, x => gather m lo c x ||| m.getD (lo + c) 0

theorem gather_or (m : List Nat) (lo : Nat) : ∀ c x y, gather m lo c (x ||| y) = x ||| gather m lo c y
  | 0, _, _ => rfl
  | c + 1, x, y => by rw [gather, gather, gather_or m lo c x y, Nat.or_assoc]

theorem gather_add (m : List Nat) (lo c : Nat) : ∀ d x, gather m lo (c + d) x = gather m (lo + c) d (gather m lo c x)
  | 0, _ => rfl
  | d + 1, x => by rw [← Nat.add_assoc, gather, gather_add m lo c d x, gather, Nat.add_assoc]

theorem gather_run (m : List Nat) : ∀ k j x, gather m (j * 2 ^ k) (2 ^ k) x = x ||| run m k j
  | 0, j, x => by simp [gather, run]
  | k + 1, j, x => by
    have e : j * 2 ^ (k + 1) = 2 * j * 2 ^ k := by rw [Nat.pow_succ, Nat.mul_comm 2 j, Nat.mul_assoc, Nat.mul_comm (2 ^ k) 2]
    have e2 : 2 ^ (k + 1) = 2 ^ k + 2 ^ k := by rw [Nat.pow_succ]; omega
    have e3 : 2 * j * 2 ^ k + 2 ^ k = (2 * j + 1) * 2 ^ k := by rw [Nat.add_mul]; simp
    rw [e, e2, gather_add, e3, gather_run m k (2 * j) x, gather_run m k (2 * j + 1), run, Nat.or_assoc]

/-- Past the end nothing is gathered. -/
theorem gather_stop (m : List Nat) (lo c : Nat) (x : Nat) : ∀ d, m.length ≤ lo + c → gather m lo (c + d) x = gather m lo c x
  | 0, _ => rfl
  | d + 1, h => by
    rw [← Nat.add_assoc, gather, gather_stop m lo c x d h, List.getD_eq_getElem?_getD, List.getElem?_eq_none (by omega)]
    simp

/-- What the inner loop of the check gathers for run j at level k. -/
theorem gather_cut (m : List Nat) (k j hi : Nat) (h : hi = (if m.length < j * 2 ^ k + 2 ^ k then m.length else j * 2 ^ k + 2 ^ k)) (hlo : j * 2 ^ k ≤ m.length) : gather m (j * 2 ^ k) (hi - j * 2 ^ k) 0 = run m k j := by
  have hg := gather_run m k j 0
  rw [Nat.zero_or] at hg
  by_cases q : m.length < j * 2 ^ k + 2 ^ k
  · rw [if_pos q] at h
    rw [h, ← hg]
    have := gather_stop m (j * 2 ^ k) (m.length - j * 2 ^ k) 0 (2 ^ k - (m.length - j * 2 ^ k)) (by omega)
    rw [← this]
    congr 1
    omega
  · rw [if_neg q] at h
    rw [h, ← hg, Nat.add_sub_cancel_left]

theorem depthFrom_spec (n : Nat) : ∀ f l, (∀ i, i < l → 2 ^ i < n) → n ≤ 2 ^ (l + f) → (∀ i, i < depthFrom n f l → 2 ^ i < n) ∧ n ≤ 2 ^ depthFrom n f l
  | 0, l, h1, h2 => ⟨h1, h2⟩
  | f + 1, l, h1, h2 => by
    rw [depthFrom]
    by_cases h : 2 ^ l < n
    · rw [if_pos h]
      exact depthFrom_spec n f (l + 1) (fun i hi => by rcases Nat.lt_or_ge i l with q | q; exact h1 i q; exact (show i = l from by omega) ▸ h) (by rw [show l + 1 + f = l + (f + 1) from by omega]; exact h2)
    · rw [if_neg h]
      exact ⟨h1, by omega⟩

theorem depth_spec (n : Nat) (hn : n ≤ 18446744073709551616) : (∀ i, i < depth n → 2 ^ i < n) ∧ n ≤ 2 ^ depth n :=
  depthFrom_spec n 64 0 (fun i hi => by omega) (by simpa using hn)

theorem depth_unique (n d : Nat) (hn : n ≤ 18446744073709551616) (h1 : ∀ i, i < d → 2 ^ i < n) (h2 : n ≤ 2 ^ d) : depth n = d := by
  obtain ⟨a, b⟩ := depth_spec n hn
  rcases Nat.lt_trichotomy (depth n) d with h | h | h
  · have := h1 _ h; omega
  · exact h
  · have := a _ h; omega

theorem lt_depth (n i : Nat) (hn : n ≤ 18446744073709551616) : i < depth n ↔ 2 ^ i < n := by
  obtain ⟨a, b⟩ := depth_spec n hn
  constructor
  · exact a i
  · intro h
    rcases Nat.lt_or_ge i (depth n) with q | q
    · exact q
    · have := Nat.pow_le_pow_right (n := 2) (by decide) q
      omega

theorem depth_mono (a b : Nat) (hb : b ≤ 18446744073709551616) (h : a ≤ b) : depth a ≤ depth b := by
  rcases Nat.lt_or_ge (depth b) (depth a) with q | q
  · have h1 := (lt_depth a (depth b) (by omega)).1 q
    have h2 := (depth_spec b hb).2
    omega
  · exact q

theorem depth_le (n k : Nat) (hk : k ≤ 64) (h : n ≤ 2 ^ k) : depth n ≤ k := by
  have hn : n ≤ 18446744073709551616 := Nat.le_trans h (Nat.pow_le_pow_right (n := 2) (by decide) hk)
  rcases Nat.lt_or_ge k (depth n) with q | q
  · have := (lt_depth n k hn).1 q
    omega
  · exact q

theorem level_length (m : List Nat) (k : Nat) : (level m k).length = runs m.length k := by simp [level]

theorem level_getD (m : List Nat) (k j : Nat) : (level m k).getD j 0 = run m k j := by
  by_cases h : j < runs m.length k
  · simp [level, h]
  · have hz : run m k j = 0 := run_zero m k j (by have := lt_runs m.length k j; omega)
    rw [hz, List.getD_eq_getElem?_getD, List.getElem?_eq_none (by rw [level_length]; omega)]
    rfl

theorem levels_length (m : List Nat) : (levels m).length = depth m.length := by simp [levels]

theorem levels_getD (m : List Nat) (i : Nat) (h : i < depth m.length) : (levels m).getD i [] = level m (i + 1) := by
  simp [levels, h]

theorem getD_take (m : List Nat) (b i : Nat) (h : i < b) : (m.take b).getD i 0 = m.getD i 0 := by
  rw [List.getD_eq_getElem?_getD, List.getD_eq_getElem?_getD, List.getElem?_take_of_lt h]

/-- A run that was whole when b accesses were there is as it was. -/
theorem run_take (m : List Nat) (b k j : Nat) (h : (j + 1) * 2 ^ k ≤ b) : run (m.take b) k j = run m k j :=
  run_congr _ _ k j fun i hi => getD_take m b i (by omega)

end Go.Proofs.Qxb6602565a
