import Derived.Test.Qxb6602869aOff
namespace Go.Proofs.Qxb6602869a
set_option linter.unusedVariables false

/-- A run: its part's bits, the first bits of the fingerprint, its first and its last change. -/
structure Rc where
  b : Int
  p : Int
  f : Int
  l : Int

def rcOf (fp : Nat) (f l : Int) : Rc := if f < l then ⟨(pb (l - f + 1) : Int), ((fp / 2 ^ (64 - pb (l - f + 1)) : Nat) : Int), f, l⟩ else ⟨0, 0, f, l⟩
def clip (fp o : Nat) (q : Nat × Nat) : List Rc := if 1 ≤ (q.1 : Int) + q.2 - o then [rcOf fp (max ((q.1 : Int) + 1 - o) 1) ((q.1 : Int) + q.2 - o)] else []

def sc (m : Nat) (q : Nat × Nat) : Nat × Nat := (q.1 * m, q.2 * m)
def sh (m : Nat) (q : Nat × Nat) : Nat × Nat := (m + q.1, q.2)
def un (q r : Nat) : List (Nat × Nat) := (List.range r).map fun c => (q * 4 + c, 1)
def Bf : Nat → Nat → List (Nat × Nat)
  | 0, _ => []
  | f + 1, t => (Bf f (t / 4)).map (sc 4) ++ un (t / 4) (t % 4)
/-- The blocks of a counter of base four that stands at t. -/
def B (t : Nat) : List (Nat × Nat) := Bf t t

theorem Bf_zero : ∀ f, Bf f 0 = []
  | 0 => rfl
  | f + 1 => by
    rw [Bf, show (0 : Nat) / 4 = 0 from rfl, Bf_zero f]
    rfl
theorem Bf_fuel : ∀ f g t, t ≤ f → t ≤ g → Bf f t = Bf g t
  | 0, g, t, h1, h2 => by
    obtain rfl : t = 0 := by omega
    rw [Bf_zero, Bf_zero]
  | f + 1, 0, t, h1, h2 => by
    obtain rfl : t = 0 := by omega
    rw [Bf_zero, Bf_zero]
  | f + 1, g + 1, t, h1, h2 => by
    rw [Bf, Bf, Bf_fuel f g (t / 4) (by omega) (by omega)]
theorem B_zero : B 0 = [] := rfl
theorem B_eq (t : Nat) : B t = (B (t / 4)).map (sc 4) ++ un (t / 4) (t % 4) := by
  unfold B
  rw [Bf_fuel t (t + 1) t (by omega) (by omega), Bf, Bf_fuel t (t / 4) (t / 4) (by omega) (by omega)]
theorem B_four (q r : Nat) (hr : r < 4) : B (q * 4 + r) = (B q).map (sc 4) ++ un q r := by
  rw [B_eq, show (q * 4 + r) / 4 = q from by omega, show (q * 4 + r) % 4 = r from by omega]

theorem B_split : ∀ (k a r : Nat), r < 4 ^ k → B (a * 4 ^ k + r) = (B a).map (sc (4 ^ k)) ++ (B r).map (sh (a * 4 ^ k))
  | 0, a, r, hr => by
    obtain rfl : r = 0 := by simpa using hr
    have : sc 1 = id := by funext q; simp [sc]
    simp [B_zero, this]
  | k + 1, a, r, hr => by
    have e1 : a * 4 ^ (k + 1) + r = (a * 4 ^ k + r / 4) * 4 + r % 4 := by rw [Nat.pow_succ, ← Nat.mul_assoc]; omega
    have hr' : r / 4 < 4 ^ k := by rw [Nat.pow_succ] at hr; omega
    rw [e1, B_four _ _ (Nat.mod_lt _ (by decide)), B_split k a (r / 4) hr', B_eq r]
    simp only [List.map_append, List.map_map, List.append_assoc]
    have f1 : sc 4 ∘ sc (4 ^ k) = sc (4 ^ (k + 1)) := by funext q; simp [sc, Nat.pow_succ, Nat.mul_assoc]
    have f2 : sc 4 ∘ sh (a * 4 ^ k) = sh (a * 4 ^ (k + 1)) ∘ sc 4 := by funext q; simp [sc, sh, Nat.pow_succ]; rw [Nat.add_mul, Nat.mul_assoc]
    have f3 : un (a * 4 ^ k + r / 4) (r % 4) = List.map (sh (a * 4 ^ (k + 1))) (un (r / 4) (r % 4)) := by
      simp only [un, List.map_map]
      refine List.map_congr_left fun c _ => ?_
      simp only [Function.comp, sh]
      rw [show (a * 4 ^ k + r / 4) * 4 + c = a * 4 ^ (k + 1) + (r / 4 * 4 + c) from by rw [Nat.pow_succ, ← Nat.mul_assoc]; omega]
    rw [f1, f2, f3]

theorem B_one : B 1 = [(0, 1)] := by rw [B_eq]; simp [B_zero, un, List.range_succ]
theorem B_two : B 2 = [(0, 1), (1, 1)] := by rw [B_eq]; simp [B_zero, un, List.range_succ]
theorem B_three : B 3 = [(0, 1), (1, 1), (2, 1)] := by rw [B_eq]; simp [B_zero, un, List.range_succ]
theorem B_cons (j r : Nat) (h1 : 4 ^ j ≤ r) (h2 : r < 4 ^ (j + 1)) : B r = (0, 4 ^ j) :: (B (r - 4 ^ j)).map (sh (4 ^ j)) := by
  have hp : 0 < 4 ^ j := Nat.pow_pos (by decide)
  rw [Nat.pow_succ] at h2
  have S := B_split j
  generalize 4 ^ j = M at *
  have key : ∀ a r', r' < M → 1 ≤ a → a ≤ 3 → B (a * M + r') = (0, M) :: (B ((a - 1) * M + r')).map (sh M) := by
    intro a r' hr' ha1 ha2
    rw [S a r' hr', S (a - 1) r' hr', List.map_append, List.map_map, List.map_map]
    have f : sh M ∘ sh ((a - 1) * M) = sh (a * M) := by
      funext q
      have : a * M = M + (a - 1) * M := by rw [show a = (a - 1) + 1 from by omega, Nat.add_mul]; simp; omega
      simp only [sh, Function.comp, this]
      rw [Nat.add_assoc]
    rw [f]
    have h : a = 1 ∨ a = 2 ∨ a = 3 := by omega
    rcases h with rfl | rfl | rfl
    · simp [B_one, B_zero, sc]
    · simp [B_one, B_two, sc, sh]
    · simp [B_three, B_two, sc, sh]; omega
  rcases Nat.lt_or_ge r (2 * M) with h | h
  · have := key 1 (r - M) (by omega) (by omega) (by omega)
    rw [show 1 * M + (r - M) = r from by omega, show (1 - 1) * M + (r - M) = r - M from by simp] at this
    exact this
  · rcases Nat.lt_or_ge r (3 * M) with h' | h'
    · have := key 2 (r - 2 * M) (by omega) (by omega) (by omega)
      rw [show 2 * M + (r - 2 * M) = r from by omega, show (2 - 1) * M + (r - 2 * M) = r - M from by simp; omega] at this
      exact this
    · have := key 3 (r - 3 * M) (by omega) (by omega) (by omega)
      rw [show 3 * M + (r - 3 * M) = r from by omega, show (3 - 1) * M + (r - 3 * M) = r - M from by simp; omega] at this
      exact this

theorem B_length : ∀ (k t : Nat), t < 4 ^ k → (B t).length ≤ 3 * k
  | 0, t, h => by obtain rfl : t = 0 := by simpa using h
                  simp [B_zero]
  | k + 1, t, h => by
    have := B_length k (t / 4) (by rw [Nat.pow_succ] at h; omega)
    rw [B_eq]
    simp [un]
    omega

/-- What is yet to come at block end e. -/
def rest (fp o T e : Nat) : List Rc := ((B (T - e)).map (sh e)).flatMap (clip fp o)
/-- The runs that hold fp among the first n changes. -/
def runsAt (fp o : Nat) (n : Int) : List Rc := (B (n + o).toNat).flatMap (clip fp o)
def kOf (n : Int) : Nat := (pb n - 6) / 2
def runs (fp : Nat) (n : Int) : List Rc := runsAt fp (offs fp (kOf n)) n

theorem rest_zero (fp o : Nat) (n : Int) : rest fp o (n + o).toNat 0 = runsAt fp o n := by
  have : sh 0 = id := by funext q; simp [sh]
  simp [rest, runsAt, this]
theorem rest_end (fp o T : Nat) : rest fp o T T = [] := by simp [rest, B_zero]
theorem rest_step (fp o T e j : Nat) (h1 : e + 4 ^ j ≤ T) (h2 : T < e + 4 ^ (j + 1)) : rest fp o T e = clip fp o (e, 4 ^ j) ++ rest fp o T (e + 4 ^ j) := by
  unfold rest
  rw [B_cons j (T - e) (by omega) (by omega), List.map_cons, List.flatMap_cons, List.map_map]
  have f : sh e ∘ sh (4 ^ j) = sh (e + 4 ^ j) := by funext q; simp [sh, Nat.add_assoc]
  rw [f, show T - e - 4 ^ j = T - (e + 4 ^ j) from by omega]
  rfl
theorem clip_length (fp o : Nat) (q : Nat × Nat) : (clip fp o q).length ≤ 1 := by unfold clip; split <;> simp
theorem flat_length (fp o : Nat) : ∀ l : List (Nat × Nat), (l.flatMap (clip fp o)).length ≤ l.length
  | [] => by simp
  | q :: l => by
    have := flat_length fp o l
    have := clip_length fp o q
    rw [List.flatMap_cons, List.length_append, List.length_cons]
    omega
theorem runs_length (fp : Nat) (n : Int) (hfp : fp < 18446744073709551616) (hn : n ≤ 1152921504606846976) : (runs fp n).length ≤ 93 := by
  unfold runs runsAt
  refine Nat.le_trans (flat_length _ _ _) (B_length 31 _ ?_)
  have h1 := pb_spec n hn
  have h2 := offs_lt fp hfp (kOf n)
  have h3 := Nat.pow_le_pow_right (n := 4) (by decide) (show kOf n + 3 ≤ 30 by unfold kOf; omega)
  omega
end Go.Proofs.Qxb6602869a
