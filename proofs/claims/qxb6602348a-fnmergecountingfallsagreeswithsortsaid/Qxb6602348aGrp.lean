/-
  RANK SUMS, PLAIN: the groups of equal values that 'rankSum' goes through, over lists of whole numbers (the keys); what is summed over them. No Go in sight.
-/
import Derived.Test.Qxb6602348aFlt
namespace Go.Proofs.Qxb6602348a

/-- How many values at the head equal v. -/
def run (v : Int) : List Int → Nat
  | [] => 0
  | x :: r => if x = v then run v r + 1 else 0

theorem run_le (v : Int) (L : List Int) : run v L ≤ L.length := by
  induction L with
  | nil => simp [run]
  | cons x r ih => simp only [run]; split <;> simp <;> omega

theorem run_lt {v : Int} {L : List Int} {c : Nat} (h : c < run v L) : c < L.length ∧ L.getD c 0 = v := by
  induction L generalizing c with
  | nil => simp [run] at h
  | cons x r ih =>
    simp only [run] at h
    split at h
    · rename_i e
      cases c with
      | zero => exact ⟨by simp, by simpa using e⟩
      | succ c =>
        obtain ⟨h1, h2⟩ := ih (c := c) (by omega)
        exact ⟨by simp; omega, by simpa using h2⟩
    · omega

theorem run_end {v : Int} {L : List Int} (h : run v L < L.length) : L.getD (run v L) 0 ≠ v := by
  induction L with
  | nil => simp at h
  | cons x r ih =>
    by_cases e : x = v
    · have er : run v (x :: r) = run v r + 1 := by simp [run, e]
      rw [er] at h ⊢
      simpa using ih (by simpa using h)
    · have er : run v (x :: r) = 0 := by simp [run, e]
      rw [er]
      simpa using e

/-- The least value of two heads. -/
def vmin : List Int → List Int → Int
  | [], [] => 0
  | [], y :: _ => y
  | x :: _, [] => x
  | x :: _, y :: _ => if x ≤ y then x else y

theorem vmin_comm (X Y : List Int) : vmin Y X = vmin X Y := by
  cases X <;> cases Y <;> simp [vmin]
  split <;> split <;> omega

/-- The groups: of each how many of the first, how many of the second. -/
def grp : Nat → List Int → List Int → List (Nat × Nat)
  | 0, _, _ => []
  | f + 1, X, Y => if X.length = 0 ∧ Y.length = 0 then [] else (run (vmin X Y) X, run (vmin X Y) Y) :: grp f (X.drop (run (vmin X Y) X)) (Y.drop (run (vmin X Y) Y))

theorem grp_none (f : Nat) (X Y : List Int) (h : X.length = 0 ∧ Y.length = 0) : grp f X Y = [] := by
  cases f with
  | zero => rfl
  | succ f => simp only [grp]; rw [if_pos h]

theorem grp_some (f : Nat) (X Y : List Int) (h : ¬ (X.length = 0 ∧ Y.length = 0)) (hf : 0 < f) : grp f X Y = (run (vmin X Y) X, run (vmin X Y) Y) :: grp (f - 1) (X.drop (run (vmin X Y) X)) (Y.drop (run (vmin X Y) Y)) := by
  obtain ⟨g, rfl⟩ : ∃ g, f = g + 1 := ⟨f - 1, by omega⟩
  simp only [grp]
  rw [if_neg h]
  rfl

theorem run_head (x : Int) (r : List Int) : 0 < run x (x :: r) := by simp [run]

theorem grp_moves (X Y : List Int) (h : ¬ (X.length = 0 ∧ Y.length = 0)) : 0 < run (vmin X Y) X + run (vmin X Y) Y := by
  cases X with
  | nil =>
    cases Y with
    | nil => exact absurd ⟨rfl, rfl⟩ h
    | cons y r => have := run_head y r; simp only [vmin]; omega
  | cons x r =>
    cases Y with
    | nil => have := run_head x r; simp only [vmin]; omega
    | cons y r' =>
      simp only [vmin]
      split
      · have := run_head x r; omega
      · have := run_head y r'; omega

/-- Every group has someone in it. -/
theorem grp_pos (f : Nat) (X Y : List Int) : ∀ p ∈ grp f X Y, 0 < p.1 + p.2 := by
  induction f generalizing X Y with
  | zero => intro p hp; simp [grp] at hp
  | succ f ih =>
    intro p hp
    by_cases h : X.length = 0 ∧ Y.length = 0
    · rw [grp_none _ _ _ h] at hp; simp at hp
    · rw [grp_some _ _ _ h (by omega)] at hp
      simp only [List.mem_cons] at hp
      rcases hp with rfl | hp
      · exact grp_moves X Y h
      · exact ih _ _ p hp

/-- 2u: summed over the groups, p of the first sample lying before. -/
def uOf : Nat → List (Nat × Nat) → Nat
  | _, [] => 0
  | p, (a, b) :: r => b * (2 * p + a) + uOf (p + a) r

def tOf : List (Nat × Nat) → Nat
  | [] => 0
  | (a, b) :: r => ((a + b) * (a + b) * (a + b) - (a + b)) + tOf r

def aSum : List (Nat × Nat) → Nat
  | [] => 0
  | (a, _) :: r => a + aSum r
def bSum : List (Nat × Nat) → Nat
  | [] => 0
  | (_, b) :: r => b + bSum r

theorem grp_sums (f : Nat) (X Y : List Int) (hf : X.length + Y.length ≤ f) : aSum (grp f X Y) = X.length ∧ bSum (grp f X Y) = Y.length := by
  induction f generalizing X Y with
  | zero => simp only [grp, aSum, bSum]; omega
  | succ f ih =>
    by_cases h : X.length = 0 ∧ Y.length = 0
    · rw [grp_none _ _ _ h]; simp only [aSum, bSum]; omega
    · rw [grp_some _ _ _ h (by omega)]
      simp only [aSum, bSum, Nat.add_sub_cancel]
      have h1 := run_le (vmin X Y) X
      have h2 := run_le (vmin X Y) Y
      have h3 := grp_moves X Y h
      have := ih (X.drop (run (vmin X Y) X)) (Y.drop (run (vmin X Y) Y)) (by simp; omega)
      simp only [List.length_drop] at this
      omega

/-- The two orders of the samples: the same groups, turned. -/
theorem grp_comm (f : Nat) (X Y : List Int) : grp f Y X = (grp f X Y).map fun p => (p.2, p.1) := by
  induction f generalizing X Y with
  | zero => rfl
  | succ f ih =>
    by_cases h : X.length = 0 ∧ Y.length = 0
    · rw [grp_none _ _ _ h, grp_none _ _ _ ⟨h.2, h.1⟩]; rfl
    · rw [grp_some _ _ _ h (by omega), grp_some _ _ _ (fun e => h ⟨e.2, e.1⟩) (by omega), vmin_comm X Y]
      rw [List.map_cons, Nat.add_sub_cancel, ih (X.drop (run (vmin X Y) X)) (Y.drop (run (vmin X Y) Y))]

def swp (p : Nat × Nat) : Nat × Nat := (p.2, p.1)

theorem tOf_swp (G : List (Nat × Nat)) : tOf (G.map fun p => (p.2, p.1)) = tOf G := by
  induction G with
  | nil => rfl
  | cons p r ih =>
    obtain ⟨a, b⟩ := p
    simp only [List.map_cons, tOf, ih, Nat.add_comm b a]

/-- BOTH ORDERS TOGETHER: all pairs, twice. -/
theorem uOf_both (G : List (Nat × Nat)) (p q : Nat) : uOf p G + uOf q (G.map fun p => (p.2, p.1)) + 2 * (p * q) = 2 * ((p + aSum G) * (q + bSum G)) := by
  induction G generalizing p q with
  | nil => simp [uOf, aSum, bSum]
  | cons g r ih =>
    obtain ⟨a, b⟩ := g
    simp only [List.map_cons, uOf, aSum, bSum]
    have := ih (p + a) (q + b)
    rw [Nat.add_assoc p a, Nat.add_assoc q b] at this
    have e : 2 * ((p + a) * (q + b)) = b * (2 * p + a) + a * (2 * q + b) + 2 * (p * q) := by grind
    omega

/-- A sample against itself. -/
theorem uOf_self (G : List (Nat × Nat)) (h : ∀ p ∈ G, p.1 = p.2) (p : Nat) : uOf p G + p * p = (p + aSum G) * (p + aSum G) := by
  induction G generalizing p with
  | nil => simp [uOf, aSum]
  | cons g r ih =>
    obtain ⟨a, b⟩ := g
    have hab : a = b := h (a, b) (by simp)
    subst hab
    simp only [uOf, aSum]
    have := ih (fun p hp => h p (by simp [hp])) (p + a)
    rw [Nat.add_assoc p a] at this
    have e : (p + a) * (p + a) = a * (2 * p + a) + p * p := by grind
    omega

theorem grp_self (f : Nat) (X : List Int) : ∀ p ∈ grp f X X, p.1 = p.2 := by
  induction f generalizing X with
  | zero => intro p hp; simp [grp] at hp
  | succ f ih =>
    intro p hp
    by_cases h : X.length = 0 ∧ X.length = 0
    · rw [grp_none _ _ _ h] at hp; simp at hp
    · rw [grp_some _ _ _ h (by omega)] at hp
      simp only [List.mem_cons] at hp
      rcases hp with rfl | hp
      · rfl
      · exact ih _ p hp

theorem uOf_le (G : List (Nat × Nat)) (p : Nat) : uOf p G ≤ 2 * ((p + aSum G) * bSum G) := by
  have := uOf_both G p 0
  simp at this
  omega

theorem cube_le {a b : Nat} (h : a ≤ b) : a * a * a ≤ b * b * b := Nat.mul_le_mul (Nat.mul_le_mul h h) h

theorem tOf_le (G : List (Nat × Nat)) : tOf G ≤ (aSum G + bSum G) * (aSum G + bSum G) * (aSum G + bSum G) := by
  induction G with
  | nil => simp [tOf]
  | cons g r ih =>
    obtain ⟨a, b⟩ := g
    simp only [tOf, aSum, bSum]
    have e : a + aSum r + (b + bSum r) = (a + b) + (aSum r + bSum r) := by omega
    rw [e]
    generalize aSum r + bSum r = s at ih
    generalize a + b = t
    have h : t * t * t + s * s * s ≤ (t + s) * (t + s) * (t + s) := by
      have e2 : (t + s) * (t + s) * (t + s) = t * t * t + s * s * s + 3 * (t * t * s) + 3 * (t * s * s) := by grind
      omega
    omega

theorem len_le (G : List (Nat × Nat)) (h : ∀ p ∈ G, 0 < p.1 + p.2) : G.length ≤ aSum G + bSum G := by
  induction G with
  | nil => simp
  | cons g r ih =>
    obtain ⟨a, b⟩ := g
    simp only [List.length_cons, aSum, bSum]
    have h1 := h (a, b) (by simp)
    have h2 := ih fun p hp => h p (by simp [hp])
    simp only at h1
    omega

theorem cube_eq {t : Nat} (h : 0 < t) : t * t * t - t = 0 ↔ t = 1 := by
  constructor
  · intro e
    by_cases h2 : 2 ≤ t
    · have h3 : 2 * 2 * t ≤ t * t * t := Nat.mul_le_mul (Nat.mul_le_mul h2 h2) (Nat.le_refl _)
      omega
    · omega
  · rintro rfl; rfl

/-- No ties: every group is one value. -/
theorem tOf_zero (G : List (Nat × Nat)) (h : ∀ p ∈ G, 0 < p.1 + p.2) : tOf G = 0 ↔ G.length = aSum G + bSum G := by
  induction G with
  | nil => simp [tOf, aSum, bSum]
  | cons g r ih =>
    obtain ⟨a, b⟩ := g
    simp only [tOf, List.length_cons, aSum, bSum]
    have h1 := h (a, b) (by simp)
    simp only at h1
    have h2 := ih fun p hp => h p (by simp [hp])
    have h3 := len_le r fun p hp => h p (by simp [hp])
    have h4 := cube_eq h1
    omega

end Go.Proofs.Qxb6602348a
