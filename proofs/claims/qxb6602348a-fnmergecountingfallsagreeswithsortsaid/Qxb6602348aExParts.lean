/-
  FnRankSumExact: plain parts: the sums of the law's loops, told by what is left; the floats.
-/
import Derived.Test.Qxb6602348aRankTop
import Derived.Test.Qxb6602348aGrpEx
namespace Go.Proofs.Qxb6602348a
open Flt

theorem kd_step (xs : List Nat) {k : Nat} (h : k < xs.length) : kd xs k = key (xs.getD k 0) :: kd xs (k + 1) := by
  unfold kd
  rw [List.drop_eq_getElem_cons (by simpa using h)]
  simp [h]

theorem Asc_of {xs : List Nat} (h : Good xs xs.length) : Asc (kd xs 0) := by
  unfold Asc kd
  simp only [List.drop_zero]
  rw [List.pairwise_iff_getElem]
  have step : ∀ i, i + 1 < xs.length → key (xs.getD i 0) ≤ key (xs.getD (i + 1) 0) := fun i hi => by
    have h1 := (h (i + 1) hi).2 (by omega)
    rw [Nat.add_sub_cancel, flt_eq (h (i + 1) hi).1 (h i (by omega)).1] at h1
    have := of_decide_eq_false h1
    omega
  have all : ∀ d i, i + d < xs.length → key (xs.getD i 0) ≤ key (xs.getD (i + d) 0) := fun d => by
    induction d with
    | zero => intro i hi; simp
    | succ d ih =>
      intro i hi
      have h1 := ih i (by omega)
      have h2 := step (i + d) (by omega)
      rw [show i + (d + 1) = i + d + 1 by omega]
      omega
  intro i j hi hj hij
  have := all (j - i) i (by simp at hj; omega)
  rw [show i + (j - i) = j by omega] at this
  simp at hi hj
  simpa [hi, hj] using this

/-- What stands ahead of place i. -/
def prev (xs : List Nat) (i : Nat) : Option Int := if i = 0 then none else some (key (xs.getD (i - 1) 0))

theorem prev_succ (xs : List Nat) (i : Nat) : prev xs (i + 1) = some (key (xs.getD i 0)) := by simp [prev]

theorem G_exact {xs ys : List Nat} (hx : Good xs xs.length) (hy : Good ys ys.length) :
    uOf 0 (G xs ys) = 2 * Lt (kd xs 0) (kd ys 0) + Eqs (kd xs 0) (kd ys 0) ∧ (G xs ys).length = (hds none (kd xs 0)).length + NY (kd xs 0) (hds none (kd ys 0)) ∧ tOf (G xs ys) = SX (kd xs 0) (kd ys 0) (hds none (kd xs 0)) + SY (kd xs 0) (kd ys 0) (hds none (kd ys 0)) := by
  have := grp_exact (xs.length + ys.length) (kd xs 0) (kd ys 0) (by simp [kd_len]) (Asc_of hx) (Asc_of hy) 0
  simpa [G] using this

/-- The first loop: pairs counted so far, and those to come. -/
def L1 (xs ys : List Nat) (i b l : Nat) : Prop := 2 * (b + Lt (kd xs i) (kd ys 0)) + (l + Eqs (kd xs i) (kd ys 0)) = uOf 0 (G xs ys)
def L2 (xs ys : List Nat) (i j b l : Nat) : Prop :=
  2 * (b + ltc (key (xs.getD i 0)) (kd ys j) + Lt (kd xs (i + 1)) (kd ys 0)) + (l + cnt (key (xs.getD i 0)) (kd ys j) + Eqs (kd xs (i + 1)) (kd ys 0)) = uOf 0 (G xs ys)

theorem L1_start {xs ys : List Nat} (hx : Good xs xs.length) (hy : Good ys ys.length) : L1 xs ys 0 0 0 := by
  unfold L1; rw [(G_exact hx hy).1]; omega
theorem L1_in {xs ys : List Nat} {i b l : Nat} (h : L1 xs ys i b l) (hi : i < xs.length) : L2 xs ys i 0 b l := by
  unfold L1 at h; unfold L2
  rw [kd_step xs hi] at h
  simp only [Lt, Eqs] at h
  omega
theorem L2_out {xs ys : List Nat} {i j b l : Nat} (h : L2 xs ys i j b l) (hj : ys.length ≤ j) : L1 xs ys (i + 1) b l := by
  unfold L2 at h; unfold L1
  rw [kd_nil ys hj] at h
  simp only [ltc, cnt] at h
  omega
theorem L2_lt {xs ys : List Nat} {i j b l : Nat} (h : L2 xs ys i j b l) (hj : j < ys.length) (hk : key (xs.getD i 0) < key (ys.getD j 0)) : L2 xs ys i (j + 1) (b + 1) l := by
  unfold L2 at h ⊢
  rw [kd_step ys hj] at h
  simp only [ltc, cnt] at h
  rw [if_pos hk, if_neg (by omega)] at h
  omega
theorem L2_eq {xs ys : List Nat} {i j b l : Nat} (h : L2 xs ys i j b l) (hj : j < ys.length) (hk : key (xs.getD i 0) = key (ys.getD j 0)) : L2 xs ys i (j + 1) b (l + 1) := by
  unfold L2 at h ⊢
  rw [kd_step ys hj] at h
  simp only [ltc, cnt] at h
  rw [if_neg (by omega), if_pos hk.symm] at h
  omega
theorem L2_gt {xs ys : List Nat} {i j b l : Nat} (h : L2 xs ys i j b l) (hj : j < ys.length) (hk : ¬ key (xs.getD i 0) < key (ys.getD j 0)) (hk' : ¬ key (xs.getD i 0) = key (ys.getD j 0)) : L2 xs ys i (j + 1) b l := by
  unfold L2 at h ⊢
  rw [kd_step ys hj] at h
  simp only [ltc, cnt] at h
  rw [if_neg hk, if_neg (fun e => hk' e.symm)] at h
  omega
theorem L2_bd {xs ys : List Nat} {i j b l : Nat} (h : L2 xs ys i j b l) (hn : xs.length ≤ 65536) (hm : ys.length ≤ 65536) : b ≤ 8589934592 ∧ l ≤ 8589934592 := by
  unfold L2 at h
  have := (G_bounds xs ys hn hm).1
  omega
theorem L1_end {xs ys : List Nat} {i b l : Nat} (h : L1 xs ys i b l) (hi : xs.length ≤ i) : 2 * b + l = uOf 0 (G xs ys) := by
  unfold L1 at h
  rw [kd_nil xs hi] at h
  simp only [Lt, Eqs] at h
  omega

/-- The third loop: the runs of x. -/
def L3 (xs ys : List Nat) (i g t : Nat) : Prop :=
  g + (hds (prev xs i) (kd xs i)).length + NY (kd xs 0) (hds none (kd ys 0)) = (G xs ys).length ∧ t + SX (kd xs 0) (kd ys 0) (hds (prev xs i) (kd xs i)) + SY (kd xs 0) (kd ys 0) (hds none (kd ys 0)) = tOf (G xs ys)
def L4 (xs ys : List Nat) (j g t : Nat) : Prop :=
  g + NY (kd xs 0) (hds (prev ys j) (kd ys j)) = (G xs ys).length ∧ t + SY (kd xs 0) (kd ys 0) (hds (prev ys j) (kd ys j)) = tOf (G xs ys)

theorem L3_start {xs ys : List Nat} (hx : Good xs xs.length) (hy : Good ys ys.length) : L3 xs ys 0 0 0 := by
  obtain ⟨_, h1, h2⟩ := G_exact hx hy
  unfold L3 prev
  simp only [if_true]
  omega
theorem L3_same {xs ys : List Nat} {i g t : Nat} (h : L3 xs ys i g t) (hi : i < xs.length) (h0 : 0 < i) (e : key (xs.getD (i - 1) 0) = key (xs.getD i 0)) : L3 xs ys (i + 1) g t := by
  unfold L3 at h ⊢
  rw [kd_step xs hi] at h
  rw [prev_succ]
  have : prev xs i = some (key (xs.getD i 0)) := by unfold prev; rw [if_neg (by omega), e]
  simp only [hds, this, if_true] at h
  exact h
theorem L3_new {xs ys : List Nat} {i g t : Nat} (h : L3 xs ys i g t) (hi : i < xs.length) (e : i = 0 ∨ key (xs.getD (i - 1) 0) ≠ key (xs.getD i 0)) :
    L3 xs ys (i + 1) (g + 1) (t + cube (cnt (key (xs.getD i 0)) (kd xs 0) + cnt (key (xs.getD i 0)) (kd ys 0))) := by
  unfold L3 at h ⊢
  rw [kd_step xs hi] at h
  rw [prev_succ]
  have : ¬ prev xs i = some (key (xs.getD i 0)) := by
    unfold prev
    by_cases e0 : i = 0
    · simp [e0]
    · rw [if_neg e0]
      simp only [Option.some.injEq]
      exact e.resolve_left e0
  simp only [hds, if_neg this, SX, List.length_cons] at h
  omega
theorem L3_bd {xs ys : List Nat} {i g t : Nat} (h : L3 xs ys i g t) (hn : xs.length ≤ 65536) (hm : ys.length ≤ 65536) : g ≤ 131072 ∧ t ≤ 2251799813685248 := by
  unfold L3 at h
  have := G_bounds xs ys hn hm
  omega
theorem L3_end {xs ys : List Nat} {i g t : Nat} (h : L3 xs ys i g t) (hi : xs.length ≤ i) : L4 xs ys 0 g t := by
  unfold L3 at h; unfold L4
  rw [kd_nil xs hi] at h
  simp only [hds, SX, List.length_nil] at h
  unfold prev
  simp only [if_true]
  omega
theorem L4_same {xs ys : List Nat} {j g t : Nat} (h : L4 xs ys j g t) (hj : j < ys.length) (h0 : 0 < j) (e : key (ys.getD (j - 1) 0) = key (ys.getD j 0)) : L4 xs ys (j + 1) g t := by
  unfold L4 at h ⊢
  rw [kd_step ys hj] at h
  rw [prev_succ]
  have : prev ys j = some (key (ys.getD j 0)) := by unfold prev; rw [if_neg (by omega), e]
  simp only [hds, this, if_true] at h
  exact h
theorem L4_new {xs ys : List Nat} {j g t : Nat} (h : L4 xs ys j g t) (hj : j < ys.length) (e : j = 0 ∨ key (ys.getD (j - 1) 0) ≠ key (ys.getD j 0)) (c : cnt (key (ys.getD j 0)) (kd xs 0) = 0) :
    L4 xs ys (j + 1) (g + 1) (t + cube (cnt (key (ys.getD j 0)) (kd ys 0))) := by
  unfold L4 at h ⊢
  rw [kd_step ys hj] at h
  rw [prev_succ]
  have : ¬ prev ys j = some (key (ys.getD j 0)) := by
    unfold prev
    by_cases e0 : j = 0
    · simp [e0]
    · rw [if_neg e0]
      simp only [Option.some.injEq]
      exact e.resolve_left e0
  simp only [hds, if_neg this, SY, NY, if_pos c] at h
  omega
theorem L4_hit {xs ys : List Nat} {j g t : Nat} (h : L4 xs ys j g t) (hj : j < ys.length) (e : j = 0 ∨ key (ys.getD (j - 1) 0) ≠ key (ys.getD j 0)) (c : 0 < cnt (key (ys.getD j 0)) (kd xs 0)) : L4 xs ys (j + 1) g t := by
  unfold L4 at h ⊢
  rw [kd_step ys hj] at h
  rw [prev_succ]
  have : ¬ prev ys j = some (key (ys.getD j 0)) := by
    unfold prev
    by_cases e0 : j = 0
    · simp [e0]
    · rw [if_neg e0]
      simp only [Option.some.injEq]
      exact e.resolve_left e0
  simp only [hds, if_neg this, SY, NY, if_neg (by omega : ¬ cnt (key (ys.getD j 0)) (kd xs 0) = 0)] at h
  omega
theorem L4_bd {xs ys : List Nat} {j g t : Nat} (h : L4 xs ys j g t) (hn : xs.length ≤ 65536) (hm : ys.length ≤ 65536) : g ≤ 131072 ∧ t ≤ 2251799813685248 := by
  unfold L4 at h
  have := G_bounds xs ys hn hm
  omega
theorem L4_end {xs ys : List Nat} {j g t : Nat} (h : L4 xs ys j g t) (hj : ys.length ≤ j) : g = (G xs ys).length ∧ t = tOf (G xs ys) := by
  unfold L4 at h
  rw [kd_nil ys hj] at h
  simp only [hds, SY, NY] at h
  omega

/-- One tie's floats. -/
theorem tie_floats {T t : Nat} (hT : T ≤ 131072) (ht : t + cube T ≤ 2251799813685248) :
    ∃ f7 f8 f9 f10 : Nat, floatOfInt .f64 (T : Int) = f7 ∧ floatBits .mul .f64 f7 f7 = some f8 ∧ floatBits .mul .f64 f8 f7 = some f9 ∧ floatBits .sub .f64 f9 f7 = some f10 ∧ floatBits .add .f64 (h2 (2 * t)) f10 = some (h2 (2 * (t + cube T))) := by
  unfold cube at ht ⊢
  obtain ⟨f1, f2, f3, f4, f5, f6, f7, f8, f9, f10, q1, q2, q3, q4, q5, q6, q7, q8, q9, q10, q11, q12⟩ := rs_floats (k := 0) (A := T / 2) (B := T - T / 2) (u := 0) (t := t) (by omega) (by omega) (by
    have : (T - T / 2) * (2 * 0 + T / 2) ≤ 65536 * 65536 := Nat.mul_le_mul (by omega) (by omega)
    omega) (by rw [show T / 2 + (T - T / 2) = T by omega]; exact ht)
  rw [show T / 2 + (T - T / 2) = T by omega] at q12
  rw [show ((T / 2 : Nat) : Int) + ((T - T / 2 : Nat) : Int) = (T : Int) by omega] at q8
  exact ⟨f7, f8, f9, f10, q8, q9, q10, q11, q12⟩

/-- The wanted u. -/
theorem wantU_floats {b l U : Nat} (h : 2 * b + l = U) (hU : U ≤ 8589934592) :
    ∃ f1 f2 f3 : Nat, floatOfInt .f64 (b : Int) = f1 ∧ floatOfInt .f64 (l : Int) = f2 ∧ floatBits .quo .f64 f2 4611686018427387904 = some f3 ∧ floatBits .add .f64 f1 f3 = some (h2 U) := by
  refine ⟨h2 (2 * b), h2 (2 * l), h2 l, ofInt_h2 (by omega), ofInt_h2 (by omega), div_h2 (by omega), ?_⟩
  have := add_h2 (a := 2 * b) (b := l) (by omega)
  rw [h] at this
  exact this

end Go.Proofs.Qxb6602348a
