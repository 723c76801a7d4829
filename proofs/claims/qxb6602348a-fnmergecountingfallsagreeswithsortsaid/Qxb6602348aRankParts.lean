/-
  rankSum: what holds ahead of each group, plain; the floats of one group, exactly.
-/
import Derived.Test.Qxb6602348aRows
import Derived.Test.Qxb6602348aGrp
import Derived.RowKit
namespace Go.Proofs.Qxb6602348a
open Flt

/-- The keys of the words from k on. -/
def kd (xs : List Nat) (k : Nat) : List Int := (xs.map key).drop k

theorem kd_len (xs : List Nat) (k : Nat) : (kd xs k).length = xs.length - k := by simp [kd]
theorem kd_get (xs : List Nat) {k c : Nat} (h : k + c < xs.length) : (kd xs k).getD c 0 = key (xs.getD (k + c) 0) := by
  simp [kd, List.getElem?_drop, h]
theorem kd_drop (xs : List Nat) (k c : Nat) : (kd xs k).drop c = kd xs (k + c) := by simp [kd, List.drop_drop]
theorem kd_cons (xs : List Nat) {k : Nat} (h : k < xs.length) : ∃ r, kd xs k = key (xs.getD k 0) :: r := by
  refine ⟨(xs.map key).drop (k + 1), ?_⟩
  unfold kd
  rw [List.drop_eq_getElem_cons (by simpa using h)]
  simp [h]
theorem kd_nil (xs : List Nat) {k : Nat} (h : xs.length ≤ k) : kd xs k = [] := by
  simp [kd]; omega

/-- No word is a NaN. -/
def Num (xs : List Nat) : Prop := ∀ i, i < xs.length → nan (xs.getD i 0) = false

theorem vmin_x (xs ys : List Nat) {k l : Nat} (hk : k < xs.length) (h : ys.length ≤ l) : vmin (kd xs k) (kd ys l) = key (xs.getD k 0) := by
  obtain ⟨r, e⟩ := kd_cons xs hk
  rw [e, kd_nil ys h]; rfl
theorem vmin_y (xs ys : List Nat) {k l : Nat} (hl : l < ys.length) (h : xs.length ≤ k) : vmin (kd xs k) (kd ys l) = key (ys.getD l 0) := by
  obtain ⟨r, e⟩ := kd_cons ys hl
  rw [e, kd_nil xs h]; rfl
theorem vmin_xy (xs ys : List Nat) {k l : Nat} (hk : k < xs.length) (hl : l < ys.length) : vmin (kd xs k) (kd ys l) = if key (xs.getD k 0) ≤ key (ys.getD l 0) then key (xs.getD k 0) else key (ys.getD l 0) := by
  obtain ⟨r, e⟩ := kd_cons ys hl
  obtain ⟨r', e'⟩ := kd_cons xs hk
  rw [e, e']; rfl

theorem fle_eq {x y : Nat} (hx : nan x = false) (hy : nan y = false) : (FloatKind.f64.format.order x y == some .lt || FloatKind.f64.format.order x y == some .eq) = decide (key x ≤ key y) := by
  have h1 := flt_eq hx hy
  have h2 := feq_eq hx hy
  unfold flt at h1
  unfold feq at h2
  show (Ieee.double.order x y == some .lt || Ieee.double.order x y == some .eq) = _
  rw [h1, h2, Bool.eq_iff_iff]
  simp
  omega

/-- The groups of two samples. -/
def G (xs ys : List Nat) : List (Nat × Nat) := grp (xs.length + ys.length) (kd xs 0) (kd ys 0)

/-- WHAT HOLDS AHEAD OF A GROUP: k of the first and l of the second sample are counted. -/
def RS (xs ys : List Nat) (k l u g t : Nat) : Prop :=
  ∃ f, (xs.length - k) + (ys.length - l) ≤ f ∧ u + uOf k (grp f (kd xs k) (kd ys l)) = uOf 0 (G xs ys) ∧ g + (grp f (kd xs k) (kd ys l)).length = (G xs ys).length ∧ t + tOf (grp f (kd xs k) (kd ys l)) = tOf (G xs ys)

theorem RS_start (xs ys : List Nat) : RS xs ys 0 0 0 0 0 := ⟨xs.length + ys.length, by omega, by simp [G], by simp [G], by simp [G]⟩

theorem RS_step {xs ys : List Nat} {k l u g t A B : Nat} {v : Int} (h : RS xs ys k l u g t) (hm : k < xs.length ∨ l < ys.length) (hv : v = vmin (kd xs k) (kd ys l)) (hA : A = run v (kd xs k)) (hB : B = run v (kd ys l)) :
    0 < A + B ∧ RS xs ys (k + A) (l + B) (u + B * (2 * k + A)) (g + 1) (t + ((A + B) * (A + B) * (A + B) - (A + B))) := by
  obtain ⟨f, hf, h1, h2, h3⟩ := h
  have hne : ¬ ((kd xs k).length = 0 ∧ (kd ys l).length = 0) := by simp only [kd_len]; omega
  have hmv := grp_moves _ _ hne
  rw [← hv, ← hA, ← hB] at hmv
  have e := grp_some f _ _ hne (by omega)
  rw [← hv, ← hA, ← hB, kd_drop, kd_drop] at e
  rw [e] at h1 h2 h3
  simp only [uOf, tOf, List.length_cons] at h1 h2 h3
  have ra := run_le v (kd xs k)
  have rb := run_le v (kd ys l)
  rw [kd_len, ← hA] at ra
  rw [kd_len, ← hB] at rb
  exact ⟨hmv, f - 1, by omega, by omega, by omega, by omega⟩

theorem RS_end {xs ys : List Nat} {k l u g t : Nat} (h : RS xs ys k l u g t) (hm : ¬ (k < xs.length ∨ l < ys.length)) : u = uOf 0 (G xs ys) ∧ g = (G xs ys).length ∧ t = tOf (G xs ys) := by
  obtain ⟨f, hf, h1, h2, h3⟩ := h
  rw [grp_none f (kd xs k) (kd ys l) (by simp only [kd_len]; omega)] at h1 h2 h3
  simp only [uOf, tOf, List.length_nil] at h1 h2 h3
  omega

theorem G_sums (xs ys : List Nat) : aSum (G xs ys) = xs.length ∧ bSum (G xs ys) = ys.length := by
  have := grp_sums (xs.length + ys.length) (kd xs 0) (kd ys 0) (by simp [kd_len])
  simpa [kd_len, G] using this

theorem G_bounds (xs ys : List Nat) (hn : xs.length ≤ 65536) (hm : ys.length ≤ 65536) : uOf 0 (G xs ys) ≤ 8589934592 ∧ (G xs ys).length ≤ 131072 ∧ tOf (G xs ys) ≤ 2251799813685248 := by
  obtain ⟨ha, hb⟩ := G_sums xs ys
  have h1 := uOf_le (G xs ys) 0
  have h2 := len_le (G xs ys) (grp_pos _ _ _)
  have h3 := tOf_le (G xs ys)
  rw [ha, hb] at h1 h2 h3
  have h4 : xs.length * ys.length ≤ 65536 * 65536 := Nat.mul_le_mul hn hm
  have h5 := cube_le (show xs.length + ys.length ≤ 131072 by omega)
  rw [Nat.zero_add] at h1
  omega

theorem RS_bounds {xs ys : List Nat} {k l u g t : Nat} (h : RS xs ys k l u g t) (hn : xs.length ≤ 65536) (hm : ys.length ≤ 65536) : u ≤ 8589934592 ∧ g ≤ 131072 ∧ t ≤ 2251799813685248 := by
  obtain ⟨f, hf, h1, h2, h3⟩ := h
  have := G_bounds xs ys hn hm
  omega

theorem farith (op : BinOp) {x y r : Nat} (h : floatBits op .f64 x y = some r) (w : World) : (binOp op 28 (.float .f64 x) (.float .f64 y)).run Try.prog w = .ok (.float .f64 r) w := run_float_arith w op 28 .f64 x y r h

/-- The sums of one group, exactly. -/
theorem rs_floats {k A B u t : Nat} (hk : k + A ≤ 65536) (hB : B ≤ 65536) (hu : u + B * (2 * k + A) ≤ 8589934592) (ht : t + ((A + B) * (A + B) * (A + B) - (A + B)) ≤ 2251799813685248) :
    ∃ f1 f2 f3 f4 f5 f6 f7 f8 f9 f10 : Nat, floatOfInt .f64 (B : Int) = f1 ∧ floatOfInt .f64 (k : Int) = f2 ∧ floatOfInt .f64 (A : Int) = f3 ∧
      floatBits .quo .f64 f3 4611686018427387904 = some f4 ∧ floatBits .add .f64 f2 f4 = some f5 ∧ floatBits .mul .f64 f1 f5 = some f6 ∧ floatBits .add .f64 (h2 u) f6 = some (h2 (u + B * (2 * k + A))) ∧
      floatOfInt .f64 ((A : Int) + (B : Int)) = f7 ∧ floatBits .mul .f64 f7 f7 = some f8 ∧ floatBits .mul .f64 f8 f7 = some f9 ∧ floatBits .sub .f64 f9 f7 = some f10 ∧
      floatBits .add .f64 (h2 (2 * t)) f10 = some (h2 (2 * (t + ((A + B) * (A + B) * (A + B) - (A + B))))) := by
  have hT : A + B ≤ 131072 := by omega
  have e7 : (A : Int) + (B : Int) = ((A + B : Nat) : Int) := by omega
  rw [e7]
  generalize A + B = T at *
  have c2 : T * T ≤ 131072 * 131072 := Nat.mul_le_mul hT hT
  have c3 := cube_le hT
  have c4 : T ≤ T * T * T := by
    by_cases h0 : T = 0
    · subst h0; simp
    · have : T * 1 ≤ T * T := Nat.mul_le_mul_left _ (by omega)
      have : T * T * 1 ≤ T * T * T := Nat.mul_le_mul_left _ (by omega)
      omega
  refine ⟨h2 (2 * B), h2 (2 * k), h2 (2 * A), h2 A, h2 (2 * k + A), h2 (B * (2 * k + A)), h2 (2 * T), h2 (2 * (T * T)), h2 (2 * (T * T * T)), h2 (2 * (T * T * T - T)), ?_, ?_, ?_, ?_, ?_, ?_, ?_, ?_, ?_, ?_, ?_, ?_⟩
  · exact ofInt_h2 (by omega)
  · exact ofInt_h2 (by omega)
  · exact ofInt_h2 (by omega)
  · exact div_h2 (by omega)
  · exact add_h2 (by omega)
  · exact mul_h2 (by omega) (by omega) (by omega)
  · exact add_h2 (by omega)
  · exact ofInt_h2 (by omega)
  · have := mul_h2 (a := T) (b := 2 * T) (by omega) (by omega) (by rw [Nat.mul_left_comm]; omega)
    rw [Nat.mul_left_comm] at this
    exact this
  · have := mul_h2 (a := T * T) (b := 2 * T) (by omega) (by omega) (by rw [Nat.mul_left_comm]; omega)
    rw [Nat.mul_left_comm (T * T) 2 T] at this
    exact this
  · have := sub_h2 (a := 2 * (T * T * T)) (b := 2 * T) (by omega) (by omega)
    rw [show 2 * (T * T * T) - 2 * T = 2 * (T * T * T - T) by omega] at this
    exact this
  · have := add_h2 (a := 2 * t) (b := 2 * (T * T * T - T)) (by omega)
    rw [show 2 * t + 2 * (T * T * T - T) = 2 * (t + (T * T * T - T)) by omega] at this
    exact this

end Go.Proofs.Qxb6602348a
