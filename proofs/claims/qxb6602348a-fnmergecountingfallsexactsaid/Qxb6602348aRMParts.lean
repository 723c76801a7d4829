/-
  FnRankSumAgreesWithMerge, PLAIN: u and the falls of the two orders; the two merges have the same keys; the floats are exact.
-/
import Derived.Test.Qxb6602348aExParts
import Derived.Test.Qxb6602348aRevParts
import Derived.Test.Qxb6602348aKWay
namespace Go.Proofs.Qxb6602348a
open Flt

/-- The right side of an or, carried on. -/
theorem orR {a b c : Prop} (h : a ∨ b) (f : b → c) : a ∨ c := by
  rcases h with h | h
  · exact Or.inl h
  · exact Or.inr (f h)
theorem ltc_above (a : Nat) (Y : List Nat) : ltc (key a) (Y.map key) = above a Y := by
  induction Y with
  | nil => rfl
  | cons y r ih => simp only [List.map_cons, ltc, above, ih]
theorem Lt_cross (X Y : List Nat) : Lt (X.map key) (Y.map key) = cross Y X := by
  induction X with
  | nil => rw [List.map_nil, Lt, cross_nil]
  | cons a r ih => rw [List.map_cons, Lt, cross_cons, ih, ltc_above]
theorem cross_three (X Y : List Nat) : cross X Y + cross Y X + Eqs (X.map key) (Y.map key) = X.length * Y.length := by
  induction X with
  | nil => simp [cross, cross_nil, Eqs]
  | cons a r ih =>
    have h1 : cross (a :: r) Y = below a Y + cross r Y := rfl
    have h2 := three a Y
    rw [h1, cross_cons, List.map_cons, Eqs, List.length_cons, Nat.add_mul]
    omega

theorem good_up {xs : List Nat} (h : Good xs xs.length) : Up xs := by
  have := Asc_of h
  unfold Asc kd at this
  rw [List.drop_zero, List.pairwise_map] at this
  exact this

theorem allR_two (xs ys : List Nat) : allR [xs, ys] = xs ++ ys := by simp [allR, catN]

/-- u, twice, beside the falls of either order. -/
theorem rm_u {xs ys : List Nat} (hx : Good xs xs.length) (hy : Good ys ys.length) : uOf 0 (G xs ys) + inv (xs ++ ys) = xs.length * ys.length + inv (ys ++ xs) := by
  rw [(G_exact hx hy).1]
  have e1 : kd xs 0 = xs.map key := by simp [kd]
  have e2 : kd ys 0 = ys.map key := by simp [kd]
  rw [e1, e2, Lt_cross, inv_append, inv_append, inv_up (good_up hx), inv_up (good_up hy)]
  have := cross_three xs ys
  omega

theorem srtI_comm (S A B : List Int) : srtI (srtI S A) B = srtI (srtI S B) A := by
  induction A generalizing S with
  | nil => rfl
  | cons a r ih => rw [srtI_cons, ih, srtI_cons, srtI_ins]
theorem srtI_append (S A B : List Int) : srtI S (A ++ B) = srtI (srtI S A) B := by simp [srtI, List.foldl_append]
theorem keys_swap (A B : List Nat) : (srt (A ++ B)).map key = (srt (B ++ A)).map key := by
  unfold srt
  rw [map_srtOn, map_srtOn, List.map_append, List.map_append, srtI_append, srtI_append, srtI_comm]
theorem key_swap {A B : List Nat} {i : Nat} (h : i < A.length + B.length) : key ((srt (A ++ B)).getD i 0) = key ((srt (B ++ A)).getD i 0) := by
  have e := congrArg (fun L => L[i]?) (keys_swap A B)
  have h1 : i < (srt (A ++ B)).length := by rw [srt_length, List.length_append]; omega
  have h2 : i < (srt (B ++ A)).length := by rw [srt_length, List.length_append]; omega
  simp only [List.getElem?_map, List.getElem?_eq_getElem h1, List.getElem?_eq_getElem h2, Option.map_some, Option.some.injEq] at e
  rw [List.getD_eq_getElem?_getD, List.getD_eq_getElem?_getD, List.getElem?_eq_getElem h1, List.getElem?_eq_getElem h2]
  exact e

theorem up_step {L : List Nat} (h : Up L) {i : Nat} (h0 : 0 < i) (hi : i < L.length) : ¬ key (L.getD i 0) < key (L.getD (i - 1) 0) := by
  have := List.pairwise_iff_getElem.1 h (i - 1) i (by omega) hi (by omega)
  rw [List.getD_eq_getElem?_getD, List.getD_eq_getElem?_getD, List.getElem?_eq_getElem hi, List.getElem?_eq_getElem (by omega : i - 1 < L.length)]
  show ¬ key L[i] < key L[i - 1]
  omega



/-- The floats of the last test, exactly. -/
theorem rm_floats {n m U f g : Nat} (hn : n ≤ 65536) (hm : m ≤ 65536) (hf : f ≤ 8589934592) (hg : g ≤ 8589934592) (hU : U ≤ 8589934592) (e : U + f = n * m + g) :
    ∃ a b c d s t r : Nat, floatOfInt .f64 (n : Int) = a ∧ floatOfInt .f64 (m : Int) = b ∧ floatBits .mul .f64 a b = some c ∧ floatOfInt .f64 (g : Int) = d ∧ floatBits .add .f64 c d = some s ∧ floatOfInt .f64 (f : Int) = t ∧ floatBits .sub .f64 s t = some r ∧
      floatBits .mul .f64 4611686018427387904 (h2 U) = some r ∧ (FloatKind.f64.format.order r r == some .eq) = true := by
  have hnm : n * m ≤ 65536 * 65536 := Nat.mul_le_mul hn hm
  refine ⟨h2 (2 * n), h2 (2 * m), h2 (2 * (n * m)), h2 (2 * g), h2 (2 * (n * m) + 2 * g), h2 (2 * f), h2 (2 * U), ofInt_h2 (by omega), ofInt_h2 (by omega), ?_, ofInt_h2 (by omega), add_h2 (by omega), ofInt_h2 (by omega), ?_, ?_, ?_⟩
  · have := mul_h2 (a := n) (b := 2 * m) (by omega) (by omega) (by rw [Nat.mul_left_comm]; omega)
    rw [Nat.mul_left_comm n 2 m] at this
    exact this
  · have := sub_h2 (a := 2 * (n * m) + 2 * g) (b := 2 * f) (by omega) (by omega)
    rw [show 2 * (n * m) + 2 * g - 2 * f = 2 * U by omega] at this
    exact this
  · have := mul_h2 (a := 2) (b := U) (by omega) (by omega) (by omega)
    rw [show (2 * 2 : Nat) = 4 from rfl, h2_four] at this
    exact this
  · rw [order_eq (by omega) (by omega) rfl]; rfl

end Go.Proofs.Qxb6602348a
