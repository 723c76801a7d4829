/-
  Runs laid end to end, PLAIN: where each word comes to lie.
-/
import Derived.Test.Qxb6602348aKWay
namespace Go.Proofs.Qxb6602348a
open Flt

/-- How many words the first r runs have. -/
def cl (rss : List (List Nat)) (r : Nat) : Nat := (catN (fun q => rss.getD q []) r).length
theorem cl_zero (rss : List (List Nat)) : cl rss 0 = 0 := rfl
theorem cl_succ (rss : List (List Nat)) (r : Nat) : cl rss (r + 1) = cl rss r + (rss.getD r []).length := by
  show (catN _ r ++ _).length = _
  rw [List.length_append]; rfl
theorem cl_all (rss : List (List Nat)) : cl rss rss.length = (allR rss).length := rfl
theorem cl_le (rss : List (List Nat)) {r k : Nat} (h : r ≤ k) : cl rss r ≤ cl rss k := by
  induction k with
  | zero => rw [show r = 0 by omega]; exact Nat.le_refl _
  | succ k ih =>
    by_cases c : r = k + 1
    · subst c; exact Nat.le_refl _
    · rw [cl_succ]; have := ih (by omega); omega
theorem cl_in (rss : List (List Nat)) {r i : Nat} (hr : r < rss.length) (hi : i < (rss.getD r []).length) : cl rss r + i < (allR rss).length := by
  have := cl_le rss (show r + 1 ≤ rss.length by omega)
  rw [cl_succ, cl_all] at this
  omega
theorem cat_get (rss : List (List Nat)) {r i : Nat} (hi : i < (rss.getD r []).length) : ∀ k, r < k → (catN (fun q => rss.getD q []) k).getD (cl rss r + i) 0 = (rss.getD r []).getD i 0 := by
  intro k
  induction k with
  | zero => intro h; omega
  | succ k ih =>
    intro h
    rw [catN, getD_append]
    have hk : (catN (fun q => rss.getD q []) k).length = cl rss k := rfl
    by_cases c : r = k
    · subst c
      rw [if_neg (by omega), hk]
      congr 1
      omega
    · have := cl_le rss (show r + 1 ≤ k by omega)
      rw [cl_succ] at this
      rw [if_pos (by omega)]
      exact ih (by omega)
theorem allR_get (rss : List (List Nat)) {r i : Nat} (hr : r < rss.length) (hi : i < (rss.getD r []).length) : (allR rss).getD (cl rss r + i) 0 = (rss.getD r []).getD i 0 := cat_get rss hi _ hr

/-- The first k words of L are those of the runs. -/
def FILL (rss : List (List Nat)) (L : List Nat) (k : Nat) : Prop := ∀ j, j < k → L.getD j 0 = (allR rss).getD j 0
theorem FILL_step {rss : List (List Nat)} {L : List Nat} {r i : Nat} (h : FILL rss L (cl rss r + i)) (hr : r < rss.length) (hi : i < (rss.getD r []).length) (hl : L.length = (allR rss).length) : FILL rss (L.set (cl rss r + i) ((rss.getD r []).getD i 0)) (cl rss r + i + 1) := by
  intro j hj
  have := cl_in rss hr hi
  rw [getD_setN]
  by_cases c : cl rss r + i = j
  · subst c; rw [if_pos ⟨rfl, by omega⟩, allR_get rss hr hi]
  · rw [if_neg (by omega)]; exact h j (by omega)
theorem FILL_end {rss : List (List Nat)} {L : List Nat} (h : FILL rss L (cl rss rss.length)) (hl : L.length = (allR rss).length) : L = allR rss :=
  ext_getD hl fun j hj => h j (by rw [cl_all]; omega)
theorem allR_num {rss : List (List Nat)} (h : ∀ r, r < rss.length → ∀ a ∈ rss.getD r [], nan a = false) : ∀ a ∈ allR rss, nan a = false := by
  intro a ha
  obtain ⟨q, hq, ha⟩ := catN_mem.1 ha
  exact h q hq a ha

end Go.Proofs.Qxb6602348a
