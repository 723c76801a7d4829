/-
  FnSortCountingFallsExact, PLAIN: the number of passes; the wanted scratch row, chunk by chunk. No Go in sight.
-/
import Derived.Test.Qxb6602348aSortMem
namespace Go.Proofs.Qxb6602348a
open Flt

/-- So many passes: the width has come to the length, and had not one pass before. -/
def PW (n p : Nat) : Prop := 0 < p → 32 * 2 ^ (p - 1) < n

theorem pass_le {n p p' : Nat} (h1 : n ≤ 32 * 2 ^ p) (h2 : PW n p') : p' ≤ p := by
  by_cases c : p' ≤ p
  · exact c
  · have h3 := h2 (by omega)
    have h4 : 2 ^ p ≤ 2 ^ (p' - 1) := Nat.pow_le_pow_right (by decide) (by omega)
    omega
theorem pass_one {n p p' : Nat} (h1 : n ≤ 32 * 2 ^ p) (h2 : PW n p) (h1' : n ≤ 32 * 2 ^ p') (h2' : PW n p') : p = p' := by
  have a := pass_le h1 h2'
  have b := pass_le h1' h2
  omega

/-- What the law wants of the scratch row. -/
theorem BUF_small {X Z Z' : List Nat} (h : BUF X Z Z') (hn : X.length ≤ 32) : Z' = Z := by
  obtain ⟨p, h1, h2, h3, _⟩ := h
  refine h3 ?_
  by_cases c : p = 0
  · exact c
  · have h4 := h2 (by omega)
    have h5 := Nat.two_pow_pos (p - 1)
    omega
theorem BUF_great {X Z Z' : List Nat} (h : BUF X Z Z') {p : Nat} (h1 : X.length ≤ 32 * 2 ^ p) (h2 : PW X.length p) (h0 : 0 < p) : CS (if p % 2 = 0 then 32 * 2 ^ (p - 1) else 32 * 2 ^ p) X Z' := by
  obtain ⟨p', h1', h2', h3', h4', h5', _⟩ := h
  obtain rfl := pass_one h1 h2 h1' h2'
  by_cases c : p % 2 = 0
  · rw [if_pos c]; exact h5' c h0
  · rw [if_neg c]; exact h4' (by omega)

def WANT (b : Nat) (X : List Nat) (m : Nat) (L : List Nat) : Prop := L.length = X.length ∧ ∀ k q, k < m → q < b → k * b + q < X.length → L.getD (k * b + q) 0 = (srt (chunk b X k)).getD q 0
def WIN (b : Nat) (X : List Nat) (m : Nat) (L0 : List Nat) (k : Nat) (L : List Nat) : Prop :=
  WANT b X m L0 ∧ L.length = X.length ∧ (∀ p, p < m * b → L.getD p 0 = L0.getD p 0) ∧ ∀ q, q < k → L.getD (m * b + q) 0 = (srt (chunk b X m)).getD q 0

theorem WANT_start (b : Nat) (X : List Nat) : WANT b X 0 (List.replicate X.length 0) := ⟨by simp, fun k q h => absurd h (by omega)⟩
theorem WIN_start {b : Nat} {X : List Nat} {m : Nat} {L0 : List Nat} (h : WANT b X m L0) : WIN b X m L0 0 L0 := ⟨h, h.1, fun _ _ => rfl, fun q hq => absurd hq (by omega)⟩
theorem WIN_step {b : Nat} {X : List Nat} {m : Nat} {L0 : List Nat} {k : Nat} {L : List Nat} (h : WIN b X m L0 k L) (hk : m * b + k < X.length) : WIN b X m L0 (k + 1) (L.set (m * b + k) ((srt (chunk b X m)).getD k 0)) := by
  obtain ⟨h1, h2, h3, h4⟩ := h
  refine ⟨h1, by simpa using h2, fun p hp => ?_, fun q hq => ?_⟩
  · rw [getD_set, if_neg (by omega)]; exact h3 p hp
  · rw [getD_set]
    by_cases e : q = k
    · rw [if_pos ⟨by omega, by omega⟩, e]
    · rw [if_neg (by omega)]; exact h4 q (by omega)
theorem WIN_end {b : Nat} {X : List Nat} {m : Nat} {L0 : List Nat} {k : Nat} {L : List Nat} (h : WIN b X m L0 k L) (hk : (chunk b X m).length ≤ k) : WANT b X (m + 1) L := by
  obtain ⟨h1, h2, h3, h4⟩ := h
  refine ⟨h2, fun j q hj hq hjq => ?_⟩
  by_cases c : j = m
  · rw [c] at hjq ⊢
    refine h4 q ?_
    rw [chunk_len] at hk
    omega
  · have : (j + 1) * b ≤ m * b := Nat.mul_le_mul_right _ (by omega)
    rw [Nat.add_mul, Nat.one_mul] at this
    rw [h3 _ (by omega)]
    exact h1.2 j q (by omega) hq hjq
theorem WANT_end {b : Nat} {X : List Nat} {m : Nat} {L : List Nat} (h : WANT b X m L) (hm : ¬ m * b < X.length) : CS b X L := by
  refine ⟨h.1, fun k q hq hkq => h.2 k q ?_ hq hkq⟩
  have : k * b < m * b := by omega
  exact Nat.lt_of_mul_lt_mul_right this

end Go.Proofs.Qxb6602348a
