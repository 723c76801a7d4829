/-
  RANKS, PLAIN: each word's rank is its place in the stable sort. No Go in sight.
-/
import Derived.Test.Qxb6602348aSrtParts
import Derived.Test.Qxb6602348aRevParts
namespace Go.Proofs.Qxb6602348a
open Flt

/-- Does word q count for word i? -/
def rc (X : List Nat) (i q : Nat) : Bool := decide (key (X.getD q 0) < key (X.getD i 0)) || (decide (q < i) && decide (key (X.getD q 0) = key (X.getD i 0)))
/-- The rank so far. -/
def rks (X : List Nat) (i j : Nat) : Nat := sm j fun q => (rc X i q).toNat
def rk (X : List Nat) (i : Nat) : Nat := rks X i X.length

theorem rks_eq (X : List Nat) {i j : Nat} (_hi : i < X.length) (hj : j ≤ X.length) : rks X i j = below (X.getD i 0) (X.take j) + cnt (key (X.getD i 0)) ((X.take (min j i)).map key) := by
  induction j with
  | zero => simp [rks, sm, below, cnt]
  | succ j ih =>
    have e : rks X i (j + 1) = rks X i j + (rc X i j).toNat := rfl
    rw [e, ih (by omega), take_snoc (by omega), below_append]
    simp only [below, Nat.add_zero]
    by_cases c : j < i
    · rw [show min (j + 1) i = j + 1 by omega, show min j i = j by omega, take_snoc (by omega), List.map_append, cnt_append]
      simp only [List.map_cons, List.map_nil, cnt, Nat.add_zero, rc]
      by_cases c1 : key (X.getD j 0) < key (X.getD i 0)
      · rw [if_pos c1, if_neg (by omega), decide_eq_true c1]; simp; omega
      · by_cases c2 : key (X.getD j 0) = key (X.getD i 0)
        · rw [if_neg c1, if_pos c2, decide_eq_false c1, decide_eq_true c2, decide_eq_true c]; simp; omega
        · rw [if_neg c1, if_neg c2, decide_eq_false c1, decide_eq_false c2]; simp
    · rw [show min (j + 1) i = i by omega, show min j i = i by omega]
      simp only [rc]
      rw [decide_eq_false c]
      by_cases c1 : key (X.getD j 0) < key (X.getD i 0)
      · rw [if_pos c1, decide_eq_true c1]; simp; omega
      · rw [if_neg c1, decide_eq_false c1]; simp

theorem rk_eq (X : List Nat) {i : Nat} (hi : i < X.length) : rk X i = below (X.getD i 0) X + cnt (key (X.getD i 0)) ((X.take i).map key) := by
  rw [rk, rks_eq X hi (Nat.le_refl _), List.take_of_length_le (Nat.le_refl _), show min X.length i = i by omega]

theorem up_pos (v : Nat) {T : List Nat} (h : Up T) : ∃ j, j ≤ T.length ∧ (∀ q, q < j → key (T.getD q 0) ≤ key v) ∧ (∀ q, j ≤ q → q < T.length → key v < key (T.getD q 0)) := by
  induction T with
  | nil => exact ⟨0, by simp, fun q hq => absurd hq (by omega), fun q _ hq => by simp at hq⟩
  | cons x r ih =>
    by_cases c : key v < key x
    · refine ⟨0, by simp, fun q hq => absurd hq (by omega), fun q _ hq => ?_⟩
      cases q with
      | zero => exact c
      | succ q =>
        have := h.get (i := 0) (j := q + 1) (by omega) hq
        simp only [getD_cons_zero] at this
        omega
    · obtain ⟨j, h1, h2, h3⟩ := ih (List.Pairwise.tail h)
      refine ⟨j + 1, by simpa using h1, fun q hq => ?_, fun q a b => ?_⟩
      · cases q with
        | zero => rw [getD_cons_zero]; omega
        | succ q => rw [getD_cons_succ]; exact h2 q (by omega)
      · cases q with
        | zero => omega
        | succ q => rw [getD_cons_succ]; exact h3 q (by omega) (by simpa using b)

/-- THE RANK IS THE PLACE, and every place is someone's rank. -/
theorem rank_place (X : List Nat) : (∀ i, i < X.length → rk X i < X.length ∧ (srt X).getD (rk X i) 0 = X.getD i 0) ∧ ∀ q, q < X.length → ∃ i, i < X.length ∧ rk X i = q := by
  have main : ∀ n, ∀ X : List Nat, X.length = n → (∀ i, i < X.length → rk X i < X.length ∧ (srt X).getD (rk X i) 0 = X.getD i 0) ∧ ∀ q, q < X.length → ∃ i, i < X.length ∧ rk X i = q := by
    intro n
    induction n with
    | zero => intro X hX; exact ⟨fun i hi => absurd hi (by omega), fun q hq => absurd hq (by omega)⟩
    | succ n ih =>
      intro X hX
      obtain ⟨L, v, rfl, hL⟩ : ∃ L v, X = L ++ [v] ∧ L.length = n := by
        refine ⟨X.take n, X.getD n 0, ?_, by simp; omega⟩
        rw [← take_snoc (by omega), List.take_of_length_le (by omega)]
      obtain ⟨ih1, ih2⟩ := ih L hL
      obtain ⟨j, hj, h1, h2⟩ := up_pos v (srt_up L)
      have hins := ins_get (v := v) hj h1 h2
      have hab := above_at (v := v) hj h1 h2
      rw [srt_length] at hj hab h2
      rw [above_srt] at hab
      have hlen : (L ++ [v]).length = n + 1 := by simp [hL]
      have hold : ∀ i, i < n → (L ++ [v]).getD i 0 = L.getD i 0 := fun i hi => by rw [getD_append, if_pos (by omega)]
      have hnew : (L ++ [v]).getD n 0 = v := by rw [getD_append, if_neg (by omega), hL, Nat.sub_self]; rfl
      have rold : ∀ i, i < n → rk (L ++ [v]) i = rk L i + (if key v < key (L.getD i 0) then 1 else 0) := fun i hi => by
        rw [rk_eq _ (by omega), rk_eq L (by omega), hold i hi, below_append, List.take_append_of_le_length (by omega)]
        simp only [below]
        omega
      have rnew : rk (L ++ [v]) n = j := by
        rw [rk_eq _ (by omega), hnew, below_append, List.take_append_of_le_length (by omega), List.take_of_length_le (by omega)]
        have := three v L
        simp only [below]
        rw [if_neg (by omega)]
        omega
      rw [srt_snoc]
      refine ⟨fun i hi => ?_, fun q hq => ?_⟩
      · by_cases c : i = n
        · subst c
          rw [rnew, hnew, hins, if_neg (by omega), if_pos rfl]
          exact ⟨by omega, rfl⟩
        · have hi' : i < n := by omega
          obtain ⟨g1, g2⟩ := ih1 i (by omega)
          rw [rold i hi', hold i hi', hins]
          by_cases c2 : key v < key (L.getD i 0)
          · have : ¬ rk L i < j := fun h => by have := h1 _ h; rw [g2] at this; omega
            rw [if_pos c2, if_neg (by omega), if_neg (by omega), Nat.add_sub_cancel]
            exact ⟨by omega, g2⟩
          · have : rk L i < j := by
              by_cases h : rk L i < j
              · exact h
              · have := h2 _ (by omega) g1; rw [g2] at this; omega
            rw [if_neg c2, Nat.add_zero, if_pos this]
            exact ⟨by omega, g2⟩
      · by_cases c : q = j
        · exact ⟨n, by omega, by rw [rnew, c]⟩
        · by_cases c2 : q < j
          · obtain ⟨i, hi, e⟩ := ih2 q (by omega)
            refine ⟨i, by omega, ?_⟩
            have g2 := (ih1 i hi).2
            rw [rold i (by omega), e, if_neg, Nat.add_zero]
            rw [← g2, e]
            have := h1 q c2
            omega
          · obtain ⟨i, hi, e⟩ := ih2 (q - 1) (by omega)
            refine ⟨i, by omega, ?_⟩
            have g2 := (ih1 i hi).2
            rw [rold i (by omega), e, if_pos]
            · omega
            · rw [← g2, e]
              exact h2 (q - 1) (by omega) (by omega)
  exact main _ X rfl

/-- The row that is filled rank by rank. -/
def RK (X : List Nat) (i : Nat) (out : List Nat) : Prop := out.length = X.length ∧ ∀ k, k < i → k < X.length → out.getD (rk X k) 0 = (srt X).getD (rk X k) 0

theorem RK_start (X : List Nat) : RK X 0 (List.replicate X.length 0) := ⟨by simp, fun k hk => absurd hk (by omega)⟩
theorem RK_step {X : List Nat} {i : Nat} {out : List Nat} (h : RK X i out) (hi : i < X.length) : RK X (i + 1) (out.set (rk X i) (X.getD i 0)) := by
  obtain ⟨h1, h2⟩ := (rank_place X).1 i hi
  refine ⟨by simpa using h.1, fun k hk hk' => ?_⟩
  rw [getD_set]
  by_cases e : rk X i = rk X k
  · rw [if_pos ⟨e, by rw [← e, h.1]; exact h1⟩, ← e, h2]
  · rw [if_neg (by omega)]
    refine h.2 k ?_ hk'
    by_cases c : k = i
    · subst c; exact absurd rfl e
    · omega
theorem RK_end {X : List Nat} {i : Nat} {out : List Nat} (h : RK X i out) (hi : X.length ≤ i) : out = srt X := by
  refine ext_getD (by rw [h.1, srt_length]) (fun q hq => ?_)
  obtain ⟨k, hk, rfl⟩ := (rank_place X).2 q (by rw [← h.1]; exact hq)
  exact h.2 k (by omega) hk

/-- Pairs out of order, counted row by row: what is left. -/
theorem inv_drop {X : List Nat} {i : Nat} (h : i < X.length) : inv (X.drop i) = below (X.getD i 0) (X.drop (i + 1)) + inv (X.drop (i + 1)) := by
  rw [drop_cons h]; rfl
theorem below_drop {X : List Nat} {v j : Nat} (h : j < X.length) : below v (X.drop j) = (if key (X.getD j 0) < key v then 1 else 0) + below v (X.drop (j + 1)) := by
  rw [drop_cons h]; rfl
/-- The inner loop. -/
def IV (X : List Nat) (i j t : Nat) : Prop := t + below (X.getD i 0) (X.drop j) + inv (X.drop (i + 1)) = inv X
def InvO (X : List Nat) (i t : Nat) : Prop := t + inv (X.drop i) = inv X
theorem InvO_start (X : List Nat) : InvO X 0 0 := by unfold InvO; simp
theorem InvO_in {X : List Nat} {i t : Nat} (h : InvO X i t) (hi : i < X.length) : IV X i (i + 1) t := by
  unfold InvO at h; unfold IV; rw [inv_drop hi] at h; omega
theorem IV_yes {X : List Nat} {i j t : Nat} (h : IV X i j t) (hj : j < X.length) (hk : key (X.getD j 0) < key (X.getD i 0)) : IV X i (j + 1) (t + 1) := by
  unfold IV at h ⊢; rw [below_drop hj, if_pos hk] at h; omega
theorem IV_no {X : List Nat} {i j t : Nat} (h : IV X i j t) (hj : j < X.length) (hk : ¬ key (X.getD j 0) < key (X.getD i 0)) : IV X i (j + 1) t := by
  unfold IV at h ⊢; rw [below_drop hj, if_neg hk] at h; omega
theorem IV_out {X : List Nat} {i j t : Nat} (h : IV X i j t) (hj : X.length ≤ j) : InvO X (i + 1) t := by
  unfold IV at h; unfold InvO; rw [List.drop_eq_nil_of_le hj] at h; simp only [below] at h; omega
theorem IV_bd {X : List Nat} {i j t : Nat} (h : IV X i j t) : t ≤ X.length * X.length := by
  have := inv_le X
  unfold IV at h; omega
theorem InvO_end {X : List Nat} {i t : Nat} (h : InvO X i t) (hi : X.length ≤ i) : t = inv X := by
  unfold InvO at h; rw [List.drop_eq_nil_of_le hi] at h; simp only [inv] at h; omega

end Go.Proofs.Qxb6602348a
