/-
  sortCountingFalls, PLAIN: what holds at each loop's head, place by place. No Go in sight.
-/
import Derived.Test.Qxb6602348aSrt
namespace Go.Proofs.Qxb6602348a
open Flt

theorem getD_set (L : List Nat) (i j v : Nat) : (L.set i v).getD j 0 = if i = j ∧ j < L.length then v else L.getD j 0 := by
  by_cases hj : j < L.length
  · by_cases e : i = j
    · subst e; simp [hj]
    · simp [e]
  · simp [hj]
theorem getD_append (L M : List Nat) (i : Nat) : (L ++ M).getD i 0 = if i < L.length then L.getD i 0 else M.getD (i - L.length) 0 := by
  by_cases h : i < L.length
  · simp [List.getElem?_append, h]
  · simp [List.getElem?_append, h]
theorem getD_drop (L : List Nat) (k i : Nat) : (L.drop k).getD i 0 = L.getD (k + i) 0 := by simp
theorem getD_take (L : List Nat) (k i : Nat) : (L.take k).getD i 0 = if i < k then L.getD i 0 else 0 := by
  by_cases h : i < k
  · simp [h]
  · simp [List.getElem?_take, h]
theorem getD_cons_zero (a : Nat) (L : List Nat) : (a :: L).getD 0 0 = a := rfl
theorem getD_cons_succ (a : Nat) (L : List Nat) (i : Nat) : (a :: L).getD (i + 1) 0 = L.getD i 0 := by simp
theorem ext_getD {L M : List Nat} (h : L.length = M.length) (e : ∀ i, i < L.length → L.getD i 0 = M.getD i 0) : L = M := by
  apply List.ext_getElem h
  intro i h1 h2
  have := e i h1
  simpa [h1, h2] using this
theorem getD_mem {L : List Nat} {i : Nat} (h : i < L.length) : L.getD i 0 ∈ L := by
  simp [h]
theorem drop_cons {L : List Nat} {i : Nat} (h : i < L.length) : L.drop i = L.getD i 0 :: L.drop (i + 1) := by
  rw [List.drop_eq_getElem_cons h]; simp [h]
theorem take_snoc {L : List Nat} {i : Nat} (h : i < L.length) : L.take (i + 1) = L.take i ++ [L.getD i 0] := by
  rw [List.take_succ_eq_append_getElem h]; simp [h]

/-- Sorted: by places. -/
theorem Up.get {L : List Nat} (h : Up L) {i j : Nat} (hij : i < j) (hj : j < L.length) : key (L.getD i 0) ≤ key (L.getD j 0) := by
  have := List.pairwise_iff_getElem.1 h i j (by omega) hj hij
  simpa [show i < L.length by omega, hj] using this
theorem Up.drop {L : List Nat} (h : Up L) (k : Nat) : Up (L.drop k) := List.Pairwise.sublist (List.drop_sublist k L) h

/-- Where v goes in. -/
theorem ins_at {v : Nat} {S : List Nat} {j : Nat} (hj : j ≤ S.length) (h1 : ∀ q, q < j → key (S.getD q 0) ≤ key v) (h2 : ∀ q, j ≤ q → q < S.length → key v < key (S.getD q 0)) : ins v S = S.take j ++ v :: S.drop j := by
  induction S generalizing j with
  | nil => simp at hj; subst hj; rfl
  | cons x r ih =>
    cases j with
    | zero =>
      have := h2 0 (by omega) (by simp)
      simp only [getD_cons_zero] at this
      simp [ins, this]
    | succ j =>
      have := h1 0 (by omega)
      simp only [getD_cons_zero] at this
      simp only [ins]
      rw [if_neg (by omega), ih (j := j) (by simpa using hj) (fun q hq => by have := h1 (q + 1) (by omega); simpa using this) (fun q hq hq' => by have := h2 (q + 1) (by omega) (by simpa using hq'); simpa using this)]
      simp
theorem ins_get {v : Nat} {S : List Nat} {j : Nat} (hj : j ≤ S.length) (h1 : ∀ q, q < j → key (S.getD q 0) ≤ key v) (h2 : ∀ q, j ≤ q → q < S.length → key v < key (S.getD q 0)) (q : Nat) :
    (ins v S).getD q 0 = if q < j then S.getD q 0 else if q = j then v else S.getD (q - 1) 0 := by
  rw [ins_at hj h1 h2, getD_append]
  have hl : (S.take j).length = j := by simp; omega
  rw [hl]
  by_cases c : q < j
  · rw [if_pos c, if_pos c, getD_take, if_pos c]
  · rw [if_neg c, if_neg c]
    by_cases e : q = j
    · rw [if_pos e, e, Nat.sub_self]; rfl
    · rw [if_neg e]
      obtain ⟨d, rfl⟩ : ∃ d, q = j + d + 1 := ⟨q - j - 1, by omega⟩
      rw [show j + d + 1 - j = d + 1 by omega, getD_cons_succ, getD_drop, show j + d + 1 - 1 = j + d by omega]
theorem above_at {v : Nat} {S : List Nat} {j : Nat} (hj : j ≤ S.length) (h1 : ∀ q, q < j → key (S.getD q 0) ≤ key v) (h2 : ∀ q, j ≤ q → q < S.length → key v < key (S.getD q 0)) : above v S = S.length - j := by
  induction S generalizing j with
  | nil => simp [above]
  | cons x r ih =>
    cases j with
    | zero =>
      rw [above_all]
      · simp
      · intro a ha
        obtain ⟨q, hq, rfl⟩ := List.mem_iff_getElem.1 ha
        have := h2 q (by omega) hq
        rw [List.getD_eq_getElem?_getD, List.getElem?_eq_getElem hq] at this
        exact this
    | succ j =>
      have := h1 0 (by omega)
      simp only [getD_cons_zero] at this
      simp only [above]
      rw [if_neg (by omega), ih (j := j) (by simpa using hj) (fun q hq => by have := h1 (q + 1) (by omega); simpa using this) (fun q hq hq' => by have := h2 (q + 1) (by omega) (by simpa using hq'); simpa using this)]
      simp

/-! ### Chunks -/

def chunk (w : Nat) (X : List Nat) (k : Nat) : List Nat := (X.drop (k * w)).take w
theorem chunk_len (w : Nat) (X : List Nat) (k : Nat) : (chunk w X k).length = min w (X.length - k * w) := by simp [chunk]
theorem chunk_get (w : Nat) (X : List Nat) (k q : Nat) (h : q < w) : (chunk w X k).getD q 0 = X.getD (k * w + q) 0 := by
  rw [chunk, getD_take, if_pos h, getD_drop]
theorem chunk_mem {w : Nat} {X : List Nat} {k a : Nat} (h : a ∈ chunk w X k) : a ∈ X := List.mem_of_mem_drop (List.mem_of_mem_take h)
theorem chunk_two (w : Nat) (X : List Nat) (k : Nat) : chunk (2 * w) X k = chunk w X (2 * k) ++ chunk w X (2 * k + 1) := by
  unfold chunk
  rw [show 2 * w = w + w by omega, List.take_add, List.drop_drop, show k * (w + w) = 2 * k * w by grind, show 2 * k * w + w = (2 * k + 1) * w by grind]
theorem chunk_nil {w : Nat} {X : List Nat} {k : Nat} (h : X.length ≤ k * w) : chunk w X k = [] := by
  unfold chunk; rw [List.drop_eq_nil_of_le h, List.take_nil]

def sm : Nat → (Nat → Nat) → Nat
  | 0, _ => 0
  | m + 1, f => sm m f + f m

/-- EACH CHUNK SORTED. -/
def CS (w : Nat) (X L : List Nat) : Prop := L.length = X.length ∧ ∀ k q, q < w → k * w + q < X.length → L.getD (k * w + q) 0 = (srt (chunk w X k)).getD q 0
/-- The falls within the chunks. -/
def FLs (w : Nat) (X : List Nat) (fl : Nat) : Prop := ∀ M, X.length ≤ M * w → fl = sm M fun k => inv (chunk w X k)

theorem sm_far {w : Nat} {X : List Nat} {m d : Nat} (h : X.length ≤ m * w) : sm (m + d) (fun k => inv (chunk w X k)) = sm m fun k => inv (chunk w X k) := by
  induction d with
  | zero => rfl
  | succ d ih =>
    have : X.length ≤ (m + d) * w := Nat.le_trans h (Nat.mul_le_mul_right _ (by omega))
    show sm (m + d) _ + inv (chunk w X (m + d)) = _
    rw [ih, chunk_nil this]
    rfl
theorem FLs_of {w : Nat} {X : List Nat} {m fl : Nat} (h : X.length ≤ m * w) (e : fl = sm m fun k => inv (chunk w X k)) : FLs w X fl := by
  intro M hM
  rw [e]
  by_cases c : m ≤ M
  · obtain ⟨d, rfl⟩ : ∃ d, M = m + d := ⟨M - m, by omega⟩
    exact (sm_far h).symm
  · obtain ⟨d, rfl⟩ : ∃ d, m = M + d := ⟨m - M, by omega⟩
    exact sm_far hM
theorem CS_ext {w : Nat} {X L L' : List Nat} (hw : 0 < w) (h : CS w X L) (h' : CS w X L') : L = L' := by
  refine ext_getD (h.1.trans h'.1.symm) (fun i hi => ?_)
  have e : i / w * w + i % w = i := by rw [Nat.mul_comm]; exact Nat.div_add_mod i w
  have h1 := h.2 (i / w) (i % w) (Nat.mod_lt _ hw) (by rw [e]; have := h.1; omega)
  have h2 := h'.2 (i / w) (i % w) (Nat.mod_lt _ hw) (by rw [e]; have := h.1; omega)
  rw [e] at h1 h2
  rw [h1, h2]
theorem CS_whole {w : Nat} {X L : List Nat} (hw : X.length ≤ w) (h : CS w X L) : L = srt X := by
  have e : chunk w X 0 = X := by unfold chunk; rw [Nat.zero_mul, List.drop_zero, List.take_of_length_le hw]
  refine ext_getD (by rw [h.1, srt_length]) (fun i hi => ?_)
  have := h.2 0 i (by have := h.1; omega) (by have := h.1; omega)
  rw [e, Nat.zero_mul, Nat.zero_add] at this
  exact this
theorem FLs_whole {w : Nat} {X : List Nat} {fl : Nat} (hw : X.length ≤ w) (h : FLs w X fl) : fl = inv X := by
  have := h 1 (by omega)
  have e : chunk w X 0 = X := by unfold chunk; rw [Nat.zero_mul, List.drop_zero, List.take_of_length_le hw]
  rw [this]
  show 0 + inv (chunk w X 0) = _
  rw [e, Nat.zero_add]

/-! ### The runs, sorted by insertion -/

def INS (X : List Nat) (m : Nat) (L : List Nat) (fl : Nat) : Prop :=
  L.length = X.length ∧ (∀ k q, k < m → q < 32 → k * 32 + q < X.length → L.getD (k * 32 + q) 0 = (srt (chunk 32 X k)).getD q 0) ∧ (∀ p, m * 32 ≤ p → p < X.length → L.getD p 0 = X.getD p 0) ∧ fl = sm m fun k => inv (chunk 32 X k)
/-- i words of the run are sorted. -/
def MID (X : List Nat) (m : Nat) (L0 : List Nat) (F0 i : Nat) (L : List Nat) (fl : Nat) : Prop :=
  INS X m L0 F0 ∧ L.length = X.length ∧ (∀ p, p < m * 32 ∨ m * 32 + (chunk 32 X m).length ≤ p → L.getD p 0 = L0.getD p 0) ∧ (∀ q, q < i → L.getD (m * 32 + q) 0 = (srt ((chunk 32 X m).take i)).getD q 0) ∧
    (∀ q, i ≤ q → q < (chunk 32 X m).length → L.getD (m * 32 + q) 0 = (chunk 32 X m).getD q 0) ∧ fl = F0 + inv ((chunk 32 X m).take i) ∧ 1 ≤ i ∧ i ≤ (chunk 32 X m).length
/-- The i-th word goes down; place j is free. -/
def INN (X : List Nat) (m : Nat) (L0 : List Nat) (F0 i fl j : Nat) (L : List Nat) : Prop :=
  INS X m L0 F0 ∧ L.length = X.length ∧ (∀ p, p < m * 32 ∨ m * 32 + (chunk 32 X m).length ≤ p → L.getD p 0 = L0.getD p 0) ∧ (∀ q, q < j → L.getD (m * 32 + q) 0 = (srt ((chunk 32 X m).take i)).getD q 0) ∧
    (∀ q, j ≤ q → q < i → L.getD (m * 32 + (q + 1)) 0 = (srt ((chunk 32 X m).take i)).getD q 0) ∧ (∀ q, i < q → q < (chunk 32 X m).length → L.getD (m * 32 + q) 0 = (chunk 32 X m).getD q 0) ∧
    (∀ q, j ≤ q → q < i → key ((chunk 32 X m).getD i 0) < key ((srt ((chunk 32 X m).take i)).getD q 0)) ∧ fl = F0 + inv ((chunk 32 X m).take i) ∧ j ≤ i ∧ 1 ≤ i ∧ i < (chunk 32 X m).length

theorem INS_start (X : List Nat) : INS X 0 X 0 := ⟨rfl, fun k q h => absurd h (by omega), fun _ _ _ => rfl, rfl⟩

theorem MID_start {X : List Nat} {m : Nat} {L0 : List Nat} {F0 : Nat} (h : INS X m L0 F0) (hm : m * 32 < X.length) : MID X m L0 F0 1 L0 F0 := by
  have hl := chunk_len 32 X m
  have hc : ∀ q, q < (chunk 32 X m).length → L0.getD (m * 32 + q) 0 = (chunk 32 X m).getD q 0 := fun q hq => by
    rw [chunk_get 32 X m q (by omega), h.2.2.1 (m * 32 + q) (by omega) (by omega)]
  have e1 : (chunk 32 X m).take 1 = [(chunk 32 X m).getD 0 0] := by rw [take_snoc (by omega)]; simp
  refine ⟨h, h.1, fun _ _ => rfl, fun q hq => ?_, fun q _ hq => hc q hq, ?_, by omega, by omega⟩
  · obtain rfl : q = 0 := by omega
    rw [e1, hc 0 (by omega)]
    rfl
  · rw [e1]; rfl

theorem MID_v {X : List Nat} {m : Nat} {L0 : List Nat} {F0 i : Nat} {L : List Nat} {fl : Nat} (h : MID X m L0 F0 i L fl) (hi : i < (chunk 32 X m).length) : L.getD (m * 32 + i) 0 = (chunk 32 X m).getD i 0 := h.2.2.2.2.1 i (by omega) hi

theorem INN_start {X : List Nat} {m : Nat} {L0 : List Nat} {F0 i : Nat} {L : List Nat} {fl : Nat} (h : MID X m L0 F0 i L fl) (hi : i < (chunk 32 X m).length) : INN X m L0 F0 i fl i L := by
  obtain ⟨h1, h2, h3, h4, h5, h6, h7, h8⟩ := h
  exact ⟨h1, h2, h3, h4, fun q a b => absurd a (by omega), fun q a b => h5 q (by omega) b, fun q a b => absurd a (by omega), h6, by omega, h7, hi⟩

theorem INN_prev {X : List Nat} {m : Nat} {L0 : List Nat} {F0 i fl j : Nat} {L : List Nat} (h : INN X m L0 F0 i fl j L) (hj : 0 < j) : L.getD (m * 32 + (j - 1)) 0 = (srt ((chunk 32 X m).take i)).getD (j - 1) 0 := h.2.2.2.1 (j - 1) (by omega)

theorem INN_step {X : List Nat} {m : Nat} {L0 : List Nat} {F0 i fl j : Nat} {L : List Nat} (h : INN X m L0 F0 i fl j L) (hj : 0 < j) (hv : key ((chunk 32 X m).getD i 0) < key (L.getD (m * 32 + (j - 1)) 0)) :
    INN X m L0 F0 i fl (j - 1) (L.set (m * 32 + j) (L.getD (m * 32 + (j - 1)) 0)) := by
  have hp := INN_prev h hj
  rw [hp] at hv ⊢
  obtain ⟨h1, h2, h3, h4, h5, h6, h7, h8, h9, h10, h11⟩ := h
  refine ⟨h1, by simpa using h2, fun p hp => ?_, fun q hq => ?_, fun q a b => ?_, fun q a b => ?_, fun q a b => ?_, h8, by omega, h10, h11⟩
  · rw [getD_set, if_neg (by omega)]; exact h3 p hp
  · rw [getD_set, if_neg (by omega)]; exact h4 q (by omega)
  · rw [getD_set]
    by_cases e : q + 1 = j
    · rw [if_pos ⟨by omega, by have := chunk_len 32 X m; omega⟩, show q = j - 1 by omega]
    · rw [if_neg (by omega)]; exact h5 q (by omega) b
  · rw [getD_set, if_neg (by omega)]; exact h6 q a b
  · by_cases e : q = j - 1
    · rw [e]; exact hv
    · exact h7 q (by omega) b

/-- The word's place is found. -/
def INE (X : List Nat) (m : Nat) (L0 : List Nat) (F0 i fl j : Nat) (L : List Nat) : Prop := INN X m L0 F0 i fl j L ∧ (j = 0 ∨ ¬ key ((chunk 32 X m).getD i 0) < key (L.getD (m * 32 + (j - 1)) 0))

theorem INN_end {X : List Nat} {m : Nat} {L0 : List Nat} {F0 i fl j : Nat} {L : List Nat} (h : INN X m L0 F0 i fl j L) (hj : j = 0 ∨ ¬ key ((chunk 32 X m).getD i 0) < key (L.getD (m * 32 + (j - 1)) 0)) :
    MID X m L0 F0 (i + 1) (L.set (m * 32 + j) ((chunk 32 X m).getD i 0)) (fl + (i - j)) := by
  have hp := INN_prev h
  obtain ⟨h1, h2, h3, h4, h5, h6, h7, h8, h9, h10, h11⟩ := h
  have hlen := chunk_len 32 X m
  have hS : (srt ((chunk 32 X m).take i)).length = i := by rw [srt_length]; simp; omega
  have hle : ∀ q, q < j → key ((srt ((chunk 32 X m).take i)).getD q 0) ≤ key ((chunk 32 X m).getD i 0) := fun q hq => by
    rcases hj with rfl | hj
    · omega
    · rw [hp (by omega)] at hj
      by_cases e : q = j - 1
      · rw [e]; omega
      · have := (srt_up ((chunk 32 X m).take i)).get (i := q) (j := j - 1) (by omega) (by omega)
        omega
  have hgt : ∀ q, j ≤ q → q < (srt ((chunk 32 X m).take i)).length → key ((chunk 32 X m).getD i 0) < key ((srt ((chunk 32 X m).take i)).getD q 0) := fun q a b => h7 q a (by omega)
  have hins := ins_get (v := (chunk 32 X m).getD i 0) (by omega) hle hgt
  have habove := above_at (v := (chunk 32 X m).getD i 0) (by omega) hle hgt
  have e1 : srt ((chunk 32 X m).take (i + 1)) = ins ((chunk 32 X m).getD i 0) (srt ((chunk 32 X m).take i)) := by rw [take_snoc h11, srt_snoc]
  have e2 : inv ((chunk 32 X m).take (i + 1)) = inv ((chunk 32 X m).take i) + (i - j) := by rw [take_snoc h11, inv_snoc, ← above_srt, habove, hS]
  refine ⟨h1, by simpa using h2, fun p hp => ?_, fun q hq => ?_, fun q a b => ?_, by omega, by omega, by omega⟩
  · rw [getD_set, if_neg (by omega)]; exact h3 p hp
  · rw [e1, hins, getD_set]
    by_cases c : q < j
    · rw [if_neg (by omega), if_pos c]; exact h4 q c
    · rw [if_neg c]
      by_cases e : q = j
      · rw [if_pos e, if_pos ⟨by omega, by omega⟩]
      · rw [if_neg e, if_neg (by omega)]
        have := h5 (q - 1) (by omega) (by omega)
        rwa [show q - 1 + 1 = q by omega] at this
  · rw [getD_set, if_neg (by omega)]; exact h6 q (by omega) b

theorem MID_end {X : List Nat} {m : Nat} {L0 : List Nat} {F0 i : Nat} {L : List Nat} {fl : Nat} (h : MID X m L0 F0 i L fl) (hi : ¬ i < (chunk 32 X m).length) : INS X (m + 1) L fl := by
  obtain ⟨h1, h2, h3, h4, h5, h6, h7, h8⟩ := h
  have hlen := chunk_len 32 X m
  have e : (chunk 32 X m).take i = chunk 32 X m := List.take_of_length_le (by omega)
  rw [e] at h4 h6
  refine ⟨h2, fun k q hk hq hkq => ?_, fun p a b => ?_, ?_⟩
  · by_cases c : k = m
    · rw [c]; exact h4 q (by rw [c] at hkq; omega)
    · rw [h3 _ (Or.inl (by omega))]; exact h1.2.1 k q (by omega) hq hkq
  · rw [h3 p (Or.inr (by omega))]; exact h1.2.2.1 p (by omega) b
  · rw [h6, h1.2.2.2]; rfl

theorem INS_end {X : List Nat} {m : Nat} {L : List Nat} {fl : Nat} (h : INS X m L fl) (hm : ¬ m * 32 < X.length) : CS 32 X L ∧ FLs 32 X fl := by
  refine ⟨⟨h.1, fun k q hq hkq => h.2.1 k q (by omega) hq hkq⟩, FLs_of (m := m) (by omega) h.2.2.2⟩

theorem sm_le (m : Nat) (f : Nat → Nat) (B : Nat) (h : ∀ k, f k ≤ B) : sm m f ≤ m * B := by
  induction m with
  | zero => simp [sm]
  | succ m ih => simp only [sm, Nat.add_mul]; have := h m; omega

theorem inv_chunk_le (w : Nat) (X : List Nat) (k : Nat) : inv (chunk w X k) ≤ w * w := by
  have h1 := inv_le (chunk w X k)
  have h2 : (chunk w X k).length ≤ w := by rw [chunk_len]; omega
  exact Nat.le_trans h1 (Nat.mul_le_mul h2 h2)
theorem inv_take_le (w : Nat) (X : List Nat) (k i : Nat) : inv ((chunk w X k).take i) ≤ w * w := by
  have h1 := inv_le ((chunk w X k).take i)
  have h2 : ((chunk w X k).take i).length ≤ w := by rw [List.length_take, chunk_len]; omega
  exact Nat.le_trans h1 (Nat.mul_le_mul h2 h2)
theorem INS_bd {X : List Nat} {m : Nat} {L : List Nat} {fl : Nat} (h : INS X m L fl) : fl ≤ m * 1024 := by
  rw [h.2.2.2]; exact sm_le _ _ _ (inv_chunk_le 32 X)
theorem MID_bd {X : List Nat} {m : Nat} {L0 : List Nat} {F0 i : Nat} {L : List Nat} {fl : Nat} (h : MID X m L0 F0 i L fl) : fl ≤ m * 1024 + 1024 := by
  have h1 := INS_bd h.1
  have h2 := inv_take_le 32 X m i
  have h3 := h.2.2.2.2.2.1
  omega
theorem FLs_bd {w : Nat} {X : List Nat} {fl : Nat} (h : FLs w X fl) (hw : 0 < w) : fl ≤ X.length * (w * w) := by
  rw [h X.length (Nat.le_mul_of_pos_right _ hw)]; exact sm_le _ _ _ (inv_chunk_le w X)
theorem cross_chunk_le (w : Nat) (X : List Nat) (k j : Nat) : cross (chunk w X k) (chunk w X j) ≤ w * w := by
  have h1 := cross_le (chunk w X k) (chunk w X j)
  have h2 : (chunk w X k).length ≤ w := by rw [chunk_len]; omega
  have h3 : (chunk w X j).length ≤ w := by rw [chunk_len]; omega
  exact Nat.le_trans h1 (Nat.mul_le_mul h2 h3)

/-! ### The merges -/

/-- m pairs of chunks of width w are merged into T. -/
def PASS (w : Nat) (X : List Nat) (F0 m : Nat) (T : List Nat) (fl : Nat) : Prop :=
  T.length = X.length ∧ (∀ k q, k < m → q < 2 * w → k * (2 * w) + q < X.length → T.getD (k * (2 * w) + q) 0 = (srt (chunk (2 * w) X k)).getD q 0) ∧ fl = F0 + sm m fun k => cross (chunk w X (2 * k)) (chunk w X (2 * k + 1))

theorem PASS_start {w : Nat} {X : List Nat} {F0 : Nat} {T : List Nat} (h : T.length = X.length) : PASS w X F0 0 T F0 := ⟨h, fun k q h => absurd h (by omega), rfl⟩

theorem sm_two (w : Nat) (X : List Nat) (m : Nat) : sm (2 * m) (fun k => inv (chunk w X k)) + sm m (fun k => cross (chunk w X (2 * k)) (chunk w X (2 * k + 1))) = sm m fun k => inv (chunk (2 * w) X k) := by
  induction m with
  | zero => rfl
  | succ m ih =>
    have e : sm (2 * (m + 1)) (fun k => inv (chunk w X k)) = sm (2 * m) (fun k => inv (chunk w X k)) + inv (chunk w X (2 * m)) + inv (chunk w X (2 * m + 1)) := rfl
    rw [e]
    simp only [sm]
    rw [← ih, chunk_two, inv_append]
    omega

theorem PASS_end {w : Nat} {X : List Nat} {F0 m : Nat} {T : List Nat} {fl : Nat} (h : PASS w X F0 m T fl) (hF : FLs w X F0) (hm : ¬ m * (2 * w) < X.length) : CS (2 * w) X T ∧ FLs (2 * w) X fl := by
  refine ⟨⟨h.1, fun k q hq hkq => ?_⟩, FLs_of (m := m) (by omega) ?_⟩
  · refine h.2.1 k q ?_ hq hkq
    have : k * (2 * w) < m * (2 * w) := by omega
    exact Nat.lt_of_mul_lt_mul_right this
  · rw [h.2.2, hF (2 * m) (by have : 2 * m * w = m * (2 * w) := by grind
                              omega), sm_two]

/-- a words of the left, b of the right chunk are taken. -/
def MG (w : Nat) (X : List Nat) (F0 m : Nat) (T0 : List Nat) (F1 a b : Nat) (T : List Nat) (fl : Nat) : Prop :=
  PASS w X F0 m T0 F1 ∧ T.length = X.length ∧ (∀ p, p < m * (2 * w) → T.getD p 0 = T0.getD p 0) ∧ (∀ q, q < a + b → T.getD (m * (2 * w) + q) 0 = (srt (chunk (2 * w) X m)).getD q 0) ∧
    (srt (chunk (2 * w) X m)).drop (a + b) = srtOn ((srt (chunk w X (2 * m))).drop a) ((srt (chunk w X (2 * m + 1))).drop b) ∧
    fl + cross ((srt (chunk w X (2 * m))).drop a) ((srt (chunk w X (2 * m + 1))).drop b) = F1 + cross (chunk w X (2 * m)) (chunk w X (2 * m + 1)) ∧ a ≤ (chunk w X (2 * m)).length ∧ b ≤ (chunk w X (2 * m + 1)).length

theorem MG_start {w : Nat} {X : List Nat} {F0 m : Nat} {T0 : List Nat} {F1 : Nat} (h : PASS w X F0 m T0 F1) : MG w X F0 m T0 F1 0 0 T0 F1 := by
  refine ⟨h, h.1, fun _ _ => rfl, fun q hq => absurd hq (by omega), ?_, ?_, by omega, by omega⟩
  · rw [chunk_two, ← srt_merge]; rfl
  · simp only [List.drop_zero, cross_srt_left, cross_srt_right]

theorem MG_right {w : Nat} {X : List Nat} {F0 m : Nat} {T0 : List Nat} {F1 a b : Nat} {T : List Nat} {fl : Nat} (h : MG w X F0 m T0 F1 a b T fl) (ha : a < (chunk w X (2 * m)).length) (hb : b < (chunk w X (2 * m + 1)).length)
    (hk : key ((srt (chunk w X (2 * m + 1))).getD b 0) < key ((srt (chunk w X (2 * m))).getD a 0)) :
    MG w X F0 m T0 F1 a (b + 1) (T.set (m * (2 * w) + (a + b)) ((srt (chunk w X (2 * m + 1))).getD b 0)) (fl + ((chunk w X (2 * m)).length - a)) := by
  obtain ⟨h1, h2, h3, h4, h5, h6, h7, h8⟩ := h
  have lA := srt_length (chunk w X (2 * m))
  have lB := srt_length (chunk w X (2 * m + 1))
  have lM : (srt (chunk (2 * w) X m)).length = (chunk w X (2 * m)).length + (chunk w X (2 * m + 1)).length := by rw [srt_length, chunk_two, List.length_append]
  have uA := (srt_up (chunk w X (2 * m))).drop a
  have uB := (srt_up (chunk w X (2 * m + 1))).drop b
  have hlX : m * (2 * w) + ((chunk w X (2 * m)).length + (chunk w X (2 * m + 1)).length) ≤ X.length := by
    have := chunk_len (2 * w) X m
    rw [chunk_two, List.length_append] at this
    omega
  rw [drop_cons (L := srt (chunk w X (2 * m))) (i := a) (by omega)] at h5 h6 uA
  rw [drop_cons (L := srt (chunk w X (2 * m + 1))) (i := b) (by omega)] at h5 h6 uB
  rw [merge_right uB hk, drop_cons (by omega)] at h5
  rw [cross_right uA hk] at h6
  simp only [List.cons.injEq] at h5
  refine ⟨h1, by simpa using h2, fun p hp => ?_, fun q hq => ?_, ?_, ?_, h7, by omega⟩
  · rw [getD_set, if_neg (by omega)]; exact h3 p hp
  · rw [getD_set]
    by_cases e : q = a + b
    · rw [if_pos ⟨by omega, by omega⟩, e]; exact h5.1.symm
    · rw [if_neg (by omega)]; exact h4 q (by omega)
  · rw [drop_cons (L := srt (chunk w X (2 * m))) (i := a) (by omega)]; exact h5.2
  · rw [drop_cons (L := srt (chunk w X (2 * m))) (i := a) (by omega)]
    simp only [List.length_drop] at h6
    omega

theorem MG_left {w : Nat} {X : List Nat} {F0 m : Nat} {T0 : List Nat} {F1 a b : Nat} {T : List Nat} {fl : Nat} (h : MG w X F0 m T0 F1 a b T fl) (ha : a < (chunk w X (2 * m)).length) (hb : b < (chunk w X (2 * m + 1)).length)
    (hk : ¬ key ((srt (chunk w X (2 * m + 1))).getD b 0) < key ((srt (chunk w X (2 * m))).getD a 0)) :
    MG w X F0 m T0 F1 (a + 1) b (T.set (m * (2 * w) + (a + b)) ((srt (chunk w X (2 * m))).getD a 0)) fl := by
  obtain ⟨h1, h2, h3, h4, h5, h6, h7, h8⟩ := h
  have lA := srt_length (chunk w X (2 * m))
  have lB := srt_length (chunk w X (2 * m + 1))
  have lM : (srt (chunk (2 * w) X m)).length = (chunk w X (2 * m)).length + (chunk w X (2 * m + 1)).length := by rw [srt_length, chunk_two, List.length_append]
  have uB := (srt_up (chunk w X (2 * m + 1))).drop b
  have hlX : m * (2 * w) + ((chunk w X (2 * m)).length + (chunk w X (2 * m + 1)).length) ≤ X.length := by
    have := chunk_len (2 * w) X m
    rw [chunk_two, List.length_append] at this
    omega
  rw [drop_cons (L := srt (chunk w X (2 * m))) (i := a) (by omega)] at h5 h6
  rw [drop_cons (L := srt (chunk w X (2 * m + 1))) (i := b) (by omega)] at h5 h6 uB
  rw [merge_left uB hk, drop_cons (by omega)] at h5
  rw [cross_left uB hk] at h6
  simp only [List.cons.injEq] at h5
  refine ⟨h1, by simpa using h2, fun p hp => ?_, fun q hq => ?_, ?_, ?_, by omega, h8⟩
  · rw [getD_set, if_neg (by omega)]; exact h3 p hp
  · rw [getD_set]
    by_cases e : q = a + b
    · rw [if_pos ⟨by omega, by omega⟩, e]; exact h5.1.symm
    · rw [if_neg (by omega)]; exact h4 q (by omega)
  · rw [show a + 1 + b = a + b + 1 by omega, drop_cons (L := srt (chunk w X (2 * m + 1))) (i := b) (by omega)]; exact h5.2
  · rw [drop_cons (L := srt (chunk w X (2 * m + 1))) (i := b) (by omega)]; exact h6

theorem PASS_bd {w : Nat} {X : List Nat} {F0 m : Nat} {T : List Nat} {fl : Nat} (h : PASS w X F0 m T fl) : fl ≤ F0 + m * (w * w) := by
  rw [h.2.2]
  have := sm_le m (fun k => cross (chunk w X (2 * k)) (chunk w X (2 * k + 1))) (w * w) (fun k => cross_chunk_le w X _ _)
  omega
theorem MG_bd {w : Nat} {X : List Nat} {F0 m : Nat} {T0 : List Nat} {F1 a b : Nat} {T : List Nat} {fl : Nat} (h : MG w X F0 m T0 F1 a b T fl) : fl ≤ F0 + m * (w * w) + w * w := by
  have h1 := PASS_bd h.1
  have h2 := h.2.2.2.2.2.1
  have h3 := cross_chunk_le w X (2 * m) (2 * m + 1)
  omega

end Go.Proofs.Qxb6602348a
