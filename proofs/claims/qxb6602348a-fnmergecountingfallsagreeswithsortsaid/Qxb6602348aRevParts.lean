/-
  FnSortCountingFallsReversal, PLAIN: a list and its reverse; pairs of equal keys. No Go in sight.
-/
import Derived.Test.Qxb6602348aSrtParts
import Derived.Test.Qxb6602348aGrpEx
namespace Go.Proofs.Qxb6602348a
open Flt

/-- Whole numbers sorted. -/
def insI (v : Int) : List Int → List Int
  | [] => [v]
  | x :: r => if v < x then v :: x :: r else x :: insI v r
def srtI (S L : List Int) : List Int := L.foldl (fun acc v => insI v acc) S

theorem insI_comm (u v : Int) (S : List Int) : insI u (insI v S) = insI v (insI u S) := by
  induction S with
  | nil =>
    simp only [insI]
    by_cases c : u < v
    · rw [if_pos c, if_neg (by omega)]
    · by_cases e : u = v
      · rw [e]
      · rw [if_neg c, if_pos (by omega)]
  | cons x r ih =>
    simp only [insI]
    by_cases c1 : v < x
    · by_cases c2 : u < x
      · rw [if_pos c1, if_pos c2]
        simp only [insI]
        by_cases c : u < v
        · rw [if_pos c, if_neg (by omega), if_pos c1]
        · by_cases e : u = v
          · rw [e]
          · rw [if_neg c, if_pos c2, if_pos (by omega : v < u)]
      · rw [if_pos c1, if_neg c2]
        simp only [insI]
        rw [if_neg (by omega), if_neg c2, if_pos c1]
    · by_cases c2 : u < x
      · rw [if_neg c1, if_pos c2]
        simp only [insI]
        rw [if_pos c2, if_neg (by omega), if_neg c1]
      · rw [if_neg c1, if_neg c2]
        simp only [insI]
        rw [if_neg c2, if_neg c1, ih]
theorem srtI_cons (S : List Int) (v : Int) (L : List Int) : srtI S (v :: L) = srtI (insI v S) L := rfl
theorem srtI_snoc (S L : List Int) (v : Int) : srtI S (L ++ [v]) = insI v (srtI S L) := by simp [srtI, List.foldl_append]
theorem srtI_ins (S L : List Int) (v : Int) : srtI (insI v S) L = insI v (srtI S L) := by
  induction L generalizing S with
  | nil => rfl
  | cons u r ih => rw [srtI_cons, insI_comm, ih, srtI_cons]
theorem srtI_reverse (S L : List Int) : srtI S L.reverse = srtI S L := by
  induction L with
  | nil => rfl
  | cons v r ih => rw [List.reverse_cons, srtI_snoc, ih, srtI_cons, srtI_ins]
theorem map_ins (v : Nat) (L : List Nat) : (ins v L).map key = insI (key v) (L.map key) := by
  induction L with
  | nil => rfl
  | cons x r ih =>
    simp only [ins, insI, List.map_cons]
    split
    · rfl
    · simp [ih]
theorem map_srtOn (S L : List Nat) : (srtOn S L).map key = srtI (S.map key) (L.map key) := by
  induction L generalizing S with
  | nil => rfl
  | cons v r ih => rw [srtOn_cons, ih, map_ins]; rfl
/-- Both ways sorted: the same keys. -/
theorem keys_reverse (X : List Nat) : (srt X.reverse).map key = (srt X).map key := by
  rw [srt, srt, map_srtOn, map_srtOn, List.map_reverse, srtI_reverse]
theorem key_reverse {X : List Nat} {i : Nat} (h : i < X.length) : key ((srt X.reverse).getD i 0) = key ((srt X).getD i 0) := by
  have h1 : i < (srt X.reverse).length := by rw [srt_length, List.length_reverse]; exact h
  have h2 : i < (srt X).length := by rw [srt_length]; exact h
  have := congrArg (fun l => l[i]?) (keys_reverse X)
  simp only [List.getElem?_map, List.getElem?_eq_getElem h1, List.getElem?_eq_getElem h2, Option.map_some, Option.some.injEq] at this
  simpa [h1, h2] using this

/-- Pairs of equal numbers. -/
def eqp : List Int → Nat
  | [] => 0
  | a :: r => cnt a r + eqp r
theorem eqp_snoc (L : List Int) (v : Int) : eqp (L ++ [v]) = eqp L + cnt v L := by
  induction L with
  | nil => rfl
  | cons a r ih =>
    simp only [List.cons_append, eqp, ih, cnt_append, cnt]
    by_cases e : v = a
    · rw [if_pos e, if_pos e.symm]; omega
    · rw [if_neg e, if_neg (fun h => e h.symm)]; omega
theorem cnt_insI (u v : Int) (S : List Int) : cnt u (insI v S) = cnt u S + (if v = u then 1 else 0) := by
  induction S with
  | nil => simp [insI, cnt]
  | cons x r ih =>
    simp only [insI]
    split
    · simp only [cnt]; omega
    · simp only [cnt, ih]; omega
theorem eqp_insI (v : Int) (S : List Int) : eqp (insI v S) = eqp S + cnt v S := by
  induction S with
  | nil => rfl
  | cons x r ih =>
    simp only [insI]
    split
    · simp only [eqp, cnt]; omega
    · simp only [eqp, ih, cnt_insI, cnt]
      by_cases e : v = x
      · rw [if_pos e, if_pos e.symm]; omega
      · rw [if_neg e, if_neg (fun h => e h.symm)]; omega
theorem cnt_srtI (u : Int) (S L : List Int) : cnt u (srtI S L) = cnt u S + cnt u L := by
  induction L generalizing S with
  | nil => rfl
  | cons v r ih => rw [srtI_cons, ih, cnt_insI]; simp only [cnt]; omega
theorem eqp_srtI (L : List Int) : eqp (srtI [] L) = eqp L := by
  have : ∀ (L S : List Int), eqp (srtI S L) = eqp (S ++ L) := by
    intro L
    induction L with
    | nil => intro S; simp [srtI]
    | cons v r ih =>
      intro S
      rw [srtI_cons, srtI_ins, eqp_insI, ih, cnt_srtI]
      have : ∀ S : List Int, eqp (S ++ v :: r) = eqp (S ++ r) + (cnt v S + cnt v r) := by
        intro S
        induction S with
        | nil => simp only [List.nil_append, eqp, cnt]; omega
        | cons a S ihS =>
          simp only [List.cons_append, eqp, ihS, cnt_append, cnt]
          by_cases e : v = a
          · rw [if_pos e, if_pos e.symm]; omega
          · rw [if_neg e, if_neg (fun h => e h.symm)]; omega
      rw [this]
  exact this L []
theorem eqp_srt (X : List Nat) : eqp ((srt X).map key) = eqp (X.map key) := by
  rw [srt, map_srtOn]; exact eqp_srtI _

theorem three (v : Nat) (L : List Nat) : below v L + above v L + cnt (key v) (L.map key) = L.length := by
  induction L with
  | nil => rfl
  | cons x r ih =>
    simp only [below, above, List.map_cons, cnt, List.length_cons]
    by_cases c1 : key x < key v
    · rw [if_pos c1, if_neg (by omega), if_neg (by omega)]; omega
    · by_cases c2 : key v < key x
      · rw [if_neg c1, if_pos c2, if_neg (by omega)]; omega
      · rw [if_neg c1, if_neg c2, if_pos (by omega)]; omega
theorem above_reverse (v : Nat) (L : List Nat) : above v L.reverse = above v L := by
  induction L with
  | nil => rfl
  | cons x r ih => rw [List.reverse_cons, above_append, ih]; simp only [above]; omega
/-- ALL PAIRS: falling, rising, level. -/
theorem inv_both (X : List Nat) : 2 * (inv X + inv X.reverse + eqp (X.map key)) + X.length = X.length * X.length := by
  induction X with
  | nil => rfl
  | cons x r ih =>
    simp only [inv, List.reverse_cons, inv_snoc, above_reverse, List.map_cons, eqp, List.length_cons]
    have := three x r
    have e : (r.length + 1) * (r.length + 1) = r.length * r.length + 2 * r.length + 1 := by grind
    omega

/-- The tie loop, at place i: t pairs in the runs that are closed, the last run 'run' long. -/
def TI (K : List Int) (i t run : Nat) : Prop := 1 ≤ i ∧ i ≤ K.length ∧ 2 * t + run * (run - 1) = 2 * eqp (K.take i) ∧ cnt (K.getD (i - 1) 0) (K.take i) = run ∧ 1 ≤ run

theorem takeI_snoc {K : List Int} {i : Nat} (h : i < K.length) : K.take (i + 1) = K.take i ++ [K.getD i 0] := by
  rw [List.take_succ_eq_append_getElem h]; simp [h]
theorem TI_start {K : List Int} (h : 0 < K.length) : TI K 1 0 1 := by
  have e : K.take 1 = [K.getD 0 0] := by rw [takeI_snoc h]; simp
  refine ⟨by omega, by omega, ?_, ?_, by omega⟩
  · rw [e]; rfl
  · rw [e]; simp [cnt]
theorem TI_same {K : List Int} {i t run : Nat} (h : TI K i t run) (hi : i < K.length) (e : K.getD i 0 = K.getD (i - 1) 0) : TI K (i + 1) t (run + 1) := by
  obtain ⟨h1, h2, h3, h4, h5⟩ := h
  refine ⟨by omega, by omega, ?_, ?_, by omega⟩
  · rw [takeI_snoc hi, eqp_snoc, e, h4]
    obtain ⟨r, rfl⟩ : ∃ r, run = r + 1 := ⟨run - 1, by omega⟩
    simp only [Nat.add_sub_cancel] at h3 ⊢
    have e2 : (r + 1 + 1) * (r + 1) = (r + 1) * r + 2 * (r + 1) := by grind
    omega
  · rw [Nat.add_sub_cancel, takeI_snoc hi, cnt_append, e, h4]
    simp [cnt]
theorem TI_new {K : List Int} {i t run : Nat} (h : TI K i t run) (hi : i < K.length) (hs : Asc K) (e : K.getD i 0 ≠ K.getD (i - 1) 0) : TI K (i + 1) (t + run * (run - 1) / 2) 1 := by
  obtain ⟨h1, h2, h3, h4, h5⟩ := h
  have hev : run * (run - 1) % 2 = 0 := by omega
  have hno : cnt (K.getD i 0) (K.take i) = 0 := by
    refine cnt_none _ _ (fun b hb => ?_)
    obtain ⟨q, hq, rfl⟩ := List.mem_iff_getElem.1 hb
    have hq' : q < i := by simp at hq; omega
    rw [List.getElem_take]
    have hle : K.getD (i - 1) 0 ≤ K.getD i 0 := by
      have := List.pairwise_iff_getElem.1 hs (i - 1) i (by omega) hi (by omega)
      simpa [show i - 1 < K.length by omega, hi] using this
    have hle2 : K[q] ≤ K.getD (i - 1) 0 := by
      by_cases c : q = i - 1
      · subst c; simp [show i - 1 < K.length by omega]
      · have := List.pairwise_iff_getElem.1 hs q (i - 1) (by omega) (by omega) (by omega)
        simpa [show i - 1 < K.length by omega] using this
    omega
  refine ⟨by omega, by omega, ?_, ?_, by omega⟩
  · rw [takeI_snoc hi, eqp_snoc, hno]
    omega
  · rw [Nat.add_sub_cancel, takeI_snoc hi, cnt_append, hno]
    simp [cnt]
theorem TI_end {K : List Int} {i t run : Nat} (h : TI K i t run) (hi : ¬ i < K.length) : t + run * (run - 1) / 2 = eqp K := by
  obtain ⟨h1, h2, h3, h4, h5⟩ := h
  rw [List.take_of_length_le (by omega)] at h3
  omega
theorem TI_bd {K : List Int} {i t run : Nat} (h : TI K i t run) : run ≤ K.length := by
  have := cnt_le (K.getD (i - 1) 0) (K.take i)
  rw [h.2.2.2.1, List.length_take] at this
  omega
theorem eqp_le (K : List Int) : eqp K ≤ K.length * K.length := by
  induction K with
  | nil => simp [eqp]
  | cons x r ih =>
    simp only [eqp, List.length_cons]
    have := cnt_le x r
    have e : (r.length + 1) * (r.length + 1) = r.length * r.length + 2 * r.length + 1 := by grind
    omega

end Go.Proofs.Qxb6602348a
