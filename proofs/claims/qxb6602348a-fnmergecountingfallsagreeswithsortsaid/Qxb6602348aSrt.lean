/-
  STABLE SORTING, PLAIN: of words by their keys: insertion ('ins', 'srtOn', 'srt'), merging, pairs out of order ('inv', 'cross'), ranks. No Go in sight.
-/
import Derived.Test.Qxb6602348aFlt
namespace Go.Proofs.Qxb6602348a
open Flt

/-- v laid ahead of the first word above it. -/
def ins (v : Nat) : List Nat → List Nat
  | [] => [v]
  | x :: r => if key v < key x then v :: x :: r else x :: ins v r

/-- The words of a list laid into S one by one. -/
def srtOn (S L : List Nat) : List Nat := L.foldl (fun acc v => ins v acc) S
def srt (L : List Nat) : List Nat := srtOn [] L

theorem srtOn_nil (S : List Nat) : srtOn S [] = S := rfl
theorem srtOn_cons (S : List Nat) (v : Nat) (L : List Nat) : srtOn S (v :: L) = srtOn (ins v S) L := rfl
theorem srtOn_append (S L M : List Nat) : srtOn S (L ++ M) = srtOn (srtOn S L) M := by simp [srtOn, List.foldl_append]
theorem srt_snoc (L : List Nat) (v : Nat) : srt (L ++ [v]) = ins v (srt L) := by simp [srt, srtOn, List.foldl_append]
theorem srt_append (L M : List Nat) : srt (L ++ M) = srtOn (srt L) M := srtOn_append [] L M

theorem ins_length (v : Nat) (L : List Nat) : (ins v L).length = L.length + 1 := by
  induction L with
  | nil => rfl
  | cons x r ih => simp only [ins]; split <;> simp [ih]
theorem srtOn_length (S L : List Nat) : (srtOn S L).length = S.length + L.length := by
  induction L generalizing S with
  | nil => rfl
  | cons v r ih => rw [srtOn_cons, ih, ins_length, List.length_cons]; omega
theorem srt_length (L : List Nat) : (srt L).length = L.length := by rw [srt, srtOn_length]; simp

/-- Ascending by keys. -/
def Up (L : List Nat) : Prop := L.Pairwise fun a b => key a ≤ key b

theorem ins_mem {v : Nat} {L : List Nat} {a : Nat} : a ∈ ins v L ↔ a = v ∨ a ∈ L := by
  induction L with
  | nil => simp [ins]
  | cons x r ih =>
    simp only [ins]
    split
    · simp
    · simp only [List.mem_cons, ih]
      constructor
      · rintro (h | h | h)
        · exact Or.inr (Or.inl h)
        · exact Or.inl h
        · exact Or.inr (Or.inr h)
      · rintro (h | h | h)
        · exact Or.inr (Or.inl h)
        · exact Or.inl h
        · exact Or.inr (Or.inr h)
theorem srtOn_mem {S L : List Nat} {a : Nat} : a ∈ srtOn S L ↔ a ∈ S ∨ a ∈ L := by
  induction L generalizing S with
  | nil => simp [srtOn_nil]
  | cons v r ih =>
    rw [srtOn_cons, ih, ins_mem, List.mem_cons]
    constructor
    · rintro ((h | h) | h)
      · exact Or.inr (Or.inl h)
      · exact Or.inl h
      · exact Or.inr (Or.inr h)
    · rintro (h | h | h)
      · exact Or.inl (Or.inr h)
      · exact Or.inl (Or.inl h)
      · exact Or.inr h
theorem srt_mem {L : List Nat} {a : Nat} : a ∈ srt L ↔ a ∈ L := by simp [srt, srtOn_mem]

theorem ins_up {v : Nat} {L : List Nat} (h : Up L) : Up (ins v L) := by
  induction L with
  | nil => simp [ins, Up]
  | cons x r ih =>
    have hr : Up r := List.Pairwise.tail h
    simp only [ins]
    split
    · rename_i hv
      refine List.pairwise_cons.2 ⟨fun a ha => ?_, h⟩
      simp only [List.mem_cons] at ha
      rcases ha with rfl | ha
      · omega
      · have : key x ≤ key a := List.rel_of_pairwise_cons h ha
        omega
    · rename_i hv
      refine List.pairwise_cons.2 ⟨fun a ha => ?_, ih hr⟩
      rcases ins_mem.1 ha with rfl | ha
      · omega
      · exact List.rel_of_pairwise_cons h ha
theorem srtOn_up {S L : List Nat} (h : Up S) : Up (srtOn S L) := by
  induction L generalizing S with
  | nil => exact h
  | cons v r ih => rw [srtOn_cons]; exact ih (ins_up h)
theorem srt_up (L : List Nat) : Up (srt L) := srtOn_up (by simp [Up])

theorem ins_comm {u v : Nat} (h : key u ≠ key v) (S : List Nat) : ins u (ins v S) = ins v (ins u S) := by
  induction S with
  | nil =>
    simp only [ins]
    by_cases c : key u < key v
    · rw [if_pos c, if_neg (by omega)]
    · rw [if_neg c, if_pos (by omega)]
  | cons x r ih =>
    simp only [ins]
    by_cases c1 : key v < key x
    · by_cases c2 : key u < key x
      · rw [if_pos c1, if_pos c2]
        simp only [ins]
        by_cases c : key u < key v
        · rw [if_pos c, if_neg (by omega), if_pos c1]
        · rw [if_neg c, if_pos c2, if_pos (by omega : key v < key u)]
      · rw [if_pos c1, if_neg c2]
        simp only [ins]
        rw [if_neg (by omega), if_neg c2, if_pos c1]
    · by_cases c2 : key u < key x
      · rw [if_neg c1, if_pos c2]
        simp only [ins]
        rw [if_pos c2, if_neg (by omega), if_neg c1]
      · rw [if_neg c1, if_neg c2]
        simp only [ins]
        rw [if_neg c2, if_neg c1, ih]

/-- A word that lies below all that come after it may be laid in last. -/
theorem srtOn_last {v : Nat} {T : List Nat} (h : ∀ a ∈ T, key v < key a) (S : List Nat) : srtOn (ins v S) T = ins v (srtOn S T) := by
  induction T generalizing S with
  | nil => rfl
  | cons t r ih =>
    have ht := h t (by simp)
    rw [srtOn_cons, srtOn_cons, ins_comm (by omega), ih (fun a ha => h a (by simp [ha]))]

theorem srtOn_ins {v : Nat} {T : List Nat} (hT : Up T) (S : List Nat) : srtOn S (ins v T) = ins v (srtOn S T) := by
  induction T generalizing S with
  | nil => rfl
  | cons t r ih =>
    simp only [ins]
    split
    · rename_i hv
      rw [srtOn_cons]
      refine srtOn_last (fun a ha => ?_) S
      simp only [List.mem_cons] at ha
      rcases ha with rfl | ha
      · exact hv
      · have : key t ≤ key a := List.rel_of_pairwise_cons hT ha
        omega
    · rw [srtOn_cons, ih (List.Pairwise.tail hT), srtOn_cons]

/-- Laying in a sorted list is laying in the list. -/
theorem srtOn_srt (S L : List Nat) : srtOn S (srt L) = srtOn S L := by
  have : ∀ (L T : List Nat), Up T → srtOn S (srtOn T L) = srtOn (srtOn S T) L := by
    intro L
    induction L with
    | nil => intro T _; rfl
    | cons v r ih =>
      intro T hT
      rw [srtOn_cons, ih _ (ins_up hT), srtOn_ins hT, srtOn_cons]
  exact this L [] (by simp [Up])

/-- Two sorted halves merged: the whole sorted. -/
theorem srt_merge (A B : List Nat) : srtOn (srt A) (srt B) = srt (A ++ B) := by rw [srtOn_srt, srt_append]

theorem srtOn_ge {b : Nat} {B : List Nat} (h : ∀ a ∈ B, key b ≤ key a) (S : List Nat) : srtOn (b :: S) B = b :: srtOn S B := by
  induction B generalizing S with
  | nil => rfl
  | cons v r ih =>
    have hv := h v (by simp)
    rw [srtOn_cons, srtOn_cons]
    simp only [ins]
    rw [if_neg (by omega), ih (fun a ha => h a (by simp [ha]))]

theorem srtOn_up_nil {B : List Nat} (h : Up B) : srtOn [] B = B := by
  induction B with
  | nil => rfl
  | cons b r ih =>
    rw [srtOn_cons]
    show srtOn (b :: []) r = _
    rw [srtOn_ge (fun a ha => List.rel_of_pairwise_cons h ha), ih (List.Pairwise.tail h)]
/-- A sorted list stays as it is. -/
theorem srt_of_up {L : List Nat} (h : Up L) : srt L = L := srtOn_up_nil h

/-- The merge's two steps. -/
theorem merge_right {a b : Nat} {A B : List Nat} (hB : Up (b :: B)) (h : key b < key a) : srtOn (a :: A) (b :: B) = b :: srtOn (a :: A) B := by
  rw [srtOn_cons]
  simp only [ins]
  rw [if_pos h, srtOn_ge (fun x hx => List.rel_of_pairwise_cons hB hx)]
theorem merge_left {a b : Nat} {A B : List Nat} (hB : Up (b :: B)) (h : ¬ key b < key a) : srtOn (a :: A) (b :: B) = a :: srtOn A (b :: B) := by
  refine srtOn_ge (fun x hx => ?_) A
  simp only [List.mem_cons] at hx
  rcases hx with rfl | hx
  · omega
  · have : key b ≤ key x := List.rel_of_pairwise_cons hB hx
    omega

/-! ### Pairs out of order -/

/-- How many lie below v; above v. -/
def below (v : Nat) : List Nat → Nat
  | [] => 0
  | x :: r => (if key x < key v then 1 else 0) + below v r
def above (v : Nat) : List Nat → Nat
  | [] => 0
  | x :: r => (if key v < key x then 1 else 0) + above v r
def cross : List Nat → List Nat → Nat
  | [], _ => 0
  | a :: r, B => below a B + cross r B
def inv : List Nat → Nat
  | [] => 0
  | a :: r => below a r + inv r

theorem below_append (v : Nat) (L M : List Nat) : below v (L ++ M) = below v L + below v M := by
  induction L with
  | nil => simp [below]
  | cons x r ih => simp only [List.cons_append, below, ih]; omega
theorem above_append (v : Nat) (L M : List Nat) : above v (L ++ M) = above v L + above v M := by
  induction L with
  | nil => simp [above]
  | cons x r ih => simp only [List.cons_append, above, ih]; omega
theorem below_ins (u v : Nat) (L : List Nat) : below u (ins v L) = (if key v < key u then 1 else 0) + below u L := by
  induction L with
  | nil => rfl
  | cons x r ih =>
    by_cases c : key v < key x
    · simp only [ins, if_pos c, below]
    · simp only [ins, if_neg c, below, ih]; omega
theorem above_ins (u v : Nat) (L : List Nat) : above u (ins v L) = (if key u < key v then 1 else 0) + above u L := by
  induction L with
  | nil => rfl
  | cons x r ih =>
    by_cases c : key v < key x
    · simp only [ins, if_pos c, above]
    · simp only [ins, if_neg c, above, ih]; omega
theorem below_srtOn (u : Nat) (S L : List Nat) : below u (srtOn S L) = below u S + below u L := by
  induction L generalizing S with
  | nil => rfl
  | cons v r ih => rw [srtOn_cons, ih, below_ins]; simp only [below]; omega
theorem above_srtOn (u : Nat) (S L : List Nat) : above u (srtOn S L) = above u S + above u L := by
  induction L generalizing S with
  | nil => rfl
  | cons v r ih => rw [srtOn_cons, ih, above_ins]; simp only [above]; omega
theorem below_srt (u : Nat) (L : List Nat) : below u (srt L) = below u L := by rw [srt, below_srtOn]; simp [below]
theorem above_srt (u : Nat) (L : List Nat) : above u (srt L) = above u L := by rw [srt, above_srtOn]; simp [above]

theorem cross_append (A A' B : List Nat) : cross (A ++ A') B = cross A B + cross A' B := by
  induction A with
  | nil => simp [cross]
  | cons x r ih => simp only [List.cons_append, cross, ih]; omega
theorem cross_nil (A : List Nat) : cross A [] = 0 := by
  induction A with
  | nil => rfl
  | cons x r ih => simp only [cross, below, ih]
theorem cross_cons (A : List Nat) (b : Nat) (B : List Nat) : cross A (b :: B) = above b A + cross A B := by
  induction A with
  | nil => rfl
  | cons x r ih => simp only [cross, below, above, ih]; omega
theorem cross_ins_left (v : Nat) (A B : List Nat) : cross (ins v A) B = below v B + cross A B := by
  induction A with
  | nil => rfl
  | cons x r ih =>
    by_cases c : key v < key x
    · simp only [ins, if_pos c, cross]
    · simp only [ins, if_neg c, cross, ih]; omega
theorem cross_srtOn_left (S L B : List Nat) : cross (srtOn S L) B = cross S B + cross L B := by
  induction L generalizing S with
  | nil => rfl
  | cons v r ih => rw [srtOn_cons, ih, cross_ins_left]; simp only [cross]; omega
theorem cross_srt_left (L B : List Nat) : cross (srt L) B = cross L B := by rw [srt, cross_srtOn_left]; simp [cross]
theorem cross_srt_right (A L : List Nat) : cross A (srt L) = cross A L := by
  induction A with
  | nil => rfl
  | cons x r ih => simp only [cross, below_srt, ih]

theorem inv_append (A B : List Nat) : inv (A ++ B) = inv A + inv B + cross A B := by
  induction A with
  | nil => simp [inv, cross]
  | cons x r ih => simp only [List.cons_append, inv, cross, below_append, ih]; omega
theorem inv_snoc (L : List Nat) (v : Nat) : inv (L ++ [v]) = inv L + above v L := by
  rw [inv_append, cross_cons, cross_nil]; simp [inv, below]

theorem above_all {v : Nat} {L : List Nat} (h : ∀ a ∈ L, key v < key a) : above v L = L.length := by
  induction L with
  | nil => rfl
  | cons x r ih =>
    simp only [above, List.length_cons]
    rw [if_pos (h x (by simp)), ih (fun a ha => h a (by simp [ha]))]; omega
theorem below_none {v : Nat} {L : List Nat} (h : ∀ a ∈ L, key v ≤ key a) : below v L = 0 := by
  induction L with
  | nil => rfl
  | cons x r ih =>
    have := h x (by simp)
    simp only [below]
    rw [if_neg (by omega), ih (fun a ha => h a (by simp [ha]))]

/-- The merge's count: a word taken from the right ends as many falls as words are left on the left. -/
theorem cross_right {a b : Nat} {A B : List Nat} (hA : Up (a :: A)) (h : key b < key a) : cross (a :: A) (b :: B) = (A.length + 1) + cross (a :: A) B := by
  rw [cross_cons, above_all (fun x hx => ?_)]
  · simp
  · simp only [List.mem_cons] at hx
    rcases hx with rfl | hx
    · exact h
    · have : key a ≤ key x := List.rel_of_pairwise_cons hA hx
      omega
theorem cross_left {a b : Nat} {A B : List Nat} (hB : Up (b :: B)) (h : ¬ key b < key a) : cross (a :: A) (b :: B) = cross A (b :: B) := by
  simp only [cross]
  rw [below_none (fun x hx => ?_), Nat.zero_add]
  simp only [List.mem_cons] at hx
  rcases hx with rfl | hx
  · omega
  · have : key b ≤ key x := List.rel_of_pairwise_cons hB hx
    omega
theorem inv_up {L : List Nat} (h : Up L) : inv L = 0 := by
  induction L with
  | nil => rfl
  | cons x r ih =>
    simp only [inv]
    rw [below_none (fun a ha => List.rel_of_pairwise_cons h ha), ih (List.Pairwise.tail h)]
theorem above_le (v : Nat) (L : List Nat) : above v L ≤ L.length := by
  induction L with
  | nil => simp [above]
  | cons x r ih => simp only [above, List.length_cons]; split <;> omega
theorem below_le (v : Nat) (L : List Nat) : below v L ≤ L.length := by
  induction L with
  | nil => simp [below]
  | cons x r ih => simp only [below, List.length_cons]; split <;> omega
theorem cross_le (A B : List Nat) : cross A B ≤ A.length * B.length := by
  induction A with
  | nil => simp [cross]
  | cons x r ih =>
    simp only [cross, List.length_cons, Nat.add_mul]
    have := below_le x B
    omega
theorem inv_le (L : List Nat) : inv L ≤ L.length * L.length := by
  induction L with
  | nil => simp [inv]
  | cons x r ih =>
    simp only [inv, List.length_cons]
    have := below_le x r
    have e : (r.length + 1) * (r.length + 1) = r.length * r.length + 2 * r.length + 1 := by grind
    omega

end Go.Proofs.Qxb6602348a
