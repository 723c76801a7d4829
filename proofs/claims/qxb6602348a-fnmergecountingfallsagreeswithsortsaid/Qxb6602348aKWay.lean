/-
  MERGING SORTED RUNS, PLAIN: what is left of the runs, laid end to end ('catN'); the least head, of equals the earliest, is the first of the stable sort, and the falls it ends are the words left before its run.
-/
import Derived.Test.Qxb6602348aSrt
import Derived.Test.Qxb6602348aSrtParts
import Derived.Test.Qxb6602348aFen
import Derived.Test.Qxb6602348aHeap
namespace Go.Proofs.Qxb6602348a
open Flt

def catN (R : Nat → List Nat) : Nat → List Nat
  | 0 => []
  | k + 1 => catN R k ++ R k

theorem catN_mem {R : Nat → List Nat} {k a : Nat} : a ∈ catN R k ↔ ∃ q, q < k ∧ a ∈ R q := by
  induction k with
  | zero => simp [catN]
  | succ k ih =>
    rw [catN, List.mem_append, ih]
    constructor
    · rintro (⟨q, hq, h⟩ | h)
      · exact ⟨q, by omega, h⟩
      · exact ⟨k, by omega, h⟩
    · rintro ⟨q, hq, h⟩
      by_cases c : q = k
      · subst c; exact Or.inr h
      · exact Or.inl ⟨q, by omega, h⟩
theorem catN_congr {R R' : Nat → List Nat} {k : Nat} (h : ∀ q, q < k → R q = R' q) : catN R k = catN R' k := by
  induction k with
  | zero => rfl
  | succ k ih => rw [catN, catN, ih (fun q hq => h q (by omega)), h k (by omega)]
theorem catN_len (R : Nat → List Nat) (k : Nat) : ((catN R k).length : Int) = sumN (fun q => ((R q).length : Int)) k := by
  induction k with
  | zero => rfl
  | succ k ih => rw [catN, List.length_append, sumN, ← ih]; omega

/-- Run r parted from what lies before it and behind it. -/
theorem catN_part {R R' : Nat → List Nat} {k r : Nat} (hr : r < k) {v : Nat} {t : List Nat} (e : R r = v :: t) (e' : R' r = t) (ho : ∀ q, q ≠ r → R' q = R q) :
    ∃ Q, catN R k = catN R r ++ v :: Q ∧ catN R' k = catN R r ++ Q ∧ ∀ a ∈ Q, a ∈ t ∨ ∃ q, r < q ∧ q < k ∧ a ∈ R q := by
  induction k with
  | zero => omega
  | succ k ih =>
    by_cases c : r = k
    · subst c
      refine ⟨t, by rw [catN, e], ?_, fun a h => Or.inl h⟩
      rw [catN, e', catN_congr (R := R') (R' := R) (fun q hq => ho q (by omega))]
    · obtain ⟨Q, h1, h2, h3⟩ := ih (by omega)
      refine ⟨Q ++ R k, by rw [catN, h1]; simp, by rw [catN, h2, ho k (by omega)]; simp, fun a ha => ?_⟩
      rcases List.mem_append.1 ha with h | h
      · rcases h3 a h with h | ⟨q, h1, h2, h3⟩
        · exact Or.inl h
        · exact Or.inr ⟨q, h1, by omega, h3⟩
      · exact Or.inr ⟨k, by omega, by omega, h⟩

theorem srt_first {P Q : List Nat} {v : Nat} (hP : ∀ a ∈ P, key v < key a) (hQ : ∀ a ∈ Q, key v ≤ key a) : srt (P ++ v :: Q) = v :: srt (P ++ Q) := by
  rw [srt_append, srtOn_cons, srt_append]
  have : ins v (srt P) = v :: srt P := by
    cases h : srt P with
    | nil => rfl
    | cons x r =>
      have hx : x ∈ P := srt_mem.1 (by rw [h]; exact List.mem_cons_self)
      simp only [ins]
      rw [if_pos (hP x hx)]
  rw [this, srtOn_ge hQ]
theorem inv_first {P Q : List Nat} {v : Nat} (hP : ∀ a ∈ P, key v < key a) (hQ : ∀ a ∈ Q, key v ≤ key a) : inv (P ++ v :: Q) = P.length + inv (P ++ Q) := by
  rw [inv_append, inv_append, cross_cons, above_all hP]
  simp only [inv]
  rw [below_none hQ]
  omega

/-- The least head, of equals the earliest, comes first. -/
theorem kway {R R' : Nat → List Nat} {k r : Nat} (hr : r < k) {v : Nat} {t : List Nat} (e : R r = v :: t) (e' : R' r = t) (ho : ∀ q, q ≠ r → R' q = R q) (hU : ∀ q, q < k → Up (R q))
    (hm : ∀ q, q < k → R q ≠ [] → le (fun q => key ((R q).getD 0 0)) r q) :
    srt (catN R k) = v :: srt (catN R' k) ∧ inv (catN R k) = (catN R r).length + inv (catN R' k) := by
  obtain ⟨Q, h1, h2, h3⟩ := catN_part hr e e' ho
  have hd : ∀ q, q < k → ∀ a ∈ R q, key ((R q).getD 0 0) ≤ key a := by
    intro q hq a ha
    have := hU q hq
    cases hR : R q with
    | nil => rw [hR] at ha; simp at ha
    | cons x s =>
      rw [hR] at ha this
      simp only [List.getD_cons_zero]
      rcases List.mem_cons.1 ha with rfl | h
      · exact Int.le_refl _
      · exact List.rel_of_pairwise_cons this h
  have hv : key ((R r).getD 0 0) = key v := by rw [e]; rfl
  have hne : ∀ q, ∀ a ∈ R q, R q ≠ [] := fun q a ha h => by rw [h] at ha; simp at ha
  have hP : ∀ a ∈ catN R r, key v < key a := by
    intro a ha
    obtain ⟨q, hq, ha⟩ := catN_mem.1 ha
    have h4 := hm q (by omega) (hne q a ha)
    have h5 := hd q (by omega) a ha
    unfold le at h4
    simp only [hv] at h4
    omega
  have hQ : ∀ a ∈ Q, key v ≤ key a := by
    intro a ha
    rcases h3 a ha with h | ⟨q, hq, hqk, ha⟩
    · have := hU r hr
      rw [e] at this
      exact List.rel_of_pairwise_cons this h
    · have h4 := hm q hqk (hne q a ha)
      have h5 := hd q hqk a ha
      unfold le at h4
      simp only [hv] at h4
      omega
  rw [h1, h2]
  exact ⟨srt_first hP hQ, inv_first hP hQ⟩

/-- What is left of run q. -/
def Rs (rss : List (List Nat)) (nx : List Nat) (q : Nat) : List Nat := (rss.getD q []).drop (nx.getD q 0)
def hkey (rss : List (List Nat)) (nx : List Nat) (q : Nat) : Int := key ((rss.getD q []).getD (nx.getD q 0) 0)
def cntR (rss : List (List Nat)) (nx : List Nat) (q : Nat) : Int := ((Rs rss nx q).length : Int)
def InR (rss : List (List Nat)) (nx : List Nat) (q : Nat) : Prop := q < rss.length ∧ nx.getD q 0 < (rss.getD q []).length
def allR (rss : List (List Nat)) : List Nat := catN (fun q => rss.getD q []) rss.length

theorem Rs_len (rss : List (List Nat)) (nx : List Nat) (q : Nat) : (Rs rss nx q).length = (rss.getD q []).length - nx.getD q 0 := by simp [Rs]
theorem Rs_head (rss : List (List Nat)) (nx : List Nat) (q : Nat) : (Rs rss nx q).getD 0 0 = (rss.getD q []).getD (nx.getD q 0) 0 := by
  rw [Rs, getD_drop, Nat.add_zero]
theorem Rs_cons {rss : List (List Nat)} {nx : List Nat} {q : Nat} (h : InR rss nx q) : Rs rss nx q = (rss.getD q []).getD (nx.getD q 0) 0 :: (rss.getD q []).drop (nx.getD q 0 + 1) := by
  obtain ⟨_, h2⟩ := h
  have e : (rss.getD q []).getD (nx.getD q 0) 0 = (rss.getD q [])[nx.getD q 0] := by
    rw [List.getD_eq_getElem?_getD (l := rss.getD q []), List.getElem?_eq_getElem h2]; rfl
  rw [Rs, List.drop_eq_getElem_cons h2, e]

/-- WHAT HOLDS BETWEEN TWO ROUNDS OF THE MERGE. -/
structure MST (rss : List (List Nat)) (nx H : List Nat) (f : List Int) (i : Nat) (D : List Nat) (fl : Nat) : Prop where
  nlen : nx.length = rss.length
  nle : ∀ q, q < rss.length → nx.getD q 0 ≤ (rss.getD q []).length
  hs : HS H (InR rss nx)
  hp : HP (hkey rss nx) H 0
  fen : FEN f (cntR rss nx)
  flen : f.length = rss.length + 1
  dlen : D.length = (allR rss).length
  done : ∀ j, j < i → D.getD j 0 = (srt (allR rss)).getD j 0
  rest : srt (catN (Rs rss nx) rss.length) = (srt (allR rss)).drop i
  falls : fl + inv (catN (Rs rss nx) rss.length) = inv (allR rss)

section
variable {rss : List (List Nat)} {nx H : List Nat} {f : List Int} {i : Nat} {D : List Nat} {fl : Nat}

theorem MST.left (h : MST rss nx H f i D fl) : (catN (Rs rss nx) rss.length).length = (allR rss).length - i := by
  have := congrArg List.length h.rest
  rw [srt_length, List.length_drop, srt_length] at this
  exact this
/-- While a word is wanted the heap is not empty, and its root's run has a next word. -/
theorem MST.root (h : MST rss nx H f i D fl) (hi : i < D.length) : 0 < H.length ∧ InR rss nx (H.getD 0 0) := by
  have hl := h.left
  rw [h.dlen] at hi
  obtain ⟨a, ha⟩ : ∃ a, a ∈ catN (Rs rss nx) rss.length := by
    cases hc : catN (Rs rss nx) rss.length with
    | nil => rw [hc] at hl; simp at hl; omega
    | cons x s => exact ⟨x, List.mem_cons_self⟩
  obtain ⟨q, hq, ha⟩ := catN_mem.1 ha
  have hin : InR rss nx q := by
    refine ⟨hq, ?_⟩
    have := List.length_pos_of_mem ha
    rw [Rs_len] at this
    omega
  obtain ⟨j, hj, _⟩ := h.hs.full q hin
  have h0 : 0 < H.length := by omega
  exact ⟨h0, h.hs.sound 0 h0⟩
theorem MST.sums (h : MST rss nx H f i D fl) (n : Nat) (hn : n ≤ rss.length) : 0 ≤ sumN (cntR rss nx) n ∧ sumN (cntR rss nx) n ≤ (allR rss).length := by
  have hp : ∀ j, 0 ≤ cntR rss nx j := fun j => by simp [cntR]
  refine ⟨sumN_nonneg hp n, ?_⟩
  have h1 := sumN_mono hp hn
  have h2 : ((catN (Rs rss nx) rss.length).length : Int) = sumN (cntR rss nx) rss.length := catN_len _ _
  have := h.left
  omega
theorem sumN_cnt (rss : List (List Nat)) (nx : List Nat) (r : Nat) : sumN (cntR rss nx) r = ((catN (Rs rss nx) r).length : Int) := (catN_len (Rs rss nx) r).symm

/-- THE ROUND: the root's word taken, its run's next place moved on; the heap is yet to be mended. -/
theorem MST.turn (h : MST rss nx H f i D fl) (hi : i < D.length) (hU : ∀ q, q < rss.length → Up (rss.getD q [])) {r : Nat} (hr : r = H.getD 0 0) {f' : List Int} (hf : FEN f' (upd (cntR rss nx) r (-1))) (hfl : f'.length = f.length) {nx' : List Nat} (hn : nx' = nx.set r (nx.getD r 0 + 1)) :
    (∀ q, InR rss nx' q ↔ InR rss nx q ∧ ¬ (q = r ∧ nx.getD r 0 + 1 = (rss.getD r []).length)) ∧ (∀ q, q ≠ r → hkey rss nx' q = hkey rss nx q) ∧
    ∀ H', HS H' (InR rss nx') → HP (hkey rss nx') H' 0 → MST rss nx' H' f' (i + 1) (D.set i ((rss.getD r []).getD (nx.getD r 0) 0)) (fl + (catN (Rs rss nx) r).length) := by
  obtain ⟨h0, hin⟩ := h.root hi
  rw [← hr] at hin
  have hrk := hin.1
  have gx : ∀ q, nx'.getD q 0 = if q = r then nx.getD r 0 + 1 else nx.getD q 0 := by
    intro q
    rw [hn, getD_setN]
    by_cases c : r = q
    · subst c; rw [if_pos ⟨rfl, by rw [h.nlen]; exact hrk⟩, if_pos rfl]
    · rw [if_neg (by omega), if_neg (by omega)]
  have gR : ∀ q, q ≠ r → Rs rss nx' q = Rs rss nx q := fun q hq => by rw [Rs, Rs, gx q, if_neg hq]
  have gr : Rs rss nx' r = (rss.getD r []).drop (nx.getD r 0 + 1) := by rw [Rs, gx r, if_pos rfl]
  have hmin : ∀ q, q < rss.length → Rs rss nx q ≠ [] → le (fun q => key ((Rs rss nx q).getD 0 0)) r q := by
    intro q hq hne
    have hin : InR rss nx q := by
      refine ⟨hq, ?_⟩
      have := List.length_pos_iff.2 hne
      rw [Rs_len] at this
      omega
    obtain ⟨j, hj, e⟩ := h.hs.full q hin
    have := HP_root h.hp j hj
    rw [e, ← hr] at this
    unfold le hkey at *
    simp only [Rs_head]
    exact this
  obtain ⟨k1, k2⟩ := kway (R := Rs rss nx) (R' := Rs rss nx') (k := rss.length) hrk (Rs_cons hin) gr gR (fun q hq => (hU q hq).sublist (List.drop_sublist _ _)) hmin
  refine ⟨fun q => ?_, fun q hq => ?_, fun H' hS hP => ?_⟩
  · unfold InR
    rw [gx q]
    by_cases c : q = r
    · subst c
      rw [if_pos rfl]
      have := hin.2
      constructor
      · rintro ⟨a, b⟩; exact ⟨⟨a, by omega⟩, by omega⟩
      · rintro ⟨⟨a, b⟩, c⟩; exact ⟨a, by omega⟩
    · rw [if_neg c]
      constructor
      · rintro ⟨a, b⟩; exact ⟨⟨a, b⟩, by omega⟩
      · rintro ⟨a, b⟩; exact a
  · unfold hkey
    rw [gx q, if_neg hq]
  · have hrest := h.rest
    rw [k1] at hrest
    have hlt : i < (srt (allR rss)).length := by rw [srt_length, ← h.dlen]; exact hi
    rw [List.drop_eq_getElem_cons hlt] at hrest
    obtain ⟨e1, e2⟩ := List.cons.inj hrest
    refine ⟨by rw [hn, List.length_set, h.nlen], fun q hq => ?_, hS, hP, ?_, by rw [hfl, h.flen], by rw [List.length_set, h.dlen], fun j hj => ?_, e2, ?_⟩
    · rw [gx q]
      split
      · rename_i c; subst c; exact hin.2
      · exact h.nle q hq
    · refine FEN_congr hf fun j hj => ?_
      unfold upd cntR
      by_cases c : j = r
      · subst c
        rw [if_pos rfl, Rs_len, Rs_len, gx j, if_pos rfl]
        have := hin.2
        omega
      · rw [if_neg c, gR j c]
    · rw [getD_setN]
      by_cases c : i = j
      · subst c
        rw [if_pos ⟨rfl, hi⟩, e1, List.getD_eq_getElem?_getD, List.getElem?_eq_getElem hlt]; rfl
      · rw [if_neg (by omega)]; exact h.done j (by omega)
    · have := h.falls
      rw [k2] at this
      omega

theorem MST.end (h : MST rss nx H f i D fl) (hi : D.length ≤ i) : D = srt (allR rss) ∧ fl = inv (allR rss) := by
  have hl := h.left
  have hd := h.dlen
  have hnil : catN (Rs rss nx) rss.length = [] := List.eq_nil_of_length_eq_zero (by omega)
  refine ⟨ext_getD (by rw [srt_length, hd]) fun j hj => h.done j (by omega), ?_⟩
  have := h.falls
  rw [hnil] at this
  simpa [inv] using this
end

theorem allR_eq (rss : List (List Nat)) : catN (Rs rss (List.replicate rss.length 0)) rss.length = allR rss := by
  refine catN_congr fun q hq => ?_
  rw [Rs, List.getD_eq_getElem?_getD, List.getElem?_replicate, if_pos hq]
  rfl

/-- Where the merge begins. -/
theorem MST_start {rss : List (List Nat)} {H : List Nat} {f : List Int} {D : List Nat} (hS : HS H (InR rss (List.replicate rss.length 0))) (hP : HP (hkey rss (List.replicate rss.length 0)) H 0) (hF : FEN f (cntR rss (List.replicate rss.length 0))) (hfl : f.length = rss.length + 1) (hD : D.length = (allR rss).length) :
    MST rss (List.replicate rss.length 0) H f 0 D 0 := by
  refine ⟨by simp, fun q hq => ?_, hS, hP, hF, hfl, hD, fun j hj => absurd hj (by omega), by rw [allR_eq]; rfl, by rw [allR_eq]; omega⟩
  rw [List.getD_eq_getElem?_getD, List.getElem?_replicate, if_pos hq]
  simp

/-- WHILE THE RUNS ARE COUNTED: r of them are done. -/
structure BST (rss : List (List Nat)) (H : List Nat) (f : List Int) (r : Nat) : Prop where
  hs : HS H (fun q => q < r ∧ 0 < (rss.getD q []).length)
  fen : FEN f (fun q => if q < r then ((rss.getD q []).length : Int) else 0)
  flen : f.length = rss.length + 1
  hlen : H.length ≤ r

theorem BST_start (rss : List (List Nat)) : BST rss [] (List.replicate (rss.length + 1) 0) 0 :=
  ⟨⟨fun i hi => absurd hi (by simp), fun q hq => absurd hq.1 (by omega), fun i j hi => absurd hi (by simp)⟩, FEN_congr (FEN_zero _) (fun j _ => by simp), by simp, by simp⟩
theorem BST.next {rss : List (List Nat)} {H : List Nat} {f : List Int} {r : Nat} (h : BST rss H f r) {f' : List Int} (hf : FEN f' (upd (fun q => if q < r then ((rss.getD q []).length : Int) else 0) r ((rss.getD r []).length : Int))) (hfl : f'.length = f.length) :
    (0 < (rss.getD r []).length → BST rss (H ++ [r]) f' (r + 1)) ∧ (¬ 0 < (rss.getD r []).length → BST rss H f' (r + 1)) := by
  have hf' : FEN f' (fun q => if q < r + 1 then ((rss.getD q []).length : Int) else 0) := by
    refine FEN_congr hf fun j _ => ?_
    unfold upd
    show (if j = r then (if j < r then ((rss.getD j []).length : Int) else 0) + ((rss.getD r []).length : Int) else (if j < r then ((rss.getD j []).length : Int) else 0)) = (if j < r + 1 then ((rss.getD j []).length : Int) else 0)
    by_cases c : j = r
    · subst c; rw [if_pos rfl, if_neg (by omega), if_pos (by omega)]; omega
    · rw [if_neg c]
      by_cases c2 : j < r
      · rw [if_pos c2, if_pos (by omega)]
      · rw [if_neg c2, if_neg (by omega)]
  refine ⟨fun c => ⟨HS_push h.hs (r := r) (by omega) (fun q => ?_), hf', by rw [hfl, h.flen], by simp; exact h.hlen⟩, fun c => ⟨HS_keep h.hs (fun q => ?_), hf', by rw [hfl, h.flen], by have := h.hlen; omega⟩⟩
  · constructor
    · rintro ⟨a, b⟩
      by_cases e : q = r
      · exact Or.inr e
      · exact Or.inl ⟨by omega, b⟩
    · rintro (⟨a, b⟩ | rfl)
      · exact ⟨by omega, b⟩
      · exact ⟨by omega, c⟩
  · constructor
    · rintro ⟨a, b⟩
      by_cases e : q = r
      · subst e; exact absurd b c
      · exact ⟨by omega, b⟩
    · rintro ⟨a, b⟩; exact ⟨by omega, b⟩
theorem BST.end {rss : List (List Nat)} {H : List Nat} {f : List Int} {r : Nat} (h : BST rss H f r) (hr : r = rss.length) : HS H (InR rss (List.replicate rss.length 0)) ∧ FEN f (cntR rss (List.replicate rss.length 0)) ∧ f.length = rss.length + 1 := by
  have g : ∀ q, (List.replicate rss.length 0).getD q 0 = 0 := fun q => by
    rw [List.getD_eq_getElem?_getD, List.getElem?_replicate]; split <;> rfl
  refine ⟨HS_keep h.hs fun q => ?_, FEN_congr h.fen fun j hj => ?_, h.flen⟩
  · unfold InR; rw [g, hr]
  · unfold cntR; rw [Rs_len, g, if_pos (by have := h.flen; omega)]; rfl

end Go.Proofs.Qxb6602348a
