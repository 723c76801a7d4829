/-
  RANK SUMS OF SORTED SAMPLES, PLAIN: what is summed over the groups is what the pairs say. No Go in sight.
-/
import Derived.Test.Qxb6602348aGrp
namespace Go.Proofs.Qxb6602348a

/-- In ascending order. -/
def Asc (L : List Int) : Prop := L.Pairwise (· ≤ ·)

theorem Asc.drop {L : List Int} (h : Asc L) (k : Nat) : Asc (L.drop k) := List.Pairwise.sublist (List.drop_sublist k L) h

def ltc (a : Int) : List Int → Nat
  | [] => 0
  | b :: r => (if a < b then 1 else 0) + ltc a r
def cnt (a : Int) : List Int → Nat
  | [] => 0
  | b :: r => (if b = a then 1 else 0) + cnt a r
/-- Pairs (x, y) with x < y; with x = y. -/
def Lt : List Int → List Int → Nat
  | [], _ => 0
  | a :: r, Y => ltc a Y + Lt r Y
def Eqs : List Int → List Int → Nat
  | [], _ => 0
  | a :: r, Y => cnt a Y + Eqs r Y
/-- The first values of the runs, 'p' standing ahead. -/
def hds : Option Int → List Int → List Int
  | _, [] => []
  | p, a :: r => if p = some a then hds (some a) r else a :: hds (some a) r

def cube (t : Nat) : Nat := t * t * t - t
/-- Summed over a list of values: the ties with both samples; of the second alone, where the first has none. -/
def SX (X Y : List Int) : List Int → Nat
  | [] => 0
  | v :: r => cube (cnt v X + cnt v Y) + SX X Y r
def SY (X Y : List Int) : List Int → Nat
  | [] => 0
  | v :: r => (if cnt v X = 0 then cube (cnt v Y) else 0) + SY X Y r
def NY (X : List Int) : List Int → Nat
  | [] => 0
  | v :: r => (if cnt v X = 0 then 1 else 0) + NY X r

theorem run_split (v : Int) (L : List Int) (hs : Asc L) (hv : ∀ a ∈ L, v ≤ a) : L = List.replicate (run v L) v ++ L.drop (run v L) ∧ ∀ a ∈ L.drop (run v L), v < a := by
  induction L with
  | nil => simp [run]
  | cons x r ih =>
    have hs' : Asc r := List.Pairwise.tail hs
    by_cases e : x = v
    · subst e
      have er : run x (x :: r) = run x r + 1 := by simp [run]
      obtain ⟨h1, h2⟩ := ih hs' (fun a ha => hv a (by simp [ha]))
      rw [er]
      refine ⟨?_, by simpa using h2⟩
      rw [List.replicate_succ, List.cons_append, List.drop_succ_cons, ← h1]
    · have er : run v (x :: r) = 0 := by simp [run, e]
      rw [er]
      refine ⟨by simp, ?_⟩
      intro a ha
      have hx := hv x (by simp)
      simp only [List.drop_zero, List.mem_cons] at ha
      rcases ha with rfl | ha
      · omega
      · have := List.rel_of_pairwise_cons hs ha
        omega

theorem vmin_le (X Y : List Int) (hx : Asc X) (hy : Asc Y) : (∀ a ∈ X, vmin X Y ≤ a) ∧ ∀ a ∈ Y, vmin X Y ≤ a := by
  cases X with
  | nil =>
    cases Y with
    | nil => simp
    | cons y r =>
      refine ⟨by simp, fun a ha => ?_⟩
      simp only [vmin]
      simp only [List.mem_cons] at ha
      rcases ha with rfl | ha
      · omega
      · exact List.rel_of_pairwise_cons hy ha
  | cons x r =>
    have h1 : ∀ a ∈ x :: r, x ≤ a := fun a ha => by
      simp only [List.mem_cons] at ha
      rcases ha with rfl | ha
      · omega
      · exact List.rel_of_pairwise_cons hx ha
    cases Y with
    | nil => exact ⟨fun a ha => h1 a ha, by simp⟩
    | cons y r' =>
      have h2 : ∀ a ∈ y :: r', y ≤ a := fun a ha => by
        simp only [List.mem_cons] at ha
        rcases ha with rfl | ha
        · omega
        · exact List.rel_of_pairwise_cons hy ha
      simp only [vmin]
      split
      · exact ⟨fun a ha => h1 a ha, fun a ha => by have := h2 a ha; omega⟩
      · exact ⟨fun a ha => by have := h1 a ha; omega, fun a ha => h2 a ha⟩

theorem ltc_append (a : Int) (L M : List Int) : ltc a (L ++ M) = ltc a L + ltc a M := by
  induction L with
  | nil => simp [ltc]
  | cons b r ih => simp only [List.cons_append, ltc, ih]; omega
theorem cnt_append (a : Int) (L M : List Int) : cnt a (L ++ M) = cnt a L + cnt a M := by
  induction L with
  | nil => simp [cnt]
  | cons b r ih => simp only [List.cons_append, cnt, ih]; omega
theorem ltc_rep (a v : Int) (n : Nat) : ltc a (List.replicate n v) = if a < v then n else 0 := by
  induction n with
  | zero => simp [ltc]
  | succ n ih => simp only [List.replicate_succ, ltc, ih]; split <;> omega
theorem cnt_rep (a v : Int) (n : Nat) : cnt a (List.replicate n v) = if v = a then n else 0 := by
  induction n with
  | zero => simp [cnt]
  | succ n ih => simp only [List.replicate_succ, cnt, ih]; split <;> omega
theorem ltc_all (a : Int) (L : List Int) (h : ∀ b ∈ L, a < b) : ltc a L = L.length := by
  induction L with
  | nil => rfl
  | cons b r ih =>
    simp only [ltc, List.length_cons]
    rw [if_pos (h b (by simp)), ih (fun c hc => h c (by simp [hc]))]
    omega
theorem cnt_none (a : Int) (L : List Int) (h : ∀ b ∈ L, b ≠ a) : cnt a L = 0 := by
  induction L with
  | nil => rfl
  | cons b r ih =>
    simp only [cnt]
    rw [if_neg (h b (by simp)), ih (fun c hc => h c (by simp [hc]))]
theorem cnt_pos {a : Int} {L : List Int} (h : a ∈ L) : 0 < cnt a L := by
  induction L with
  | nil => simp at h
  | cons b r ih =>
    simp only [cnt]
    simp only [List.mem_cons] at h
    rcases h with rfl | h
    · rw [if_pos rfl]; omega
    · have := ih h; omega
theorem cnt_le (a : Int) (L : List Int) : cnt a L ≤ L.length := by
  induction L with
  | nil => simp [cnt]
  | cons b r ih => simp only [cnt, List.length_cons]; split <;> omega

theorem Lt_append (L M Y : List Int) : Lt (L ++ M) Y = Lt L Y + Lt M Y := by
  induction L with
  | nil => simp [Lt]
  | cons b r ih => simp only [List.cons_append, Lt, ih]; omega
theorem Eqs_append (L M Y : List Int) : Eqs (L ++ M) Y = Eqs L Y + Eqs M Y := by
  induction L with
  | nil => simp [Eqs]
  | cons b r ih => simp only [List.cons_append, Eqs, ih]; omega
theorem Lt_rep (v : Int) (n : Nat) (Y : List Int) : Lt (List.replicate n v) Y = n * ltc v Y := by
  induction n with
  | zero => simp [Lt]
  | succ n ih => simp only [List.replicate_succ, Lt, ih, Nat.add_mul]; omega
theorem Eqs_rep (v : Int) (n : Nat) (Y : List Int) : Eqs (List.replicate n v) Y = n * cnt v Y := by
  induction n with
  | zero => simp [Eqs]
  | succ n ih => simp only [List.replicate_succ, Eqs, ih, Nat.add_mul]; omega
theorem Lt_congr (X Y Y' : List Int) (h : ∀ a ∈ X, ltc a Y = ltc a Y') : Lt X Y = Lt X Y' := by
  induction X with
  | nil => rfl
  | cons a r ih => simp only [Lt, h a (by simp), ih (fun b hb => h b (by simp [hb]))]
theorem Eqs_congr (X Y Y' : List Int) (h : ∀ a ∈ X, cnt a Y = cnt a Y') : Eqs X Y = Eqs X Y' := by
  induction X with
  | nil => rfl
  | cons a r ih => simp only [Eqs, h a (by simp), ih (fun b hb => h b (by simp [hb]))]

theorem hds_mem (p : Option Int) (L : List Int) : ∀ a ∈ hds p L, a ∈ L := by
  induction L generalizing p with
  | nil => simp [hds]
  | cons b r ih =>
    intro a ha
    simp only [hds] at ha
    split at ha
    · exact List.mem_cons_of_mem _ (ih _ a ha)
    · simp only [List.mem_cons] at ha ⊢
      rcases ha with h | h
      · exact Or.inl h
      · exact Or.inr (ih _ a h)
theorem hds_skip (v : Int) (n : Nat) (L : List Int) : hds (some v) (List.replicate n v ++ L) = hds (some v) L := by
  induction n with
  | zero => rfl
  | succ n ih => simp only [List.replicate_succ, List.cons_append, hds, if_true, ih]
theorem hds_fresh (v : Int) (L : List Int) (h : ∀ a ∈ L, v < a) : hds (some v) L = hds none L := by
  cases L with
  | nil => rfl
  | cons a r =>
    have := h a (by simp)
    simp only [hds]
    rw [if_neg (by simp; omega), if_neg (by simp)]
/-- The run's head, and the rest's. -/
theorem hds_run (v : Int) (n : Nat) (L : List Int) (h : ∀ a ∈ L, v < a) : hds none (List.replicate n v ++ L) = (if n = 0 then [] else [v]) ++ hds none L := by
  cases n with
  | zero => simp
  | succ n =>
    simp only [List.replicate_succ, List.cons_append, hds]
    rw [if_neg (by simp), hds_skip, hds_fresh v L h, if_neg (by omega)]
    rfl

theorem SX_congr {X Y X' Y' : List Int} (l : List Int) (h : ∀ a ∈ l, cnt a X = cnt a X' ∧ cnt a Y = cnt a Y') : SX X Y l = SX X' Y' l := by
  induction l with
  | nil => rfl
  | cons a r ih =>
    have := h a (by simp)
    simp only [SX, this.1, this.2, ih (fun b hb => h b (by simp [hb]))]
theorem SY_congr {X Y X' Y' : List Int} (l : List Int) (h : ∀ a ∈ l, cnt a X = cnt a X' ∧ cnt a Y = cnt a Y') : SY X Y l = SY X' Y' l := by
  induction l with
  | nil => rfl
  | cons a r ih =>
    have := h a (by simp)
    simp only [SY, this.1, this.2, ih (fun b hb => h b (by simp [hb]))]
theorem NY_congr {X X' : List Int} (l : List Int) (h : ∀ a ∈ l, cnt a X = cnt a X') : NY X l = NY X' l := by
  induction l with
  | nil => rfl
  | cons a r ih =>
    have := h a (by simp)
    simp only [NY, this, ih (fun b hb => h b (by simp [hb]))]
theorem SX_append (X Y l m : List Int) : SX X Y (l ++ m) = SX X Y l + SX X Y m := by
  induction l with
  | nil => simp [SX]
  | cons a r ih => simp only [List.cons_append, SX, ih]; omega
theorem SY_append (X Y l m : List Int) : SY X Y (l ++ m) = SY X Y l + SY X Y m := by
  induction l with
  | nil => simp [SY]
  | cons a r ih => simp only [List.cons_append, SY, ih]; omega
theorem NY_append (X l m : List Int) : NY X (l ++ m) = NY X l + NY X m := by
  induction l with
  | nil => simp [NY]
  | cons a r ih => simp only [List.cons_append, NY, ih]; omega

theorem tOf_cons (a b : Nat) (r : List (Nat × Nat)) : tOf ((a, b) :: r) = cube (a + b) + tOf r := rfl

/-- ALL OF IT, over the suffixes at a group's head. -/
theorem grp_exact (f : Nat) (X Y : List Int) (hf : X.length + Y.length ≤ f) (hx : Asc X) (hy : Asc Y) (p : Nat) :
    uOf p (grp f X Y) = 2 * (p * Y.length) + 2 * Lt X Y + Eqs X Y ∧ (grp f X Y).length = (hds none X).length + NY X (hds none Y) ∧ tOf (grp f X Y) = SX X Y (hds none X) + SY X Y (hds none Y) := by
  induction f generalizing X Y p with
  | zero =>
    obtain rfl : X = [] := List.eq_nil_of_length_eq_zero (by omega)
    obtain rfl : Y = [] := List.eq_nil_of_length_eq_zero (by omega)
    simp [grp, uOf, tOf, Lt, Eqs, hds, NY, SX, SY]
  | succ f ih =>
    by_cases h : X.length = 0 ∧ Y.length = 0
    · obtain rfl : X = [] := List.eq_nil_of_length_eq_zero h.1
      obtain rfl : Y = [] := List.eq_nil_of_length_eq_zero h.2
      rw [grp_none _ _ _ h]
      simp [uOf, tOf, Lt, Eqs, hds, NY, SX, SY]
    · rw [grp_some _ _ _ h (by omega)]
      have hmv := grp_moves X Y h
      obtain ⟨lx, ly⟩ := vmin_le X Y hx hy
      obtain ⟨ex, gx⟩ := run_split (vmin X Y) X hx lx
      obtain ⟨ey, gy⟩ := run_split (vmin X Y) Y hy ly
      have rx := run_le (vmin X Y) X
      have ry := run_le (vmin X Y) Y
      have ih' := ih (X.drop (run (vmin X Y) X)) (Y.drop (run (vmin X Y) Y)) (by simp; omega) (hx.drop _) (hy.drop _) (p + run (vmin X Y) X)
      rw [Nat.add_sub_cancel]
      have lxy : Y.length = run (vmin X Y) Y + (Y.drop (run (vmin X Y) Y)).length := by simp; omega
      generalize run (vmin X Y) X = A at *
      generalize run (vmin X Y) Y = B at *
      generalize vmin X Y = v at *
      generalize X.drop A = X1 at *
      generalize Y.drop B = Y1 at *
      simp only [uOf, List.length_cons, tOf_cons]
      rw [ih'.1, ih'.2.1, ih'.2.2]
      have cX : ∀ a, v < a → cnt a X = cnt a X1 := fun a ha => by rw [ex, cnt_append, cnt_rep, if_neg (by omega), Nat.zero_add]
      have cY : ∀ a, v < a → cnt a Y = cnt a Y1 := fun a ha => by rw [ey, cnt_append, cnt_rep, if_neg (by omega), Nat.zero_add]
      have vX : cnt v X = A := by rw [ex, cnt_append, cnt_rep, if_pos rfl, cnt_none v X1 (fun b hb => by have := gx b hb; omega), Nat.add_zero]
      have vY : cnt v Y = B := by rw [ey, cnt_append, cnt_rep, if_pos rfl, cnt_none v Y1 (fun b hb => by have := gy b hb; omega), Nat.add_zero]
      have lY : ∀ a, v < a → ltc a Y = ltc a Y1 := fun a ha => by rw [ey, ltc_append, ltc_rep, if_neg (by omega), Nat.zero_add]
      have lv : ltc v Y = Y1.length := by rw [ey, ltc_append, ltc_rep, if_neg (by omega), ltc_all v Y1 gy, Nat.zero_add]
      have e1 : Lt X Y = A * Y1.length + Lt X1 Y1 := by
        rw [ex, Lt_append, Lt_rep, lv, Lt_congr X1 Y Y1 (fun a ha => lY a (gx a ha))]
      have e2 : Eqs X Y = A * B + Eqs X1 Y1 := by
        rw [ex, Eqs_append, Eqs_rep, vY, Eqs_congr X1 Y Y1 (fun a ha => cY a (gx a ha))]
      have hX : hds none X = (if A = 0 then [] else [v]) ++ hds none X1 := by rw [ex, hds_run v A X1 gx]
      have hY : hds none Y = (if B = 0 then [] else [v]) ++ hds none Y1 := by rw [ey, hds_run v B Y1 gy]
      have n1 : NY X (hds none Y1) = NY X1 (hds none Y1) := NY_congr _ (fun a ha => cX a (gy a (hds_mem _ _ a ha)))
      have n2 : SX X Y (hds none X1) = SX X1 Y1 (hds none X1) := SX_congr _ (fun a ha => ⟨cX a (gx a (hds_mem _ _ a ha)), cY a (gx a (hds_mem _ _ a ha))⟩)
      have n3 : SY X Y (hds none Y1) = SY X1 Y1 (hds none Y1) := SY_congr _ (fun a ha => ⟨cX a (gy a (hds_mem _ _ a ha)), cY a (gy a (hds_mem _ _ a ha))⟩)
      refine ⟨?_, ?_, ?_⟩
      · rw [e1, e2, lxy]
        grind
      · rw [hX, hY, NY_append, n1]
        by_cases a0 : A = 0
        · rw [if_pos a0, if_neg (by omega : ¬ B = 0)]
          simp only [NY, vX, a0, if_true, List.nil_append]
          omega
        · rw [if_neg a0]
          by_cases b0 : B = 0
          · rw [if_pos b0]; simp only [NY, List.length_append, List.length_cons, List.length_nil]; omega
          · rw [if_neg b0]; simp only [NY, vX, if_neg a0, List.length_append, List.length_cons, List.length_nil]; omega
      · rw [hX, hY, SX_append, SY_append, n2, n3]
        by_cases a0 : A = 0
        · rw [if_pos a0, if_neg (by omega : ¬ B = 0)]
          simp only [SX, SY, vX, vY, a0, if_true, Nat.zero_add]
          omega
        · rw [if_neg a0]
          by_cases b0 : B = 0
          · rw [if_pos b0]; simp only [SX, SY, vX, vY]; omega
          · rw [if_neg b0]; simp only [SX, SY, vX, vY, if_neg a0]; omega

end Go.Proofs.Qxb6602348a
