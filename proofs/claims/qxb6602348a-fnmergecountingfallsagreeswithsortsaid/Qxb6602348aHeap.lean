/-
  A BINARY HEAP OF RUNS, PLAIN: 'le' orders runs by the key of their next value and then by their place; sifting down; taking the root. No Go in sight.
-/
namespace Go.Proofs.Qxb6602348a

/-- Run a comes no later than run b. -/
def le (hk : Nat → Int) (a b : Nat) : Prop := hk a < hk b ∨ (hk a = hk b ∧ a ≤ b)
theorem le_refl (hk : Nat → Int) (a : Nat) : le hk a a := Or.inr ⟨rfl, Nat.le_refl _⟩
theorem le_trans {hk : Nat → Int} {a b c : Nat} (h : le hk a b) (k : le hk b c) : le hk a c := by unfold le at *; omega
theorem le_total {hk : Nat → Int} {a b : Nat} (h : ¬ le hk a b) : le hk b a := by unfold le at *; omega
theorem le_of_not_lt {hk : Nat → Int} {a b : Nat} (h : ¬ (hk b < hk a ∨ (hk b = hk a ∧ b < a))) : le hk a b := by unfold le; omega
theorem le_of_lt {hk : Nat → Int} {a b : Nat} (h : hk b < hk a ∨ (hk b = hk a ∧ b < a)) : le hk b a := by unfold le; omega

/-- No child comes ahead of its parent, the parents from s on, but for the place x. -/
def HPx (hk : Nat → Int) (H : List Nat) (s x : Nat) : Prop :=
  (∀ p c, s ≤ p → p ≠ x → (c = 2 * p + 1 ∨ c = 2 * p + 2) → c < H.length → le hk (H.getD p 0) (H.getD c 0)) ∧
  (∀ q c, s ≤ q → (x = 2 * q + 1 ∨ x = 2 * q + 2) → (c = 2 * x + 1 ∨ c = 2 * x + 2) → c < H.length → le hk (H.getD q 0) (H.getD c 0))
def HP (hk : Nat → Int) (H : List Nat) (s : Nat) : Prop :=
  ∀ p c, s ≤ p → (c = 2 * p + 1 ∨ c = 2 * p + 2) → c < H.length → le hk (H.getD p 0) (H.getD c 0)

/-- The list holds each of these, once. -/
structure HS (H : List Nat) (In : Nat → Prop) : Prop where
  sound : ∀ i, i < H.length → In (H.getD i 0)
  full : ∀ q, In q → ∃ i, i < H.length ∧ H.getD i 0 = q
  once : ∀ i j, i < H.length → j < H.length → H.getD i 0 = H.getD j 0 → i = j

theorem getD_setN (L : List Nat) (i v j : Nat) : (L.set i v).getD j 0 = if i = j ∧ j < L.length then v else L.getD j 0 := by
  simp only [List.getD_eq_getElem?_getD, List.getElem?_set]
  by_cases c : i = j
  · subst c
    by_cases c2 : i < L.length
    · simp [c2]
    · simp [c2]
  · simp [c]

def hswp (H : List Nat) (i c : Nat) : List Nat := (H.set i (H.getD c 0)).set c (H.getD i 0)
theorem hswp_length (H : List Nat) (i c : Nat) : (hswp H i c).length = H.length := by simp [hswp]
theorem hswp_get {H : List Nat} {i c : Nat} (hi : i < H.length) (hc : c < H.length) (j : Nat) : (hswp H i c).getD j 0 = if j = c then H.getD i 0 else if j = i then H.getD c 0 else H.getD j 0 := by
  unfold hswp
  rw [getD_setN, getD_setN, List.length_set]
  by_cases c1 : j = c
  · subst c1; rw [if_pos ⟨rfl, hc⟩, if_pos rfl]
  · rw [if_neg (by omega), if_neg c1]
    by_cases c2 : j = i
    · subst c2; rw [if_pos ⟨rfl, hi⟩, if_pos rfl]
    · rw [if_neg (by omega), if_neg c2]

theorem hswp_HS {H : List Nat} {In : Nat → Prop} (h : HS H In) {i c : Nat} (hi : i < H.length) (hc : c < H.length) : HS (hswp H i c) In := by
  refine ⟨fun j hj => ?_, fun q hq => ?_, fun a b ha hb e => ?_⟩
  · rw [hswp_length] at hj
    rw [hswp_get hi hc]
    split
    · exact h.sound i hi
    · split
      · exact h.sound c hc
      · exact h.sound j hj
  · obtain ⟨j, hj, e⟩ := h.full q hq
    rw [hswp_length]
    by_cases c1 : j = i
    · exact ⟨c, hc, by rw [hswp_get hi hc, if_pos rfl, ← c1, e]⟩
    · by_cases c2 : j = c
      · refine ⟨i, hi, ?_⟩
        rw [hswp_get hi hc]
        by_cases c3 : i = c
        · omega
        · rw [if_neg c3, if_pos rfl, ← c2, e]
      · exact ⟨j, hj, by rw [hswp_get hi hc, if_neg c2, if_neg c1, e]⟩
  · rw [hswp_length] at ha hb
    have hin := h.once
    rw [hswp_get hi hc, hswp_get hi hc] at e
    by_cases a1 : a = c
    · rw [if_pos a1] at e
      by_cases b1 : b = c
      · omega
      · rw [if_neg b1] at e
        by_cases b2 : b = i
        · rw [if_pos b2] at e; have := hin i c hi hc e; omega
        · rw [if_neg b2] at e; have := hin i b hi hb e; omega
    · rw [if_neg a1] at e
      by_cases a2 : a = i
      · rw [if_pos a2] at e
        by_cases b1 : b = c
        · rw [if_pos b1] at e; have := hin c i hc hi e; omega
        · rw [if_neg b1] at e
          by_cases b2 : b = i
          · omega
          · rw [if_neg b2] at e; have := hin c b hc hb e; omega
      · rw [if_neg a2] at e
        by_cases b1 : b = c
        · rw [if_pos b1] at e; have := hin a i ha hi e; omega
        · rw [if_neg b1] at e
          by_cases b2 : b = i
          · rw [if_pos b2] at e; have := hin a c ha hc e; omega
          · rw [if_neg b2] at e; exact hin a b ha hb e

/-- No child, or the lesser child is not ahead of its parent: the heap stands. -/
theorem HPx_leaf {hk : Nat → Int} {H : List Nat} {s x : Nat} (h : HPx hk H s x) (hx : H.length ≤ 2 * x + 1) : HP hk H s := by
  intro p c hp hc hl
  exact h.1 p c hp (by omega) hc hl
theorem HPx_stop {hk : Nat → Int} {H : List Nat} {s x c : Nat} (h : HPx hk H s x) (hm : ∀ d, (d = 2 * x + 1 ∨ d = 2 * x + 2) → d < H.length → le hk (H.getD c 0) (H.getD d 0)) (hle : le hk (H.getD x 0) (H.getD c 0)) : HP hk H s := by
  intro p d hp hd hl
  by_cases e : p = x
  · subst e; exact le_trans hle (hm d hd hl)
  · exact h.1 p d hp e hd hl
/-- The lesser child goes up, and the place that is not yet right is the child's. -/
theorem HPx_swap {hk : Nat → Int} {H : List Nat} {s x c : Nat} (h : HPx hk H s x) (hs : s ≤ x) (hc : c = 2 * x + 1 ∨ c = 2 * x + 2) (hl : c < H.length) (hm : ∀ d, (d = 2 * x + 1 ∨ d = 2 * x + 2) → d < H.length → le hk (H.getD c 0) (H.getD d 0)) (hle : le hk (H.getD c 0) (H.getD x 0)) : HPx hk (hswp H x c) s c := by
  have hx : x < H.length := by omega
  refine ⟨fun p d hp hpc hd hdl => ?_, fun q d hq hqc hd hdl => ?_⟩
  · rw [hswp_length] at hdl
    rw [hswp_get hx hl, hswp_get hx hl, if_neg hpc]
    by_cases e : p = x
    · subst e
      rw [if_pos rfl]
      by_cases e2 : d = c
      · rw [if_pos e2]; exact hle
      · rw [if_neg e2, if_neg (by omega)]; exact hm d hd hdl
    · rw [if_neg e, if_neg (by omega)]
      by_cases e2 : d = x
      · rw [if_pos e2]; exact h.2 p c hp (by omega) hc hl
      · rw [if_neg e2]; exact h.1 p d hp e hd hdl
  · rw [hswp_length] at hdl
    have e : q = x := by omega
    subst e
    rw [hswp_get hx hl, hswp_get hx hl, if_neg (by omega), if_pos rfl, if_neg (by omega), if_neg (by omega)]
    exact h.1 c d (by omega) (by omega) hd hdl

theorem HP_down {hk : Nat → Int} {H : List Nat} {s : Nat} (h : HP hk H (s + 1)) : HPx hk H s s :=
  ⟨fun p c hp hx hc hl => h p c (by omega) hc hl, fun q c hq hx => absurd hx (by omega)⟩
theorem HP_leaves {hk : Nat → Int} {H : List Nat} {s : Nat} (h : H.length ≤ 2 * s + 1) : HP hk H s := by
  intro p c hp hc hl; omega
theorem HP_root {hk : Nat → Int} {H : List Nat} (h : HP hk H 0) : ∀ c, c < H.length → le hk (H.getD 0 0) (H.getD c 0) := by
  intro c
  induction c using Nat.strongRecOn with
  | _ c ih =>
    intro hl
    by_cases c0 : c = 0
    · subst c0; exact le_refl _ _
    · exact le_trans (ih ((c - 1) / 2) (by omega) (by omega)) (h ((c - 1) / 2) c (by omega) (by omega) hl)

/-- The root's next value is another one. -/
theorem HP_turn {hk hk' : Nat → Int} {H : List Nat} {In : Nat → Prop} (h : HP hk H 0) (hS : HS H In) (hl : 0 < H.length) (he : ∀ q, q ≠ H.getD 0 0 → hk' q = hk q) : HPx hk' H 0 0 := by
  refine ⟨fun p c _ hp hc hcl => ?_, fun q c hq hx => absurd hx (by omega)⟩
  have hne : ∀ i, i ≠ 0 → i < H.length → hk' (H.getD i 0) = hk (H.getD i 0) := fun i hi hil => he _ (fun e => hi (hS.once i 0 hil hl e))
  have := h p c (by omega) hc hcl
  unfold le at *
  rw [hne p hp (by omega), hne c (by omega) hcl]
  exact this

/-- The last one in the root's place. -/
def pop (H : List Nat) : List Nat := (H.set 0 (H.getD (H.length - 1) 0)).take (H.length - 1)
theorem pop_length (H : List Nat) : (pop H).length = H.length - 1 := by simp [pop]
theorem pop_get (H : List Nat) (j : Nat) (hj : j < H.length - 1) : (pop H).getD j 0 = if j = 0 then H.getD (H.length - 1) 0 else H.getD j 0 := by
  unfold pop
  have : ((H.set 0 (H.getD (H.length - 1) 0)).take (H.length - 1)).getD j 0 = (H.set 0 (H.getD (H.length - 1) 0)).getD j 0 := by
    simp only [List.getD_eq_getElem?_getD, List.getElem?_take, if_pos hj]
  rw [this, getD_setN]
  by_cases c : j = 0
  · subst c; rw [if_pos (by omega), if_pos rfl]
  · rw [if_neg (by omega), if_neg c]
theorem pop_HP {hk hk' : Nat → Int} {H : List Nat} {In : Nat → Prop} (h : HP hk H 0) (hS : HS H In) (hl : 0 < H.length) (he : ∀ q, q ≠ H.getD 0 0 → hk' q = hk q) : HPx hk' (pop H) 0 0 := by
  refine ⟨fun p c _ hp hc hcl => ?_, fun q c hq hx => absurd hx (by omega)⟩
  rw [pop_length] at hcl
  rw [pop_get H p (by omega), pop_get H c hcl, if_neg hp, if_neg (by omega)]
  have hne : ∀ i, i ≠ 0 → i < H.length → hk' (H.getD i 0) = hk (H.getD i 0) := fun i hi hil => he _ (fun e => hi (hS.once i 0 hil hl e))
  have := h p c (by omega) hc (by omega)
  unfold le at *
  rw [hne p hp (by omega), hne c (by omega) (by omega)]
  exact this
theorem pop_HS {H : List Nat} {In In' : Nat → Prop} (hS : HS H In) (hl : 0 < H.length) (he : ∀ q, In' q ↔ In q ∧ q ≠ H.getD 0 0) : HS (pop H) In' := by
  refine ⟨fun i hi => ?_, fun q hq => ?_, fun i j hi hj e => ?_⟩
  · rw [pop_length] at hi
    rw [pop_get H i hi, he]
    split
    · exact ⟨hS.sound _ (by omega), fun e => by have := hS.once _ _ (by omega) hl e; omega⟩
    · exact ⟨hS.sound _ (by omega), fun e => by have := hS.once _ _ (by omega) hl e; omega⟩
  · obtain ⟨hq1, hq2⟩ := (he q).1 hq
    obtain ⟨i, hi, e⟩ := hS.full q hq1
    have hi0 : i ≠ 0 := fun z => hq2 (by rw [← e, z])
    rw [pop_length]
    by_cases c : i = H.length - 1
    · exact ⟨0, by omega, by rw [pop_get H 0 (by omega), if_pos rfl, ← c, e]⟩
    · exact ⟨i, by omega, by rw [pop_get H i (by omega), if_neg hi0, e]⟩
  · rw [pop_length] at hi hj
    rw [pop_get H i hi, pop_get H j hj] at e
    have hin := hS.once
    by_cases c1 : i = 0
    · rw [if_pos c1] at e
      by_cases c2 : j = 0
      · omega
      · rw [if_neg c2] at e; have := hin _ _ (by omega) (by omega) e; omega
    · rw [if_neg c1] at e
      by_cases c2 : j = 0
      · rw [if_pos c2] at e; have := hin _ _ (by omega) (by omega) e; omega
      · rw [if_neg c2] at e; exact hin _ _ (by omega) (by omega) e

/-- One more, laid behind the others. -/
theorem HS_push {H : List Nat} {In In' : Nat → Prop} (hS : HS H In) {r : Nat} (hr : ¬ In r) (he : ∀ q, In' q ↔ In q ∨ q = r) : HS (H ++ [r]) In' := by
  have hg : ∀ i, (H ++ [r]).getD i 0 = if i < H.length then H.getD i 0 else if i = H.length then r else 0 := by
    intro i
    simp only [List.getD_eq_getElem?_getD]
    by_cases c : i < H.length
    · rw [if_pos c, List.getElem?_append_left c]
    · rw [if_neg c, List.getElem?_append_right (by omega)]
      by_cases c2 : i = H.length
      · subst c2; simp
      · rw [if_neg c2, List.getElem?_eq_none (by simp; omega)]; rfl
  have hL : (H ++ [r]).length = H.length + 1 := by simp
  refine ⟨fun i hi => ?_, fun q hq => ?_, fun i j hi hj e => ?_⟩
  · rw [hg, he]
    by_cases c : i < H.length
    · rw [if_pos c]; exact Or.inl (hS.sound i c)
    · rw [if_neg c, if_pos (by omega)]; exact Or.inr rfl
  · rcases (he q).1 hq with h | rfl
    · obtain ⟨i, hi, e⟩ := hS.full q h
      exact ⟨i, by omega, by rw [hg, if_pos hi, e]⟩
    · exact ⟨H.length, by omega, by rw [hg, if_neg (by omega), if_pos rfl]⟩
  · rw [hg, hg] at e
    by_cases c1 : i < H.length
    · rw [if_pos c1] at e
      by_cases c2 : j < H.length
      · rw [if_pos c2] at e; exact hS.once i j c1 c2 e
      · rw [if_neg c2, if_pos (by omega)] at e
        exact absurd (e ▸ hS.sound i c1) hr
    · rw [if_neg c1, if_pos (by omega)] at e
      by_cases c2 : j < H.length
      · rw [if_pos c2] at e
        exact absurd (e ▸ hS.sound j c2) hr
      · omega
theorem HS_keep {H : List Nat} {In In' : Nat → Prop} (hS : HS H In) (he : ∀ q, In' q ↔ In q) : HS H In' :=
  ⟨fun i hi => (he _).2 (hS.sound i hi), fun q hq => hS.full q ((he q).1 hq), hS.once⟩

end Go.Proofs.Qxb6602348a
