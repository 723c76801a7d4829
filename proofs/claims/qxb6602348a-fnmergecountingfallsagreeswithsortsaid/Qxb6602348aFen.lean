/-
  A FENWICK TREE, PLAIN: the lowest bit ('lb'), what a place of the tree holds ('FEN'), adding and summing. No Go in sight but the word's own 'and'.
-/
import Derived.Laws.Bits128
namespace Go.Proofs.Qxb6602348a

/-- The lowest bit that stands, with fuel. -/
def lbF : Nat → Nat → Nat
  | 0, _ => 0
  | n + 1, i => if i = 0 then 0 else if i % 2 = 1 then 1 else 2 * lbF n (i / 2)
/-- The lowest bit that stands. -/
def lb (i : Nat) : Nat := lbF i i

theorem lbF_fuel {n m i : Nat} (hn : i ≤ n) (hm : i ≤ m) : lbF n i = lbF m i := by
  induction n generalizing m i with
  | zero =>
    have : i = 0 := by omega
    subst this
    cases m with
    | zero => rfl
    | succ m => simp [lbF]
  | succ n ih =>
    cases m with
    | zero =>
      have : i = 0 := by omega
      subst this
      simp [lbF]
    | succ m =>
      by_cases c : i = 0
      · simp [lbF, c]
      · have := ih (m := m) (i := i / 2) (by omega) (by omega)
        simp only [lbF, this]
theorem lb_zero : lb 0 = 0 := rfl
theorem lb_odd {i : Nat} (h : i % 2 = 1) : lb i = 1 := by
  obtain ⟨n, rfl⟩ : ∃ n, i = n + 1 := ⟨i - 1, by omega⟩
  show lbF (n + 1) (n + 1) = 1
  rw [lbF, if_neg (by omega), if_pos h]
theorem lb_two (j : Nat) : lb (2 * j) = 2 * lb j := by
  by_cases c : j = 0
  · subst c; rfl
  · obtain ⟨n, hn⟩ : ∃ n, 2 * j = n + 1 := ⟨2 * j - 1, by omega⟩
    show lbF (2 * j) (2 * j) = 2 * lbF j j
    rw [hn, lbF, if_neg (by omega), if_neg (by omega), show (n + 1) / 2 = j by omega, lbF_fuel (n := n) (m := j) (by omega) (by omega)]

theorem lb_pos {i : Nat} (h : 0 < i) : 0 < lb i := by
  induction i using Nat.strongRecOn with
  | _ i ih =>
    by_cases c : i % 2 = 1
    · rw [lb_odd c]; omega
    · have := ih (i / 2) (by omega) (by omega)
      have e := lb_two (i / 2)
      rw [show 2 * (i / 2) = i by omega] at e
      omega
theorem lb_le (i : Nat) : lb i ≤ i := by
  induction i using Nat.strongRecOn with
  | _ i ih =>
    by_cases c : i % 2 = 1
    · rw [lb_odd c]; omega
    · by_cases z : i = 0
      · subst z; simp [lb_zero]
      · have := ih (i / 2) (by omega)
        have e := lb_two (i / 2)
        rw [show 2 * (i / 2) = i by omega] at e
        omega
/-- Between i and the next place of i's chain the spans begin at i or later. -/
theorem lb_between {i t : Nat} (h0 : 0 < t) (h : t < lb i) : lb (i + t) ≤ t := by
  induction i using Nat.strongRecOn generalizing t with
  | _ i ih =>
    by_cases c : i % 2 = 1
    · rw [lb_odd c] at h; omega
    · by_cases z : i = 0
      · subst z; rw [Nat.zero_add]; exact lb_le t
      · have e := lb_two (i / 2)
        rw [show 2 * (i / 2) = i by omega] at e
        by_cases ct : t % 2 = 1
        · rw [lb_odd (by omega)]; omega
        · have := ih (i / 2) (by omega) (t := t / 2) (by omega) (by omega)
          have e2 := lb_two (i / 2 + t / 2)
          rw [show 2 * (i / 2 + t / 2) = i + t by omega] at e2
          omega
theorem lb_next {i : Nat} (h : 0 < i) : 2 * lb i ≤ lb (i + lb i) := by
  induction i using Nat.strongRecOn with
  | _ i ih =>
    by_cases c : i % 2 = 1
    · have e := lb_two ((i + 1) / 2)
      rw [show 2 * ((i + 1) / 2) = i + 1 by omega] at e
      have := lb_pos (i := (i + 1) / 2) (by omega)
      rw [lb_odd c]
      omega
    · have e := lb_two (i / 2)
      rw [show 2 * (i / 2) = i by omega] at e
      have := ih (i / 2) (by omega) (by omega)
      have e2 := lb_two (i / 2 + lb (i / 2))
      rw [show 2 * (i / 2 + lb (i / 2)) = i + lb i by omega] at e2
      omega

theorem and_compl {n j : Nat} (h : j < 2 ^ n) : j &&& (2 ^ n - 1 - j) = 0 := by
  induction n generalizing j with
  | zero => simp at h; subst h; rfl
  | succ n ih =>
    have h2 : 2 ^ (n + 1) = 2 * 2 ^ n := by rw [Nat.pow_succ]; omega
    have := ih (j := j / 2) (by omega)
    have d : (j &&& (2 ^ (n + 1) - 1 - j)) / 2 = j / 2 &&& (2 ^ (n + 1) - 1 - j) / 2 := Nat.and_div_two
    rw [show (2 ^ (n + 1) - 1 - j) / 2 = 2 ^ n - 1 - j / 2 by omega, this] at d
    have m : (j &&& (2 ^ (n + 1) - 1 - j)) % 2 = 0 := by
      rcases Nat.mod_two_eq_zero_or_one (j &&& (2 ^ (n + 1) - 1 - j)) with h | h
      · exact h
      · have := Nat.and_mod_two_eq_one.1 h
        omega
    omega
theorem and_neg {n i : Nat} (h0 : 0 < i) (h : i < 2 ^ n) : i &&& (2 ^ n - i) = lb i := by
  induction n generalizing i with
  | zero => simp at h; omega
  | succ n ih =>
    have h2 : 2 ^ (n + 1) = 2 * 2 ^ n := by rw [Nat.pow_succ]; omega
    have d : (i &&& (2 ^ (n + 1) - i)) / 2 = i / 2 &&& (2 ^ (n + 1) - i) / 2 := Nat.and_div_two
    by_cases c : i % 2 = 1
    · rw [show (2 ^ (n + 1) - i) / 2 = 2 ^ n - 1 - i / 2 by omega, and_compl (by omega)] at d
      have m : (i &&& (2 ^ (n + 1) - i)) % 2 = 1 := Nat.and_mod_two_eq_one.2 ⟨c, by omega⟩
      rw [lb_odd c]
      omega
    · have := ih (i := i / 2) (by omega) (by omega)
      rw [show (2 ^ (n + 1) - i) / 2 = 2 ^ n - i / 2 by omega, this] at d
      have m : (i &&& (2 ^ (n + 1) - i)) % 2 = 0 := by
        rcases Nat.mod_two_eq_zero_or_one (i &&& (2 ^ (n + 1) - i)) with h | h
        · exact h
        · have := Nat.and_mod_two_eq_one.1 h
          omega
      have e := lb_two (i / 2)
      rw [show 2 * (i / 2) = i by omega] at e
      omega

/-- 'i & -i'. -/
theorem bits_and_neg {i : Nat} (h0 : 0 < i) (h : i < 2 ^ 32) : bits .and .i64 (i : Int) (-(i : Int)) = (lb i : Int) := by
  show IntKind.i64.wrap ((BitVec.ofInt 64 (i : Int) &&& BitVec.ofInt 64 (-(i : Int))).toNat : Nat) = _
  have e1 : (BitVec.ofInt 64 (i : Int)).toNat = i := by
    rw [BitVec.toNat_ofInt]; omega
  have e2 : (BitVec.ofInt 64 (-(i : Int))).toNat = 2 ^ 64 - i := by
    rw [BitVec.toNat_ofInt]; omega
  rw [BitVec.toNat_and, e1, e2, and_neg h0 (by omega)]
  have := lb_le i
  rw [IntKind.wrap_i64]
  omega

/-- The sum of the first n counts. -/
def sumN (a : Nat → Int) : Nat → Int
  | 0 => 0
  | n + 1 => sumN a n + a n
def upd (a : Nat → Int) (p : Nat) (d : Int) : Nat → Int := fun j => if j = p then a j + d else a j
theorem sumN_upd (a : Nat → Int) (p : Nat) (d : Int) (n : Nat) : sumN (upd a p d) n = sumN a n + if p < n then d else 0 := by
  induction n with
  | zero => simp [sumN]
  | succ n ih =>
    simp only [sumN, ih, upd]
    by_cases c : n = p
    · subst c; simp; omega
    · rw [if_neg c]
      by_cases c2 : p < n
      · rw [if_pos c2, if_pos (by omega)]; omega
      · rw [if_neg c2, if_neg (by omega)]; omega

/-- f is the tree of the counts a. -/
def FEN (f : List Int) (a : Nat → Int) : Prop := ∀ i, 0 < i → i < f.length → f.getD i 0 = sumN a i - sumN a (i - lb i)
/-- On the way of an 'add' of d at p: the places below 'cur' are done. -/
def FENA (f0 f : List Int) (p : Nat) (d : Int) (cur : Nat) : Prop :=
  f.length = f0.length ∧ cur - lb cur ≤ p ∧ p < cur ∧ ∀ i, f.getD i 0 = f0.getD i 0 + if i < cur ∧ i - lb i ≤ p ∧ p < i then d else 0

theorem FENA_start (f : List Int) (p : Nat) (d : Int) : FENA f f p d (p + 1) := by
  have := lb_pos (i := p + 1) (by omega)
  refine ⟨rfl, by omega, by omega, fun i => ?_⟩
  rw [if_neg (by omega)]
  omega
theorem FENA_get {f0 f : List Int} {p : Nat} {d : Int} {cur : Nat} (h : FENA f0 f p d cur) : f.getD cur 0 = f0.getD cur 0 := by
  rw [h.2.2.2 cur, if_neg (by omega)]; omega
theorem getD_setI (L : List Int) (i : Nat) (v : Int) (j : Nat) : (L.set i v).getD j 0 = if i = j ∧ j < L.length then v else L.getD j 0 := by
  simp only [List.getD_eq_getElem?_getD, List.getElem?_set]
  by_cases c : i = j
  · subst c
    by_cases c2 : i < L.length
    · simp [c2]
    · simp [c2]
  · simp [c]
theorem FENA_step {f0 f : List Int} {p : Nat} {d : Int} {cur : Nat} (h : FENA f0 f p d cur) (hc : cur < f.length) : FENA f0 (f.set cur (f.getD cur 0 + d)) p d (cur + lb cur) := by
  have hg := FENA_get h
  obtain ⟨h1, h2, h3, h4⟩ := h
  have hp := lb_pos (i := cur) (by omega)
  have hn := lb_next (i := cur) (by omega)
  refine ⟨by simp [h1], by omega, by omega, fun i => ?_⟩
  rw [getD_setI]
  by_cases c : cur = i
  · subst c
    rw [if_pos ⟨rfl, hc⟩, if_pos (by omega), hg]
  · rw [if_neg (by omega), h4 i]
    by_cases c2 : i < cur
    · by_cases c3 : i - lb i ≤ p ∧ p < i
      · rw [if_pos (by omega), if_pos (by omega)]
      · rw [if_neg (by omega), if_neg (by omega)]
    · rw [if_neg (by omega), if_neg]
      intro c3
      have := lb_between (i := cur) (t := i - cur) (by omega) (by omega)
      rw [show cur + (i - cur) = i by omega] at this
      omega
theorem FENA_end {f0 f : List Int} {a : Nat → Int} {p : Nat} {d : Int} {cur : Nat} (h : FENA f0 f p d cur) (hF : FEN f0 a) (hc : f.length ≤ cur) : FEN f (upd a p d) ∧ f.length = f0.length := by
  obtain ⟨h1, h2, h3, h4⟩ := h
  refine ⟨fun i hi hl => ?_, h1⟩
  rw [h4 i, hF i hi (by omega), sumN_upd, sumN_upd]
  have := lb_pos hi
  by_cases c : p < i
  · by_cases c2 : p < i - lb i
    · rw [if_neg (by omega), if_pos c, if_pos c2]; omega
    · rw [if_pos (by omega), if_pos c, if_neg c2]; omega
  · rw [if_neg (by omega), if_neg c, if_neg (by omega)]; omega

theorem sumN_zero (n : Nat) : sumN (fun _ => 0) n = 0 := by
  induction n with
  | zero => rfl
  | succ n ih => simp [sumN, ih]
theorem FEN_zero (n : Nat) : FEN (List.replicate n 0) (fun _ => 0) := by
  intro i hi hl
  rw [sumN_zero, sumN_zero]
  simp only [List.getD_eq_getElem?_getD, List.getElem?_replicate]
  split <;> simp
theorem sumN_congr {a b : Nat → Int} {n : Nat} (h : ∀ j, j < n → a j = b j) : sumN a n = sumN b n := by
  induction n with
  | zero => rfl
  | succ n ih => simp only [sumN]; rw [ih (fun j hj => h j (by omega)), h n (by omega)]
theorem FEN_congr {f : List Int} {a b : Nat → Int} (h : FEN f a) (e : ∀ j, j + 1 < f.length → a j = b j) : FEN f b := by
  intro i hi hl
  rw [h i hi hl, sumN_congr (n := i) (fun j hj => e j (by omega)), sumN_congr (n := i - lb i) (fun j hj => e j (by omega))]
theorem sumN_nonneg {a : Nat → Int} (h : ∀ j, 0 ≤ a j) (n : Nat) : 0 ≤ sumN a n := by
  induction n with
  | zero => simp [sumN]
  | succ n ih => simp only [sumN]; have := h n; omega
theorem sumN_mono {a : Nat → Int} (h : ∀ j, 0 ≤ a j) {n m : Nat} (hnm : n ≤ m) : sumN a n ≤ sumN a m := by
  induction m with
  | zero => rw [show n = 0 by omega]; omega
  | succ m ih =>
    by_cases c : n = m + 1
    · subst c; omega
    · simp only [sumN]; have := h m; have := ih (by omega); omega

end Go.Proofs.Qxb6602348a
