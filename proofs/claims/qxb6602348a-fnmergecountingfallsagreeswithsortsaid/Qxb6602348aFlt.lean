/-
  FLOATS OF THIS SEAT, PLAIN: the order of the words of float64 as the order of a whole number ('key'); the words of the whole numbers and their halves ('h2 n': the word of n/2), on which + - * / are exact. No Go in sight.
-/
import Derived.Laws.FloatArith
namespace Go.Proofs.Qxb6602348a.Flt
open Ieee

def pw (n : Nat) : Nat := 2 ^ n
theorem pw_pos (n : Nat) : 0 < pw n := Nat.two_pow_pos n
theorem pw_le {a b : Nat} (h : a ≤ b) : 2 ^ a ≤ pw b := Nat.pow_le_pow_right (by decide) h
def big : Int := (pw 2200 : Nat)
theorem big_pos : (0 : Int) < big := Int.ofNat_lt.2 (pw_pos 2200)

/-- The datum's number times 2^1074; an infinity is beyond all. -/
def dkey : Datum → Int
  | .number s m i => signed s m (i + 1074).toNat
  | .infinity s => if s then -big else big
  | .nan .. => 0

def key (x : Nat) : Int := dkey (double.read x)
def nan (x : Nat) : Bool := (double.read x).isNaN

theorem read_cases (x : Nat) :
    (∃ s m i, double.read x = .number s m i ∧ -1074 ≤ i ∧ i ≤ 971 ∧ m < 2 ^ 53) ∨ (∃ s, double.read x = .infinity s) ∨ (∃ s t, double.read x = .nan s t) := by
  unfold Format.read
  simp only [show double.signWeight = 2 ^ 63 from rfl, show double.binade = 2 ^ 52 from rfl, show double.infRung = 2047 * 2 ^ 52 from rfl, show double.leastPlace = -1074 from rfl]
  generalize (x / 2 ^ 63 % 2 == 1) = s
  generalize hr : x % 2 ^ 63 = r
  have hr' : r < 2 ^ 63 := by rw [← hr]; exact Nat.mod_lt _ (by decide)
  split
  · rename_i h
    exact Or.inl ⟨s, r, -1074, rfl, by omega, by omega, by omega⟩
  · split
    · rename_i h1 h2
      refine Or.inl ⟨s, _, _, rfl, by omega, by omega, ?_⟩
      have : r % 2 ^ 52 < 2 ^ 52 := Nat.mod_lt _ (by decide)
      omega
    · split
      · exact Or.inr (Or.inl ⟨s, rfl⟩)
      · exact Or.inr (Or.inr ⟨s, _, rfl⟩)

theorem signed_eq (s : Bool) (m k : Nat) : signed s m k = (if s then -1 else 1) * ((m : Int) * 2 ^ k) := by
  unfold signed
  rw [Nat.shiftLeft_eq]
  cases s <;> simp

theorem signed_add (s : Bool) (m k j : Nat) : signed s m (k + j) = signed s m k * 2 ^ j := by
  rw [signed_eq, signed_eq, Int.pow_add]
  simp only [Int.mul_assoc]

theorem pow_pos' (k : Nat) : (0 : Int) < 2 ^ k := Int.pow_pos (by decide)

theorem compare_int (a b : Int) : compare a b = if a < b then .lt else if a = b then .eq else .gt := by
  show compareOfLessAndEq a b = _
  rfl

theorem compare_scale (a b c : Int) (hc : 0 < c) : compare (a * c) (b * c) = compare a b := by
  rw [compare_int, compare_int]
  by_cases h : a < b
  · rw [if_pos h, if_pos (Int.mul_lt_mul_of_pos_right h hc)]
  · rw [if_neg h, if_neg (by intro h'; exact h (Int.lt_of_mul_lt_mul_right h' (Int.le_of_lt hc)))]
    by_cases e : a = b
    · rw [if_pos e, if_pos (by rw [e])]
    · rw [if_neg e, if_neg (by intro h'; exact e (Int.eq_of_mul_eq_mul_right (by omega) h'))]

theorem signed_small (s : Bool) (m : Nat) (i : Int) (h1 : i ≤ 971) (hm : m < 2 ^ 53) : -big < signed s m (i + 1074).toNat ∧ signed s m (i + 1074).toNat < big := by
  have hk : (i + 1074).toNat ≤ 2045 := by omega
  generalize (i + 1074).toNat = k at hk
  have h2 : m <<< k < pw 2200 := by
    rw [Nat.shiftLeft_eq]
    calc m * 2 ^ k < 2 ^ 53 * 2 ^ k := Nat.mul_lt_mul_of_pos_right hm (Nat.two_pow_pos _)
      _ = 2 ^ (53 + k) := by rw [Nat.pow_add]
      _ ≤ pw 2200 := pw_le (by omega)
  have h3 : ((m <<< k : Nat) : Int) < big := Int.ofNat_lt.2 h2
  unfold signed
  have h4 : (0 : Int) ≤ ((m <<< k : Nat) : Int) := Int.natCast_nonneg _
  cases s
  · simp only [Bool.false_eq_true, if_false]; omega
  · simp only [if_true]; omega

theorem order_none {x y : Nat} (h : nan x = true ∨ nan y = true) : double.order x y = none := by
  unfold nan at h
  unfold Format.order
  generalize double.read x = a at h
  generalize double.read y = b at h
  cases a <;> cases b <;> simp_all [Datum.isNaN, Datum.order]

theorem order_some {x y : Nat} (hx : nan x = false) (hy : nan y = false) : double.order x y = some (compare (key x) (key y)) := by
  unfold nan at hx hy
  unfold Format.order key
  have hbig : (0 : Int) < big := big_pos
  rcases read_cases x with ⟨s, m, i, hX, i1, i2, hm⟩ | ⟨s, hX⟩ | ⟨s, t, hX⟩
  · rcases read_cases y with ⟨s', m', j, hY, j1, j2, hm'⟩ | ⟨s', hY⟩ | ⟨s', t', hY⟩
    · rw [hX, hY]
      simp only [Datum.order, dkey]
      have e1 : (i + 1074).toNat = (i - min i j).toNat + (min i j + 1074).toNat := by omega
      have e2 : (j + 1074).toNat = (j - min i j).toNat + (min i j + 1074).toNat := by omega
      rw [e1, e2, signed_add, signed_add, compare_scale _ _ _ (pow_pos' _)]
    · rw [hX, hY]
      simp only [Datum.order, dkey]
      have := signed_small s m i i2 hm
      rw [compare_int]
      cases s'
      · simp only [Bool.false_eq_true, if_false]; rw [if_pos (by omega)]
      · simp only [if_true]; rw [if_neg (by omega), if_neg (by omega)]
    · rw [hY] at hy; simp [Datum.isNaN] at hy
  · rcases read_cases y with ⟨s', m', j, hY, j1, j2, hm'⟩ | ⟨s', hY⟩ | ⟨s', t', hY⟩
    · rw [hX, hY]
      simp only [Datum.order, dkey]
      have := signed_small s' m' j j2 hm'
      rw [compare_int]
      cases s
      · simp only [Bool.false_eq_true, if_false]; rw [if_neg (by omega), if_neg (by omega)]
      · simp only [if_true]; rw [if_pos (by omega)]
    · rw [hX, hY]
      simp only [Datum.order, dkey, compare_int]
      cases s <;> cases s' <;> simp only [Bool.false_eq_true, if_false, if_true]
      · rw [if_neg (by omega)]; simp
      · rw [if_neg (by omega), if_neg (by omega)]; decide
      · rw [if_pos (by omega)]; decide
      · rw [if_neg (by omega)]; simp
    · rw [hY] at hy; simp [Datum.isNaN] at hy
  · rw [hX] at hx; simp [Datum.isNaN] at hx


/-! ### The tests as the order of the keys -/

/-- 'a < b', 'a == b' on words of float64. -/
def flt (x y : Nat) : Bool := double.order x y == some .lt
def feq (x y : Nat) : Bool := double.order x y == some .eq

theorem flt_iff {x y : Nat} (hx : nan x = false) (hy : nan y = false) : flt x y = true ↔ key x < key y := by
  unfold flt
  rw [order_some hx hy, compare_int]
  by_cases h : key x < key y
  · simp [h]
  · by_cases e : key x = key y <;> simp [h, e]

theorem feq_iff {x y : Nat} (hx : nan x = false) (hy : nan y = false) : feq x y = true ↔ key x = key y := by
  unfold feq
  rw [order_some hx hy, compare_int]
  by_cases h : key x < key y
  · simp [h]; omega
  · by_cases e : key x = key y <;> simp [h, e]

theorem flt_eq {x y : Nat} (hx : nan x = false) (hy : nan y = false) : flt x y = decide (key x < key y) := by
  rw [Bool.eq_iff_iff, flt_iff hx hy]; simp
theorem feq_eq {x y : Nat} (hx : nan x = false) (hy : nan y = false) : feq x y = decide (key x = key y) := by
  rw [Bool.eq_iff_iff, feq_iff hx hy]; simp

/-- 'a > b' is 'b < a' for every two words. -/
theorem fgt_eq (x y : Nat) : (double.order x y == some .gt) = flt y x := by
  by_cases hx : nan x = true
  · unfold flt; rw [order_none (Or.inl hx), order_none (Or.inr hx)]; rfl
  · by_cases hy : nan y = true
    · unfold flt; rw [order_none (Or.inr hy), order_none (Or.inl hy)]; rfl
    · have hx' : nan x = false := by simpa using hx
      have hy' : nan y = false := by simpa using hy
      unfold flt
      rw [order_some hx' hy', order_some hy' hx', compare_int, compare_int]
      by_cases h : key x < key y
      · rw [if_pos h, if_neg (by omega), if_neg (by omega)]; rfl
      · by_cases e : key x = key y
        · rw [if_neg h, if_pos e, if_neg (by omega), if_pos e.symm]; rfl
        · rw [if_neg h, if_neg e, if_pos (by omega)]; rfl

theorem fne_self (x : Nat) : (double.order x x != some .eq) = nan x := by
  cases h : nan x with
  | true => rw [order_none (Or.inl h)]; rfl
  | false => rw [order_some h h, compare_int]; simp

/-! ### The words of whole numbers and their halves -/

/-- THE WORD OF n/2. -/
def h2 (n : Nat) : Nat := double.nearest false n (-1)

theorem log2_mul_pow {m : Nat} (hm : m ≠ 0) (k : Nat) : (m * 2 ^ k).log2 = m.log2 + k := by
  have h0 : m * 2 ^ k ≠ 0 := by
    have := Nat.two_pow_pos k
    exact Nat.mul_ne_zero hm (by omega)
  have h1 := Nat.log2_self_le hm
  have h2 := Nat.lt_log2_self (n := m)
  refine Nat.le_antisymm ?_ ?_
  · have : m * 2 ^ k < 2 ^ (m.log2 + k + 1) := by
      calc m * 2 ^ k < 2 ^ (m.log2 + 1) * 2 ^ k := Nat.mul_lt_mul_of_pos_right h2 (Nat.two_pow_pos _)
        _ = 2 ^ (m.log2 + k + 1) := by rw [← Nat.pow_add]; congr 1; omega
    have := (Nat.log2_lt h0).2 this
    omega
  · refine (Nat.le_log2 h0).2 ?_
    rw [Nat.pow_add]
    exact Nat.mul_le_mul_right _ h1

theorem cut_zero (neg : Bool) (n : Nat) : Toward.even.cut neg n 0 = n := by
  simp [Toward.cut, Nat.mod_one]

theorem cut_exact (neg : Bool) {a : Nat} (ha : a ≠ 0) (d : Nat) : Toward.even.cut neg (a * 2 ^ d) d = a := by
  unfold Toward.cut
  rw [log2_mul_pow ha, show min d (a.log2 + d + 2) = d by omega]
  simp only [Nat.shiftLeft_eq, Nat.one_mul]
  have hp := Nat.two_pow_pos d
  rw [Nat.mul_div_cancel _ hp, Nat.mul_mod_left]
  have e1 : decide (2 ^ d < 2 * 0) = false := by simp
  have e2 : ((2 ^ d : Nat) == 2 * 0) = false := by
    rw [beq_eq_false_iff_ne]; omega
  simp [e2]

/-- THE NEAREST WORD HANGS ON THE NUMBER ALONE, where it has at most 53 digits. -/
theorem nearest_shift (neg : Bool) {m : Nat} (hm : m ≠ 0) (hm' : m < 2 ^ 53) (p : Int) (hp : -1074 ≤ p) (k : Nat) : double.nearest neg (m * 2 ^ k) (p - k) = double.nearest neg m p := by
  have h0 : m * 2 ^ k ≠ 0 := by
    have := Nat.two_pow_pos k
    exact Nat.mul_ne_zero hm (by omega)
  have hlog : m.log2 ≤ 52 := by
    have := (Nat.log2_lt hm).2 hm'
    omega
  unfold Format.nearest
  rw [if_neg h0, if_neg hm, log2_mul_pow hm]
  simp only [show double.fractionBits = 52 from rfl, show double.leastPlace = -1074 from rfl]
  have eL : (p - (k : Int) + ((m.log2 + k : Nat) : Int) - ((52 : Nat) : Int)) = p + (m.log2 : Int) - ((52 : Nat) : Int) := by omega
  rw [eL]
  generalize hL : max (p + (m.log2 : Int) - ((52 : Nat) : Int)) (-1074) = L
  have hpL : L ≤ p := by omega
  have key : Toward.even.cut neg ((m * 2 ^ k) <<< (p - (k : Int) - L).toNat) (L - (p - (k : Int))).toNat = Toward.even.cut neg (m <<< (p - L).toNat) (L - p).toNat := by
    rw [show (L - p).toNat = 0 by omega, cut_zero]
    by_cases c : L ≤ p - k
    · rw [show (L - (p - (k : Int))).toNat = 0 by omega, cut_zero, Nat.shiftLeft_eq, Nat.shiftLeft_eq, Nat.mul_assoc, ← Nat.pow_add]
      congr 2; omega
    · rw [show (p - (k : Int) - L).toNat = 0 by omega, Nat.shiftLeft_zero]
      obtain ⟨a, ha⟩ : ∃ a : Nat, (p - L).toNat = a := ⟨_, rfl⟩
      obtain ⟨d, hd⟩ : ∃ d : Nat, (L - (p - (k : Int))).toNat = d := ⟨_, rfl⟩
      have hk : k = a + d := by omega
      rw [ha, hd, hk, Nat.shiftLeft_eq, Nat.pow_add, ← Nat.mul_assoc]
      refine cut_exact neg ?_ d
      have := Nat.two_pow_pos a
      exact Nat.mul_ne_zero hm (by omega)
  rw [key]

theorem nearest_zero (neg : Bool) (p : Int) : double.nearest neg 0 p = double.word neg 0 := by simp [Format.nearest]

/-- Of one number (M * 2^P = n/2) one word. -/
theorem nearest_eq {M n : Nat} {P : Int} (K : Nat) (hP : -(K : Int) ≤ P) (hn : n < 2 ^ 53) (h : M * 2 ^ (P + K + 1).toNat = n * 2 ^ K) : double.nearest false M P = h2 n := by
  unfold h2
  by_cases n0 : n = 0
  · subst n0
    have : M = 0 := by
      rw [Nat.zero_mul] at h
      rcases Nat.mul_eq_zero.1 h with h | h
      · exact h
      · exact absurd h (by have := Nat.two_pow_pos (P + K + 1).toNat; omega)
    subst this
    rw [nearest_zero, nearest_zero]
  · by_cases c : -1 ≤ P
    · obtain ⟨k, hk⟩ : ∃ k : Nat, P + 1 = k := ⟨(P + 1).toNat, by omega⟩
      have e : (P + K + 1).toNat = k + K := by omega
      rw [e, Nat.pow_add, ← Nat.mul_assoc] at h
      have hM : M * 2 ^ k = n := Nat.eq_of_mul_eq_mul_right (Nat.two_pow_pos K) h
      have hM0 : M ≠ 0 := by intro e; subst e; simp at hM; omega
      have hM1 : M < 2 ^ 53 := by
        have : M * 1 ≤ M * 2 ^ k := Nat.mul_le_mul_left _ (Nat.two_pow_pos k)
        omega
      have := nearest_shift false hM0 hM1 P (by omega) k
      rw [hM, show P - (k : Int) = -1 by omega] at this
      exact this.symm
    · obtain ⟨k, hk⟩ : ∃ k : Nat, -1 - P = k := ⟨(-1 - P).toNat, by omega⟩
      have hM : M = n * 2 ^ k := by
        obtain ⟨q, hq⟩ : ∃ q : Nat, (P + K + 1).toNat = q := ⟨_, rfl⟩
        have e : K = k + q := by omega
        rw [hq, e, Nat.pow_add, ← Nat.mul_assoc] at h
        exact Nat.eq_of_mul_eq_mul_right (Nat.two_pow_pos _) h
      have := nearest_shift false n0 hn (-1) (by omega) k
      rw [← hM, show (-1 : Int) - (k : Int) = P by omega] at this
      exact this

/-- WHAT THE WORD OF n/2 READS AS: a number with no sign whose value is n/2. -/
theorem read_h2 {n : Nat} (hn : n < 2 ^ 53) : ∃ m p, double.read (h2 n) = .number false m p ∧ -1074 ≤ p ∧ p ≤ 0 ∧ (∀ K : Nat, 1074 ≤ K → m * 2 ^ (p + K + 1).toNat = n * 2 ^ K) ∧ (n ≠ 0 → m.log2 = 52) ∧ (n = 0 → m = 0) := by
  by_cases n0 : n = 0
  · subst n0
    exact ⟨0, -1074, by decide +kernel, by omega, by omega, fun K _ => by rw [Nat.zero_mul, Nat.zero_mul], fun h => absurd rfl h, fun _ => rfl⟩
  · have hlog : n.log2 ≤ 52 := by
      have := (Nat.log2_lt n0).2 hn
      omega
    have hk1 : 2 ^ 52 ≤ n * 2 ^ (52 - n.log2) := by
      have := Nat.mul_le_mul_right (2 ^ (52 - n.log2)) (Nat.log2_self_le n0)
      rw [← Nat.pow_add, show n.log2 + (52 - n.log2) = 52 by omega] at this
      exact this
    have hk2 : n * 2 ^ (52 - n.log2) < 2 ^ 53 := by
      have := Nat.mul_lt_mul_of_pos_right (Nat.lt_log2_self (n := n)) (Nat.two_pow_pos (52 - n.log2))
      rw [← Nat.pow_add, show n.log2 + 1 + (52 - n.log2) = 53 by omega] at this
      exact this
    have hk3 : (n * 2 ^ (52 - n.log2)).log2 = 52 := by rw [log2_mul_pow n0]; omega
    have hk4 : ∀ K : Nat, 1074 ≤ K → n * 2 ^ (52 - n.log2) * 2 ^ ((n.log2 : Int) - 53 + K + 1).toNat = n * 2 ^ K := by
      intro K hK
      rw [show ((n.log2 : Int) - 53 + K + 1).toNat = n.log2 + K - 52 by omega, Nat.mul_assoc, ← Nat.pow_add, show 52 - n.log2 + (n.log2 + K - 52) = K by omega]
    have e : h2 n = (n.log2 + 1021) * 2 ^ 52 + n * 2 ^ (52 - n.log2) := by
      unfold h2 Format.nearest
      rw [if_neg n0]
      simp only [show double.fractionBits = 52 from rfl, show double.leastPlace = -1074 from rfl, show double.binade = 2 ^ 52 from rfl, show double.infRung = 2047 * 2 ^ 52 from rfl]
      rw [show max (-1 + (n.log2 : Int) - ((52 : Nat) : Int)) (-1074) = (n.log2 : Int) - 53 by omega,
        show ((n.log2 : Int) - 53 - -1).toNat = 0 by omega, cut_zero, Nat.shiftLeft_eq,
        show (-1 - ((n.log2 : Int) - 53)).toNat = 52 - n.log2 by omega, show ((n.log2 : Int) - 53 - -1074).toNat = n.log2 + 1021 by omega]
      unfold Format.word
      simp only [Bool.false_eq_true, if_false]
      omega
    refine ⟨n * 2 ^ (52 - n.log2), (n.log2 : Int) - 53, ?_, by omega, by omega, hk4, fun _ => hk3, fun h => absurd h n0⟩
    rw [e]
    generalize n * 2 ^ (52 - n.log2) = m at hk1 hk2
    generalize n.log2 = l at hlog
    unfold Format.read
    simp only [show double.signWeight = 2 ^ 63 from rfl, show double.binade = 2 ^ 52 from rfl, show double.infRung = 2047 * 2 ^ 52 from rfl, show double.leastPlace = -1074 from rfl]
    have a1 : ((l + 1021) * 2 ^ 52 + m) / 2 ^ 63 = 0 := by omega
    have a2 : ((l + 1021) * 2 ^ 52 + m) % 2 ^ 63 = (l + 1021) * 2 ^ 52 + m := by omega
    rw [a1, a2, if_neg (by omega), if_pos (by omega)]
    have a3 : 2 ^ 52 + ((l + 1021) * 2 ^ 52 + m) % 2 ^ 52 = m := by omega
    have a4 : ((l + 1021) * 2 ^ 52 + m) / 2 ^ 52 - 1 = l + 1021 := by omega
    have a5 : (-1074 + ((l + 1021 : Nat) : Int)) = (l : Int) - 53 := by omega
    rw [a3, a4, a5]
    rfl


theorem pow2s (x k : Nat) : x * 2 ^ k * 2 = x * 2 ^ (k + 1) := by rw [Nat.mul_assoc, ← Nat.pow_succ]
theorem pow2a (x k j : Nat) : x * 2 ^ k * 2 ^ j = x * 2 ^ (k + j) := by rw [Nat.mul_assoc, ← Nat.pow_add]

theorem signed_pos (m k : Nat) : signed false m k = ((m * 2 ^ k : Nat) : Int) := by
  unfold signed; rw [Nat.shiftLeft_eq]; simp
theorem signed_neg (m k : Nat) : signed true m k = -((m * 2 ^ k : Nat) : Int) := by
  unfold signed; rw [Nat.shiftLeft_eq]; simp

theorem add_h2 {a b : Nat} (h : a + b < 2 ^ 53) : double.add (h2 a) (h2 b) = some (h2 (a + b)) := by
  obtain ⟨m, p, hr, hp1, hp2, hv, _, _⟩ := read_h2 (n := a) (by omega)
  obtain ⟨m', p', hr', hp1', hp2', hv', _, _⟩ := read_h2 (n := b) (by omega)
  unfold Format.add
  rw [hr, hr']
  simp only [Datum.sum, signed_pos, Option.map_some, Format.write]
  congr 1
  obtain ⟨B, hB⟩ : ∃ B, min p p' = B := ⟨_, rfl⟩
  rw [hB]
  have e0 : ((m * 2 ^ (p - B).toNat : Nat) : Int) + ((m' * 2 ^ (p' - B).toNat : Nat) : Int) = ((m * 2 ^ (p - B).toNat + m' * 2 ^ (p' - B).toNat : Nat) : Int) := by omega
  rw [e0, Int.natAbs_natCast]
  have e1 : (if ((m * 2 ^ (p - B).toNat + m' * 2 ^ (p' - B).toNat : Nat) : Int) = 0 then (false && false) else decide (((m * 2 ^ (p - B).toNat + m' * 2 ^ (p' - B).toNat : Nat) : Int) < 0)) = false := by
    split
    · rfl
    · exact decide_eq_false (by omega)
  rw [e1]
  refine nearest_eq 1074 (by omega) h ?_
  rw [Nat.add_mul, Nat.add_mul, ← hv 1074 (by omega), ← hv' 1074 (by omega), Nat.mul_assoc, Nat.mul_assoc, ← Nat.pow_add, ← Nat.pow_add]
  congr 3 <;> omega

theorem sub_h2 {a b : Nat} (h : a < 2 ^ 53) (hab : b ≤ a) : double.sub (h2 a) (h2 b) = some (h2 (a - b)) := by
  obtain ⟨m, p, hr, hp1, hp2, hv, _, _⟩ := read_h2 (n := a) (by omega)
  obtain ⟨m', p', hr', hp1', hp2', hv', _, _⟩ := read_h2 (n := b) (by omega)
  unfold Format.sub
  rw [hr, hr']
  simp only [Datum.opposite, Datum.sum, signed_pos, Bool.not_false, signed_neg, Option.map_some, Format.write]
  congr 1
  obtain ⟨B, hB⟩ : ∃ B, min p p' = B := ⟨_, rfl⟩
  rw [hB]
  have v1 : m * 2 ^ (p - B).toNat * 2 ^ (B + 1074 + 1).toNat = a * 2 ^ 1074 := by
    rw [← hv 1074 (by omega), Nat.mul_assoc, ← Nat.pow_add, show (p - B).toNat + (B + 1074 + 1).toNat = (p + ((1074 : Nat) : Int) + 1).toNat by omega]
  have v2 : m' * 2 ^ (p' - B).toNat * 2 ^ (B + 1074 + 1).toNat = b * 2 ^ 1074 := by
    rw [← hv' 1074 (by omega), Nat.mul_assoc, ← Nat.pow_add, show (p' - B).toNat + (B + 1074 + 1).toNat = (p' + ((1074 : Nat) : Int) + 1).toNat by omega]
  generalize m * 2 ^ (p - B).toNat = x at v1
  generalize m' * 2 ^ (p' - B).toNat = y at v2
  have hxy : y ≤ x := by
    have h1 : b * 2 ^ 1074 ≤ a * 2 ^ 1074 := Nat.mul_le_mul_right _ hab
    rw [← v1, ← v2] at h1
    exact Nat.le_of_mul_le_mul_right h1 (Nat.two_pow_pos _)
  have e0 : (x : Int) + -(y : Int) = ((x - y : Nat) : Int) := by omega
  rw [e0, Int.natAbs_natCast]
  have e1 : (if ((x - y : Nat) : Int) = 0 then (false && true) else decide (((x - y : Nat) : Int) < 0)) = false := by
    split
    · rfl
    · exact decide_eq_false (by omega)
  rw [e1]
  refine nearest_eq 1074 (by omega) (by omega) ?_
  rw [Nat.sub_mul, Nat.sub_mul, ← v1, ← v2]
  rfl

theorem mul_h2 {a b : Nat} (ha : 2 * a < 2 ^ 53) (hb : b < 2 ^ 53) (h : a * b < 2 ^ 53) : double.mul (h2 (2 * a)) (h2 b) = some (h2 (a * b)) := by
  obtain ⟨m, p, hr, hp1, hp2, hv, _, _⟩ := read_h2 (n := 2 * a) ha
  obtain ⟨m', p', hr', hp1', hp2', hv', _, _⟩ := read_h2 (n := b) hb
  unfold Format.mul
  rw [hr, hr']
  simp only [Datum.product, Option.map_some, Format.write]
  congr 1
  obtain ⟨K, hK⟩ : ∃ K : Nat, K = 1074 := ⟨_, rfl⟩
  refine nearest_eq (K + K) (by omega) h ?_
  have h1 := hv K (by omega)
  have h2 := hv' K (by omega)
  have e : m * m' * 2 ^ (p + p' + ((K + K : Nat) : Int) + 1).toNat * 2 = (m * 2 ^ (p + (K : Int) + 1).toNat) * (m' * 2 ^ (p' + (K : Int) + 1).toNat) := by
    rw [Nat.mul_mul_mul_comm, ← Nat.pow_add, pow2s, show (p + p' + ((K + K : Nat) : Int) + 1).toNat + 1 = (p + (K : Int) + 1).toNat + (p' + (K : Int) + 1).toNat by omega]
  refine Nat.eq_of_mul_eq_mul_right (show 0 < 2 by decide) ?_
  rw [e, h1, h2, Nat.pow_add, Nat.mul_mul_mul_comm]
  generalize 2 ^ K * 2 ^ K = q
  rw [Nat.mul_comm (a * b * q) 2]
  simp only [Nat.mul_assoc]

theorem div_h2 {a : Nat} (ha : 2 * a < 2 ^ 53) : double.div (h2 (2 * a)) 4611686018427387904 = some (h2 a) := by
  obtain ⟨m, p, hr, hp1, hp2, hv, hl, hz⟩ := read_h2 (n := 2 * a) ha
  unfold Format.div
  rw [hr, show double.read 4611686018427387904 = .number false (2 ^ 52) (-51) by decide +kernel, show double.fractionBits = 52 from rfl]
  have hq : Datum.quotient (52 + 2) (.number false m p) (.number false (2 ^ 52) (-51)) = some (.number false (2 * (m <<< (52 + 2 + (2 ^ 52 : Nat).log2 - m.log2) / 2 ^ 52) + (m <<< (52 + 2 + (2 ^ 52 : Nat).log2 - m.log2) % 2 ^ 52 != 0).toNat) (p - -51 - ((52 + 2 + (2 ^ 52 : Nat).log2 - m.log2 : Nat) : Int) - 1)) := rfl
  rw [hq]
  simp only [Option.map_some, Format.write]
  congr 1
  by_cases a0 : a = 0
  · subst a0
    rw [hz rfl]
    simp [nearest_zero, h2]
  · have hlm : m.log2 = 52 := hl (by omega)
    obtain ⟨K, hK⟩ : ∃ K : Nat, K = 1074 := ⟨_, rfl⟩
    rw [hlm, show (2 ^ 52 : Nat).log2 = 52 by decide +kernel, show 52 + 2 + 52 - 52 = 54 from rfl, Nat.shiftLeft_eq]
    rw [show m * 2 ^ 54 / 2 ^ 52 = 4 * m by omega, show m * 2 ^ 54 % 2 ^ 52 = 0 by omega]
    simp only [bne_self_eq_false, Bool.toNat_false, Nat.add_zero]
    refine nearest_eq (K + 4) (by omega) (by omega) ?_
    have h1 := hv K (by omega)
    refine Nat.eq_of_mul_eq_mul_right (show 0 < 2 by decide) ?_
    have e1 : a * 2 ^ (K + 4) * 2 = 2 * a * 2 ^ K * 2 ^ 4 := by rw [pow2a, Nat.mul_right_comm, Nat.mul_comm a 2]
    rw [e1, ← h1, show 2 * (4 * m) = m * 2 ^ 3 by omega, pow2a, pow2a, pow2s, show 3 + (p - -51 - ((54 : Nat) : Int) - 1 + ((K + 4 : Nat) : Int) + 1).toNat + 1 = (p + (K : Int) + 1).toNat + 4 by omega]

theorem nan_h2 {n : Nat} (hn : n < 2 ^ 53) : nan (h2 n) = false := by
  obtain ⟨m, p, hr, _⟩ := read_h2 hn
  unfold nan; rw [hr]; rfl

theorem order_h2 {a b : Nat} (ha : a < 2 ^ 53) (hb : b < 2 ^ 53) : double.order (h2 a) (h2 b) = some (compare (a : Int) (b : Int)) := by
  obtain ⟨m, p, hr, hp1, hp2, hv, _, _⟩ := read_h2 ha
  obtain ⟨m', p', hr', hp1', hp2', hv', _, _⟩ := read_h2 hb
  rw [order_some (nan_h2 ha) (nan_h2 hb)]
  unfold key
  rw [hr, hr']
  simp only [dkey, signed_pos]
  obtain ⟨K, hK⟩ : ∃ K : Nat, K = 1074 := ⟨_, rfl⟩
  have h1 := hv K (by omega)
  have h2 := hv' K (by omega)
  have c1 := compare_scale ((m * 2 ^ (p + 1074).toNat : Nat) : Int) ((m' * 2 ^ (p' + 1074).toNat : Nat) : Int) ((2 : Nat) : Int) (by decide)
  have c2 := compare_scale (a : Int) (b : Int) ((2 ^ K : Nat) : Int) (by have := Nat.two_pow_pos K; omega)
  rw [← c1, ← c2, ← Int.natCast_mul, ← Int.natCast_mul, ← Int.natCast_mul, ← Int.natCast_mul, ← h1, ← h2, pow2s, pow2s,
    show (p + 1074).toNat + 1 = (p + (K : Int) + 1).toNat by omega, show (p' + 1074).toNat + 1 = (p' + (K : Int) + 1).toNat by omega]

theorem ofInt_h2 {n : Nat} (hn : 2 * n < 2 ^ 53) : floatOfInt .f64 (n : Int) = h2 (2 * n) := by
  show double.nearest _ _ _ = _
  rw [show decide ((n : Int) < 0) = false from decide_eq_false (by omega), Int.natAbs_natCast]
  refine nearest_eq 0 (by omega) hn ?_
  simp only [show ((0 : Int) + ((0 : Nat) : Int) + 1).toNat = 1 from rfl]
  omega

theorem h2_zero : h2 0 = 0 := by decide +kernel
theorem h2_four : h2 4 = 4611686018427387904 := by decide +kernel

end Go.Proofs.Qxb6602348a.Flt
