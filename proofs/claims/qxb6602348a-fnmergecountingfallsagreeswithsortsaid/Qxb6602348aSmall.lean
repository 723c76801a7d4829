/-
  The laws' own small functions, walked: sb1NoNaN, sb1Same, sb1SameAll.
-/
import Derived.Test.Qxb6602348aMem
import Derived.Test.Qxb6602348aSrtParts
import Derived.WalkSpells
namespace Go.Proofs.Qxb6602348a
open Go.RowKit Flt

def Num' (xs : List Nat) (k : Nat) : Prop := ∀ i, i < k → nan (xs.getD i 0) = false

theorem all_num {xs : List Nat} (h : Num' xs xs.length) : ∀ a ∈ xs, nan a = false := by
  intro a ha
  obtain ⟨i, hi, rfl⟩ := List.mem_iff_getElem.1 ha
  have := h i hi
  simpa [hi] using this

set_option maxHeartbeats 400000 in
theorem nonan_any (a : Option Addr) (c : Nat) (xs : List Nat) (w : World) (hn : xs.length ≤ 1048576) (hF : Fl w a xs) :
    Calls Try.prog 11 #[.slice a xs.length c] w fun e w' => ∃ r : Bool, e = .returned (.bool r) ∧ (r = true → Num' xs xs.length) ∧ Dr w w' := by
  go_enter Try.func11, Try.ntmps11
  go_wp2
  go_loopg [3] (xs.length + 1) (fun g i wr => ∃ k : Nat, k ≤ xs.length ∧ i = .int .i64 k ∧ xs.length + 1 - k ≤ g ∧ Dr w wr ∧ Hid (Num' xs k))
  case atStart => exact ⟨0, by omega, rfl, by omega, Dr.refl _, fun i hi => absurd hi (by omega)⟩
  case round =>
    obtain ⟨k, hk, rfl, hg, ⟨q, rfl⟩, HG⟩ := hrel
    by_cases hlt : k < xs.length
    · obtain ⟨b, off, rfl, hcell⟩ := hF.resolve_left (by omega)
      have ck := hcell k hlt
      clear hF
      by_cases hnan : nan (xs.getD k 0) = true
      · have t1 : (FloatKind.f64.format.order (xs.getD k 0) (xs.getD k 0) != some .eq) = true := (fne_self _).trans hnan
        generalize xs.getD k 0 = xk at *
        clear hcell
        go_wp2
        go_quiet (fail)
        go_wp2
        go_ret
        exact ⟨false, rfl, fun h => (by cases h), (by first | exact dr0 _ | exact (dr0 _).more | exact (dr0 _).more.more)⟩
      · have hnan' : nan (xs.getD k 0) = false := by simpa using hnan
        have t1 : (FloatKind.f64.format.order (xs.getD k 0) (xs.getD k 0) != some .eq) = false := (fne_self _).trans hnan'
        have HG' : Hid (Num' xs (k + 1)) := fun i hi => by
          by_cases e : i = k
          · subst e; exact hnan'
          · exact HG.out i (by omega)
        generalize xs.getD k 0 = xk at *
        clear hcell
        go_wp2
        go_quiet (fail)
        go_wp2
        go_roundg (xs.length - k)
        case measure => omega
        case rel => exact ⟨k + 1, by omega, by go_num, by omega, (by first | exact dr0 _ | exact (dr0 _).more | exact (dr0 _).more.more), HG'⟩
    · obtain rfl : k = xs.length := by omega
      go_wp2
      go_ret
      exact ⟨true, rfl, fun _ => HG.out, dr0 _⟩

/-- 1/x where x is a zero: an infinity. -/
theorem one_div_zero {x : Nat} (hn : nan x = false) (hk : key x = 0) : ∃ r, floatBits .quo .f64 4607182418800017408 x = some r := by
  show ∃ r, Ieee.double.div 4607182418800017408 x = some r
  unfold Ieee.Format.div
  rw [show Ieee.double.read 4607182418800017408 = .number false (2 ^ 52) (-52) by decide +kernel]
  unfold key at hk
  unfold nan at hn
  rcases read_cases x with ⟨s, m, i, hX, i1, i2, hm⟩ | ⟨s, hX⟩ | ⟨s, t, hX⟩
  · rw [hX] at hk ⊢
    simp only [dkey] at hk
    have hm0 : m = 0 := by
      rw [signed_eq] at hk
      have h2 : (0 : Int) < 2 ^ (i + 1074).toNat := pow_pos' _
      rcases Int.mul_eq_zero.1 hk with h | h
      · split at h <;> omega
      · rcases Int.mul_eq_zero.1 h with h | h
        · omega
        · omega
    subst hm0
    exact ⟨_, rfl⟩
  · rw [hX] at hk
    simp only [dkey] at hk
    have := big_pos
    split at hk <;> omega
  · rw [hX] at hn; simp [Ieee.Datum.isNaN] at hn

theorem key_zero : key 0 = 0 := by decide +kernel
theorem nan_zero : nan 0 = false := by decide +kernel

/-- A word is the same as itself. -/
theorem same_any (x : Nat) (w : World) : Calls Try.prog 28 #[.float .f64 x, .float .f64 x] w fun e w' => e = .returned (.bool true) ∧ w' = w := by
  by_cases hn : nan x = true
  · have t1 : (FloatKind.f64.format.order x x != some .eq) = true := (fne_self x).trans hn
    go_enter Try.func28, Try.ntmps28
    go_wp2
    go_ret
    exact ⟨rfl, rfl⟩
  · have hn' : nan x = false := by simpa using hn
    have t1 : (FloatKind.f64.format.order x x != some .eq) = false := (fne_self x).trans hn'
    have e0 : (FloatKind.f64.format.order x 0 == some .eq) = decide (key x = 0) := by
      have := feq_eq hn' nan_zero
      rw [key_zero] at this
      exact this
    by_cases hk : key x = 0
    · have t2 : (FloatKind.f64.format.order x 0 != some .eq) = false := by
        rw [bne, e0, decide_eq_true hk]; rfl
      obtain ⟨r, hr⟩ := one_div_zero hn' hk
      have r1 := fun w => run_float_arith (P := Try.prog) w .quo 28 .f64 4607182418800017408 x r hr
      obtain ⟨b, hb⟩ : ∃ b, (FloatKind.f64.format.order r 0 == some .lt) = b := ⟨_, rfl⟩
      clear e0 hk hr
      go_enter Try.func28, Try.ntmps28
      go_wp2
      go_ret
      exact ⟨by simp, rfl⟩
    · have t2 : (FloatKind.f64.format.order x 0 != some .eq) = true := by
        rw [bne, e0, decide_eq_false hk]; rfl
      clear e0 hk
      go_enter Try.func28, Try.ntmps28
      go_wp2
      go_ret
      exact ⟨rfl, rfl⟩

set_option maxHeartbeats 400000 in
/-- Two slices of the same words. -/
theorem sameAll_any (a b : Option Addr) (c c' : Nat) (xs : List Nat) (w : World) (hn : xs.length ≤ 1048576) (hA : Fl w a xs) (hB : Fl w b xs) :
    Calls Try.prog 15 #[.slice a xs.length c, .slice b xs.length c'] w fun e w' => e = .returned (.bool true) ∧ Dr w w' := by
  go_enter Try.func15, Try.ntmps15
  go_wp2
  go_loopg [5] (xs.length + 1) (fun g i wr => ∃ k : Nat, k ≤ xs.length ∧ i = .int .i64 k ∧ xs.length + 1 - k ≤ g ∧ Dr w wr)
  case atStart => exact ⟨0, by omega, rfl, by omega, Dr.refl _⟩
  case round =>
    obtain ⟨k, hk, rfl, hg, hd⟩ := hrel
    by_cases hlt : k < xs.length
    · have hA1 := hA.dr hd
      have hB1 := hB.dr hd
      obtain ⟨ba, oa, rfl, ca⟩ := hA1.resolve_left (by omega)
      obtain ⟨bb, ob, rfl, cb⟩ := hB1.resolve_left (by omega)
      have ck := ca k hlt
      have ck' := cb k hlt
      generalize xs.getD k 0 = x at *
      clear ca cb hA hB hA1 hB1
      have C := fun n => same_any x (wr.drewN n)
      go_wp2
      go_quiet ((go_at_call 28; exact Calls.quiet_of_same (C _)))
      go_wp2
      go_roundg (xs.length - k)
      case measure => omega
      case rel => exact ⟨k + 1, by omega, by go_num, by omega, hd.more⟩
    · go_wp2
      go_ret
      exact ⟨rfl, hd⟩

end Go.Proofs.Qxb6602348a
