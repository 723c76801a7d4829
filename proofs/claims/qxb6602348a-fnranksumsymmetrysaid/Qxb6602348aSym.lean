/-
  THE WALK OF FnRankSumSymmetry: it returns true; nothing that was there has turned.
-/
import Derived.Test.Qxb6602348aRankTop
namespace Go.Proofs.Qxb6602348a
open Go.RowKit Flt

theorem zz22 (ax ay : Option Addr) (n m cx cy : Nat) (w : World) :
    Calls Try.prog 22 #[.slice ax n cx, .slice ay m cy] w fun e w' => AnsB (fun r => r = true → n + m ≤ 1048576) e ∧ w = w' := by
  by_cases h1 : (1048576 : Int) < (n : Int)
  · go_enter Try.func22, Try.ntmps22
    go_wp2
    go_ret
    exact ⟨AnsB.no (fun h => by cases h), rfl⟩
  · by_cases h2 : (1048576 : Int) < (m : Int)
    · go_enter Try.func22, Try.ntmps22
      go_wp2
      go_ret
      exact ⟨AnsB.no (fun h => by cases h), rfl⟩
    · by_cases h3 : (1048576 : Int) < (n : Int) + (m : Int)
      · go_enter Try.func22, Try.ntmps22
        go_wp2
        go_ret
        exact ⟨AnsB.no (fun h => by cases h), rfl⟩
      · go_enter Try.func22, Try.ntmps22
        go_wp2
        go_ret
        exact ⟨AnsB.yes (fun _ => by omega), rfl⟩

/-- All that the law's tests ask, of words. -/
theorem sym_floats (xs ys : List Nat) (hn : xs.length ≤ 65536) (hm : ys.length ≤ 65536) :
    ∃ (s fn fm s2 : Nat) (b1 b2 : Bool), floatBits .add .f64 (h2 (uOf 0 (G xs ys))) (h2 (uOf 0 (G ys xs))) = some s ∧ floatOfInt .f64 (xs.length : Int) = fn ∧ floatOfInt .f64 (ys.length : Int) = fm ∧ floatBits .mul .f64 fn fm = some s ∧
      (FloatKind.f64.format.order s s != some .eq) = false ∧ (FloatKind.f64.format.order (h2 (2 * tOf (G xs ys))) (h2 (2 * tOf (G xs ys))) != some .eq) = false ∧
      (FloatKind.f64.format.order (h2 (uOf 0 (G xs ys))) 0 == some .lt) = false ∧ (FloatKind.f64.format.order (h2 (uOf 0 (G xs ys))) s == some .gt) = false ∧ (FloatKind.f64.format.order (h2 (2 * tOf (G xs ys))) 0 == some .lt) = false ∧
      (((G xs ys).length : Int) == 0) = b1 ∧ ((xs.length : Int) + (ys.length : Int) == 0) = b1 ∧ (FloatKind.f64.format.order (h2 (2 * tOf (G xs ys))) 0 == some .eq) = b2 ∧ (((G xs ys).length : Int) == (xs.length : Int) + (ys.length : Int)) = b2 ∧
      floatBits .mul .f64 fn fn = some s2 ∧ floatBits .quo .f64 s2 4611686018427387904 = some (h2 (uOf 0 (G xs xs))) ∧ (FloatKind.f64.format.order (h2 (uOf 0 (G xs xs))) (h2 (uOf 0 (G xs xs))) == some .eq) = true := by
  obtain ⟨ha, hb⟩ := G_sums xs ys
  obtain ⟨ha', _⟩ := G_sums xs xs
  obtain ⟨u1, g1, t1⟩ := G_bounds xs ys hn hm
  have both := uOf_both (G xs ys) 0 0
  rw [← G_comm, ha, hb] at both
  have self := uOf_self (G xs xs) (grp_self _ _) 0
  rw [ha'] at self
  have hpos := grp_pos (xs.length + ys.length) (kd xs 0) (kd ys 0)
  have hlen := len_le (G xs ys) hpos
  have hz := tOf_zero (G xs ys) hpos
  rw [ha, hb] at hlen hz
  have hnm : xs.length * ys.length ≤ 65536 * 65536 := Nat.mul_le_mul hn hm
  have hnn : xs.length * xs.length ≤ 65536 * 65536 := Nat.mul_le_mul hn hn
  simp only [Nat.zero_add, Nat.mul_zero, Nat.add_zero] at both self
  have hg0 : (G xs ys).length = 0 ↔ xs.length + ys.length = 0 := by
    constructor
    · intro e
      have := List.eq_nil_of_length_eq_zero e
      rw [this] at ha hb
      simp only [aSum, bSum] at ha hb
      omega
    · intro e; omega
  refine ⟨h2 (2 * (xs.length * ys.length)), h2 (2 * xs.length), h2 (2 * ys.length), h2 (2 * (xs.length * xs.length)), (((G xs ys).length : Int) == 0), (FloatKind.f64.format.order (h2 (2 * tOf (G xs ys))) 0 == some .eq), ?_, ?_, ?_, ?_, ?_, ?_, ?_, ?_, ?_, rfl, ?_, rfl, ?_, ?_, ?_, ?_⟩
  · rw [← both]; exact add_h2 (by omega)
  · exact ofInt_h2 (by omega)
  · exact ofInt_h2 (by omega)
  · have := mul_h2 (a := xs.length) (b := 2 * ys.length) (by omega) (by omega) (by rw [Nat.mul_left_comm]; omega)
    rw [Nat.mul_left_comm xs.length 2 ys.length] at this
    exact this
  · rw [order_eq (by omega) (by omega) rfl]; rfl
  · rw [order_eq (by omega) (by omega) rfl]; rfl
  · by_cases e : uOf 0 (G xs ys) = 0
    · rw [order_eq0 e]; rfl
    · rw [order_gt0 (by omega) e]; rfl
  · by_cases e : uOf 0 (G xs ys) = 2 * (xs.length * ys.length)
    · rw [order_eq (by omega) (by omega) e]; rfl
    · rw [order_lt (by omega) (by omega) (by omega)]; rfl
  · by_cases e : tOf (G xs ys) = 0
    · rw [order_eq0 (by omega)]; rfl
    · rw [order_gt0 (by omega) (by omega)]; rfl
  · rw [Bool.eq_iff_iff]; simp only [beq_iff_eq]; omega
  · by_cases e : tOf (G xs ys) = 0
    · rw [order_eq0 (by omega)]
      show _ = true
      exact beq_iff_eq.2 (by omega)
    · rw [order_gt0 (by omega) (by omega)]
      show _ = false
      exact beq_eq_false_iff_ne.2 (by omega)
  · have := mul_h2 (a := xs.length) (b := 2 * xs.length) (by omega) (by omega) (by rw [Nat.mul_left_comm]; omega)
    rw [Nat.mul_left_comm xs.length 2 xs.length] at this
    exact this
  · rw [self]; exact div_h2 (by omega)
  · rw [order_eq (by omega) (by omega) rfl]; rfl

set_option maxHeartbeats 1000000 in
set_option maxRecDepth 100000 in
theorem sym_any (ax ay : Option Addr) (cx cy : Nat) (xs ys : List Nat) (w : World) (hX : Fl w ax xs) (hY : Fl w ay ys) :
    Calls Try.prog 6 #[.slice ax xs.length cx, .slice ay ys.length cy] w fun e w' => e = .returned (.bool true) ∧ Below w.heap.size w w' := by
  go_enter Try.func6, Try.ntmps6
  go_wp2_with fail
  refine (zz22 ax ay xs.length ys.length cx cy _).mono ?_
  rintro e w' ⟨⟨r, rfl, hr⟩, hw⟩
  subst hw
  cases r with
  | false =>
    go_wp2_with fail
    go_ret
    exact ⟨rfl, Below.refl _ _⟩
  | true =>
    have hnm := hr rfl
    clear hr
    by_cases h1 : (65536 : Int) < (xs.length : Int)
    · go_wp2_with fail
      go_ret
      exact ⟨rfl, Below.refl _ _⟩
    · by_cases hl2 : (65536 : Int) < (ys.length : Int)
      · go_wp2_with fail
        go_ret
        exact ⟨rfl, Below.refl _ _⟩
      · go_wp2_with fail
        refine (sorted_any ax cx xs _ (by omega) hX).mono ?_
        rintro e w' ⟨r, rfl, hr, ⟨q, rfl⟩⟩
        cases r with
        | false =>
          go_wp2_with fail
          go_ret
          exact ⟨rfl, (dr0 _).below _⟩
        | true =>
          have gx := hr rfl
          clear hr
          go_wp2_with fail
          refine (sorted_any ay cy ys _ (by omega) (hY.dr (dr0 _))).mono ?_
          rintro e w' ⟨r, rfl, hr, ⟨q, rfl⟩⟩
          cases r with
          | false =>
            go_wp2_with fail
            go_ret
            exact ⟨rfl, (by first | exact (dr0 _).below _ | exact (dr0 _).more.below _)⟩
          | true =>
            have gy := hr rfl
            clear hr
            have hneq := fun wv (a : Option Addr) n c => run_neq_slice_nil_any (P := Try.prog) wv 22 28 a n c 0 0 Try.underlying22
            go_upto_if 40 with (fail)
            go_cut [0] (fun s0 wc => ∃ (ax' : Option Addr) (cx' : Nat), s0 = .slice ax' xs.length cx' ∧ Fl wc ax' xs ∧ Below w.heap.size w wc)
            case first =>
              cases ax with
              | none =>
                go_wp2
                go_meet
                case rel => exact ⟨_, _, rfl, hX.dr (by first | exact dr0 _ | exact (dr0 _).more), (by first | exact (dr0 _).below _ | exact (dr0 _).more.below _)⟩
              | some a =>
                go_wp2_with (first | (at_make; refine make_law rfl (.tmp 42) (.tmp 42) rfl xs.length rfl rfl (by omega) ?_; intro w1 f1 b1 z1) | (refine copy_law rfl (.tmp 44) (.tmp 45) rfl _ _ _ _ _ _ rfl rfl w.heap.size 0 _ xs f1 ?_ rfl (fun _ => rfl) ?_ ?_))
                · exact (hX.dr (dr0 _)).below b1 (Nat.le_refl _)
                · simp
                · intro w2 f2 k2
                  rw [splice_same _ _ (by simp)] at f2
                  clear f1
                  go_wp2
                  go_meet
                  case rel => exact ⟨_, _, rfl, f2.fl, ((dr0 _).below _).trans (b1.trans (k2.below (Nat.le_refl _)))⟩
            case rest =>
              obtain ⟨ax', cx', rfl, hX', hb⟩ := hcut
              have hY' := hY.below hb (Nat.le_refl _)
              clear hX hY
              go_upto_if 49 with (fail)
              go_cut [1] (fun s1 wc => ∃ (ay' : Option Addr) (cy' : Nat), s1 = .slice ay' ys.length cy' ∧ Fl wc ay' ys ∧ Fl wc ax' xs ∧ Below w.heap.size w wc)
              case first =>
                cases ay with
                | none =>
                  go_wp2
                  go_meet
                  case rel => exact ⟨_, _, rfl, hY', hX', hb⟩
                | some a =>
                  obtain ⟨N, hN⟩ : ∃ N, N = wc.heap.size := ⟨_, rfl⟩
                  have hsz := hb.size
                  go_wp2_with (first | (at_make; refine make_law rfl (.tmp 51) (.tmp 51) rfl ys.length rfl rfl (by omega) ?_; intro w1 f1 b1 z1) | (refine copy_law rfl (.tmp 53) (.tmp 54) rfl _ _ _ _ _ _ rfl rfl wc.heap.size 0 _ ys f1 ?_ rfl (fun _ => rfl) ?_ ?_))
                  · exact hY'.below b1 (Nat.le_refl _)
                  · simp
                  · intro w2 f2 k2
                    rw [splice_same _ _ (by simp)] at f2
                    have b2 : Below wc.heap.size wc w2 := b1.trans (k2.below (Nat.le_refl _))
                    clear f1
                    go_wp2
                    go_meet
                    case rel => exact ⟨_, _, rfl, f2.fl, hX'.below b2 (Nat.le_refl _), hb.trans (b2.mono hb.size)⟩
              case rest =>
                obtain ⟨ay', cy', rfl, hY2, hX2, hb2⟩ := hcut
                clear hX' hY' hb hneq
                have hn : xs.length ≤ 65536 := by omega
                have hm : ys.length ≤ 65536 := by omega
                obtain ⟨sw, fn, fm, s2, b1, b2, q1, q2, q3, q4, t0, t1, t2, t3, t4, i1, i2, t5, i3, q5, q6, t6⟩ := sym_floats xs ys hn hm
                have r1 := fun w => farith .add q1 w
                have r4 := fun w => farith .mul q4 w
                have r5 := fun w => farith .mul q5 w
                have r6 := fun w => farith .quo q6 w
                clear q1 q4 q5 q6
                have hgl : (G xs ys).length ≤ xs.length + ys.length := by
                  have := len_le (G xs ys) (grp_pos _ _ _)
                  rwa [(G_sums xs ys).1, (G_sums xs ys).2] at this
                have eg : (G ys xs).length = (G xs ys).length := by rw [G_comm]; simp
                have et : tOf (G ys xs) = tOf (G xs ys) := by rw [G_comm, tOf_swp]
                have z1 := zzrank_any ax' ay' cx' cy' xs ys
                have z2 := zzrank_any ay' ax' cy' cx' ys xs
                have z3 := zzrank_any ax' ax' cx' cx' xs xs
                rw [eg, et] at z2
                clear eg et
                generalize h2 (uOf 0 (G xs ys)) = wu at *
                generalize h2 (uOf 0 (G ys xs)) = wu' at *
                generalize h2 (2 * tOf (G xs ys)) = wt at *
                generalize h2 (2 * tOf (G xs xs)) = wt' at *
                generalize h2 (uOf 0 (G xs xs)) = wv at *
                generalize (G xs ys).length = gg at *
                generalize (G xs xs).length = gv at *
                have Z1 := z1 wc hn hm (Num_of gx) (Num_of gy) hX2 hY2
                have Z2 := fun w hX hY => z2 w hm hn (Num_of gy) (Num_of gx) hX hY
                have Z3 := fun w hX hY => z3 w hn hn (Num_of gx) (Num_of gx) hX hY
                clear z1 z2 z3
                clear gx gy
                go_wp2_with fail
                refine Z1.mono ?_
                rintro e w' ⟨rfl, ⟨q, rfl⟩⟩
                go_wp2_with fail
                refine (Z2 _ (hY2.dr (dr0 _)) (hX2.dr (dr0 _))).mono ?_
                rintro e w' ⟨rfl, ⟨q', rfl⟩⟩
                go_wp2_with fail
                refine (Z3 _ (by first | exact hX2.dr (dr0 _) | exact hX2.dr (dr0 _).more) (by first | exact hX2.dr (dr0 _) | exact hX2.dr (dr0 _).more)).mono ?_
                rintro e w' ⟨rfl, ⟨q'', rfl⟩⟩
                go_wp2_with fail
                go_ret
                exact ⟨rfl, hb2.trans (by first | exact (dr0 _).below _ | exact (dr0 _).more.below _ | exact (dr0 _).more.more.below _)⟩
end Go.Proofs.Qxb6602348a
