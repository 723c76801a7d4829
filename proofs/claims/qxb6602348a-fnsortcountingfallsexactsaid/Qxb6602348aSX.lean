/-
  THE WALK OF FnSortCountingFallsExact: it returns true; nothing that was there has turned.
-/
import Derived.Test.Qxb6602348aSortTop
import Derived.Test.Qxb6602348aSmallB
import Derived.Test.Qxb6602348aSXParts
namespace Go.Proofs.Qxb6602348a
open Go.RowKit Flt
attribute [local go_sem] run_store_float

/-- The answer is a bool of which this holds. -/
def AnsC (p : Bool → Prop) (e : Ending) : Prop := ∃ r : Bool, e = .returned (.bool r) ∧ p r

theorem zz10 (ax ay : Option Addr) (n m cx cy : Nat) (w : World) :
    Calls Try.prog 10 #[.slice ax n cx, .slice ay m cy] w fun e w' => AnsC (fun r => r = true → n + m ≤ 1048576) e ∧ w = w' := by
  by_cases h1 : (1048576 : Int) < (n : Int)
  · go_enter Try.func10, Try.ntmps10
    go_wp2
    go_ret
    exact ⟨⟨false, rfl, fun h => by cases h⟩, rfl⟩
  · by_cases h2 : (1048576 : Int) < (m : Int)
    · go_enter Try.func10, Try.ntmps10
      go_wp2
      go_ret
      exact ⟨⟨false, rfl, fun h => by cases h⟩, rfl⟩
    · by_cases h3 : (1048576 : Int) < (n : Int) + (m : Int)
      · go_enter Try.func10, Try.ntmps10
        go_wp2
        go_ret
        exact ⟨⟨false, rfl, fun h => by cases h⟩, rfl⟩
      · go_enter Try.func10, Try.ntmps10
        go_wp2
        go_ret
        exact ⟨⟨true, rfl, fun _ => by omega⟩, rfl⟩

theorem Fl.chunk {w : World} {bX oX : Nat} {X : List Nat} (h : ∀ i, i < X.length → w.cell? ⟨bX, oX + i, none⟩ = some (.float .f64 (X.getD i 0))) {b m lo : Nat} (hlo : lo = m * b) : Fl w (some ⟨bX, oX + lo, none⟩) (Qxb6602348a.chunk b X m) := by
  refine Or.inr ⟨bX, oX + lo, rfl, fun i hi => ?_⟩
  have hl := chunk_len b X m
  rw [chunk_get b X m i (by omega), ← hlo, Nat.add_assoc]
  exact h (lo + i) (by omega)

/-- The shim at length 0. -/
theorem zsort_zero (a b : Option Addr) (c c' : Nat) (w : World) : Calls Try.prog 13 #[.slice a 0 c, .slice b 0 c'] w fun e w' => e = .returned (.int .i64 0) ∧ Dr w w' := by
  go_enter Try.func13, Try.ntmps13
  go_wp2_with fail
  refine (sort_zero a b c c' _).mono ?_
  rintro e w' ⟨rfl, hd⟩
  go_wp2_with fail
  go_ret
  exact ⟨rfl, hd⟩

set_option maxHeartbeats 1000000 in
set_option maxRecDepth 100000 in
theorem sx_any (ax ab : Option Addr) (cx cb : Nat) (X Z : List Nat) (w : World) (hcx : X.length ≤ cx) (hX : Fl w ax X) (hZ : Fl w ab Z) :
    Calls Try.prog 3 #[.slice ax X.length cx, .slice ab Z.length cb] w fun e w' => e = .returned (.bool true) ∧ Below w.heap.size w w' := by
  go_enter Try.func3, Try.ntmps3
  go_wp2_with fail
  refine (zz10 ax ab X.length Z.length cx cb _).mono ?_
  rintro e w' ⟨⟨r, rfl, hr⟩, hw⟩
  subst hw
  cases r with
  | false =>
    go_wp2_with fail
    go_ret
    exact ⟨rfl, Below.refl _ _⟩
  | true =>
    have hnm := hr rfl
    clear hr
    by_cases h1 : (4096 : Int) < (X.length : Int)
    · go_wp2_with fail
      go_ret
      exact ⟨rfl, Below.refl _ _⟩
    · by_cases h2 : (4096 : Int) < (Z.length : Int)
      · go_wp2_with fail
        go_ret
        exact ⟨rfl, Below.refl _ _⟩
      · by_cases h3 : Z.length = X.length
        · have hn : X.length ≤ 4096 := by omega
          have hZl : Hid (Z.length = X.length) := h3
          rw [h3]
          clear h3 h2 h1 hnm
          go_wp2_with fail
          refine (nonan_any ax cx X _ (by omega) hX).mono ?_
          rintro e w1 ⟨r, rfl, hr, hd⟩
          cases r with
          | false =>
            go_wp2_with fail
            go_ret
            exact ⟨rfl, hd.below _⟩
          | true =>
            have nx := all_num (hr rfl)
            have hB1 : Below w.heap.size w w1 := hd.below _
            have hX1 := hX.dr hd
            have hZ1 := hZ.dr hd
            have HZ1 : Hid (w1.heap.size = w.heap.size) := hd.size
            clear hr hd
            by_cases h0 : X.length = 0
            · have hXe : X = [] := List.eq_nil_of_length_eq_zero h0
              have hZe : Z = [] := List.eq_nil_of_length_eq_zero (hZl.out.trans h0)
              subst hXe hZe
              simp only [List.length_nil]
              clear hX hZ hX1 hZ1 nx hn hcx hZl h0
              go_wp2_with fail
              refine (clone_zero ax cx _).mono ?_
              rintro e w2 ⟨a2, c2, rfl, hb2⟩
              go_wp2_with fail
              refine (clone_zero ab cb _).mono ?_
              rintro e w3 ⟨a3, c3, rfl, hb3⟩
              go_wp2_with fail
              refine (zsort_zero a2 a3 c2 c3 _).mono ?_
              rintro e w4 ⟨rfl, hd4⟩
              go_wp2_with fail
              refine (inversions_any ax cx [] _ (by decide) (fun a h => by simp at h) (Or.inl rfl)).mono ?_
              rintro e w5 ⟨rfl, hd5⟩
              have hi0 : inv [] = 0 := rfl
              rw [hi0]
              go_wp2_with fail
              refine (rankSort_any ax cx [] _ (by decide) (fun a h => by simp at h) (Or.inl rfl)).mono ?_
              rintro e w6 ⟨rfl, f6, b6⟩
              go_wp2_with fail
              refine (sameAll_any a2 (some ⟨w5.heap.size, 0, none⟩) c2 0 [] _ (by decide) (Or.inl rfl) (Or.inl rfl)).mono ?_
              rintro e w7 ⟨rfl, hd7⟩
              go_wp2_with fail
              refine (sameAll_any a3 ab c3 cb [] _ (by decide) (Or.inl rfl) (Or.inl rfl)).mono ?_
              rintro e w8 ⟨rfl, hd8⟩
              go_wp2_with fail
              go_ret
              refine ⟨rfl, ?_⟩
              have s1 := HZ1.out
              have s2 := hb2.size
              have s3 := hb3.size
              have s4 := hd4.size
              have s5 := hd5.size
              exact hB1.trans ((hb2.mono (by omega)).trans ((hb3.mono (by omega)).trans ((hd4.below _).trans ((hd5.below _).trans ((b6.mono (by omega)).trans ((hd7.below _).trans (hd8.below _)))))))
            · have h0' : 0 < X.length := by omega
              clear h0
              have hZ0 : 0 < Z.length := by have := hZl.out; omega
              go_wp2_with fail
              refine (clone_pos ax cx X _ h0' (by omega) hX1).mono ?_
              rintro e w2 ⟨rfl, F2, b2, z2⟩
              have hle1 : w.heap.size ≤ w1.heap.size := Nat.le_of_eq HZ1.out.symm
              have hB2 : Below w.heap.size w w2 := hB1.trans (b2.mono hle1)
              have hZ2 := hZ.below hB2 (Nat.le_refl _)
              have hbx2 : w1.heap.size < w2.heap.size := by omega
              clear hX1 hZ1 HZ1 hB1 b2 z2
              generalize w1.heap.size = bx at *
              go_wp2_with fail
              have CZ := clone_pos ab cb Z w2 hZ0 (by have := hZl.out; omega) hZ2
              rw [hZl.out] at CZ
              refine CZ.mono ?_
              rintro e w3 ⟨rfl, F3, b3, z3⟩
              have hB3 : Below w.heap.size w w3 := hB2.trans (b3.mono (by omega))
              have FX3 := F2.below b3 (by omega)
              clear F2 b3 hB2 hZ2 CZ z3 hZ0
              generalize w2.heap.size = bb at *
              go_wp2_with fail
              refine (zsort_any bx bb X Z w3 (by omega) (by omega) hZl.out nx FX3 F3).mono ?_
              rintro e w4 ⟨rfl, FX4, ⟨Z', FB4, HBUF⟩, K4⟩
              have hB4 : Below w.heap.size w w4 := hB3.trans (K4.below hle1 (by omega))
              have HBUF' : Hid (BUF X Z Z') := HBUF
              have hlZ' : Z'.length = X.length := by obtain ⟨_, _, _, _, _, _, h⟩ := HBUF; exact h
              clear HBUF K4 FX3 F3 hB3
              go_wp2_with fail
              refine (inversions_any ax cx X w4 (by omega) nx (hX.below hB4 (Nat.le_refl _))).mono ?_
              rintro e w5 ⟨rfl, hd5⟩
              have FX5 := FX4.dr hd5
              have FB5 := FB4.dr hd5
              have hB5 := hB4.trans (hd5.below _)
              clear FX4 FB4 hB4 hd5
              have hi0 : inv X = inv X := rfl
              generalize inv X = fi at hi0
              clear hi0
              go_wp2_with fail
              refine (rankSort_any ax cx X w5 (by omega) nx (hX.below hB5 (Nat.le_refl _))).mono ?_
              rintro e w6 ⟨rfl, F6, b6⟩
              have hbx := FX5.lt
              have hbb := FB5.lt
              have FX6 := FX5.below b6 hbx
              have FB6 := FB5.below b6 hbb
              have hB6 : Below w.heap.size w w6 := hB5.trans (b6.mono hB5.size)
              clear b6 FX5 FB5
              go_wp2_with fail
              have C7 := sameAll_any (some ⟨bx, 0, none⟩) (some ⟨w5.heap.size, 0, none⟩) X.length X.length (srt X) w6 (by rw [srt_length]; omega) FX6.fl F6.fl
              rw [srt_length] at C7
              refine C7.mono ?_
              rintro e w7 ⟨rfl, hd7⟩
              have FB7 := FB6.dr hd7
              have hB7 := hB6.trans (hd7.below _)
              clear C7 FX6 F6 FB6 hB5 hB6 hd7 hbx hbb
              by_cases hsm : X.length ≤ 32
              · have hsm' : (X.length : Int) ≤ 32 := by omega
                have eZ := BUF_small HBUF'.out hsm
                subst eZ
                go_wp2_with fail
                have C8 := sameAll_any (some ⟨bb, 0, none⟩) ab X.length cb Z' w7 (by omega) FB7.fl (hZ.below hB7 (Nat.le_refl _))
                rw [hlZ'] at C8
                refine C8.mono ?_
                rintro e w8 ⟨rfl, hd8⟩
                go_wp2_with fail
                go_ret
                exact ⟨rfl, hB7.trans (hd8.below _)⟩
              · have hsm' : ¬ (X.length : Int) ≤ 32 := by omega
                have hbb' : w.heap.size ≤ bb := by omega
                go_upto_block 0 with (fail)
                go_cut [9, 10] (fun s9 s10 wd => ∃ p W : Nat, s9 = .int .i64 p ∧ s10 = .int .i64 W ∧ w7 = wd ∧ Hid (W = 32 * 2 ^ p ∧ PW X.length p ∧ X.length ≤ W ∧ 0 < p) ∧ W ≤ 8192 ∧ p ≤ 8192)
                case first =>
                  go_wp2
                  go_loopg [9, 10] (X.length + 1) (fun g s9 s10 wr => ∃ p W : Nat, s9 = .int .i64 p ∧ s10 = .int .i64 W ∧ w7 = wr ∧ Hid (W = 32 * 2 ^ p ∧ PW X.length p) ∧ p ≤ W ∧ 32 ≤ W ∧ W ≤ 8192 ∧ X.length + 1 - W ≤ g)
                  case atStart => exact ⟨0, 32, rfl, rfl, rfl, ⟨rfl, fun h => absurd h (by omega)⟩, by omega, by omega, by omega, by omega⟩
                  case round =>
                    obtain ⟨p, W, rfl, rfl, rfl, HW, hpW, hW1, hW2, hg⟩ := hrel
                    clear hX hZ nx FB7 HBUF'
                    by_cases hlt : W < X.length
                    · have HW2 : Hid (2 * W = 32 * 2 ^ (p + 1) ∧ PW X.length (p + 1)) := ⟨by rw [Nat.pow_succ, HW.out.1]; omega, fun _ => by rw [Nat.add_sub_cancel, ← HW.out.1]; exact hlt⟩
                      go_wp2
                      go_roundg (X.length - W)
                      case measure => omega
                      case rel => exact ⟨p + 1, 2 * W, by go_num, int_eq (by omega), rfl, HW2, by omega, by omega, by omega, by omega⟩
                    · have HW2 : Hid (W = 32 * 2 ^ p ∧ PW X.length p ∧ X.length ≤ W ∧ 0 < p) := by
                        refine ⟨HW.out.1, HW.out.2, by omega, ?_⟩
                        by_cases c : p = 0
                        · have := HW.out.1; rw [c] at this; omega
                        · omega
                      clear HW
                      go_wp2
                      go_meet
                      case rel => exact ⟨p, W, rfl, rfl, rfl, HW2, by omega, by omega⟩
                case rest =>
                  obtain ⟨p, W, rfl, rfl, rfl, HW, hW2, hp2⟩ := hcut
                  obtain ⟨b, hb⟩ : ∃ b, b = if p % 2 = 0 then W / 2 else W := ⟨_, rfl⟩
                  have hWw : W % 2 = 0 ∧ 64 ≤ W := by
                    have h1 := HW.out.1
                    obtain ⟨r, hr⟩ : ∃ r, p = r + 1 := ⟨p - 1, by have := HW.out.2.2.2; omega⟩
                    rw [hr, Nat.pow_succ] at h1
                    have := Nat.two_pow_pos r
                    omega
                  have hb1 : 32 ≤ b ∧ b ≤ 8192 := by rw [hb]; split <;> omega
                  have HCS : Hid (CS b X Z') := by
                    have h1 := BUF_great HBUF'.out (p := p) (by rw [← HW.out.1]; exact HW.out.2.2.1) HW.out.2.1 HW.out.2.2.2
                    have h2 : (if p % 2 = 0 then 32 * 2 ^ (p - 1) else 32 * 2 ^ p) = b := by
                      rw [hb]
                      have h3 := HW.out.1
                      obtain ⟨r, hr⟩ : ∃ r, p = r + 1 := ⟨p - 1, by have := HW.out.2.2.2; omega⟩
                      rw [hr, Nat.pow_succ] at h3
                      rw [hr, Nat.add_sub_cancel, Nat.pow_succ]
                      split <;> omega
                    rw [h2] at h1
                    exact h1
                  have HBB : Hid (b = if p % 2 = 0 then W / 2 else W) := hb
                  clear hb HBUF' HW
                  go_upto_if 70 with (fail)
                  go_cut [11] (fun s11 wd => s11 = .int .i64 b ∧ w7 = wd)
                  case first =>
                    have hbo := HBB.out
                    by_cases hp : p % 2 = 0
                    · have hp' : (p : Int) % 2 = 0 := by omega
                      rw [if_pos hp] at hbo
                      have HBO : Hid (b = W / 2) := hbo
                      clear hbo hp hX hZ nx FB7 HBB
                      go_wp2
                      go_meet
                      case rel => exact ⟨int_eq (by have := HBO.out; omega), rfl⟩
                    · have hp' : ¬ (p : Int) % 2 = 0 := by omega
                      rw [if_neg hp] at hbo
                      have HBO : Hid (b = W) := hbo
                      clear hbo hp hX hZ nx FB7 HBB
                      go_wp2
                      go_meet
                      case rel => exact ⟨int_eq (by have := HBO.out; omega), rfl⟩
                  case rest =>
                    obtain ⟨rfl, rfl⟩ := hcut
                    obtain ⟨hb1, hb2⟩ := hb1
                    clear HBB hWw hW2 hp2
                    go_upto_block 2 with (at_make; refine make_law rfl (.tmp 73) (.tmp 73) rfl X.length rfl rfl (by omega) ?_; intro w8 f8 b8 z8)
                    have hbb8 := FB7.lt
                    have FB8 := FB7.below b8 hbb8
                    have hB8 : Below w.heap.size w w8 := hB7.trans (b8.mono hB7.size)
                    have hbw : w.heap.size ≤ w7.heap.size := hB7.size
                    have hne8 : bb ≠ w7.heap.size := by omega
                    clear b8 z8 FB7 hB7
                    generalize w7.heap.size = bw at *
                    go_cut [12] (fun s12 wd => s12 = .slice (some ⟨bw, 0, none⟩) X.length X.length ∧ FR wd bw Z' ∧ FR wd bb Z' ∧ Below w.heap.size w wd)
                    case first =>
                      go_wp2
                      go_loopg [13] (X.length + 1) (fun g s13 wr => ∃ (m lo : Nat) (L : List Nat), s13 = .int .i64 lo ∧ Hid (lo = m * b) ∧ lo ≤ X.length + b ∧ X.length + 1 - lo ≤ g ∧ FR wr bw L ∧ FR wr bb Z' ∧ Below w.heap.size w wr ∧ Hid (WANT b X m L))
                      case atStart => exact ⟨0, 0, _, rfl, (Nat.zero_mul _).symm, by omega, by omega, f8, FB8, hB8, WANT_start b X⟩
                      case round =>
                        obtain ⟨m, lo, L, rfl, HLO, hlo, hg, FW, FBr, hBr, HWT⟩ := hrel
                        clear f8 FB8 hB8
                        by_cases hlt : lo < X.length
                        · obtain ⟨rl, hrl⟩ : ∃ rl, rl = (chunk b X m).length := ⟨_, rfl⟩
                          have HRL : Hid (rl = (chunk b X m).length) := hrl
                          have hrl2 : rl = min b (X.length - lo) := by rw [hrl, chunk_len, HLO.out]
                          clear hrl
                          go_upto_if 86 with (fail)
                          go_cut [14] (fun s14 wd => s14 = .int .i64 ((lo : Int) + (rl : Int)) ∧ wr = wd)
                          case first =>
                            clear hX hZ nx FW FBr hBr HWT HCS HRL HLO
                            by_cases hc : X.length < lo + b
                            · have hc' : (X.length : Int) < (lo : Int) + (b : Int) := by omega
                              go_wp2
                              go_meet
                              case rel => exact ⟨int_eq (by omega), rfl⟩
                            · have hc' : ¬ (X.length : Int) < (lo : Int) + (b : Int) := by omega
                              go_wp2
                              go_meet
                              case rel => exact ⟨int_eq (by omega), rfl⟩
                          case rest =>
                            obtain ⟨rfl, rfl⟩ := hcut
                            have hXr := hX.below hBr (Nat.le_refl _)
                            obtain ⟨bX, oX, rfl, hcX⟩ := hXr.resolve_left (by omega)
                            have hFc := Fl.chunk hcX HLO.out
                            have C := rankSort_any (some ⟨bX, oX + lo, none⟩) (cx - lo) (chunk b X m) wr (by rw [← HRL.out]; omega) (fun a ha => nx a (chunk_mem ha)) hFc
                            rw [← HRL.out] at C
                            have u0 : (0 : Int) ≤ (lo : Int) := by omega
                            have u1 : (lo : Int) ≤ (lo : Int) + (rl : Int) := by omega
                            have u2 : (lo : Int) + (rl : Int) ≤ (cx : Int) := by omega
                            have u3 : ((lo : Int) + (rl : Int)).toNat = lo + rl := by omega
                            have u4 : ¬ cx = lo := by omega
                            have hr1 : 1 ≤ rl ∧ rl ≤ b ∧ lo + rl ≤ X.length := by omega
                            obtain ⟨hr1, hr2, hr3⟩ := hr1
                            clear hcX hXr hFc hrl2
                            go_wp2_with fail
                            refine C.mono ?_
                            rintro e w9 ⟨rfl, F9, b9⟩
                            have hwlt := FW.lt
                            have hblt := FBr.lt
                            have FW9 := FW.below b9 hwlt
                            have FB9 := FBr.below b9 hblt
                            have hB9 : Below w.heap.size w w9 := hBr.trans (b9.mono hBr.size)
                            have hle9 : w.heap.size ≤ wr.heap.size := hBr.size
                            have HWI : Hid (WIN b X m L 0 L) := WIN_start HWT.out
                            clear C u0 u1 u2 u3 u4 b9 FW FBr hBr HWT
                            generalize wr.heap.size = bp at *
                            have hne9 : bp ≠ bw := by omega
                            go_wp2_with fail
                            go_loopg [16] (rl + 1) (fun g s16 wr2 => ∃ (k : Nat) (L2 : List Nat), s16 = .int .i64 k ∧ k ≤ rl ∧ rl + 1 - k ≤ g ∧ FR wr2 bw L2 ∧ FR wr2 bb Z' ∧ FR wr2 bp (srt (chunk b X m)) ∧ Below w.heap.size w wr2 ∧ Hid (WIN b X m L k L2))
                            case atStart => exact ⟨0, L, rfl, by omega, by omega, FW9, FB9, F9, hB9, HWI⟩
                            case round =>
                              obtain ⟨k, L2, rfl, hk, hg', FW2, FB2, FP2, hB2, HWI2⟩ := hrel
                              clear HWI FW9 FB9 F9 hB9
                              by_cases hkl : k < rl
                              · have hlS : (srt (chunk b X m)).length = rl := by rw [srt_length, ← HRL.out]
                                have hl2 := HWI2.out.2.1
                                have cp := FP2.cell (i := k) (by omega)
                                have cw := FW2.cell (i := lo + k) (by omega)
                                have fw := FW2.frozen (lo + k)
                                have FW3 := FW2.set (lo + k) ((srt (chunk b X m)).getD k 0)
                                have FB3 := FB2.other (a := ⟨bw, lo + k, none⟩) hne8 (.float .f64 ((srt (chunk b X m)).getD k 0))
                                have FP3 := FP2.other (a := ⟨bw, lo + k, none⟩) hne9 (.float .f64 ((srt (chunk b X m)).getD k 0))
                                have hB3 := hB2.setCell (p := ⟨bw, lo + k, none⟩) hbw (.float .f64 ((srt (chunk b X m)).getD k 0))
                                have HWI3 : Hid (WIN b X m L (k + 1) (L2.set (lo + k) ((srt (chunk b X m)).getD k 0))) := by
                                  have := WIN_step HWI2.out (by rw [← HLO.out]; omega)
                                  rw [← HLO.out] at this
                                  exact this
                                generalize (srt (chunk b X m)).getD k 0 = v at *
                                generalize L2.getD (lo + k) 0 = old at cw
                                have v1 : (lo : Int) + (k : Int) < (X.length : Int) := by omega
                                clear hX hZ nx FW2 FB2 FP2 hB2 HWI2 hlS HCS
                                go_wp2
                                go_roundg (rl - k)
                                case measure => omega
                                case rel => exact ⟨k + 1, _, by go_num, by omega, by omega, FW3, FB3, FP3, hB3, HWI3⟩
                              · have HWT2 : Hid (WANT b X (m + 1) L2) := WIN_end HWI2.out (by rw [← HRL.out]; omega)
                                have HLO2 : Hid (lo + b = (m + 1) * b) := by show _ = _; rw [Nat.add_mul, Nat.one_mul, ← HLO.out]
                                clear hX hZ nx HWI2 HCS HLO HRL FP2
                                go_wp2
                                go_roundg (X.length - lo)
                                case measure => omega
                                case rel => exact ⟨m + 1, lo + b, L2, int_eq (by omega), HLO2, by omega, by omega, FW2, FB2, hB2, HWT2⟩
                        · have e : L = Z' := CS_ext (by omega) (WANT_end HWT.out (by rw [← HLO.out]; exact hlt)) HCS.out
                          subst e
                          clear HWT HLO HCS hX hZ nx
                          go_wp2
                          go_meet
                          case rel => exact ⟨rfl, FW, FBr, hBr⟩
                    case rest =>
                      obtain ⟨rfl, FW, FB9, hB9⟩ := hcut
                      clear f8 FB8 hB8
                      go_wp2_with fail
                      have C9 := sameAll_any (some ⟨bb, 0, none⟩) (some ⟨bw, 0, none⟩) X.length X.length Z' wc (by omega) FB9.fl FW.fl
                      rw [hlZ'] at C9
                      refine C9.mono ?_
                      rintro e w9 ⟨rfl, hd9⟩
                      go_wp2_with fail
                      go_ret
                      exact ⟨rfl, hB9.trans (hd9.below _)⟩
        · have h3' : ((X.length : Int) == (Z.length : Int)) = false := beq_eq_false_iff_ne.2 (by omega)
          go_wp2_with fail
          go_ret
          exact ⟨rfl, Below.refl _ _⟩
end Go.Proofs.Qxb6602348a
