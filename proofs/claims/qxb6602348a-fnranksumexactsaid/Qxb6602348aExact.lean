/-
  THE WALK OF FnRankSumExact: it returns true; nothing that was there has turned.
-/
import Derived.Test.Qxb6602348aExParts
namespace Go.Proofs.Qxb6602348a
open Go.RowKit Flt

theorem zz18 (ax ay : Option Addr) (n m cx cy : Nat) (w : World) :
    Calls Try.prog 18 #[.slice ax n cx, .slice ay m cy] w fun e w' => AnsB (fun r => r = true → n + m ≤ 1048576) e ∧ w = w' := by
  by_cases h1 : (1048576 : Int) < (n : Int)
  · go_enter Try.func18, Try.ntmps18
    go_wp2
    go_ret
    exact ⟨AnsB.no (fun h => by cases h), rfl⟩
  · by_cases h2 : (1048576 : Int) < (m : Int)
    · go_enter Try.func18, Try.ntmps18
      go_wp2
      go_ret
      exact ⟨AnsB.no (fun h => by cases h), rfl⟩
    · by_cases h3 : (1048576 : Int) < (n : Int) + (m : Int)
      · go_enter Try.func18, Try.ntmps18
        go_wp2
        go_ret
        exact ⟨AnsB.no (fun h => by cases h), rfl⟩
      · go_enter Try.func18, Try.ntmps18
        go_wp2
        go_ret
        exact ⟨AnsB.yes (fun _ => by omega), rfl⟩

theorem ret_i {a b : Nat} (h : a = b) : Ending.returned (.int .i64 (a : Int)) = .returned (.int .i64 (b : Int)) := by rw [h]

/-- sb1CountEq. -/
theorem count_any (a : Option Addr) (c : Nat) (xs : List Nat) (v : Nat) (w : World) (hn : xs.length ≤ 1048576) (nx : Num xs) (nv : nan v = false) (hF : Fl w a xs) :
    Calls Try.prog 21 #[.slice a xs.length c, .float .f64 v] w fun e w' => e = .returned (.int .i64 (cnt (key v) (kd xs 0))) ∧ w' = w := by
  go_enter Try.func21, Try.ntmps21
  go_wp2
  go_loopg [5, 6] (xs.length + 1) (fun g s i wr => ∃ k t : Nat, k ≤ xs.length ∧ i = .int .i64 k ∧ s = .int .i64 t ∧ t ≤ k ∧ xs.length + 1 - k ≤ g ∧ w = wr ∧ Hid (t + cnt (key v) (kd xs k) = cnt (key v) (kd xs 0)))
  case atStart => exact ⟨0, 0, by omega, rfl, rfl, by omega, by omega, rfl, Nat.zero_add _⟩
  case round =>
    obtain ⟨k, t, hk, rfl, rfl, htk, hg, rfl, HC⟩ := hrel
    by_cases hlt : k < xs.length
    · obtain ⟨b, off, rfl, hcell⟩ := hF.resolve_left (by omega)
      have ck := hcell k hlt
      have tt := feq_eq (nx k hlt) nv
      have HC' := HC.out
      rw [kd_step xs hlt] at HC'
      simp only [cnt] at HC'
      clear hF nx
      by_cases e : key (xs.getD k 0) = key v
      · rw [if_pos e] at HC'
        rw [decide_eq_true e] at tt
        have t1 : (FloatKind.f64.format.order (xs.getD k 0) v == some .eq) = true := tt
        have HC2 : Hid (t + 1 + cnt (key v) (kd xs (k + 1)) = cnt (key v) (kd xs 0)) := by show _ = _; omega
        generalize xs.getD k 0 = xk at *
        clear hcell tt e HC' HC
        go_wp2
        go_roundg (xs.length - k)
        case measure => omega
        case rel => exact ⟨k + 1, t + 1, by omega, by go_num, by go_num, by omega, by omega, rfl, HC2⟩
      · rw [if_neg e] at HC'
        rw [decide_eq_false e] at tt
        have t1 : (FloatKind.f64.format.order (xs.getD k 0) v == some .eq) = false := tt
        have HC2 : Hid (t + cnt (key v) (kd xs (k + 1)) = cnt (key v) (kd xs 0)) := by show _ = _; omega
        generalize xs.getD k 0 = xk at *
        clear hcell tt e HC' HC
        go_wp2
        go_roundg (xs.length - k)
        case measure => omega
        case rel => exact ⟨k + 1, t, by omega, by go_num, rfl, by omega, by omega, rfl, HC2⟩
    · have e : t = cnt (key v) (kd xs 0) := by
        have := HC.out
        rw [kd_nil xs (by omega)] at this
        simpa [cnt] using this
      have E : Hid (t = cnt (key v) (kd xs 0)) := e
      clear e HC
      go_wp2
      go_ret
      exact ⟨ret_i E.out, rfl⟩

set_option maxHeartbeats 2000000 in
set_option maxRecDepth 100000 in
theorem exact_any (ax ay : Option Addr) (cx cy : Nat) (xs ys : List Nat) (w : World) (hX : Fl w ax xs) (hY : Fl w ay ys) :
    Calls Try.prog 5 #[.slice ax xs.length cx, .slice ay ys.length cy] w fun e w' => e = .returned (.bool true) ∧ Below w.heap.size w w' := by
  go_enter Try.func5, Try.ntmps5
  go_wp2_with fail
  refine (zz18 ax ay xs.length ys.length cx cy _).mono ?_
  rintro e w' ⟨⟨r, rfl, hr⟩, hw⟩
  subst hw
  cases r with
  | false =>
    go_wp2_with fail
    go_ret
    exact ⟨rfl, Below.refl _ _⟩
  | true =>
    have hnm := hr rfl
    clear hr
    by_cases h1 : (4096 : Int) < (xs.length : Int)
    · go_wp2_with fail
      go_ret
      exact ⟨rfl, Below.refl _ _⟩
    · by_cases hl2 : (4096 : Int) < (ys.length : Int)
      · go_wp2_with fail
        go_ret
        exact ⟨rfl, Below.refl _ _⟩
      · go_wp2_with fail
        refine (sorted_any ax cx xs _ (by omega) hX).mono ?_
        rintro e w' ⟨r, rfl, hr, ⟨q, rfl⟩⟩
        cases r with
        | false =>
          go_wp2_with fail
          go_ret
          exact ⟨rfl, (dr0 _).below _⟩
        | true =>
          have gx := hr rfl
          clear hr
          go_wp2_with fail
          refine (sorted_any ay cy ys _ (by omega) (hY.dr (dr0 _))).mono ?_
          rintro e w' ⟨r, rfl, hr, ⟨q, rfl⟩⟩
          cases r with
          | false =>
            go_wp2_with fail
            go_ret
            exact ⟨rfl, (by first | exact (dr0 _).below _ | exact (dr0 _).more.below _)⟩
          | true =>
            have gy := hr rfl
            clear hr
            have hneq := fun wv (a : Option Addr) n c => run_neq_slice_nil_any (P := Try.prog) wv 22 28 a n c 0 0 Try.underlying22
            go_upto_if 42 with (fail)
            go_cut [0] (fun s0 wc => ∃ (ax' : Option Addr) (cx' : Nat), s0 = .slice ax' xs.length cx' ∧ Fl wc ax' xs ∧ Below w.heap.size w wc)
            case first =>
              cases ax with
              | none =>
                go_wp2
                go_meet
                case rel => exact ⟨_, _, rfl, hX.dr (by first | exact dr0 _ | exact (dr0 _).more), (by first | exact (dr0 _).below _ | exact (dr0 _).more.below _)⟩
              | some a =>
                go_wp2_with (first | (at_make; refine make_law rfl (.tmp 44) (.tmp 44) rfl xs.length rfl rfl (by omega) ?_; intro w1 f1 b1 z1) | (refine copy_law rfl (.tmp 46) (.tmp 47) rfl _ _ _ _ _ _ rfl rfl w.heap.size 0 _ xs f1 ?_ rfl (fun _ => rfl) ?_ ?_))
                · exact (hX.dr (dr0 _)).below b1 (Nat.le_refl _)
                · simp
                · intro w2 f2 k2
                  rw [splice_same _ _ (by simp)] at f2
                  clear f1
                  go_wp2
                  go_meet
                  case rel => exact ⟨_, _, rfl, f2.fl, ((dr0 _).below _).trans (b1.trans (k2.below (Nat.le_refl _)))⟩
            case rest =>
              obtain ⟨ax', cx', rfl, hX', hb⟩ := hcut
              have hY' := hY.below hb (Nat.le_refl _)
              clear hX hY
              go_upto_if 51 with (fail)
              go_cut [1] (fun s1 wc => ∃ (ay' : Option Addr) (cy' : Nat), s1 = .slice ay' ys.length cy' ∧ Fl wc ay' ys ∧ Fl wc ax' xs ∧ Below w.heap.size w wc)
              case first =>
                cases ay with
                | none =>
                  go_wp2
                  go_meet
                  case rel => exact ⟨_, _, rfl, hY', hX', hb⟩
                | some a =>
                  have hsz := hb.size
                  go_wp2_with (first | (at_make; refine make_law rfl (.tmp 53) (.tmp 53) rfl ys.length rfl rfl (by omega) ?_; intro w1 f1 b1 z1) | (refine copy_law rfl (.tmp 55) (.tmp 56) rfl _ _ _ _ _ _ rfl rfl wc.heap.size 0 _ ys f1 ?_ rfl (fun _ => rfl) ?_ ?_))
                  · exact hY'.below b1 (Nat.le_refl _)
                  · simp
                  · intro w2 f2 k2
                    rw [splice_same _ _ (by simp)] at f2
                    have b2 : Below wc.heap.size wc w2 := b1.trans (k2.below (Nat.le_refl _))
                    clear f1
                    go_wp2
                    go_meet
                    case rel => exact ⟨_, _, rfl, f2.fl, hX'.below b2 (Nat.le_refl _), hb.trans (b2.mono hb.size)⟩
              case rest =>
                obtain ⟨ay', cy', rfl, hY2, hX2, hb2⟩ := hcut
                clear hX' hY' hb hneq
                have hn : xs.length ≤ 65536 := by omega
                have hm : ys.length ≤ 65536 := by omega
                have nx := Num_of gx
                have ny := Num_of gy
                go_wp2_with fail
                refine (zzrank_any ax' ay' cx' cy' xs ys _ hn hm nx ny hX2 hY2).mono ?_
                rintro e w' ⟨rfl, hd⟩
                have hX3 := hX2.dr hd
                have hY3 := hY2.dr hd
                have hb3 := hb2.trans (hd.below _)
                clear hX2 hY2 hb2 hd
                have S1 : Hid (L1 xs ys 0 0 0) := L1_start gx gy
                have S3 : Hid (L3 xs ys 0 0 0) := L3_start gx gy
                have hU := G_bounds xs ys hn hm
                go_upto_block 0 with (fail)
                go_cut [10, 11] (fun sb sl wd => ∃ b l : Nat, sb = .int .i64 b ∧ sl = .int .i64 l ∧ Hid (2 * b + l = uOf 0 (G xs ys)) ∧ Dr w' wd)
                case first =>
                  go_wp2
                  go_loopg [10, 11, 12] (xs.length + 1) (fun g sb sl si wr => ∃ b l i : Nat, i ≤ xs.length ∧ sb = .int .i64 b ∧ sl = .int .i64 l ∧ si = .int .i64 i ∧ xs.length + 1 - i ≤ g ∧ Dr w' wr ∧ Hid (L1 xs ys i b l))
                  case atStart => exact ⟨0, 0, 0, by omega, rfl, rfl, rfl, by omega, Dr.refl _, S1⟩
                  case round =>
                    obtain ⟨b, l, i, hi, rfl, rfl, rfl, hg, ⟨q, rfl⟩, HL⟩ := hrel
                    by_cases hlt : i < xs.length
                    · have HL2 : Hid (L2 xs ys i 0 b l) := L1_in HL.out hlt
                      obtain ⟨bx, ox, rfl, hcx⟩ := hX3.resolve_left (by omega)
                      have cxi := hcx i hlt
                      have nxi := nx i hlt
                      clear hcx HL
                      go_wp2
                      go_loopg [10, 11, 13] (ys.length + 1) (fun g sb sl sj wr => ∃ b l j : Nat, j ≤ ys.length ∧ sb = .int .i64 b ∧ sl = .int .i64 l ∧ sj = .int .i64 j ∧ ys.length + 1 - j ≤ g ∧ Dr w' wr ∧ Hid (L2 xs ys i j b l))
                      case atStart => exact ⟨b, l, 0, by omega, rfl, rfl, rfl, by omega, dr0 _, HL2⟩
                      case round =>
                        obtain ⟨b, l, j, hj, rfl, rfl, rfl, hg', ⟨q', rfl⟩, HK⟩ := hrel
                        have hbd := L2_bd HK.out hn hm
                        obtain ⟨hbd1, hbd2⟩ := hbd
                        by_cases hltj : j < ys.length
                        · obtain ⟨by', oy, rfl, hcy⟩ := hY3.resolve_left (by omega)
                          have cyj := hcy j hltj
                          have nyj := ny j hltj
                          have ta := flt_eq nxi nyj
                          have tb := feq_eq nxi nyj
                          by_cases k1 : key (xs.getD i 0) < key (ys.getD j 0)
                          · have HK' : Hid (L2 xs ys i (j + 1) (b + 1) l) := L2_lt HK.out hltj k1
                            rw [decide_eq_true k1] at ta
                            have t1 : (FloatKind.f64.format.order (xs.getD i 0) (ys.getD j 0) == some .lt) = true := ta
                            clear ta tb k1 nxi nyj hcy nx ny gx gy HK
                            generalize xs.getD i 0 = xi at *
                            generalize ys.getD j 0 = yj at *
                            go_wp2
                            go_quiet (fail)
                            go_wp2
                            go_roundg (ys.length - j)
                            case measure => omega
                            case rel => exact ⟨b + 1, l, j + 1, by omega, by go_num, rfl, by go_num, by omega, (by first | exact dr0 _ | exact (dr0 _).more | exact (dr0 _).more.more), HK'⟩
                          · by_cases k2 : key (xs.getD i 0) = key (ys.getD j 0)
                            · have HK' : Hid (L2 xs ys i (j + 1) b (l + 1)) := L2_eq HK.out hltj k2
                              rw [decide_eq_false k1] at ta
                              rw [decide_eq_true k2] at tb
                              have t1 : (FloatKind.f64.format.order (xs.getD i 0) (ys.getD j 0) == some .lt) = false := ta
                              have t2 : (FloatKind.f64.format.order (xs.getD i 0) (ys.getD j 0) == some .eq) = true := tb
                              clear ta tb k1 k2 nxi nyj hcy nx ny gx gy HK
                              generalize xs.getD i 0 = xi at *
                              generalize ys.getD j 0 = yj at *
                              go_wp2
                              go_quiet (fail)
                              go_wp2
                              go_quiet (fail)
                              go_wp2
                              go_roundg (ys.length - j)
                              case measure => omega
                              case rel => exact ⟨b, l + 1, j + 1, by omega, rfl, by go_num, by go_num, by omega, (by first | exact dr0 _ | exact (dr0 _).more | exact (dr0 _).more.more), HK'⟩
                            · have HK' : Hid (L2 xs ys i (j + 1) b l) := L2_gt HK.out hltj k1 k2
                              rw [decide_eq_false k1] at ta
                              rw [decide_eq_false k2] at tb
                              have t1 : (FloatKind.f64.format.order (xs.getD i 0) (ys.getD j 0) == some .lt) = false := ta
                              have t2 : (FloatKind.f64.format.order (xs.getD i 0) (ys.getD j 0) == some .eq) = false := tb
                              clear ta tb k1 k2 nxi nyj hcy nx ny gx gy HK
                              generalize xs.getD i 0 = xi at *
                              generalize ys.getD j 0 = yj at *
                              go_wp2
                              go_quiet (fail)
                              go_wp2
                              go_quiet (fail)
                              go_wp2
                              go_roundg (ys.length - j)
                              case measure => omega
                              case rel => exact ⟨b, l, j + 1, by omega, rfl, rfl, by go_num, by omega, (by first | exact dr0 _ | exact (dr0 _).more | exact (dr0 _).more.more), HK'⟩
                        · have HL' : Hid (L1 xs ys (i + 1) b l) := L2_out HK.out (by omega)
                          clear HK nx ny gx gy
                          go_wp2
                          go_roundg (xs.length - i)
                          case measure => omega
                          case rel => exact ⟨b, l, i + 1, by omega, rfl, rfl, by go_num, by omega, dr0 _, HL'⟩
                    · have HU : Hid (2 * b + l = uOf 0 (G xs ys)) := L1_end HL.out (by omega)
                      clear HL nx ny gx gy
                      go_wp2
                      go_meet
                      case rel => exact ⟨b, l, rfl, rfl, HU, dr0 _⟩
                case rest =>
                  obtain ⟨b, l, rfl, rfl, HU, hd⟩ := hcut
                  have hX4 := hX3.dr hd
                  have hY4 := hY3.dr hd
                  have hb4 := hb3.trans (hd.below _)
                  clear hX3 hY3 hb3 hd S1
                  obtain ⟨f1, f2, f3, q1, q2, q3, q4⟩ := wantU_floats HU.out hU.1
                  have r3 := fun w => farith .quo q3 w
                  have r4 := fun w => farith .add q4 w
                  clear q3 q4 HU
                  go_upto_block 4 with (fail)
                  clear r3 r4 q1 q2
                  go_cut [15, 16] (fun sg st wd' => ∃ g t : Nat, sg = .int .i64 g ∧ st = .float .f64 (h2 (2 * t)) ∧ Hid (L4 xs ys 0 g t) ∧ Dr wc wd')
                  case first =>
                    go_wp2
                    go_loopg [15, 16, 17] (xs.length + 1) (fun g sg st si wr => ∃ gr t i : Nat, i ≤ xs.length ∧ sg = .int .i64 gr ∧ st = .float .f64 (h2 (2 * t)) ∧ si = .int .i64 i ∧ xs.length + 1 - i ≤ g ∧ Dr wc wr ∧ Hid (L3 xs ys i gr t))
                    case atStart => exact ⟨0, 0, 0, by omega, rfl, (by rw [Nat.mul_zero, h2_zero]), rfl, by omega, Dr.refl _, S3⟩
                    case round =>
                      obtain ⟨gr, t, i, hi, rfl, rfl, rfl, hg, ⟨q, rfl⟩, HL⟩ := hrel
                      by_cases hlt : i < xs.length
                      · have hX5 := hX4
                        obtain ⟨bx, ox, rfl, hcx⟩ := hX4.resolve_left (by omega)
                        have cxi := hcx i hlt
                        have nxi := nx i hlt
                        obtain ⟨B, hB⟩ : ∃ B : Bool, B = decide (0 < i ∧ key (xs.getD (i - 1) 0) = key (xs.getD i 0)) := ⟨_, rfl⟩
                        have HB : Hid (B = decide (0 < i ∧ key (xs.getD (i - 1) 0) = key (xs.getD i 0))) := hB
                        clear hB
                        go_upto_region 33 with (fail)
                        go_cut [125] (fun tt wd' => tt = .bool B ∧ Dr wc wd')
                        case first =>
                          by_cases h0 : 0 < i
                          · have cxi' := hcx (i - 1) (by omega)
                            have e1 : ((i : Int) - 1).toNat = i - 1 := by omega
                            have h0' : (0 : Int) < (i : Int) := by omega
                            have ta := feq_eq (nx (i - 1) (by omega)) nxi
                            have tb : (FloatKind.f64.format.order (xs.getD (i - 1) 0) (xs.getD i 0) == some .eq) = B := by
                              rw [HB.out]
                              refine Eq.trans ta ?_
                              simp [h0]
                            clear ta hcx HB nx ny gx gy nxi
                            generalize xs.getD i 0 = xi at *
                            generalize xs.getD (i - 1) 0 = xi' at *
                            go_wp2
                            go_quiet (fail)
                            go_wp2
                            go_meet
                            case rel => exact ⟨rfl, (by first | exact dr0 _ | exact (dr0 _).more)⟩
                          · have hBf : B = false := by rw [HB.out]; exact decide_eq_false (fun h => h0 h.1)
                            subst hBf
                            have h0' : decide ((0 : Int) < (i : Int)) = false := decide_eq_false (by omega)
                            clear hcx HB nx ny gx gy nxi cxi
                            go_wp2
                            go_quiet (fail)
                            go_wp2
                            go_meet
                            case rel => exact ⟨rfl, (by first | exact dr0 _ | exact (dr0 _).more)⟩
                        case rest =>
                          obtain ⟨rfl, hd'⟩ := hcut
                          have hX6 := hX5.dr hd'
                          have hY6 := hY4.dr hd'
                          have cxi2 : wc.cell? ⟨bx, ox + i, none⟩ = some (.float .f64 (xs.getD i 0)) := by obtain ⟨q', rfl⟩ := hd'; exact cxi
                          clear hcx cxi
                          cases B with
                          | true =>
                            have hB' := of_decide_eq_true HB.out.symm
                            have HL' : Hid (L3 xs ys (i + 1) gr t) := L3_same HL.out hlt hB'.1 hB'.2
                            clear HL HB hB' nx ny gx gy nxi cxi2
                            go_wp2
                            go_roundg (xs.length - i)
                            case measure => omega
                            case rel => exact ⟨gr, t, i + 1, by omega, rfl, rfl, by go_num, by omega, hd', HL'⟩
                          | false =>
                            have hB' := of_decide_eq_false HB.out.symm
                            have HL' := L3_new HL.out hlt (by
                              by_cases h0 : i = 0
                              · exact Or.inl h0
                              · exact Or.inr (fun e => hB' ⟨by omega, e⟩))
                            have hbd := L3_bd HL' hn hm
                            have hT : cnt (key (xs.getD i 0)) (kd xs 0) + cnt (key (xs.getD i 0)) (kd ys 0) ≤ 131072 := by
                              have h1 := cnt_le (key (xs.getD i 0)) (kd xs 0)
                              have h2 := cnt_le (key (xs.getD i 0)) (kd ys 0)
                              rw [kd_len] at h1 h2
                              omega
                            obtain ⟨f7, f8, f9, f10, q8, q9, q10, q11, q12⟩ := tie_floats hT hbd.2
                            have C1 := fun n => count_any (some ⟨bx, ox, none⟩) cx' xs (xs.getD i 0) (wc.drewN n) (by omega) nx nxi (hX6.dr (dr0 _))
                            have C2 := fun n => count_any ay' cy' ys (xs.getD i 0) (wc.drewN n) (by omega) ny nxi (hY6.dr (dr0 _))
                            rw [Int.natCast_add] at q8
                            have HL2 : Hid _ := HL'
                            generalize cnt (key (xs.getD i 0)) (kd xs 0) = c1 at *
                            generalize cnt (key (xs.getD i 0)) (kd ys 0) = c2 at *
                            have r9 := fun w => farith .mul q9 w
                            have r10 := fun w => farith .mul q10 w
                            have r11 := fun w => farith .sub q11 w
                            have r12 := fun w => farith .add q12 w
                            have hgr := hbd.1
                            clear q9 q10 q11 q12 HL HB HL' hB' hbd nx ny gx gy nxi hX6 hY6
                            generalize xs.getD i 0 = xi at *
                            go_wp2
                            go_quiet ((first | (go_at_call_of 21 (Value.slice (some ⟨bx, ox, none⟩) xs.length cx'); exact Calls.quiet_of_same (C1 _)) | (go_at_call_of 21 (Value.slice ay' ys.length cy'); exact Calls.quiet_of_same (C2 _))))
                            go_wp2
                            go_roundg (xs.length - i)
                            case measure => omega
                            case rel => exact ⟨gr + 1, _, i + 1, by omega, by go_num, rfl, by go_num, by omega, hd'.more, HL2⟩
                      · have HL' : Hid (L4 xs ys 0 gr t) := L3_end HL.out (by omega)
                        clear HL nx ny gx gy
                        go_wp2
                        go_meet
                        case rel => exact ⟨gr, t, rfl, rfl, HL', dr0 _⟩
                  case rest =>
                    obtain ⟨gr, t, rfl, rfl, HL0, hd⟩ := hcut
                    have hX5 := hX4.dr hd
                    have hY5 := hY4.dr hd
                    have hb5 := hb4.trans (hd.below _)
                    clear hX4 hY4 hb4 hd S3
                    go_upto_block 6 with (fail)
                    go_cut [15, 16] (fun sg st wd' => sg = .int .i64 (G xs ys).length ∧ st = .float .f64 (h2 (2 * tOf (G xs ys))) ∧ Dr wc wd')
                    case first =>
                      go_wp2
                      go_loopg [15, 16, 19] (ys.length + 1) (fun g sg st si wr => ∃ gr t j : Nat, j ≤ ys.length ∧ sg = .int .i64 gr ∧ st = .float .f64 (h2 (2 * t)) ∧ si = .int .i64 j ∧ ys.length + 1 - j ≤ g ∧ Dr wc wr ∧ Hid (L4 xs ys j gr t))
                      case atStart => exact ⟨gr, t, 0, by omega, rfl, rfl, rfl, by omega, Dr.refl _, HL0⟩
                      case round =>
                        obtain ⟨gr, t, j, hj, rfl, rfl, rfl, hg, ⟨q, rfl⟩, HL⟩ := hrel
                        clear HL0
                        by_cases hlt : j < ys.length
                        · have hY6 := hY5
                          obtain ⟨bx, ox, rfl, hcy⟩ := hY5.resolve_left (by omega)
                          have cyj := hcy j hlt
                          have nyj := ny j hlt
                          obtain ⟨B, hB⟩ : ∃ B : Bool, B = decide (0 < j ∧ key (ys.getD (j - 1) 0) = key (ys.getD j 0)) := ⟨_, rfl⟩
                          have HB : Hid (B = decide (0 < j ∧ key (ys.getD (j - 1) 0) = key (ys.getD j 0))) := hB
                          clear hB
                          go_upto_region 40 with (fail)
                          go_cut [170] (fun tt wd' => tt = .bool B ∧ Dr wc wd')
                          case first =>
                            by_cases h0 : 0 < j
                            · have cyj' := hcy (j - 1) (by omega)
                              have e1 : ((j : Int) - 1).toNat = j - 1 := by omega
                              have h0' : (0 : Int) < (j : Int) := by omega
                              have ta := feq_eq (ny (j - 1) (by omega)) nyj
                              have tb : (FloatKind.f64.format.order (ys.getD (j - 1) 0) (ys.getD j 0) == some .eq) = B := by
                                rw [HB.out]
                                refine Eq.trans ta ?_
                                simp [h0]
                              clear ta hcy HB nx ny gx gy nyj
                              generalize ys.getD j 0 = xi at *
                              generalize ys.getD (j - 1) 0 = xi' at *
                              go_wp2
                              go_quiet (fail)
                              go_wp2
                              go_meet
                              case rel => exact ⟨rfl, (by first | exact dr0 _ | exact (dr0 _).more)⟩
                            · have hBf : B = false := by rw [HB.out]; exact decide_eq_false (fun h => h0 h.1)
                              subst hBf
                              have h0' : decide ((0 : Int) < (j : Int)) = false := decide_eq_false (by omega)
                              clear hcy HB nx ny gx gy nyj cyj
                              go_wp2
                              go_quiet (fail)
                              go_wp2
                              go_meet
                              case rel => exact ⟨rfl, (by first | exact dr0 _ | exact (dr0 _).more)⟩
                          case rest =>
                            obtain ⟨rfl, hd'⟩ := hcut
                            have hX6 := hX5.dr hd'
                            have hY7 := hY6.dr hd'
                            have cyj2 : wc.cell? ⟨bx, ox + j, none⟩ = some (.float .f64 (ys.getD j 0)) := by obtain ⟨q', rfl⟩ := hd'; exact cyj
                            clear hcy cyj
                            cases B with
                            | true =>
                              have hB' := of_decide_eq_true HB.out.symm
                              have HL' : Hid (L4 xs ys (j + 1) gr t) := L4_same HL.out hlt hB'.1 hB'.2
                              clear HL HB hB' nx ny gx gy nyj cyj2
                              go_wp2
                              go_roundg (ys.length - j)
                              case measure => omega
                              case rel => exact ⟨gr, t, j + 1, by omega, rfl, rfl, by go_num, by omega, hd', HL'⟩
                            | false =>
                              have hB' := of_decide_eq_false HB.out.symm
                              have hB2 : j = 0 ∨ key (ys.getD (j - 1) 0) ≠ key (ys.getD j 0) := by
                                by_cases h0 : j = 0
                                · exact Or.inl h0
                                · exact Or.inr (fun e => hB' ⟨by omega, e⟩)
                              have C1 := count_any ax' cx' xs (ys.getD j 0) wc (by omega) nx nyj hX6
                              have C2 := count_any (some ⟨bx, ox, none⟩) cy' ys (ys.getD j 0) wc (by omega) ny nyj hY7
                              have hT : cnt (key (ys.getD j 0)) (kd ys 0) ≤ 131072 := by
                                have h1 := cnt_le (key (ys.getD j 0)) (kd ys 0)
                                rw [kd_len] at h1
                                omega
                              by_cases hc0 : cnt (key (ys.getD j 0)) (kd xs 0) = 0
                              · have HL' := L4_new HL.out hlt hB2 hc0
                                have hbd := L4_bd HL' hn hm
                                obtain ⟨f7, f8, f9, f10, q8, q9, q10, q11, q12⟩ := tie_floats hT hbd.2
                                have HL2 : Hid _ := HL'
                                rw [hc0] at C1
                                generalize cnt (key (ys.getD j 0)) (kd ys 0) = c2 at *
                                have r9 := fun w => farith .mul q9 w
                                have r10 := fun w => farith .mul q10 w
                                have r11 := fun w => farith .sub q11 w
                                have r12 := fun w => farith .add q12 w
                                have hgr := hbd.1
                                clear q9 q10 q11 q12 HL HB HL' hB' hB2 hbd nx ny gx gy nyj hX6 hY7 hc0
                                generalize ys.getD j 0 = yj at *
                                go_wp2_with fail
                                refine C1.mono ?_
                                rintro e w2 ⟨rfl, rfl⟩
                                go_wp2_with fail
                                refine C2.mono ?_
                                rintro e w3 ⟨rfl, rfl⟩
                                go_wp2_with fail
                                go_roundg (ys.length - j)
                                case measure => omega
                                case rel => exact ⟨gr + 1, _, j + 1, by omega, by go_num, rfl, by go_num, by omega, hd', HL2⟩
                              · have HL' : Hid (L4 xs ys (j + 1) gr t) := L4_hit HL.out hlt hB2 (by omega)
                                have hpos : (0 : Int) < (cnt (key (ys.getD j 0)) (kd xs 0) : Int) := by omega
                                generalize cnt (key (ys.getD j 0)) (kd xs 0) = c1 at *
                                clear HL HB hB' hB2 nx ny gx gy nyj hX6 hY7 hc0 hT C2
                                generalize ys.getD j 0 = yj at *
                                go_wp2_with fail
                                refine C1.mono ?_
                                rintro e w2 ⟨rfl, rfl⟩
                                go_wp2_with fail
                                go_roundg (ys.length - j)
                                case measure => omega
                                case rel => exact ⟨gr, t, j + 1, by omega, rfl, rfl, by go_num, by omega, hd', HL'⟩
                        · obtain ⟨e1, e2⟩ := L4_end HL.out (by omega)
                          clear HL nx ny gx gy
                          subst e1 e2
                          go_wp2
                          go_meet
                          case rel => exact ⟨rfl, rfl, dr0 _⟩
                    case rest =>
                      obtain ⟨rfl, rfl, hd⟩ := hcut
                      have hb6 := hb5.trans (hd.below _)
                      have t1 : (FloatKind.f64.format.order (h2 (uOf 0 (G xs ys))) (h2 (uOf 0 (G xs ys))) == some .eq) = true := by
                        rw [order_eq (by omega) (by omega) rfl]; rfl
                      have t2 : (FloatKind.f64.format.order (h2 (2 * tOf (G xs ys))) (h2 (2 * tOf (G xs ys))) == some .eq) = true := by
                        rw [order_eq (by omega) (by omega) rfl]; rfl
                      clear hX5 hY5 hb5 hd HL0 nx ny gx gy hU
                      generalize h2 (uOf 0 (G xs ys)) = wu at *
                      generalize h2 (2 * tOf (G xs ys)) = wt at *
                      generalize (G xs ys).length = gg at *
                      go_wp2
                      go_ret
                      exact ⟨rfl, hb6⟩
end Go.Proofs.Qxb6602348a
