/-
  THE WALK OF FnRankSumAgreesWithMerge: it returns true; nothing that was there has turned.
-/
import Derived.Test.Qxb6602348aRMParts
import Derived.Test.Qxb6602348aMerge
import Derived.Test.Qxb6602348aSmall
namespace Go.Proofs.Qxb6602348a
open Go.RowKit Go.Deep Flt

theorem zz26 (ax ay : Option Addr) (n m cx cy : Nat) (w : World) :
    Calls Try.prog 26 #[.slice ax n cx, .slice ay m cy] w fun e w' => AnsB (fun r => r = true → n + m ≤ 1048576) e ∧ w = w' := by
  by_cases h1 : (1048576 : Int) < (n : Int)
  · go_enter Try.func26, Try.ntmps26
    go_wp2
    go_ret
    exact ⟨AnsB.no (fun h => by cases h), rfl⟩
  · by_cases h2 : (1048576 : Int) < (m : Int)
    · go_enter Try.func26, Try.ntmps26
      go_wp2
      go_ret
      exact ⟨AnsB.no (fun h => by cases h), rfl⟩
    · by_cases h3 : (1048576 : Int) < (n : Int) + (m : Int)
      · go_enter Try.func26, Try.ntmps26
        go_wp2
        go_ret
        exact ⟨AnsB.no (fun h => by cases h), rfl⟩
      · go_enter Try.func26, Try.ntmps26
        go_wp2
        go_ret
        exact ⟨AnsB.yes (fun _ => by omega), rfl⟩

theorem Gr.below' {b n B : Nat} {w w' : World} (h : Gr b n w w') (hn : B ≤ n) (hb : B ≤ b) : Below B w w' := ⟨h.os, h.tape, h.output, h.size, fun k hk => h.block k (by omega) (by omega)⟩

theorem Fl.xb {w0 w : World} {a : Option Addr} {xs : List Nat} (h : Fl w0 a xs) (k : Below w0.heap.size w0 w) {b : Nat} (hb : w0.heap.size ≤ b) : FlX w b w.heap.size a xs := by
  by_cases c : xs.length = 0
  · exact Or.inl c
  · obtain ⟨bb, off, rfl, hc⟩ := h.resolve_left c
    have hlt := cell_lt (hc 0 (by omega))
    have := k.size
    refine Or.inr ⟨bb, off, rfl, by omega, fun i hi => ?_⟩
    rw [cell_block (k.block bb hlt)]
    exact hc i hi

/-- Two runs, laid in a new block. -/
theorem RN_two {w w0 : World} {ax ay : Option Addr} {xs ys : List Nat} {cx cy A b : Nat} (hX : Fl w0 ax xs) (hY : Fl w0 ay ys) (k : Below w0.heap.size w0 w) (hb : w0.heap.size ≤ b) (hA : A ≠ b)
    (h : w.heap[A]? = some (.cells #[.slice ax xs.length cx, .slice ay ys.length cy] 22 (0, 0))) : RN w b w.heap.size (some ⟨A, 0, none⟩) [xs, ys] := by
  refine Or.inr ⟨A, 0, rfl, ⟨hA, lt_of_block h⟩, fun r hr => ?_⟩
  have gx := hX.xb k hb
  have gy := hY.xb k hb
  match r, hr with
  | 0, _ => exact ⟨ax, cx, by simp [World.cell?, h], gx⟩
  | 1, _ => exact ⟨ay, cy, by simp [World.cell?, h], gy⟩
  | n + 2, hr => exact absurd hr (by simp)

/-- The merge of two runs, called. -/
theorem two_any {w0 wc : World} {ax ay : Option Addr} {xs ys : List Nat} {cx cy b n : Nat} (hn : n = xs.length + ys.length) (hm : n ≤ 131072) (hX : Fl w0 ax xs) (hY : Fl w0 ay ys) (k : Below w0.heap.size w0 wc) (hb : w0.heap.size ≤ b) (F : FR wc b (List.replicate n 0)) (gx : Good xs xs.length) (gy : Good ys ys.length) :
    Calls Try.prog 24 #[.slice (some ⟨b, 0, none⟩) n n, .slice (some ⟨wc.heap.size, 0, none⟩) 2 2] (wc.alloc (.cells #[.slice ax xs.length cx, .slice ay ys.length cy] 22)) fun e w' =>
      e = .returned (.int .i64 (inv (xs ++ ys))) ∧ (n = 0 ∨ FR w' b (srt (xs ++ ys))) ∧ Gr b wc.heap.size wc w' := by
  have kb := below_new wc (.cells #[.slice ax xs.length cx, .slice ay ys.length cy] 22)
  have h := zmerge_any (some ⟨b, 0, none⟩) n b (List.replicate n 0) (some ⟨wc.heap.size, 0, none⟩) 2 [xs, ys] (wc.alloc (.cells #[.slice ax xs.length cx, .slice ay ys.length cy] 22))
    (Or.inr ⟨rfl, F.alloc _⟩) (by rw [allR_two, List.length_replicate, List.length_append]; exact hn)
    (RN_two hX hY (k.trans (kb.mono k.size)) hb (by have := F.lt; omega) (blk_alloc_new _ _)) (by simp) (by rw [allR_two, List.length_append]; omega)
    (fun q hq => match q, hq with
      | 0, _ => good_up gx
      | 1, _ => good_up gy
      | n + 2, hq => absurd hq (by simp))
    (fun q hq => match q, hq with
      | 0, _ => all_num fun i hi => (gx i hi).1
      | 1, _ => all_num fun i hi => (gy i hi).1
      | n + 2, hq => absurd hq (by simp))
  rw [allR_two, List.length_replicate] at h
  refine h.mono fun e w' ⟨h1, h2, h3⟩ => ⟨h1, h2, ?_⟩
  have s : (wc.alloc (.cells #[.slice ax xs.length cx, .slice ay ys.length cy] 22)).heap.size = wc.heap.size + 1 := nblk_alloc _ _
  refine ⟨h3.os.trans kb.os, h3.tape.trans kb.tape, h3.output.trans kb.output, Nat.le_trans kb.size h3.size, fun i hi hne => ?_⟩
  exact (h3.block i (by omega) hne).trans (kb.block i hi)

set_option maxHeartbeats 2000000 in
set_option maxRecDepth 100000 in
theorem rm_any (ax ay : Option Addr) (cx cy : Nat) (xs ys : List Nat) (w : World) (hX : Fl w ax xs) (hY : Fl w ay ys) :
    Calls Try.prog 9 #[.slice ax xs.length cx, .slice ay ys.length cy] w fun e w' => e = .returned (.bool true) ∧ Below w.heap.size w w' := by
  go_enter Try.func9, Try.ntmps9
  go_wp2_with fail
  refine (zz26 ax ay xs.length ys.length cx cy _).mono ?_
  rintro e w' ⟨⟨r, rfl, hr⟩, hw⟩
  subst hw
  cases r with
  | false =>
    go_wp2_with fail
    go_ret
    exact ⟨rfl, Below.refl _ _⟩
  | true =>
    have hnm := hr rfl
    clear hr
    by_cases h1 : (65536 : Int) < (xs.length : Int)
    · go_wp2_with fail
      go_ret
      exact ⟨rfl, Below.refl _ _⟩
    · by_cases hl2 : (65536 : Int) < (ys.length : Int)
      · go_wp2_with fail
        go_ret
        exact ⟨rfl, Below.refl _ _⟩
      · go_wp2_with fail
        refine (sorted_any ax cx xs _ (by omega) hX).mono ?_
        rintro e w' ⟨r, rfl, hr, ⟨q, rfl⟩⟩
        cases r with
        | false =>
          go_wp2_with fail
          go_ret
          exact ⟨rfl, (dr0 _).below _⟩
        | true =>
          have gx := hr rfl
          clear hr
          go_wp2_with fail
          refine (sorted_any ay cy ys _ (by omega) (hY.dr (dr0 _))).mono ?_
          rintro e w' ⟨r, rfl, hr, ⟨q, rfl⟩⟩
          cases r with
          | false =>
            go_wp2_with fail
            go_ret
            exact ⟨rfl, (by first | exact (dr0 _).below _ | exact (dr0 _).more.below _)⟩
          | true =>
            have gy := hr rfl
            clear hr
            have hneq := fun wv (a : Option Addr) n c => run_neq_slice_nil_any (P := Try.prog) wv 22 28 a n c 0 0 Try.underlying22
            go_upto_if 39 with (fail)
            go_cut [0] (fun s0 wc => ∃ (ax' : Option Addr) (cx' : Nat), s0 = .slice ax' xs.length cx' ∧ Fl wc ax' xs ∧ Below w.heap.size w wc)
            case first =>
              cases ax with
              | none =>
                go_wp2
                go_meet
                case rel => exact ⟨_, _, rfl, hX.dr (by first | exact dr0 _ | exact (dr0 _).more), (by first | exact (dr0 _).below _ | exact (dr0 _).more.below _)⟩
              | some a =>
                go_wp2_with (first | (at_make; refine make_law rfl (.tmp 41) (.tmp 41) rfl xs.length rfl rfl (by omega) ?_; intro w1 f1 b1 z1) | (refine copy_law rfl (.tmp 43) (.tmp 44) rfl _ _ _ _ _ _ rfl rfl w.heap.size 0 _ xs f1 ?_ rfl (fun _ => rfl) ?_ ?_))
                · exact (hX.dr (dr0 _)).below b1 (Nat.le_refl _)
                · simp
                · intro w2 f2 k2
                  rw [splice_same _ _ (by simp)] at f2
                  clear f1
                  go_wp2
                  go_meet
                  case rel => exact ⟨_, _, rfl, f2.fl, ((dr0 _).below _).trans (b1.trans (k2.below (Nat.le_refl _)))⟩
            case rest =>
              obtain ⟨ax', cx', rfl, hX', hb⟩ := hcut
              have hY' := hY.below hb (Nat.le_refl _)
              clear hX hY
              go_upto_if 48 with (fail)
              go_cut [1] (fun s1 wc => ∃ (ay' : Option Addr) (cy' : Nat), s1 = .slice ay' ys.length cy' ∧ Fl wc ay' ys ∧ Fl wc ax' xs ∧ Below w.heap.size w wc)
              case first =>
                cases ay with
                | none =>
                  go_wp2
                  go_meet
                  case rel => exact ⟨_, _, rfl, hY', hX', hb⟩
                | some a =>
                  have hsz := hb.size
                  go_wp2_with (first | (at_make; refine make_law rfl (.tmp 50) (.tmp 50) rfl ys.length rfl rfl (by omega) ?_; intro w1 f1 b1 z1) | (refine copy_law rfl (.tmp 52) (.tmp 53) rfl _ _ _ _ _ _ rfl rfl wc.heap.size 0 _ ys f1 ?_ rfl (fun _ => rfl) ?_ ?_))
                  · exact hY'.below b1 (Nat.le_refl _)
                  · simp
                  · intro w2 f2 k2
                    rw [splice_same _ _ (by simp)] at f2
                    have b2 : Below wc.heap.size wc w2 := b1.trans (k2.below (Nat.le_refl _))
                    clear f1
                    go_wp2
                    go_meet
                    case rel => exact ⟨_, _, rfl, f2.fl, hX'.below b2 (Nat.le_refl _), hb.trans (b2.mono hb.size)⟩
              case rest =>
                obtain ⟨ay', cy', rfl, hY2, hX2, hb2⟩ := hcut
                clear hX' hY' hb hneq
                have hn : xs.length ≤ 65536 := by omega
                have hm : ys.length ≤ 65536 := by omega
                go_wp2_with fail
                refine (zzrank_any ax' ay' cx' cy' xs ys _ hn hm (Num_of gx) (Num_of gy) hX2 hY2).mono ?_
                rintro e w' ⟨rfl, hd⟩
                have hX3 := hX2.dr hd
                have hY3 := hY2.dr hd
                have hb3 := hb2.trans (hd.below _)
                clear hX2 hY2 hb2 hd
                obtain ⟨N, hN⟩ : ∃ N, N = xs.length + ys.length := ⟨_, rfl⟩
                have HN : Hid (N = xs.length + ys.length) := hN
                have eN : (xs.length : Int) + (ys.length : Int) = (N : Int) := by omega
                have hNb : N ≤ 131072 := by omega
                clear hN
                go_upto_region 17 with (fail)
                go_cut [11] (fun s11 wd => ∃ b1, s11 = .slice (some ⟨b1, 0, none⟩) N N ∧ w'.heap.size ≤ b1 ∧ FR wd b1 (List.replicate N 0) ∧ Below w'.heap.size w' wd)
                case first =>
                  go_wp2_with (first | (at_make; refine make_law rfl (.tmp 68) (.tmp 68) rfl N rfl rfl (by omega) ?_; intro w1 f1 b1 z1))
                  go_meet
                  case rel => exact ⟨_, rfl, Nat.le_refl _, f1, b1⟩
                case rest =>
                  obtain ⟨b1, rfl, hb1, F1, k1⟩ := hcut
                  have C1 := two_any (cx := cx') (cy := cy') HN.out hNb hX3 hY3 k1 hb1 F1 gx gy
                  have hb1s := F1.lt
                  go_upto_region 18 with (fail)
                  go_cut [12] (fun s12 wd => s12 = .int .i64 (inv (xs ++ ys) : Nat) ∧ Hid (N = 0 ∨ FR wd b1 (srt (xs ++ ys))) ∧ Below w'.heap.size w' wd ∧ b1 < wd.heap.size)
                  case first =>
                    go_wp2_with (go_at_call 24; refine C1.mono ?_; rintro e w1 ⟨rfl, h1, h2⟩)
                    go_meet
                    case rel => exact ⟨rfl, h1, k1.trans (h2.below' k1.size hb1), by have := h2.size; omega⟩
                  case rest =>
                    obtain ⟨rfl, HA, k2, z2⟩ := hcut
                    clear C1 F1 k1 hb1s
                    go_upto_region 19 with (fail)
                    go_cut [13] (fun s13 wd => ∃ b2, s13 = .slice (some ⟨b2, 0, none⟩) N N ∧ b1 < b2 ∧ FR wd b2 (List.replicate N 0) ∧ Hid (N = 0 ∨ FR wd b1 (srt (xs ++ ys))) ∧ Below w'.heap.size w' wd)
                    case first =>
                      go_wp2_with (first | (at_make; refine make_law rfl (.tmp 75) (.tmp 75) rfl N rfl rfl (by omega) ?_; intro w1 f1 b1 z1))
                      go_meet
                      case rel => exact ⟨_, rfl, z2, f1, orR HA.out (fun h => h.below b1 z2), k2.trans (b1.mono k2.size)⟩
                    case rest =>
                      obtain ⟨b2, rfl, hb2, F2, HA2, k3⟩ := hcut
                      have hN2 : N = ys.length + xs.length := by have := HN.out; omega
                      have C2 := two_any (cx := cy') (cy := cx') hN2 hNb hY3 hX3 k3 (by omega) F2 gy gx
                      clear HA k2 z2 hN2
                      have F2lt := F2.lt
                      go_upto_region 20 with (fail)
                      go_cut [14] (fun s14 wd => s14 = .int .i64 (inv (ys ++ xs) : Nat) ∧ Hid (N = 0 ∨ (FR wd b1 (srt (xs ++ ys)) ∧ FR wd b2 (srt (ys ++ xs)))) ∧ Below w'.heap.size w' wd)
                      case first =>
                        go_wp2_with (go_at_call 24; refine C2.mono ?_; rintro e w1 ⟨rfl, h1, h2⟩)
                        go_meet
                        case rel =>
                          refine ⟨rfl, ?_, k3.trans (h2.below' k3.size (by omega))⟩
                          rcases h1 with h1 | h1
                          · exact Or.inl h1
                          · exact orR HA2.out fun h => ⟨h.of_block (h2.block b1 (by omega) (by omega)), h1⟩
                      case rest =>
                        obtain ⟨rfl, HAB, k4⟩ := hcut
                        clear C2 F2 HA2 k3 F2lt hb2
                        have hb4 := hb3.trans (k4.mono hb3.size)
                        have hU := G_bounds xs ys hn hm
                        obtain ⟨f1, f2, f3, f4, f5, f6, f7, q1, q2, q3, q4, q5, q6, q7, q8, q9⟩ := rm_floats hn hm (f := inv (xs ++ ys)) (g := inv (ys ++ xs)) (U := uOf 0 (G xs ys)) (by
                            have := cross_three xs ys
                            have h3 : xs.length * ys.length ≤ 65536 * 65536 := Nat.mul_le_mul hn hm
                            rw [inv_append, inv_up (good_up gx), inv_up (good_up gy)]; omega) (by
                            have := cross_three xs ys
                            have h3 : xs.length * ys.length ≤ 65536 * 65536 := Nat.mul_le_mul hn hm
                            rw [inv_append, inv_up (good_up gx), inv_up (good_up gy)]; omega) (by omega) (rm_u gx gy)
                        have r3 := fun w => farith .mul q3 w
                        have r5 := fun w => farith .add q5 w
                        have r7 := fun w => farith .sub q7 w
                        have r8 := fun w => farith .mul q8 w
                        clear q3 q5 q7 q8 hU hX3 hY3
                        have HV : Hid ((∀ i, i < N → nan ((srt (xs ++ ys)).getD i 0) = false ∧ nan ((srt (ys ++ xs)).getD i 0) = false) ∧ (∀ i, i < N → key ((srt (xs ++ ys)).getD i 0) = key ((srt (ys ++ xs)).getD i 0)) ∧ (∀ i, 0 < i → i < N → ¬ key ((srt (xs ++ ys)).getD i 0) < key ((srt (xs ++ ys)).getD (i - 1) 0)) ∧ (srt (xs ++ ys)).length = N ∧ (srt (ys ++ xs)).length = N) := by
                          have l1 : (srt (xs ++ ys)).length = N := by rw [srt_length, List.length_append]; exact HN.out.symm
                          have l2 : (srt (ys ++ xs)).length = N := by rw [srt_length, List.length_append]; have := HN.out; omega
                          have nx := all_num fun i hi => (gx i hi).1
                          have ny := all_num fun i hi => (gy i hi).1
                          refine ⟨fun i hi => ⟨?_, ?_⟩, fun i hi => key_swap (by have := HN.out; omega), fun i h0 hi => up_step (srt_up _) h0 (by omega), l1, l2⟩
                          · have := srt_mem.1 (getD_mem (L := srt (xs ++ ys)) (i := i) (by omega))
                            rcases List.mem_append.1 this with h | h
                            · exact nx _ h
                            · exact ny _ h
                          · have := srt_mem.1 (getD_mem (L := srt (ys ++ xs)) (i := i) (by omega))
                            rcases List.mem_append.1 this with h | h
                            · exact ny _ h
                            · exact nx _ h
                        have HG : Hid (Good xs xs.length ∧ Good ys ys.length) := ⟨gx, gy⟩
                        clear gx gy
                        go_wp2
                        go_loopg [15] (N + 1) (fun g s15 wr => ∃ i : Nat, s15 = .int .i64 i ∧ i ≤ N ∧ N + 1 - i ≤ g ∧ Dr wc wr)
                        case atStart => exact ⟨0, rfl, by omega, by omega, Dr.refl _⟩
                        case round =>
                          obtain ⟨i, rfl, hi, hg, hdr⟩ := hrel
                          by_cases hlt : i < N
                          · obtain ⟨FA, FB⟩ := HAB.out.resolve_left (by omega)
                            obtain ⟨v1, v2, v3, v4, v5⟩ := HV.out
                            have FA' := FA.dr hdr
                            have FB' := FB.dr hdr
                            have ca := FA'.cell (i := i) (by omega)
                            have cb := FB'.cell (i := i) (by omega)
                            obtain ⟨na, nb⟩ := v1 i hlt
                            have te : (FloatKind.f64.format.order ((srt (xs ++ ys)).getD i 0) ((srt (ys ++ xs)).getD i 0) != some .eq) = false := by
                              have := feq_eq na nb
                              rw [decide_eq_true (v2 i hlt)] at this
                              have h : (FloatKind.f64.format.order ((srt (xs ++ ys)).getD i 0) ((srt (ys ++ xs)).getD i 0) == some .eq) = true := this
                              simp only [bne, h]; rfl
                            have ii : (i : Int) < (N : Int) := by omega
                            by_cases h0 : 0 < i
                            · have cp := FA'.cell (i := i - 1) (by omega)
                              obtain ⟨np, _⟩ := v1 (i - 1) (by omega)
                              have tg : (FloatKind.f64.format.order ((srt (xs ++ ys)).getD (i - 1) 0) ((srt (xs ++ ys)).getD i 0) == some .gt) = false :=
                                ((fgt_eq _ _).trans (flt_eq na np)).trans (decide_eq_false (by have := v3 i h0 hlt; omega))
                              have e1 : ((i : Int) - 1).toNat = i - 1 := by omega
                              have h0' : (0 : Int) < (i : Int) := by omega
                              clear v1 v2 v3 v4 v5 FA FB FA' FB' na nb np HV
                              generalize (srt (xs ++ ys)).getD i 0 = x1 at *
                              generalize (srt (ys ++ xs)).getD i 0 = x2 at *
                              generalize (srt (xs ++ ys)).getD (i - 1) 0 = x3 at *
                              go_wp2
                              go_quiet (fail)
                              go_wp2
                              go_quiet (fail)
                              go_wp2
                              go_roundg (N - i)
                              case measure => omega
                              case rel => exact ⟨i + 1, iEq (by omega), by omega, by omega, (by first | exact hdr.more | exact hdr.more.more)⟩
                            · have h0' : decide ((0 : Int) < (i : Int)) = false := decide_eq_false (by omega)
                              clear v1 v2 v3 v4 v5 FA FB FA' FB' na nb HV
                              generalize (srt (xs ++ ys)).getD i 0 = x1 at *
                              generalize (srt (ys ++ xs)).getD i 0 = x2 at *
                              go_wp2
                              go_quiet (fail)
                              go_wp2
                              go_quiet (fail)
                              go_wp2
                              go_roundg (N - i)
                              case measure => omega
                              case rel => exact ⟨i + 1, iEq (by omega), by omega, by omega, (by first | exact hdr.more | exact hdr.more.more)⟩
                          · obtain rfl : i = N := by omega
                            clear HV HAB
                            go_wp2
                            go_ret
                            exact ⟨rfl, hb4.trans (hdr.below _)⟩
end Go.Proofs.Qxb6602348a
