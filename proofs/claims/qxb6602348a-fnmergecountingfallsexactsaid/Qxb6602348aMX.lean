/-
  THE WALK OF FnMergeCountingFallsExact: it returns true; nothing that was there has turned.
-/
import Derived.Test.Qxb6602348aMXParts
import Derived.Test.Qxb6602348aZz
import Derived.Test.Qxb6602348aRMParts
import Derived.Test.Qxb6602348aMerge
namespace Go.Proofs.Qxb6602348a
open Go.RowKit Go.Deep Flt
attribute [local go_sem] run_store_float

theorem Gr.belowB {b n B : Nat} {w w' : World} (h : Gr b n w w') (hn : B ≤ n) (hb : B ≤ b) : Below B w w' := ⟨h.os, h.tape, h.output, h.size, fun k hk => h.block k (by omega) (by omega)⟩

set_option maxHeartbeats 2000000 in
set_option maxRecDepth 100000 in
theorem mx_any (a ra : Option Addr) (ca cr : Nat) (D : List Nat) (rss : List (List Nat)) (w : World) (F : Fl w a D) (R : RP w ra rss) :
    Calls Try.prog 7 #[.slice a D.length ca, .slice ra rss.length cr] w fun e w' => e = .returned (.bool true) ∧ Below w.heap.size w w' := by
  go_enter Try.func7, Try.ntmps7
  go_wp2_with fail
  refine (zz23 a ra D.length ca cr rss _ R).mono ?_
  rintro e w' ⟨⟨r, rfl, _⟩, hw⟩
  subst hw
  cases r with
  | false =>
    go_wp2_with fail
    go_ret
    exact ⟨rfl, Below.refl _ _⟩
  | true =>
    by_cases h1 : (4096 : Int) < (D.length : Int)
    · go_wp2_with fail
      go_ret
      exact ⟨rfl, Below.refl _ _⟩
    · by_cases hl2 : (4096 : Int) < (rss.length : Int)
      · go_wp2_with fail
        go_ret
        exact ⟨rfl, Below.refl _ _⟩
      · go_wp2
        go_loopg [5, 6] (rss.length + 1) (fun g s5 s6 wr => ∃ t r : Nat, s5 = .int .i64 t ∧ s6 = .int .i64 r ∧ t ≤ 4096 ∧ r ≤ rss.length ∧ rss.length + 1 - r ≤ g ∧ w = wr ∧ Hid (t = cl rss r))
        case atStart => exact ⟨0, 0, rfl, rfl, by omega, by omega, by omega, rfl, rfl⟩
        case round =>
          obtain ⟨t, r, rfl, rfl, ht, hr, hg, rfl, HT⟩ := hrel
          by_cases hlt : r < rss.length
          · obtain ⟨A, off, rfl, hR⟩ := R.resolve_left (by omega)
            obtain ⟨sr, csr, ar, _⟩ := hR r hlt
            clear hR
            have HT2 : Hid (t + (rss.getD r []).length = cl rss (r + 1)) := by show _ = _; rw [cl_succ, HT.out]
            generalize (rss.getD r []).length = L at ar HT2
            have ir : (r : Int) < (rss.length : Int) := by omega
            by_cases c1 : (4096 : Int) < (L : Int)
            · go_wp2
              go_ret
              exact ⟨rfl, Below.refl _ _⟩
            · by_cases c2 : (4096 : Int) < (t : Int) + (L : Int)
              · go_wp2
                go_ret
                exact ⟨rfl, Below.refl _ _⟩
              · go_wp2
                go_roundg (rss.length - r)
                case measure => omega
                case rel => exact ⟨t + L, r + 1, iEq (by omega), iEq (by omega), by omega, by omega, by omega, rfl, HT2⟩
          · obtain rfl : r = rss.length := by omega
            by_cases hDt : D.length = t
            · subst hDt
              have HDL : Hid (D.length = (allR rss).length) := HT.out
              clear HT
              go_wp2
              go_loopg [7] (rss.length + 1) (fun g s7 wr => ∃ r : Nat, s7 = .int .i64 r ∧ r ≤ rss.length ∧ rss.length + 1 - r ≤ g ∧ Dr w wr ∧ Hid (∀ q, q < r → Good (rss.getD q []) (rss.getD q []).length))
              case atStart => exact ⟨0, rfl, by omega, by omega, Dr.refl _, fun q hq => absurd hq (by omega)⟩
              case round =>
                obtain ⟨r, rfl, hr, hg, hd, HG⟩ := hrel
                by_cases hlt : r < rss.length
                · obtain ⟨A, off, rfl, hR⟩ := (R.dr hd).resolve_left (by omega)
                  obtain ⟨sr, csr, ar, Fr⟩ := hR r hlt
                  clear hR
                  have ir : (r : Int) < (rss.length : Int) := by omega
                  have CS := sorted_any sr csr (rss.getD r []) wr (by have := mrun_le rss hlt; have := HDL.out; omega) Fr
                  have HG2 : ∀ b : Bool, (b = true → Good (rss.getD r []) (rss.getD r []).length) → b = true → Hid (∀ q, q < r + 1 → Good (rss.getD q []) (rss.getD q []).length) := fun b h hb q hq => by
                    by_cases c : q = r
                    · subst c; exact h hb
                    · exact HG.out q (by omega)
                  clear Fr
                  generalize (rss.getD r []).length = L at ar CS HG2
                  go_wp2_with fail
                  refine CS.mono ?_
                  rintro e w1 ⟨b, rfl, hb, hd1⟩
                  cases b with
                  | false =>
                    go_wp2_with fail
                    go_ret
                    exact ⟨rfl, (hd.trans hd1).below _⟩
                  | true =>
                    have HG3 := HG2 true hb rfl
                    clear CS HG2 hb HG
                    go_wp2_with fail
                    go_roundg (rss.length - r)
                    case measure => omega
                    case rel => exact ⟨r + 1, iEq (by omega), by omega, by omega, hd.trans hd1, HG3⟩
                · obtain rfl : r = rss.length := by omega
                  go_upto_region 21 with (fail)
                  go_cut [8] (fun s8 wd => ∃ b1, s8 = .slice (some ⟨b1, 0, none⟩) D.length D.length ∧ w.heap.size ≤ b1 ∧ FR wd b1 (List.replicate D.length 0) ∧ Below w.heap.size w wd)
                  case first =>
                    go_wp2_with (first | (at_make; refine make_law rfl (.tmp 63) (.tmp 63) rfl D.length rfl rfl (by omega) ?_; intro w1 f1 b1 z1))
                    go_meet
                    case rel => exact ⟨_, rfl, by rw [hd.size]; exact Nat.le_refl _, f1, (hd.below _).trans (b1.mono (by rw [hd.size]; exact Nat.le_refl _))⟩
                  case rest =>
                    obtain ⟨b1, rfl, hb1, F1, k1⟩ := hcut
                    have HDL2 : Hid (cl rss rss.length = D.length) := HDL.out.symm
                    go_wp2
                    go_loopg [9, 10] (rss.length + 1) (fun g s9 s10 wr => ∃ (k r : Nat) (L : List Nat), s9 = .int .i64 k ∧ s10 = .int .i64 r ∧ r ≤ rss.length ∧ rss.length + 1 - r ≤ g ∧ L.length = D.length ∧ FR wr b1 L ∧ Below w.heap.size w wr ∧ Hid (k = cl rss r ∧ FILL rss L k))
                    case atStart => exact ⟨0, 0, _, rfl, rfl, by omega, by omega, by simp, F1, k1, rfl, fun j hj => absurd hj (by omega)⟩
                    case round =>
                      obtain ⟨k, r, L, rfl, rfl, hr, hg', hL, F2, k2, HF⟩ := hrel
                      clear F1 k1
                      by_cases hlt : r < rss.length
                      · have hkb : k + (rss.getD r []).length ≤ D.length := by
                          have h1 := cl_le rss (show r + 1 ≤ rss.length by omega)
                          rw [cl_succ, HDL2.out, ← HF.out.1] at h1
                          exact h1
                        have ir : (r : Int) < (rss.length : Int) := by omega
                        have HF0 : Hid (FILL rss L (k + 0)) := HF.out.2
                        go_wp2
                        go_loopg [9, 11] ((rss.getD r []).length + 1) (fun g s9 s11 wr2 => ∃ (i : Nat) (L : List Nat), s9 = .int .i64 ((k : Int) + (i : Int)) ∧ s11 = .int .i64 i ∧ i ≤ (rss.getD r []).length ∧ (rss.getD r []).length + 1 - i ≤ g ∧ L.length = D.length ∧ FR wr2 b1 L ∧ Below w.heap.size w wr2 ∧ Hid (FILL rss L (k + i)))
                        case atStart => exact ⟨0, L, iEq (by omega), rfl, by omega, by omega, hL, F2, k2, HF0⟩
                        case round =>
                          obtain ⟨i, L2, rfl, rfl, hi, hg2, hL2, F3, k3, HF3⟩ := hrel
                          clear F2 k2 HF0
                          obtain ⟨A, off, rfl, hR⟩ := (R.below k3 (Nat.le_refl _)).resolve_left (by omega)
                          obtain ⟨sr, csr, ar, Fr⟩ := hR r hlt
                          clear hR
                          by_cases hlti : i < (rss.getD r []).length
                          · obtain ⟨bv, ov, rfl, hv⟩ := Fr.resolve_left (by omega)
                            have ev := hv i hlti
                            have HF4 : Hid (FILL rss (L2.set (k + i) ((rss.getD r []).getD i 0)) (k + (i + 1))) := by
                              have := FILL_step (by rw [← HF.out.1]; exact HF3.out) hlt hlti (by rw [hL2]; exact HDL.out)
                              rw [← HF.out.1] at this
                              exact this
                            have F4 := F3.set (k + i) ((rss.getD r []).getD i 0)
                            have k4 : Below w.heap.size w (wr.setCell ⟨b1, k + i, none⟩ (.float .f64 ((rss.getD r []).getD i 0))) := k3.trans (((Kp1.refl b1 wr).setCell _ _).below hb1)
                            have hL4 : (L2.set (k + i) ((rss.getD r []).getD i 0)).length = D.length := by rw [List.length_set]; exact hL2
                            have cc := F3.cell (i := k + i) (by omega)
                            have fc := F3.frozen (k + i)
                            generalize L2.getD (k + i) 0 = old at cc
                            generalize L2.set (k + i) ((rss.getD r []).getD i 0) = L4 at *
                            generalize (rss.getD r []).getD i 0 = v at *
                            clear hv Fr HF3 F3
                            generalize (rss.getD r []).length = LR at *
                            have ii : (i : Int) < (LR : Int) := by omega
                            have ik : (k : Int) + (i : Int) < (D.length : Int) := by omega
                            have ek : ((k : Int) + (i : Int)).toNat = k + i := by omega
                            go_wp2
                            go_roundg (LR - i)
                            case measure => omega
                            case rel => exact ⟨i + 1, L4, iEq (by omega), iEq (by omega), by omega, by omega, hL4, F4, k4, HF4⟩
                          · have HF5 : Hid (k + i = cl rss (r + 1) ∧ FILL rss L2 (k + i)) := ⟨by rw [cl_succ, ← HF.out.1]; omega, HF3.out⟩
                            clear Fr HF3 HF
                            generalize (rss.getD r []).length = LR at *
                            have ii : ¬ (i : Int) < (LR : Int) := by omega
                            go_wp2
                            go_roundg (rss.length - r)
                            case measure => omega
                            case rel => exact ⟨k + i, r + 1, L2, iEq (by omega), iEq (by omega), by omega, by omega, hL2, F3, k3, HF5⟩
                      · obtain rfl : r = rss.length := by omega
                        have eL : L = allR rss := FILL_end (by rw [← HF.out.1]; exact HF.out.2) (by rw [hL]; exact HDL.out)
                        subst eL
                        have HGX : Hid ((∀ q, q < rss.length → Up (rss.getD q [])) ∧ ∀ q, q < rss.length → ∀ a ∈ rss.getD q [], nan a = false) := ⟨fun q hq => good_up (HG.out q hq), fun q hq => all_num fun i hi => (HG.out q hq i hi).1⟩
                        clear HF HG HDL2 hL
                        go_upto_region 31 with (fail)
                        go_cut [12] (fun s12 wd => ∃ (a2 : Option Addr) (c2 b2 : Nat), s12 = .slice a2 D.length c2 ∧ Hid (D.length = 0 ∨ (a2 = some ⟨b2, 0, none⟩ ∧ FR wd b2 D)) ∧ b1 < b2 ∧ FR wd b1 (allR rss) ∧ Below w.heap.size w wd)
                        case first =>
                          by_cases h0 : 0 < D.length
                          · have CC := clone_pos a ca D wr h0 (by omega) (F.below k2 (Nat.le_refl _))
                            go_wp2_with (go_at_call 12; refine CC.mono ?_; rintro e w1 ⟨rfl, f1, k3, z1⟩)
                            go_meet
                            case rel => exact ⟨_, _, wr.heap.size, rfl, Or.inr ⟨rfl, f1⟩, F2.lt, F2.below k3 F2.lt, k2.trans (k3.mono k2.size)⟩
                          · have e0 : D.length = 0 := by omega
                            have HE0 : Hid (D.length = 0) := e0
                            have CC := clone_zero a ca wr
                            rw [← e0] at CC
                            clear e0
                            go_wp2_with (go_at_call 12; refine CC.mono ?_; rintro e w1 ⟨a', c', rfl, k3⟩)
                            go_meet
                            case rel => exact ⟨a', c', w1.heap.size, rfl, Or.inl HE0.out, Nat.lt_of_lt_of_le F2.lt k3.size, F2.below k3 F2.lt, k2.trans (k3.mono k2.size)⟩
                        case rest =>
                          obtain ⟨a2, c2, b2, rfl, HD2, hb2, F3, k3⟩ := hcut
                          clear F2 k2
                          have CM := zmerge_any a2 c2 b2 D ra cr rss wc HD2.out HDL.out (R.rn k3 (by omega)) (by omega) (by have := HDL.out; omega) HGX.out.1 HGX.out.2
                          have hlA : (allR rss).length = D.length := HDL.out.symm
                          have HLA : Hid ((allR rss).length = D.length) := hlA
                          have NA : Hid (∀ a ∈ allR rss, nan a = false) := allR_num HGX.out.2
                          clear hlA
                          go_wp2_with fail
                          refine CM.mono ?_
                          rintro e w2 ⟨rfl, HF2, g2⟩
                          have HF2' : Hid (D.length = 0 ∨ (a2 = some ⟨b2, 0, none⟩ ∧ FR w2 b2 (srt (allR rss)))) := by
                            rcases HD2.out with h | ⟨h, _⟩
                            · exact Or.inl h
                            · exact orR HF2 fun h2 => ⟨h, h2⟩
                          have F4 := F3.of_block (g2.block b1 F3.lt (by omega))
                          have k4 : Below w.heap.size w w2 := k3.trans (g2.belowB k3.size (by omega))
                          have hs2 : b1 < w2.heap.size := F4.lt
                          clear F3 CM HF2 HD2 g2 k3
                          have CI := inversions_any (some ⟨b1, 0, none⟩) D.length (allR rss) w2 (by rw [HLA.out]; omega) NA.out F4.fl
                          rw [HLA.out] at CI
                          go_wp2_with fail
                          refine CI.mono ?_
                          rintro e w3 ⟨rfl, hd3⟩
                          have F5 := F4.dr hd3
                          have k5 := k4.trans (hd3.below _)
                          have HF3 : Hid (D.length = 0 ∨ (a2 = some ⟨b2, 0, none⟩ ∧ FR w3 b2 (srt (allR rss)))) := orR HF2'.out (fun h => ⟨h.1, h.2.dr hd3⟩)
                          have CR := rankSort_any (some ⟨b1, 0, none⟩) D.length (allR rss) w3 (by rw [HLA.out]; omega) NA.out F5.fl
                          rw [HLA.out] at CR
                          clear F4 k4 CI HF2' hd3
                          go_wp2_with fail
                          refine CR.mono ?_
                          rintro e w4 ⟨rfl, F6, k6⟩
                          have k7 := k5.trans (k6.mono k5.size)
                          have HF4 : Fl w4 a2 (srt (allR rss)) := by
                            rcases HF3.out with h | ⟨h, h2⟩
                            · exact Or.inl (by rw [srt_length, HLA.out]; exact h)
                            · rw [h]; exact (h2.below k6 h2.lt).fl
                          have CA := sameAll_any a2 (some ⟨w3.heap.size, 0, none⟩) c2 D.length (srt (allR rss)) w4 (by rw [srt_length, HLA.out]; omega) HF4 F6.fl
                          rw [srt_length, HLA.out] at CA
                          clear CR HF3 HF4 F6
                          go_wp2_with fail
                          refine CA.mono ?_
                          rintro e w5 ⟨rfl, hd5⟩
                          go_wp2_with fail
                          go_ret
                          exact ⟨rfl, k7.trans (hd5.below _)⟩
            · have hne : ¬ (D.length : Int) = (t : Int) := by omega
              go_wp2
              go_ret
              exact ⟨rfl, Below.refl _ _⟩
end Go.Proofs.Qxb6602348a
