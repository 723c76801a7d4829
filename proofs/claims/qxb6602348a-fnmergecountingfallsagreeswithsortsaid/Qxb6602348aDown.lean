/-
  THE WALK OF mergeCountingFalls' down.
-/
import Derived.Test.Qxb6602348aLess
namespace Go.Proofs.Qxb6602348a
open Go.RowKit Flt

def clo (B3 B5 : Nat) : Value := .func (.func 32) #[] #[.pointer (some ⟨B3, 0, none⟩), .pointer (some ⟨B5, 0, none⟩)]

theorem dr1 (w : World) : Dr w w.drew := ⟨1, rfl⟩

/-- Which child is the lesser one: the second, or the first. -/
def MC (rss : List (List Nat)) (nx H : List Nat) (x : Nat) (r : Bool) : Prop :=
  (r = true → 2 * x + 2 < H.length ∧ ∀ d, (d = 2 * x + 1 ∨ d = 2 * x + 2) → d < H.length → le (hkey rss nx) (H.getD (2 * x + 2) 0) (H.getD d 0)) ∧
  (r = false → ∀ d, (d = 2 * x + 1 ∨ d = 2 * x + 2) → d < H.length → le (hkey rss nx) (H.getD (2 * x + 1) 0) (H.getD d 0))
theorem MC_one {rss : List (List Nat)} {nx H : List Nat} {x : Nat} (h : ¬ 2 * x + 2 < H.length) : MC rss nx H x false := by
  refine ⟨fun h => (by cases h), fun _ d hd hdl => ?_⟩
  rcases hd with rfl | rfl
  · exact le_refl _ _
  · omega
theorem MC_two {rss : List (List Nat)} {nx H : List Nat} {x : Nat} (h : 2 * x + 2 < H.length) : MC rss nx H x (lss rss nx (H.getD (2 * x + 2) 0) (H.getD (2 * x + 1) 0)) := by
  refine ⟨fun hr => ⟨h, fun d hd _ => ?_⟩, fun hr d hd _ => ?_⟩
  · have h1 := le_of_lt (of_decide_eq_true hr)
    rcases hd with rfl | rfl
    · exact h1
    · exact le_refl _ _
  · have h1 := le_of_not_lt (of_decide_eq_false hr)
    rcases hd with rfl | rfl
    · exact le_refl _ _
    · exact h1

set_option maxHeartbeats 1000000 in
theorem down_any (B3 B5 B6 B10 BN BH b n : Nat) (ra : Option Addr) (cr : Nat) (rss : List (List Nat)) (nx H : List Nat) (x s : Nat) (w : World) (L : LW w B3 B5 BN b n ra cr rss nx)
    (d3 : B3 ≠ BH) (d5 : B5 ≠ BH) (d6 : B6 ≠ BH) (dA : B10 ≠ BH) (dN : BN ≠ BH) (dn : n ≤ BH)
    (c6 : OC w B6 37 (.slice (some ⟨BH, 0, none⟩) H.length rss.length)) (cA : OC w B10 40 (clo B3 B5)) (FH : NR w BH H rss.length) (hxs : s ≤ x) (hxb : x ≤ 1048576) (hS : HS H (InR rss nx)) (hP : HPx (hkey rss nx) H s x)
    (nn : ∀ r, r < rss.length → ∀ a ∈ rss.getD r [], nan a = false) (hk : rss.length ≤ 1048576) (hl : ∀ r, r < rss.length → (rss.getD r []).length ≤ 1048576) :
    Calls Try.prog 33 #[.int .i64 x, .pointer (some ⟨B6, 0, none⟩), .pointer (some ⟨B10, 0, none⟩)] w fun e w' => e = .returned (.tuple #[]) ∧ (∃ H', NR w' BH H' rss.length ∧ H'.length = H.length ∧ HS H' (InR rss nx) ∧ HP (hkey rss nx) H' s) ∧ Kp1 BH w w' := by
  have HSP : Hid (HS H (InR rss nx) ∧ HPx (hkey rss nx) H s x) := ⟨hS, hP⟩
  have HNN : Hid (∀ r, r < rss.length → ∀ a ∈ rss.getD r [], nan a = false) := nn
  have HL : Hid (∀ r, r < rss.length → (rss.getD r []).length ≤ 1048576) := hl
  clear hS hP nn hl
  go_enter Try.func33, Try.ntmps33
  go_wp2
  go_loopg [0] (H.length + 1) (fun g s0 wr => ∃ (x : Nat) (H1 : List Nat), s0 = .int .i64 x ∧ s ≤ x ∧ x ≤ 1048576 ∧ H.length + 1 - x ≤ g ∧ H1.length = H.length ∧ NR wr BH H1 rss.length ∧ Kp1 BH w wr ∧ Hid (HS H1 (InR rss nx) ∧ HPx (hkey rss nx) H1 s x))
  case atStart => exact ⟨x, H, rfl, by omega, by omega, by omega, rfl, FH, Kp1.refl _ _, HSP⟩
  case round =>
    obtain ⟨x, H1, rfl, hsx, hx, hg, hl1, F1, K1, HH⟩ := hrel
    have k6 := (c6.kp1 K1 d6)
    have kA := (cA.kp1 K1 dA)
    have L1 := L.kp K1 d3 d5 dN (Or.inr dn)
    have hHk := F1.len
    clear c6 cA L FH HSP
    have q6 := k6.cell
    have qA := kA.cell
    unfold clo at qA
    have C : ∀ (i j : Nat) (i1 : i < H1.length) (j1 : j < H1.length) (wv : World), Dr wr wv → ∀ q : Nat, Calls Try.prog 32 #[.int .i64 (H1.getD i 0 : Nat), .int .i64 (H1.getD j 0 : Nat), .pointer (some ⟨B3, 0, none⟩), .pointer (some ⟨B5, 0, none⟩)] (wv.drewN q) fun e w' => e = .returned (.bool (lss rss nx (H1.getD i 0) (H1.getD j 0))) ∧ ∃ m, w' = wv.drewN m :=
      fun i j i1 j1 wv hd q => Calls.quiet_of (less_any B3 B5 BN b n ra cr rss nx _ _ (wv.drewN q) (L1.dr hd.more) (HH.out.1.sound i i1) (HH.out.1.sound j j1) HNN.out HL.out)
    clear L1
    by_cases hc : 2 * x + 1 < H.length
    · have cc := F1.cell (i := 2 * x + 1) (by omega)
      have hci : 2 * (x : Int) + 1 < (H.length : Int) := by omega
      have hck : 2 * x + 1 < H1.length := by omega
      go_upto_region 2 with (fail)
      go_cut [29] (fun s29 wd => ∃ r : Bool, s29 = .bool r ∧ Dr wr wd ∧ Hid (MC rss nx H1 x r))
      case first =>
        by_cases hc2 : 2 * x + 2 < H.length
        · have cd := F1.cell (i := 2 * x + 2) (by omega)
          have hc2i : 2 * (x : Int) + 1 + 1 < (H.length : Int) := by omega
          have C1 := fun q => C (2 * x + 2) (2 * x + 1) (by omega) (by omega) wr (Dr.refl _) q
          clear C
          have HM : Hid (MC rss nx H1 x (lss rss nx (H1.getD (2 * x + 2) 0) (H1.getD (2 * x + 1) 0))) := MC_two (by omega)
          clear HH F1
          generalize lss rss nx (H1.getD (2 * x + 2) 0) (H1.getD (2 * x + 1) 0) = r at *
          generalize H1.getD (2 * x + 1) 0 = v1 at *
          generalize H1.getD (2 * x + 2) 0 = v2 at *
          go_wp2
          go_quiet ((go_at_call 32; exact C1 _))
          go_wp2
          go_meet
          case rel => exact ⟨r, rfl, dr0 _, HM⟩
        · have hc2i : decide (2 * (x : Int) + 1 + 1 < (H.length : Int)) = false := decide_eq_false (by omega)
          have HM : Hid (MC rss nx H1 x false) := MC_one (by omega)
          clear C HH F1
          go_wp2
          go_quiet (fail)
          go_wp2
          go_meet
          case rel => exact ⟨false, rfl, dr0 _, HM⟩
      case rest =>
        obtain ⟨r, rfl, hd, HM⟩ := hcut
        have C2 := fun i j i1 j1 => C i j i1 j1 _ hd
        have F2 := F1.dr hd
        have K2 := K1.dr hd
        have p6 := (k6.dr hd).cell
        have pA := (kA.dr hd).cell
        unfold clo at pA
        clear F1 K1 q6 qA k6 kA C cc
        go_upto_if 29 with (fail)
        go_cut [4] (fun s4 wd => ∃ c : Nat, s4 = .int .i64 c ∧ (c = 2 * x + 1 ∨ c = 2 * x + 2) ∧ c < H.length ∧ wc = wd ∧ Hid (∀ d, (d = 2 * x + 1 ∨ d = 2 * x + 2) → d < H1.length → le (hkey rss nx) (H1.getD c 0) (H1.getD d 0)))
        case first =>
          clear C2 F2
          cases r with
          | true =>
            have hb := (HM.out.1 rfl).1
            have HX : Hid (∀ d, (d = 2 * x + 1 ∨ d = 2 * x + 2) → d < H1.length → le (hkey rss nx) (H1.getD (2 * x + 2) 0) (H1.getD d 0)) := (HM.out.1 rfl).2
            clear HM
            go_wp2
            go_meet
            case rel => exact ⟨2 * x + 2, iEq (by omega), by omega, by omega, rfl, HX⟩
          | false =>
            have HX : Hid (∀ d, (d = 2 * x + 1 ∨ d = 2 * x + 2) → d < H1.length → le (hkey rss nx) (H1.getD (2 * x + 1) 0) (H1.getD d 0)) := HM.out.2 rfl
            clear HM
            go_wp2
            go_meet
            case rel => exact ⟨2 * x + 1, iEq (by omega), by omega, by omega, rfl, HX⟩
        case rest =>
          obtain ⟨c, rfl, hcx, hcl, rfl, HX⟩ := hcut
          clear HM hci hck
          have C3 := fun q => C2 c x (by omega) (by omega) q
          clear C2
          have cc := F2.cell (i := c) (by omega)
          have cx := F2.cell (i := x) (by omega)
          have ic : (c : Int) < (H.length : Int) := by omega
          have ix : (x : Int) < (H.length : Int) := by omega
          have ixc : x ≠ c := by omega
          by_cases hls : lss rss nx (H1.getD c 0) (H1.getD x 0) = true
          · rw [hls] at C3
            have hle := le_of_lt (of_decide_eq_true hls)
            have HE : Hid (HS (hswp H1 x c) (InR rss nx) ∧ HPx (hkey rss nx) (hswp H1 x c) s c) := ⟨hswp_HS HH.out.1 (by omega) (by omega), HPx_swap HH.out.2 hsx hcx (by omega) HX.out hle⟩
            have hl2 : (hswp H1 x c).length = H.length := by rw [hswp_length]; exact hl1
            have HSW : Hid (∀ wv, NR wv BH H1 rss.length → Kp1 BH w wv → NR ((wv.setCell ⟨BH, x, none⟩ (.int .i64 (H1.getD c 0 : Nat))).setCell ⟨BH, c, none⟩ (.int .i64 (H1.getD x 0 : Nat))) BH (hswp H1 x c) rss.length ∧ Kp1 BH w ((wv.setCell ⟨BH, x, none⟩ (.int .i64 (H1.getD c 0 : Nat))).setCell ⟨BH, c, none⟩ (.int .i64 (H1.getD x 0 : Nat)))) :=
              fun wv h k => ⟨(h.set _ _).set _ _, (k.setCell _ _).setCell _ _⟩
            have HC : Hid (∀ wv, NR wv BH H1 rss.length → wv.cell? ⟨BH, c, none⟩ = some (.int .i64 (H1.getD c 0 : Nat)) ∧ wv.cell? ⟨BH, x, none⟩ = some (.int .i64 (H1.getD x 0 : Nat))) := fun wv h => ⟨h.cell (by omega), h.cell (by omega)⟩
            generalize hswp H1 x c = H2 at *
            generalize H1.getD c 0 = v1 at *
            generalize H1.getD x 0 = v2 at *
            clear HX HH hls hle
            go_upto_region 4 with (fail)
            go_cut [42] (fun s42 wd => s42 = .bool false ∧ Dr wc wd)
            case first =>
              go_wp2
              go_quiet ((go_at_call 32; exact C3 _))
              go_wp2
              go_meet
              case rel => exact ⟨rfl, dr0 _⟩
            case rest =>
              obtain ⟨rfl, hd2⟩ := hcut
              have F3 := F2.dr hd2
              have K3 := K2.dr hd2
              have p63 : wc.cell? ⟨B6, 0, none⟩ = some (.slice (some ⟨BH, 0, none⟩) H.length rss.length) := by
                obtain ⟨q, rfl⟩ := hd2
                exact p6
              have cc3 := (HC.out _ F3).1
              have cx3 := (HC.out _ F3).2
              have fx := F3.frozen x
              have fc := F3.frozen c
              clear p6 pA hd hd2 F2 K2 C3 cc cx HC
              go_wp2
              go_region
              go_wp2
              have HZ := HSW.out _ F3 K3
              go_roundg (H.length - x)
              case measure => omega
              case rel => exact ⟨c, H2, rfl, by omega, by omega, by omega, hl2, HZ.1.dr (dr1 _), HZ.2.dr (dr1 _), HE⟩
          · have hls' : lss rss nx (H1.getD c 0) (H1.getD x 0) = false := by simpa using hls
            rw [hls'] at C3
            have hle := le_of_not_lt (of_decide_eq_false hls')
            have HE : Hid (HP (hkey rss nx) H1 s) := HPx_stop HH.out.2 HX.out hle
            generalize H1.getD c 0 = v1 at *
            generalize H1.getD x 0 = v2 at *
            clear HX hls hls' hle
            go_upto_region 4 with (fail)
            go_cut [42] (fun s42 wd => s42 = .bool true ∧ Dr wc wd)
            case first =>
              go_wp2
              go_quiet ((go_at_call 32; exact C3 _))
              go_wp2
              go_meet
              case rel => exact ⟨rfl, dr0 _⟩
            case rest =>
              obtain ⟨rfl, hd2⟩ := hcut
              go_wp2
              ((try simp only [Exit.inBlock, Exit.then]); refine bodyPost_ret (results_none rfl _ _ _) rfl ?_)
              exact ⟨rfl, ⟨H1, F2.dr hd2, hl1, HH.out.1, HE.out⟩, K2.dr hd2⟩
    · have HE : Hid (HP (hkey rss nx) H1 s) := HPx_leaf HH.out.2 (by omega)
      clear C
      go_wp2
      ((try simp only [Exit.inBlock, Exit.then]); refine bodyPost_ret (results_none rfl _ _ _) rfl ?_)
      exact ⟨rfl, ⟨H1, F1, hl1, HH.out.1, HE.out⟩, K1⟩
end Go.Proofs.Qxb6602348a
