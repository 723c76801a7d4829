/-
  THE WALK OF mergeCountingFalls.
-/
import Derived.Test.Qxb6602348aMergeMem
import Derived.Laws.EntriesVeiled
namespace Go.Proofs.Qxb6602348a
open Go.RowKit Go.Deep Flt
attribute [local go_sem] run_store_float

theorem below_new (w : World) (o : Obj) : Below w.heap.size w (w.alloc o) := (Below.refl _ _).alloc (Nat.le_refl _) _
theorem OC.new (w : World) (t : TypeId) (v : Value) : OC (w.alloc (.cells #[v] t)) w.heap.size t v := blk_alloc_new _ _

set_option maxHeartbeats 1000000 in
set_option maxRecDepth 100000 in
theorem merge_any (a : Option Addr) (ca b : Nat) (D : List Nat) (ra : Option Addr) (cr : Nat) (rss : List (List Nat)) (w : World) (hD : D.length = 0 ∨ (a = some ⟨b, 0, none⟩ ∧ FR w b D)) (hDl : D.length = (allR rss).length) (R : RN w b w.heap.size ra rss)
    (hk : rss.length ≤ 131072) (ht : (allR rss).length ≤ 1048576) (hU : ∀ q, q < rss.length → Up (rss.getD q [])) (nn : ∀ r, r < rss.length → ∀ a ∈ rss.getD r [], nan a = false) :
    Calls Try.prog 30 #[.slice a D.length ca, .slice ra rss.length cr] w fun e w' => e = .returned (.int .i64 (inv (allR rss))) ∧ (D.length = 0 ∨ FR w' b (srt (allR rss))) ∧ Gr b w.heap.size w w' := by
  have HD : Hid (D.length = 0 ∨ (a = some ⟨b, 0, none⟩ ∧ b < w.heap.size ∧ FR w b D)) := by
    rcases hD with h | ⟨h1, h2⟩
    · exact Or.inl h
    · exact Or.inr ⟨h1, h2.lt, h2⟩
  have HDL : Hid (D.length = (allR rss).length) := hDl
  have HT : Hid ((allR rss).length ≤ 1048576) := ht
  have hDn : D.length ≤ 1048576 := by omega
  have HUN : Hid ((∀ q, q < rss.length → Up (rss.getD q [])) ∧ (∀ r, r < rss.length → ∀ a ∈ rss.getD r [], nan a = false) ∧ ∀ r, r < rss.length → (rss.getD r []).length ≤ 1048576) := ⟨hU, nn, fun r hr => Nat.le_trans (mrun_le rss hr) ht⟩
  clear hD hDl ht hU nn
  go_enter Try.func30, Try.ntmps30
  go_upto_region 1 with (fail)
  go_cut [5] (fun s5 wd => ∃ BN B5, s5 = .pointer (some ⟨B5, 0, none⟩) ∧ w.heap.size < BN ∧ BN < B5 ∧ OC wd w.heap.size 32 (.slice ra rss.length cr) ∧ OC wd B5 37 (.slice (some ⟨BN, 0, none⟩) rss.length rss.length) ∧ NR wd BN (List.replicate rss.length 0) rss.length ∧ Below w.heap.size w wd)
  case first =>
    go_wp2_with (first | (at_make; refine makeI_law rfl (.tmp 17) (.tmp 17) 37 rfl Try.underlying37 rss.length rfl rfl (by omega) ?_; intro w1 f1 b1 z1))
    go_meet
    case rel =>
      have s0 : (w.alloc (.cells #[.slice ra rss.length cr] 32)).heap.size = w.heap.size + 1 := nblk_alloc _ _
      rw [s0] at f1 b1 z1
      have o3 := (OC.new w 32 (.slice ra rss.length cr)).below b1 (by omega)
      have B2 := below_new w1 (.cells #[.slice (some ⟨w.heap.size + 1, 0, none⟩) rss.length rss.length] 37)
      have o5 := OC.new w1 37 (.slice (some ⟨w.heap.size + 1, 0, none⟩) rss.length rss.length)
      rw [z1] at o5 B2
      have f2 : NR w1 (w.heap.size + 1) (List.replicate rss.length 0) rss.length := by
        unfold NR; rw [List.map_replicate]; exact f1
      refine ⟨w.heap.size + 1, w.heap.size + 1 + 1, rfl, by omega, by omega, o3.below B2 (by omega), o5, f2.below B2 (by omega), ?_⟩
      exact ((below_new w _).trans (b1.mono (by omega))).trans (B2.mono (by omega))
  case rest =>
    obtain ⟨BN, B5, rfl, hc1, hc2, o3, o5, oN, bw⟩ := hcut
    go_upto_region 2 with (fail)
    have d3 := o3.cell
    have hsz := o5.lt
    go_cut [6] (fun s6 wd => ∃ BH B6, s6 = .pointer (some ⟨B6, 0, none⟩) ∧ B5 < BH ∧ BH < B6 ∧ OC wd B6 37 (.slice (some ⟨BH, 0, none⟩) 0 rss.length) ∧ NR wd BH [] rss.length ∧ Below wc.heap.size wc wd)
    case first =>
      go_wp2_with (first | (at_make; refine makeC_law rfl (.const (.int .i64 0)) (.tmp 20) rfl rss.length rfl rfl (by omega) ?_; intro w1 f1 b1 z1))
      go_meet
      case rel =>
        have B2 := below_new w1 (.cells #[.slice (some ⟨wc.heap.size, 0, none⟩) 0 rss.length] 37)
        have o6 := OC.new w1 37 (.slice (some ⟨wc.heap.size, 0, none⟩) 0 rss.length)
        exact ⟨wc.heap.size, w1.heap.size, rfl, hsz, by omega, o6, f1.below B2 (by omega), b1.trans (B2.mono (by omega))⟩
    case rest =>
      obtain ⟨BH, B6, rfl, hc3, hc4, o6, oH, b2⟩ := hcut
      have p3 := o3.below b2 o3.lt
      have p5 := o5.below b2 o5.lt
      have pN := oN.below b2 oN.lt
      have bw2 := bw.trans (b2.mono bw.size)
      clear o3 o5 oN bw b2 d3 hsz
      go_upto_region 3 with (fail)
      have d3 := p3.cell
      have hsz := o6.lt
      go_cut [7] (fun s7 wd => ∃ BL, s7 = .slice (some ⟨BL, 0, none⟩) (rss.length + 1) (rss.length + 1) ∧ B6 < BL ∧ IR wd BL (List.replicate (rss.length + 1) 0) (rss.length + 1) ∧ Below wc.heap.size wc wd)
      case first =>
        go_wp2_with (first | (at_make; refine makeI_law rfl (.tmp 24) (.tmp 24) 38 rfl Try.underlying38 (rss.length + 1) rfl rfl (by omega) ?_; intro w1 f1 b1 z1))
        go_meet
        case rel => exact ⟨wc.heap.size, rfl, hsz, f1, b1⟩
      case rest =>
        obtain ⟨BL, rfl, hc5, oL, b3⟩ := hcut
        have M : MF w wc w.heap.size b BN B5 BH B6 BL a ra cr rss (List.replicate rss.length 0) [] (List.replicate (rss.length + 1) 0) D := by
          have bw3 := bw2.trans (b3.mono bw2.size)
          refine ⟨⟨p3.below b3 p3.lt, p5.below b3 p5.lt, pN.below b3 pN.lt, by simp, R.gr (Gr.below bw3)⟩, o6.below b3 o6.lt, oH.below b3 oH.lt, by simpa using oL, Gr.below bw3, ⟨hc1, hc2, hc3, hc4, hc5⟩, ?_⟩
          exact ds_keep HD.out fun hb => bw3.block b hb
        have HB : Hid (BST rss [] (List.replicate (rss.length + 1) 0) 0) := BST_start rss
        clear p3 p5 pN bw2 b3 d3 hsz o6 oH oL hc1 hc2 hc3 hc4 hc5 R
        have d3 := M.lw.c3.cell
        go_wp2
        go_loopg [28] (rss.length + 1) (fun g s28 wr => ∃ (r : Nat) (H : List Nat) (f : List Int), s28 = .int .i64 r ∧ r ≤ rss.length ∧ rss.length + 1 - r ≤ g ∧ MF w wr w.heap.size b BN B5 BH B6 BL a ra cr rss (List.replicate rss.length 0) H f D ∧ Hid (BST rss H f r))
        case atStart => exact ⟨0, _, _, rfl, by omega, by omega, M, HB⟩
        case round =>
          obtain ⟨r, H, f, rfl, hr, hg, M1, HB1⟩ := hrel
          clear M HB d3
          by_cases hlt : r < rss.length
          · obtain ⟨A, off, rfl, _, hR⟩ := M1.lw.rn.resolve_left (by omega)
            obtain ⟨sr, csr, ar, Fr⟩ := hR r hlt
            clear hR
            obtain ⟨lr, hlr⟩ : ∃ lr, lr = (rss.getD r []).length := ⟨_, rfl⟩
            rw [← hlr] at ar
            have HLR : Hid (lr = (rss.getD r []).length) := hlr
            have hlb : lr ≤ 1048576 := by rw [hlr]; exact HUN.out.2.2 r hlt
            have ir : (r : Int) < (rss.length : Int) := by omega
            have CA : Calls Try.prog 31 #[.slice (some ⟨BL, 0, none⟩) (rss.length + 1) (rss.length + 1), .int .i64 r, .int .i64 lr] wr fun e w' => e = .returned (.tuple #[]) ∧ (∃ f', IR w' BL f' f'.length ∧ FEN f' (upd (fun q => if q < r then ((rss.getD q []).length : Int) else 0) r lr) ∧ f'.length = rss.length + 1) ∧ Kp1 BL wr w' := by
              have := add_any BL r lr _ f wr (by rw [HB1.out.flen]; omega) (by rw [HB1.out.flen]; omega) (by omega) (HB1.out.small HT.out) HB1.out.fen M1.lr
              rw [HB1.out.flen] at this
              exact this
            clear hlr Fr
            go_upto_region 7 with (fail)
            go_cut [37] (fun s37 wd => s37 = .tuple #[] ∧ ∃ f', MF w wd w.heap.size b BN B5 BH B6 BL a (some ⟨A, off, none⟩) cr rss (List.replicate rss.length 0) H f' D ∧ Hid ((0 < (rss.getD r []).length → BST rss (H ++ [r]) f' (r + 1)) ∧ (¬ 0 < (rss.getD r []).length → BST rss H f' (r + 1))))
            case first =>
              go_wp2_with (go_at_call 31; refine CA.mono ?_; rintro e w1 ⟨rfl, ⟨f', F1, G1, l1⟩, K1⟩)
              go_meet
              case rel =>
                refine ⟨rfl, f', M1.left K1 F1, ?_⟩
                rw [HLR.out] at G1
                exact HB1.out.next G1 (by rw [l1, HB1.out.flen])
            case rest =>
              obtain ⟨rfl, f', M2, HN⟩ := hcut
              clear CA M1 ar
              have hHl := HB1.out.hlen
              by_cases h0 : 0 < lr
              · have HN2 : Hid (BST rss (H ++ [r]) f' (r + 1)) := HN.out.1 (by rw [← HLR.out]; exact h0)
                have d6 := M2.c6.cell
                have fr6 := M2.c6.frozen
                clear HB1 HN HLR
                have M3 := M2.new (below_new wc (.cells #[.int .i64 (r : Int)] 3))
                have cN : (wc.alloc (.cells #[.int .i64 (r : Int)] 3)).cell? ((⟨wc.heap.size, 0, none⟩ : Addr).add 0) = some (.int .i64 (r : Int)) := by
                  rw [addr_add]; exact (OC.new wc 3 _).cell
                have hroom : H.length + 1 ≤ rss.length := by omega
                go_wp2_with (at_builtin; refine appendI_law rfl (.tmp 41) (.tmp 43) rfl BH H.length rss.length H rfl M3.hr rfl ⟨wc.heap.size, 0, none⟩ 1 r rfl cN hroom (by omega) ?_; intro w2 F2 g2; have q6 := (M3.c6.of_block (g2.block B6 M3.c6.lt (by have := M3.ch; simp; omega))).cell; have qf := (M3.c6.of_block (g2.block B6 M3.c6.lt (by have := M3.ch; simp; omega))).frozen; have M4 := M3.push g2 F2)
                go_roundg (rss.length - r)
                case measure => omega
                case rel => exact ⟨r + 1, H ++ [r], f', iEq (by omega), by omega, by omega, M4, HN2⟩
              · have HN2 : Hid (BST rss H f' (r + 1)) := HN.out.2 (by rw [← HLR.out]; exact h0)
                clear HB1 HN HLR
                go_wp2
                go_roundg (rss.length - r)
                case measure => omega
                case rel => exact ⟨r + 1, H, f', iEq (by omega), by omega, by omega, M2, HN2⟩
          · obtain rfl : r = rss.length := by omega
            have HE : Hid (HS H (InR rss (List.replicate rss.length 0)) ∧ FEN f (cntR rss (List.replicate rss.length 0)) ∧ f.length = rss.length + 1) := HB1.out.end rfl
            have hHk := M1.hr.len
            clear HB1
            go_upto_region 11 with (fail)
            go_cut [10] (fun s10 wd => ∃ B10, s10 = .pointer (some ⟨B10, 0, none⟩) ∧ BL < B10 ∧ OC wd B10 40 (clo w.heap.size B5) ∧ MF w wd w.heap.size b BN B5 BH B6 BL a ra cr rss (List.replicate rss.length 0) H f D)
            case first =>
              go_wp2
              go_meet
              case rel => exact ⟨wr.heap.size, rfl, M1.size, OC.new _ _ _, M1.new (below_new _ _)⟩
            case rest =>
              obtain ⟨B10, rfl, hBA, oA, M2⟩ := hcut
              clear M1
              have d6 := M2.c6.cell
              go_wp2
              go_loopg [12] (H.length + 1) (fun g s12 wr => ∃ (i : Int) (H' : List Nat), s12 = .int .i64 i ∧ -1 ≤ i ∧ i ≤ 1048576 ∧ (i + 2).toNat ≤ g ∧ H'.length = H.length ∧ OC wr B10 40 (clo w.heap.size B5) ∧ MF w wr w.heap.size b BN B5 BH B6 BL a ra cr rss (List.replicate rss.length 0) H' f D ∧ Hid (HS H' (InR rss (List.replicate rss.length 0)) ∧ HP (hkey rss (List.replicate rss.length 0)) H' (i + 1).toNat))
              case atStart => exact ⟨(H.length : Int) / 2 - 1, H, rfl, by omega, by omega, by omega, rfl, oA, M2, HE.out.1, HP_leaves (by omega)⟩
              case round =>
                obtain ⟨i, H', rfl, hi1, hi2, hg, hl, oA', M3, HP'⟩ := hrel
                clear oA M2 d6
                by_cases h0 : 0 ≤ i
                · obtain ⟨x, rfl⟩ : ∃ x : Nat, i = x := ⟨i.toNat, by omega⟩
                  have CD : Calls Try.prog 33 #[.int .i64 x, .pointer (some ⟨B6, 0, none⟩), .pointer (some ⟨B10, 0, none⟩)] wr _ :=
                    down_any w.heap.size B5 B6 B10 BN BH b w.heap.size ra cr rss (List.replicate rss.length 0) H' x x wr M3.lw (by have := M3.ch; omega) (by have := M3.ch; omega) (by have := M3.ch; omega) (by have := M3.ch; omega) (by have := M3.ch; omega) (by have := M3.ch; omega)
                      M3.c6 oA' M3.hr (Nat.le_refl _) (by omega) HP'.out.1 (HP_down (by have := HP'.out.2; rw [show ((x : Int) + 1).toNat = x + 1 by omega] at this; exact this)) HUN.out.2.1 (by omega) HUN.out.2.2
                  go_wp2_with (go_at_call 33; refine CD.mono ?_; rintro e w1 ⟨rfl, ⟨H2, F2, l2, S2, P2⟩, K2⟩; have M4 := M3.heap K2 F2 l2; have oA2 := oA'.kp1 K2 (by have := M3.ch; omega))
                  go_roundg (x + 1)
                  case measure => omega
                  case rel => exact ⟨(x : Int) - 1, H2, iEq (by omega), by omega, by omega, by omega, by omega, oA2, M4, S2, by rw [show ((x : Int) - 1 + 1).toNat = x by omega]; exact P2⟩
                · obtain rfl : i = -1 := by omega
                  have HS0 : Hid (MST rss (List.replicate rss.length 0) H' f 0 D 0) := MST_start HP'.out.1 HP'.out.2 HE.out.2.1 HE.out.2.2 HDL.out
                  clear HP'
                  go_wp2
                  go_loopg [13, 61] (D.length + 1) (fun g s13 s61 wr => ∃ (i fl : Nat) (nx H : List Nat) (f : List Int) (D' : List Nat), s13 = .int .i64 fl ∧ s61 = .int .i64 i ∧ i ≤ D.length ∧ D.length + 1 - i ≤ g ∧ D'.length = D.length ∧ OC wr B10 40 (clo w.heap.size B5) ∧ MF w wr w.heap.size b BN B5 BH B6 BL a ra cr rss nx H f D' ∧ Hid (MST rss nx H f i D' fl))
                  case atStart => exact ⟨0, 0, _, H', f, D, rfl, rfl, by omega, by omega, rfl, oA', M3, HS0⟩
                  case round =>
                    obtain ⟨i, fl, nx, H, f, D', rfl, rfl, hi, hg, hDl, oB, M4, HS1⟩ := hrel
                    clear oA' M3 HS0 HE hl
                    by_cases hlt : i < D.length
                    · obtain ⟨hH0, hin⟩ := HS1.out.root (by omega)
                      obtain ⟨r, hr⟩ : ∃ r, r = H.getD 0 0 := ⟨_, rfl⟩
                      rw [← hr] at hin
                      have HR : Hid (r = H.getD 0 0) := hr
                      obtain ⟨A, off, rfl, hAb, hR⟩ := M4.lw.rn.resolve_left (by have := hin.1; omega)
                      obtain ⟨sr, csr, ar, Fr⟩ := hR r hin.1
                      obtain ⟨bv, ov, rfl, hbv, vr⟩ := Fr.resolve_left (by have := hin.2; omega)
                      have ev := vr _ hin.2
                      clear hR Fr vr
                      have c0 := M4.hr.cell hH0
                      rw [← hr] at c0
                      have d6 := M4.c6.cell
                      have d3 := M4.lw.c3.cell
                      have d5 := M4.lw.c5.cell
                      have dn := M4.lw.nr.cell (i := r) (by rw [M4.lw.nl]; exact hin.1)
                      obtain ⟨rfl, hb0, FD⟩ := M4.ds.resolve_left (by omega)
                      have dD := FD.cell (i := i) (by omega)
                      have fD := FD.frozen i
                      have hrk := hin.1
                      have hpl := hin.2
                      have HRL : Hid ((rss.getD r []).length ≤ 1048576) := HUN.out.2.2 r hrk
                      have hrl := HRL.out
                      obtain ⟨p, hp⟩ : ∃ p, p = nx.getD r 0 := ⟨_, rfl⟩
                      obtain ⟨L, hL⟩ : ∃ L, L = (rss.getD r []).length := ⟨_, rfl⟩
                      obtain ⟨v, hv⟩ : ∃ v, v = (rss.getD r []).getD p 0 := ⟨_, rfl⟩
                      rw [← hp] at ev dn hpl
                      rw [← hv] at ev
                      rw [← hL] at ar hpl hrl
                      have HPL : Hid (p = nx.getD r 0 ∧ L = (rss.getD r []).length ∧ v = (rss.getD r []).getD p 0) := ⟨hp, hL, hv⟩
                      have M5 := M4.dst (by omega) i v
                      generalize D'.getD i 0 = old at dD
                      clear hp hL hv hr FD hin HRL
                      have ir : (r : Int) < (rss.length : Int) := by omega
                      have ip : (p : Int) < (L : Int) := by omega
                      have ii : (i : Int) < (D.length : Int) := by omega
                      have i0 : (0 : Int) < (H.length : Int) := by omega
                      go_upto_region 22 with (fail)
                      go_cut [78] (fun _ wd => Dr (wr.setCell ⟨b, i, none⟩ (.float .f64 v)) wd)
                      case first =>
                        go_region
                        go_wp2
                        go_meet
                        case rel => exact dr1 _
                      case rest =>
                        have M6 := M5.dr hcut
                        have oB6 := (oB.other (a := ⟨b, i, none⟩) (by have := M4.ch; show B10 ≠ b; omega) (.float .f64 v)).dr hcut
                        clear M5 M4 oB hcut d6 d3 d5 dn c0 dD fD ar ev
                        obtain ⟨P, hP⟩ : ∃ P, P = (catN (Rs rss nx) r).length := ⟨_, rfl⟩
                        have HPP : Hid (P = (catN (Rs rss nx) r).length) := hP
                        have C34 : Calls Try.prog 34 #[.slice (some ⟨BL, 0, none⟩) (rss.length + 1) (rss.length + 1), .int .i64 r] wc fun e w' => e = .returned (.int .i64 (P : Int)) ∧ wc = w' := by
                          have := sumBefore_any BL r (cntR rss nx) f wc (by rw [HS1.out.flen]; omega) (by rw [HS1.out.flen]; omega) (fun n hn => by have := HS1.out.sums n (by have := HS1.out.flen; omega); have := HT.out; omega) HS1.out.fen M6.lr
                          rw [HS1.out.flen, sumN_cnt, ← hP] at this
                          exact this
                        have C31 : Calls Try.prog 31 #[.slice (some ⟨BL, 0, none⟩) (rss.length + 1) (rss.length + 1), .int .i64 r, .int .i64 (-1)] wc fun e w' => e = .returned (.tuple #[]) ∧ (∃ f', IR w' BL f' f'.length ∧ FEN f' (upd (cntR rss nx) r (-1)) ∧ f'.length = rss.length + 1) ∧ Kp1 BL wc w' := by
                          have := add_any BL r (-1) (cntR rss nx) f wc (by rw [HS1.out.flen]; omega) (by rw [HS1.out.flen]; omega) (by omega) (HS1.out.small HT.out) HS1.out.fen M6.lr
                          rw [HS1.out.flen] at this
                          exact this
                        have hfl : fl + P ≤ 1099512676352 := by
                          have h1 := HS1.out.falls
                          have h2 := inv_le (allR rss)
                          have h3 : (allR rss).length * (allR rss).length ≤ 1048576 * 1048576 := Nat.mul_le_mul HT.out HT.out
                          have h4 := HS1.out.sums r (by omega)
                          rw [sumN_cnt, ← hP] at h4
                          have := HT.out
                          omega
                        clear hP
                        go_upto_region 23 with (fail)
                        go_cut [13] (fun s13 wd => s13 = .int .i64 ((fl + P : Nat) : Int) ∧ wc = wd)
                        case first =>
                          go_wp2_with (go_at_call 34; refine C34.mono ?_; rintro e w1 ⟨rfl, rfl⟩)
                          go_meet
                          case rel => exact ⟨iEq (by omega), rfl⟩
                        case rest =>
                          obtain ⟨rfl, rfl⟩ := hcut
                          clear C34
                          go_upto_region 24 with (fail)
                          go_cut [87] (fun _ wd => ∃ f', MF w wd w.heap.size b BN B5 BH B6 BL (some ⟨b, 0, none⟩) (some ⟨A, off, none⟩) cr rss nx H f' (D'.set i v) ∧ OC wd B10 40 (clo w.heap.size B5) ∧ Hid (FEN f' (upd (cntR rss nx) r (-1)) ∧ f'.length = rss.length + 1))
                          case first =>
                            go_wp2_with (go_at_call 31; refine C31.mono ?_; rintro e w1 ⟨rfl, ⟨f', F1, G1, l1⟩, K1⟩)
                            go_meet
                            case rel => exact ⟨f', M6.left K1 F1, oB6.kp1 K1 (by omega), G1, l1⟩
                          case rest =>
                            obtain ⟨f', M7, oB7, HF7⟩ := hcut
                            clear M6 oB6 C31
                            obtain ⟨nx', hnx⟩ : ∃ nx', nx' = nx.set r (p + 1) := ⟨_, rfl⟩
                            have HTU : Hid (((p + 1 = L → HS (pop H) (InR rss nx') ∧ HPx (hkey rss nx') (pop H) 0 0) ∧ (p + 1 ≠ L → HS H (InR rss nx') ∧ HPx (hkey rss nx') H 0 0)) ∧ ∀ H', HS H' (InR rss nx') → HP (hkey rss nx') H' 0 → MST rss nx' H' f' (i + 1) (D'.set i v) (fl + P)) := by
                              obtain ⟨e1, e2, e3⟩ := HPL.out
                              obtain ⟨t1, t2, t3⟩ := HS1.out.turn (by omega) HUN.out.1 HR.out HF7.out.1 (by rw [HF7.out.2, HS1.out.flen]) (nx' := nx') (by rw [hnx, ← e1])
                              rw [← e1, ← e3, ← HPP.out] at t3
                              refine ⟨⟨fun he => ⟨pop_HS HS1.out.hs hH0 fun q => ?_, pop_HP HS1.out.hp HS1.out.hs hH0 (by rw [← HR.out]; exact t2)⟩, fun he => ⟨HS_keep HS1.out.hs fun q => ?_, HP_turn HS1.out.hp HS1.out.hs hH0 (by rw [← HR.out]; exact t2)⟩⟩, t3⟩
                              · rw [t1 q, ← HR.out, ← e1, ← e2]
                                exact ⟨fun h => ⟨h.1, fun hq => h.2 ⟨hq, he⟩⟩, fun h => ⟨h.1, fun hq => h.2 hq.1⟩⟩
                              · rw [t1 q, ← e1, ← e2]
                                exact ⟨fun h => h.1, fun h => ⟨h, fun hq => he hq.2⟩⟩
                            have M8 := M7.next r (p + 1)
                            rw [← hnx] at M8
                            have oB8 := oB7.other (a := ⟨BN, r, none⟩) (by have := M7.ch; show B10 ≠ BN; omega) (.int .i64 ((p + 1 : Nat) : Int))
                            have d5 := M7.lw.c5.cell
                            have dn : wc.cell? ⟨BN, r, none⟩ = some (.int .i64 (p : Int)) := by
                              rw [HPL.out.1]; exact M7.lw.nr.cell (by rw [M7.lw.nl]; exact hrk)
                            have fn := M7.lw.nr.frozen r
                            clear HF7 HR HPP HS1 M7 oB7
                            go_upto_region 25 with (fail)
                            go_cut [91] (fun _ wd => wc.setCell ⟨BN, r, none⟩ (.int .i64 ((p + 1 : Nat) : Int)) = wd)
                            case first =>
                              go_wp2
                              go_meet
                              case rel => rfl
                            case rest =>
                              rw [hcut] at M8 oB8
                              clear d5 dn fn hcut
                              have d3 := M8.lw.c3.cell
                              have d5 := M8.lw.c5.cell
                              have d6 := M8.c6.cell
                              have dn : wc.cell? ⟨BN, r, none⟩ = some (.int .i64 ((p + 1 : Nat) : Int)) := by
                                rw [M8.lw.nr.cell (i := r) (by rw [M8.lw.nl]; exact hrk), hnx, getD_setN, if_pos ⟨rfl, by have := M8.lw.nl; rw [hnx, List.length_set] at this; omega⟩]
                              have ar : ∃ sr csr, wc.cell? ⟨A, off + r, none⟩ = some (.slice sr L csr) := by
                                obtain ⟨A', off', e, _, hR⟩ := M8.lw.rn.resolve_left (by omega)
                                simp only [Option.some.injEq, Addr.mk.injEq, and_true] at e
                                obtain ⟨rfl, rfl⟩ := e
                                obtain ⟨sr, csr, h1, _⟩ := hR r hrk
                                exact ⟨sr, csr, by rw [HPL.out.2.1]; exact h1⟩
                              obtain ⟨sr', csr', ar⟩ := ar
                              clear hnx HPL
                              have M9 := M8
                              have oB9 := oB8
                              clear M8 oB8
                              go_upto_region 26 with (fail)
                              go_cut [103] (fun s103 wd => s103 = .bool (decide (p + 1 = L)) ∧ Dr wc wd)
                              case first =>
                                clear M9 oB9
                                by_cases he : p + 1 = L
                                · have HEQ : Hid (p + 1 = L) := he
                                  have t : (p : Int) + 1 = (L : Int) := by omega
                                  clear he
                                  go_wp2
                                  go_quiet (fail)
                                  go_wp2
                                  go_meet
                                  case rel => exact ⟨congrArg Value.bool (decide_eq_true HEQ.out).symm, dr0 _⟩
                                · have HEQ : Hid (¬ p + 1 = L) := he
                                  have t : ¬ (p : Int) + 1 = (L : Int) := by omega
                                  clear he
                                  go_wp2
                                  go_quiet (fail)
                                  go_wp2
                                  go_meet
                                  case rel => exact ⟨congrArg Value.bool (by rw [decide_eq_false HEQ.out]; exact beq_false_of_ne t), dr0 _⟩
                              case rest =>
                                obtain ⟨rfl, hd9⟩ := hcut
                                have M10 := M9.dr hd9
                                have oB10 := oB9.dr hd9
                                clear M9 oB9 hd9 d3 d5 d6 dn ar
                                go_upto_if 103 with (fail)
                                go_cut [104] (fun _ wd => ∃ H1, MF w wd w.heap.size b BN B5 BH B6 BL (some ⟨b, 0, none⟩) (some ⟨A, off, none⟩) cr rss nx' H1 f' (D'.set i v) ∧ OC wd B10 40 (clo w.heap.size B5) ∧ Hid (HS H1 (InR rss nx') ∧ HPx (hkey rss nx') H1 0 0))
                                case first =>
                                  by_cases he : p + 1 = L
                                  · rw [decide_eq_true he]
                                    have HQ : Hid (HS (pop H) (InR rss nx') ∧ HPx (hkey rss nx') (pop H) 0 0) := HTU.out.1.1 he
                                    have d6 := M10.c6.cell
                                    have f6 := M10.c6.frozen
                                    have q0 := M10.hr.cell (i := 0) hH0
                                    have q1 := M10.hr.cell (i := H.length - 1) (by omega)
                                    have f0 := M10.hr.frozen 0
                                    have e1 : ((H.length : Int) - 1).toNat = H.length - 1 := by omega
                                    have e2 : (H.length : Int) - 1 < (H.length : Int) := by omega
                                    have hHk2 := M10.hr.len
                                    have hB : B6 ≠ BH := by have := M10.ch; omega
                                    have M11 := M10.pop
                                    have oB11 := (oB10.other (a := ⟨BH, 0, none⟩) (by have := M10.ch; show B10 ≠ BH; omega) (.int .i64 ((H.getD (H.length - 1) 0 : Nat) : Int))).other (a := ⟨B6, 0, none⟩) (by have := M10.ch; show B10 ≠ B6; omega) (.slice (some ⟨BH, 0, none⟩) (H.length - 1) rss.length)
                                    generalize H.getD (H.length - 1) 0 = last at *
                                    generalize H.getD 0 0 = old0 at *
                                    clear he HTU M10 oB10
                                    go_wp2
                                    go_region
                                    go_wp2
                                    go_meet
                                    case rel => exact ⟨pop H, M11.dr (dr1 _), oB11.dr (dr1 _), HQ⟩
                                  · rw [decide_eq_false he]
                                    have HQ : Hid (HS H (InR rss nx') ∧ HPx (hkey rss nx') H 0 0) := HTU.out.1.2 he
                                    clear he HTU
                                    go_wp2
                                    go_meet
                                    case rel => exact ⟨H, M10, oB10, HQ⟩
                                case rest =>
                                  obtain ⟨H1, M12, oB12, HQ⟩ := hcut
                                  have CD : Calls Try.prog 33 #[.int .i64 (0 : Nat), .pointer (some ⟨B6, 0, none⟩), .pointer (some ⟨B10, 0, none⟩)] wc _ :=
                                    down_any w.heap.size B5 B6 B10 BN BH b w.heap.size (some ⟨A, off, none⟩) cr rss nx' H1 0 0 wc M12.lw (by have := M12.ch; omega) (by have := M12.ch; omega) (by have := M12.ch; omega) (by have := M12.ch; omega) (by have := M12.ch; omega) (by have := M12.ch; omega)
                                      M12.c6 oB12 M12.hr (Nat.le_refl _) (by omega) HQ.out.1 HQ.out.2 HUN.out.2.1 (by omega) HUN.out.2.2
                                  clear M10 oB10
                                  go_wp2_with (go_at_call 33; refine CD.mono ?_; rintro e w1 ⟨rfl, ⟨H2, F2, l2, S2, P2⟩, K2⟩; have M13 := M12.heap K2 F2 l2; have oB13 := oB12.kp1 K2 (by have := M12.ch; omega); have HZ : Hid (MST rss nx' H2 f' (i + 1) (D'.set i v) (fl + P)) := HTU.out.2 H2 S2 P2)
                                  go_roundg (D.length - i)
                                  case measure => omega
                                  case rel => exact ⟨i + 1, fl + P, nx', H2, f', _, iEq (by omega), iEq (by omega), by omega, by omega, by rw [List.length_set]; exact hDl, oB13, M13, HZ⟩
                    · have HF : Hid (D' = srt (allR rss) ∧ fl = inv (allR rss)) := HS1.out.end (by omega)
                      clear HS1
                      go_wp2
                      go_ret
                      refine ⟨by rw [HF.out.2]; rfl, ?_, M4.gr⟩
                      rcases M4.ds with h | ⟨h1, h2, h3⟩
                      · exact Or.inl (by omega)
                      · exact Or.inr (by rw [← HF.out.1]; exact h3)

/-- The shim over mergeCountingFalls. -/
theorem zmerge_any (a : Option Addr) (ca b : Nat) (D : List Nat) (ra : Option Addr) (cr : Nat) (rss : List (List Nat)) (w : World) (hD : D.length = 0 ∨ (a = some ⟨b, 0, none⟩ ∧ FR w b D)) (hDl : D.length = (allR rss).length) (R : RN w b w.heap.size ra rss)
    (hk : rss.length ≤ 131072) (ht : (allR rss).length ≤ 1048576) (hU : ∀ q, q < rss.length → Up (rss.getD q [])) (nn : ∀ r, r < rss.length → ∀ a ∈ rss.getD r [], nan a = false) :
    Calls Try.prog 24 #[.slice a D.length ca, .slice ra rss.length cr] w fun e w' => e = .returned (.int .i64 (inv (allR rss))) ∧ (D.length = 0 ∨ FR w' b (srt (allR rss))) ∧ Gr b w.heap.size w w' := by
  have C := merge_any a ca b D ra cr rss w hD hDl R hk ht hU nn
  clear hD hDl R hU nn
  go_enter Try.func24, Try.ntmps24
  go_wp2_with (go_at_call 30; refine C.mono ?_; rintro e w1 ⟨rfl, h1, h2⟩)
  go_ret
  exact ⟨rfl, h1, h2⟩

end Go.Proofs.Qxb6602348a
