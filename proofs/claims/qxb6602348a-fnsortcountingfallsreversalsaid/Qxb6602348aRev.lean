/-
  THE WALK OF FnSortCountingFallsReversal: it returns true; nothing that was there has turned.
-/
import Derived.Test.Qxb6602348aSortTop
import Derived.Test.Qxb6602348aRevParts
import Derived.Deep.CutRange
import Derived.Deep.CutBlock
import Derived.Deep.DeepCutAuto
namespace Go.Proofs.Qxb6602348a
open Go.RowKit Flt
attribute [local go_sem] run_store_float

/-- The answer is a bool of which this holds. -/
def AnsB' (p : Bool → Prop) (e : Ending) : Prop := ∃ r : Bool, e = .returned (.bool r) ∧ p r

theorem zz17 (a : Option Addr) (n c : Nat) (w : World) :
    Calls Try.prog 17 #[.slice a n c] w fun e w' => AnsB' (fun r => r = true → n ≤ 1048576) e ∧ w = w' := by
  by_cases h1 : (1048576 : Int) < (n : Int)
  · go_enter Try.func17, Try.ntmps17
    go_wp2
    go_ret
    exact ⟨⟨false, rfl, fun h => by cases h⟩, rfl⟩
  · go_enter Try.func17, Try.ntmps17
    go_wp2
    go_ret
    exact ⟨⟨true, rfl, fun _ => by omega⟩, rfl⟩

/-- The tie loop's head. -/
def TL (K : List Int) (i t run : Nat) : Prop := (i ≤ K.length ∧ TI K i t run) ∨ (i = K.length + 1 ∧ t = eqp K)
theorem TL_start (K : List Int) : TL K 1 0 1 := by
  by_cases h : 0 < K.length
  · exact Or.inl ⟨h, TI_start h⟩
  · have : K = [] := List.eq_nil_of_length_eq_zero (by omega)
    subst this
    exact Or.inr ⟨rfl, rfl⟩
theorem fne_eq {x y : Nat} (hx : nan x = false) (hy : nan y = false) : (FloatKind.f64.format.order x y != some .eq) = !decide (key x = key y) := by
  have := feq_eq hx hy
  unfold feq at this
  show (!(Ieee.double.order x y == some .eq)) = _
  rw [this]
theorem srt_nan {X : List Nat} (nx : ∀ a ∈ X, nan a = false) {i : Nat} (h : i < X.length) : nan ((srt X).getD i 0) = false := nx _ (srt_mem.1 (getD_mem (by rw [srt_length]; exact h)))

theorem run_prod {r : Nat} (h : 1 ≤ r) : ((r * (r - 1) : Nat) : Int) = (r : Int) * ((r : Int) - 1) := by
  obtain ⟨q, rfl⟩ : ∃ q, r = q + 1 := ⟨r - 1, by omega⟩
  rw [Nat.add_sub_cancel, Int.natCast_mul]
  congr 1
  omega
theorem kd_map (L : List Nat) {i : Nat} (h : i < L.length) : (L.map key).getD i 0 = key (L.getD i 0) := by simp [h]
theorem Asc_map {L : List Nat} (h : Up L) : Asc (L.map key) := by
  unfold Asc
  rw [List.pairwise_map]
  exact h
theorem rev_get {X : List Nat} {i : Nat} (h : i < X.length) : X.reverse.getD i 0 = X.getD (X.length - 1 - i) 0 := by
  have h2 : X.length - 1 - i < X.length := by omega
  simp [h, h2]

set_option maxHeartbeats 1000000 in
set_option maxRecDepth 100000 in
theorem rev_any (ax : Option Addr) (cx : Nat) (X : List Nat) (w : World) (hX : Fl w ax X) :
    Calls Try.prog 4 #[.slice ax X.length cx] w fun e w' => e = .returned (.bool true) ∧ Below w.heap.size w w' := by
  go_enter Try.func4, Try.ntmps4
  go_wp2_with fail
  refine (zz17 ax X.length cx _).mono ?_
  rintro e w' ⟨⟨r, rfl, hr⟩, hw⟩
  subst hw
  cases r with
  | false =>
    go_wp2_with fail
    go_ret
    exact ⟨rfl, Below.refl _ _⟩
  | true =>
    have hn0 := hr rfl
    clear hr
    by_cases h1 : (65536 : Int) < (X.length : Int)
    · go_wp2_with fail
      go_ret
      exact ⟨rfl, Below.refl _ _⟩
    · go_wp2_with fail
      refine (nonan_any ax cx X _ (by omega) hX).mono ?_
      rintro e w' ⟨r, rfl, hr, hd⟩
      cases r with
      | false =>
        go_wp2_with fail
        go_ret
        exact ⟨rfl, hd.below _⟩
      | true =>
        have nx := all_num (hr rfl)
        have hn : X.length ≤ 65536 := by omega
        have hX1 := hX.dr hd
        have hB1 : Below w.heap.size w w' := hd.below _
        have HZ : Hid (w'.heap.size = w.heap.size) := hd.size
        clear hr hd h1 hn0
        -- a := make; copy(a, x); make; sort
        go_wp2_with (first | (at_make; refine make_law rfl (.tmp 26) (.tmp 26) rfl X.length rfl rfl (by omega) ?_; intro w1 f1 b1 z1) | (refine copy_law rfl (.tmp 28) (.tmp 29) rfl _ _ _ _ _ _ rfl rfl w'.heap.size 0 _ X f1 (hX1.below b1 (Nat.le_refl _)) rfl (fun _ => rfl) (by simp) ?_; intro w2 f2 k2; rw [splice_all _ _ _ (by simp) rfl] at f2; clear f1) | (at_make; refine make_law rfl (.tmp 32) (.tmp 32) rfl X.length rfl rfl (by omega) ?_; intro w3 f3 b3 z3))
        have hs2 : w2.heap.size = w'.heap.size + 1 := by rw [k2.size, z1]
        have hB3 : Below w.heap.size w w3 := (hB1.trans ((b1.trans (k2.below (Nat.le_refl _))).mono (Nat.le_of_eq HZ.out.symm))).trans (b3.mono (by have := HZ.out; omega))
        have f2' := f2.below b3 (by omega)
        have hle : w.heap.size ≤ w'.heap.size := by have := HZ.out; omega
        clear f2 k2 b1 b3 z1 z3 hX1 hB1 HZ
        generalize w'.heap.size = ba at *
        generalize hbb : w2.heap.size = bb at *
        have hne : ba ≠ bb := by omega
        refine (zsort_any ba bb X (List.replicate X.length 0) _ hne hn (by simp) nx f2' f3).mono ?_
        rintro e wA ⟨rfl, FA, _, KA⟩
        have hBA : Below w.heap.size w wA := hB3.trans (KA.below hle (by omega))
        clear f2' f3 KA hB3 hbb hs2 hne
        -- rv := make; the loop that fills it
        go_upto_block 0 with (at_make; refine make_law rfl (.tmp 35) (.tmp 35) rfl X.length rfl rfl (by omega) ?_; intro w4 f4 b4 z4)
        have hbr := FA.lt
        have FA4 := FA.below b4 hbr
        have hB4 : Below w.heap.size w w4 := hBA.trans (b4.mono hBA.size)
        have hle4 : w.heap.size ≤ wA.heap.size := hBA.size
        clear b4 z4 FA hBA
        generalize wA.heap.size = br at *
        have hne4 : ba ≠ br := by omega
        go_cut [6] (fun s6 wd => s6 = .slice (some ⟨br, 0, none⟩) X.length X.length ∧ FR wd br X.reverse ∧ FR wd ba (srt X) ∧ Below w.heap.size w wd)
        case first =>
          go_wp2
          go_loopg [7] (X.length + 1) (fun g si wr => ∃ (i : Nat) (L : List Nat), si = .int .i64 i ∧ i ≤ X.length ∧ X.length + 1 - i ≤ g ∧ FR wr br L ∧ FR wr ba (srt X) ∧ Below w.heap.size w wr ∧ Hid (L.length = X.length ∧ ∀ q, q < i → L.getD q 0 = X.getD (X.length - 1 - q) 0))
          case atStart => exact ⟨0, _, rfl, by omega, by omega, f4, FA4, hB4, by simp, fun q hq => absurd hq (by omega)⟩
          case round =>
            obtain ⟨i, L, rfl, hi, hg, FL, FA5, hB5, HL⟩ := hrel
            clear f4 FA4 hB4
            by_cases hlt : i < X.length
            · have hX5 := hX.below hB5 (Nat.le_refl _)
              obtain ⟨bx, ox, rfl, hcx⟩ := hX5.resolve_left (by omega)
              have cx' := hcx (X.length - 1 - i) (by omega)
              have hlen := HL.out.1
              have ci := FL.cell (i := i) (by omega)
              have fi := FL.frozen i
              have F6 := FL.set i (X.getD (X.length - 1 - i) 0)
              have FA6 := FA5.other (a := ⟨br, i, none⟩) hne4 (.float .f64 (X.getD (X.length - 1 - i) 0))
              have hB6 := hB5.setCell (p := ⟨br, i, none⟩) hle4 (.float .f64 (X.getD (X.length - 1 - i) 0))
              have HL6 : Hid ((L.set i (X.getD (X.length - 1 - i) 0)).length = X.length ∧ ∀ q, q < i + 1 → (L.set i (X.getD (X.length - 1 - i) 0)).getD q 0 = X.getD (X.length - 1 - q) 0) := by
                refine ⟨by simpa using hlen, fun q hq => ?_⟩
                rw [getD_set]
                by_cases e : q = i
                · rw [if_pos ⟨e.symm, by omega⟩, e]
                · rw [if_neg (by omega)]; exact HL.out.2 q (by omega)
              generalize X.getD (X.length - 1 - i) 0 = xv at *
              generalize L.getD i 0 = old at ci
              have e1 : ((X.length : Int) - 1 - (i : Int)).toNat = X.length - 1 - i := by omega
              have e2 : (0 : Int) ≤ (X.length : Int) - 1 - (i : Int) := by omega
              have e3 : (X.length : Int) - 1 - (i : Int) < (X.length : Int) := by omega
              clear hcx hX5 hX HL FL FA5 hB5 nx
              go_wp2
              go_roundg (X.length - i)
              case measure => omega
              case rel => exact ⟨i + 1, _, by go_num, by omega, by omega, F6, FA6, hB6, HL6⟩
            · have e : L = X.reverse := by
                refine ext_getD (by rw [HL.out.1, List.length_reverse]) (fun q hq => ?_)
                rw [HL.out.2 q (by have := HL.out.1; omega), rev_get (by have := HL.out.1; omega)]
              subst e
              clear HL
              go_wp2
              go_meet
              case rel => exact ⟨rfl, FL, FA5, hB5⟩
        case rest =>
          obtain ⟨rfl, FR5, FA5, hB5⟩ := hcut
          clear f4 FA4 hB4
          go_wp2_with (at_make; refine make_law rfl (.tmp 53) (.tmp 53) rfl X.length rfl rfl (by omega) ?_; intro w6 f6 b6 z6)
          have hbr6 := FR5.lt
          have hba6 := FA5.lt
          have FR6 := FR5.below b6 hbr6
          have FA6 := FA5.below b6 hba6
          have hB6 : Below w.heap.size w w6 := hB5.trans (b6.mono hB5.size)
          have hle6 : w.heap.size ≤ wc.heap.size := hB5.size
          clear b6 z6 FR5 FA5 hB5
          generalize wc.heap.size = b2 at *
          have hn' : X.reverse.length ≤ 65536 := by simpa using hn
          have Z2 := zsort_any br b2 X.reverse (List.replicate X.length 0) w6 (by omega) hn' (by simp) (fun a ha => nx a (List.mem_reverse.1 ha)) FR6 f6
          rw [List.length_reverse] at Z2
          refine Z2.mono ?_
          rintro e wC ⟨rfl, FRC, _, KC⟩
          have FAC : FR wC ba (srt X) := FA6.of_block (KC.block ba (by omega) (by omega))
          have hBC : Below w.heap.size w wC := hB6.trans (KC.below hle4 hle6)
          clear Z2 KC FR6 FA6 f6 hB6
          have HE : Hid (2 * (inv X + inv X.reverse + eqp (X.map key)) + X.length = X.length * X.length) := inv_both X
          have hlS := srt_length X
          have hlR : (srt X.reverse).length = X.length := by rw [srt_length, List.length_reverse]
          have hfa : inv X ≤ 4294967296 := by
            have h1 := inv_le X
            have h2 : X.length * X.length ≤ 65536 * 65536 := Nat.mul_le_mul hn hn
            omega
          have hfr : inv X.reverse ≤ 4294967296 := by
            have h1 := inv_le X.reverse
            rw [List.length_reverse] at h1
            have h2 : X.length * X.length ≤ 65536 * 65536 := Nat.mul_le_mul hn hn
            omega
          generalize hfA : inv X = fa at *
          generalize inv X.reverse = fr at *
          go_upto_block 2 with (fail)
          go_cut [9] (fun _ wd => Dr wC wd)
          case first =>
            go_wp2
            go_loopg [9] (X.length + 1) (fun g si wr => ∃ i : Nat, si = .int .i64 i ∧ i ≤ X.length ∧ X.length + 1 - i ≤ g ∧ Dr wC wr)
            case atStart => exact ⟨0, rfl, by omega, by omega, Dr.refl _⟩
            case round =>
              obtain ⟨i, rfl, hi, hg, hd⟩ := hrel
              have FAr := FAC.dr hd
              have FRr := FRC.dr hd
              by_cases hlt : i < X.length
              · have ca := FAr.cell (i := i) (by omega)
                have cr := FRr.cell (i := i) (by omega)
                have na := srt_nan nx hlt
                have nr := srt_nan (X := X.reverse) (fun a ha => nx a (List.mem_reverse.1 ha)) (i := i) (by simpa using hlt)
                have t1 := fne_eq na nr
                rw [decide_eq_true (key_reverse hlt).symm] at t1
                by_cases h0 : 0 < i
                · have ca' := FAr.cell (i := i - 1) (by omega)
                  have na' := srt_nan nx (i := i - 1) (by omega)
                  have t2 : (FloatKind.f64.format.order ((srt X).getD (i - 1) 0) ((srt X).getD i 0) == some .gt) = false := by
                    refine (fgt_eq _ _).trans ((flt_eq na na').trans ?_)
                    have := (srt_up X).get (i := i - 1) (j := i) (by omega) (by omega)
                    exact decide_eq_false (by omega)
                  have e1 : ((i : Int) - 1).toNat = i - 1 := by omega
                  have h0' : (0 : Int) < (i : Int) := by omega
                  generalize (srt X).getD i 0 = xa at *
                  generalize (srt X.reverse).getD i 0 = xr at *
                  generalize (srt X).getD (i - 1) 0 = xa' at *
                  clear na nr na' nx hX FAr FRr FAC FRC HE
                  go_wp2
                  go_quiet (fail)
                  go_wp2
                  go_quiet (fail)
                  go_wp2
                  go_roundg (X.length - i)
                  case measure => omega
                  case rel => exact ⟨i + 1, by go_num, by omega, by omega, by first | exact hd.more | exact hd.more.more⟩
                · have h0' : decide ((0 : Int) < (i : Int)) = false := decide_eq_false (by omega)
                  generalize (srt X).getD i 0 = xa at *
                  generalize (srt X.reverse).getD i 0 = xr at *
                  clear na nr nx hX FAr FRr FAC FRC HE
                  go_wp2
                  go_quiet (fail)
                  go_wp2
                  go_quiet (fail)
                  go_wp2
                  go_roundg (X.length - i)
                  case measure => omega
                  case rel => exact ⟨i + 1, by go_num, by omega, by omega, by first | exact hd.more | exact hd.more.more⟩
              · clear nx hX FAr FRr FAC FRC HE
                go_wp2
                go_meet
                case rel => exact hd
          case rest =>
            have FAD := FAC.dr hcut
            have hBD := hBC.trans (hcut.below _)
            clear FAC FRC hBC hcut
            have HT : Hid (TL ((srt X).map key) 1 0 1) := TL_start _
            have hKl : ((srt X).map key).length = X.length := by rw [List.length_map, hlS]
            go_upto_block 4 with (fail)
            go_cut [10] (fun s10 wd => s10 = .int .i64 (eqp ((srt X).map key)) ∧ Dr wc wd)
            case first =>
              go_wp2
              go_loopg [10, 11, 12] (X.length + 2) (fun g s10 s11 s12 wr => ∃ t run i : Nat, s10 = .int .i64 t ∧ s11 = .int .i64 run ∧ s12 = .int .i64 i ∧ i ≤ X.length + 1 ∧ X.length + 2 - i ≤ g ∧ Dr wc wr ∧ Hid (TL ((srt X).map key) i t run))
              case atStart => exact ⟨0, 1, 1, rfl, rfl, rfl, by omega, by omega, Dr.refl _, HT⟩
              case round =>
                obtain ⟨t, run, i, rfl, rfl, rfl, hi, hg, hd, HL⟩ := hrel
                clear HT
                by_cases hle : i ≤ X.length
                · have hT : TI ((srt X).map key) i t run := by
                    rcases HL.out with h | h
                    · exact h.2
                    · omega
                  have hi1 := hT.1
                  have hr1 := hT.2.2.2.2
                  have hr2 := TI_bd hT
                  have ht2 : t ≤ 4294967296 := by
                    have h1 := hT.2.2.1
                    have h2 := eqp_le (((srt X).map key).take i)
                    rw [List.length_take, hKl] at h2
                    have h3 : min i X.length * min i X.length ≤ 65536 * 65536 := Nat.mul_le_mul (by omega) (by omega)
                    omega
                  have HTI : Hid (TI ((srt X).map key) i t run) := hT
                  have FAr := FAD.dr hd
                  obtain ⟨B, hB⟩ : ∃ B : Bool, B = decide (i < X.length ∧ key ((srt X).getD i 0) = key ((srt X).getD (i - 1) 0)) := ⟨_, rfl⟩
                  have HB : Hid (B = decide (i < X.length ∧ key ((srt X).getD i 0) = key ((srt X).getD (i - 1) 0))) := hB
                  clear hB hT HL
                  go_upto_region 29 with (fail)
                  go_cut [103] (fun tt wd => tt = .bool B ∧ Dr wr wd)
                  case first =>
                    by_cases hlt : i < X.length
                    · have ca := FAr.cell (i := i) (by omega)
                      have ca' := FAr.cell (i := i - 1) (by omega)
                      have tb : (FloatKind.f64.format.order ((srt X).getD i 0) ((srt X).getD (i - 1) 0) == some .eq) = B := by
                        rw [HB.out]
                        refine Eq.trans (feq_eq (srt_nan nx hlt) (srt_nan nx (i := i - 1) (by omega))) ?_
                        simp [hlt]
                      have e1 : ((i : Int) - 1).toNat = i - 1 := by omega
                      have e2 : (0 : Int) ≤ (i : Int) - 1 := by omega
                      have e3 : (i : Int) - 1 < (X.length : Int) := by omega
                      generalize (srt X).getD i 0 = xa at *
                      generalize (srt X).getD (i - 1) 0 = xa' at *
                      clear HB nx hX FAr FAD HE HTI
                      go_wp2
                      go_quiet (fail)
                      go_wp2
                      go_meet
                      case rel => exact ⟨rfl, dr0 _⟩
                    · have hBf : B = false := by rw [HB.out]; exact decide_eq_false (fun h => hlt h.1)
                      subst hBf
                      obtain rfl : i = X.length := by omega
                      have h0' : decide ((X.length : Int) < (X.length : Int)) = false := decide_eq_false (by omega)
                      clear HB nx hX FAr FAD HE HTI
                      go_wp2
                      go_quiet (fail)
                      go_wp2
                      go_meet
                      case rel => exact ⟨rfl, dr0 _⟩
                  case rest =>
                    obtain ⟨rfl, hd'⟩ := hcut
                    cases B with
                    | true =>
                      have hB' := of_decide_eq_true HB.out.symm
                      have HL2 : Hid (TL ((srt X).map key) (i + 1) t (run + 1)) := Or.inl ⟨by omega, TI_same HTI.out (by omega) (by rw [kd_map _ (by omega), kd_map _ (by omega)]; exact hB'.2)⟩
                      clear HB hB' nx hX FAr FAD HE HTI
                      go_wp2
                      go_roundg (X.length + 1 - i)
                      case measure => omega
                      case rel => exact ⟨t, run + 1, i + 1, rfl, by go_num, by go_num, by omega, by omega, hd.trans hd', HL2⟩
                    | false =>
                      have hB' := of_decide_eq_false HB.out.symm
                      have HL2 : Hid (TL ((srt X).map key) (i + 1) (t + run * (run - 1) / 2) 1) := by
                        by_cases hlt : i < X.length
                        · exact Or.inl ⟨by omega, TI_new HTI.out (by omega) (Asc_map (srt_up X)) (by rw [kd_map _ (by omega), kd_map _ (by omega)]; exact fun e => hB' ⟨hlt, e⟩)⟩
                        · exact Or.inr ⟨by omega, TI_end HTI.out (by omega)⟩
                      have p0 := run_prod hr1
                      have p1 : run * (run - 1) ≤ 65536 * 65536 := Nat.mul_le_mul (by omega) (by omega)
                      have p2 : (0 : Int) ≤ (run : Int) * ((run : Int) - 1) := by rw [← p0]; omega
                      have p3 : (run : Int) * ((run : Int) - 1) ≤ 4294967296 := by rw [← p0]; omega
                      have P0 : Hid (((run * (run - 1) : Nat) : Int) = (run : Int) * ((run : Int) - 1)) := p0
                      clear HB hB' nx hX FAr FAD HE HTI p0
                      go_wp2
                      go_roundg (X.length + 1 - i)
                      case measure => omega
                      case rel => exact ⟨t + run * (run - 1) / 2, 1, i + 1, int_eq (by rw [← P0.out]; omega), rfl, by go_num, by omega, by omega, hd.trans hd', HL2⟩
                · have e : t = eqp ((srt X).map key) := by
                    rcases HL.out with h | h
                    · omega
                    · exact h.2
                  subst e
                  clear HL nx hX FAD HE
                  go_wp2
                  go_meet
                  case rel => exact ⟨rfl, hd⟩
            case rest =>
              obtain ⟨rfl, hd⟩ := hcut
              have FAE := FAD.dr hd
              have hBE := hBD.trans (hd.below _)
              clear FAD hBD hd HT
              have hE1 : eqp ((srt X).map key) ≤ 4294967296 := by
                have h2 := eqp_le ((srt X).map key)
                rw [hKl] at h2
                have h3 : X.length * X.length ≤ 65536 * 65536 := Nat.mul_le_mul hn hn
                omega
              have hE2 := HE.out
              rw [← eqp_srt] at hE2
              have q0 : (X.length : Int) * ((X.length : Int) - 1) = 2 * ((fa : Int) + (fr : Int) + (eqp ((srt X).map key) : Int)) := by
                have h1 : ((2 * (fa + fr + eqp ((srt X).map key)) + X.length : Nat) : Int) = ((X.length * X.length : Nat) : Int) := by rw [hE2]
                rw [Int.natCast_mul] at h1
                rw [Int.mul_sub, Int.mul_one]
                omega
              have q1 : (X.length : Int) * ((X.length : Int) - 1) / 2 = (fa : Int) + (fr : Int) + (eqp ((srt X).map key) : Int) := by rw [q0]; omega
              have p2 : (0 : Int) ≤ (X.length : Int) * ((X.length : Int) - 1) := by rw [q0]; omega
              have p3 : (X.length : Int) * ((X.length : Int) - 1) ≤ 68719476736 := by rw [q0]; omega
              clear q0 hE2 HE
              generalize eqp ((srt X).map key) = E at *
              go_wp2_with (first | (at_make; refine make_law rfl (.tmp 133) (.tmp 133) rfl X.length rfl rfl (by omega) ?_; intro w7 f7 b7 z7) | (refine copy_law rfl (.tmp 135) (.tmp 136) rfl _ _ _ _ _ _ rfl rfl wc.heap.size 0 _ (srt X) f7 ((FAE.below b7 FAE.lt).fl) hlS (fun _ => rfl) (by simp) ?_; intro w8 f8 k8; rw [splice_all _ _ _ (by simp) hlS] at f8; clear f7) | (at_make; refine make_law rfl (.tmp 139) (.tmp 139) rfl X.length rfl rfl (by omega) ?_; intro w9 f9 b9 z9))
              clear q1 p2 p3
              have hba := FAE.lt
              have FA8 : FR w8 ba (srt X) := (FAE.below b7 hba).kp1 k8 (by omega)
              have hs8 : w8.heap.size = wc.heap.size + 1 := by rw [k8.size, z7]
              have FA9 := FA8.below b9 (by omega)
              have f8' := f8.below b9 (by omega)
              have hle7 : w.heap.size ≤ wc.heap.size := hBE.size
              have hB9 : Below w.heap.size w w9 := (hBE.trans ((b7.trans (k8.below (Nat.le_refl _))).mono hle7)).trans (b9.mono (by omega))
              clear f8 k8 b7 z7 z9 b9 FA8 FAE hBE
              generalize wc.heap.size = bg at *
              generalize w8.heap.size = b3 at *
              have Z3 := zsort_any bg b3 (srt X) (List.replicate X.length 0) w9 (by omega) (by omega) (by simp [hlS]) (fun a ha => nx a (srt_mem.1 ha)) f8' f9
              rw [hlS, inv_up (srt_up X)] at Z3
              refine Z3.mono ?_
              rintro e wE ⟨rfl, FGE, _, KE⟩
              rw [srt_of_up (srt_up X)] at FGE
              have FAF : FR wE ba (srt X) := FA9.of_block (KE.block ba (by omega) (by omega))
              have hBF : Below w.heap.size w wE := hB9.trans (KE.below hle7 (by omega))
              clear Z3 KE FA9 f8' f9 hB9
              go_wp2_with fail
              have C := sameAll_any (some ⟨bg, 0, none⟩) (some ⟨ba, 0, none⟩) X.length X.length (srt X) wE (by omega) FGE.fl FAF.fl
              rw [hlS] at C
              refine C.mono ?_
              rintro e wF ⟨rfl, hdF⟩
              go_wp2_with fail
              go_ret
              exact ⟨rfl, hBF.trans (hdF.below _)⟩
end Go.Proofs.Qxb6602348a
