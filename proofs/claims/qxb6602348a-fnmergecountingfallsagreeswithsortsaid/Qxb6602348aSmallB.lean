/-
  The laws' own small functions, walked: sb1Clone, sb1Inversions, sb1RankSort.
-/
import Derived.Test.Qxb6602348aSmall
import Derived.Test.Qxb6602348aRankPos
import Derived.Deep.CutRange
import Derived.Deep.CutBlock
import Derived.Deep.DeepCutAuto
namespace Go.Proofs.Qxb6602348a
open Go.RowKit Flt
attribute [local go_sem] run_store_float

/-- A copy of a slice that has words: a new row. -/
theorem clone_pos (a : Option Addr) (c : Nat) (X : List Nat) (w : World) (h0 : 0 < X.length) (hn : X.length ≤ 1048576) (hX : Fl w a X) :
    Calls Try.prog 12 #[.slice a X.length c] w fun e w' => e = .returned (.slice (some ⟨w.heap.size, 0, none⟩) X.length X.length) ∧ FR w' w.heap.size X ∧ Below w.heap.size w w' ∧ w'.heap.size = w.heap.size + 1 := by
  have heq := fun wv (a : Option Addr) n c => Lib.run_eql_slice_nil (P := Try.prog) wv 22 28 a n c 0 0 Try.underlying22
  obtain ⟨b, off, rfl, hc⟩ := hX.resolve_left (by omega)
  clear hc
  go_enter Try.func12, Try.ntmps12
  go_wp2_with (first | (at_make; refine make_law rfl (.tmp 7) (.tmp 7) rfl X.length rfl rfl (by omega) ?_; intro w1 f1 b1 z1) | (refine copy_law rfl (.tmp 9) (.tmp 10) rfl _ _ _ _ _ _ rfl rfl w.heap.size 0 _ X f1 (hX.below b1 (Nat.le_refl _)) rfl (fun _ => rfl) (by simp) ?_; intro w2 f2 k2; rw [splice_all _ _ _ (by simp) rfl] at f2; clear f1))
  go_ret
  exact ⟨rfl, f2, b1.trans (k2.below (Nat.le_refl _)), by rw [k2.size, z1]⟩

/-- A copy of an empty slice: empty. -/
theorem clone_zero (a : Option Addr) (c : Nat) (w : World) :
    Calls Try.prog 12 #[.slice a 0 c] w fun e w' => ∃ (a' : Option Addr) (c' : Nat), e = .returned (.slice a' 0 c') ∧ Below w.heap.size w w' := by
  have heq := fun wv (a : Option Addr) n c => Lib.run_eql_slice_nil (P := Try.prog) wv 22 28 a n c 0 0 Try.underlying22
  cases a with
  | none =>
    go_enter Try.func12, Try.ntmps12
    go_wp2
    go_ret
    exact ⟨_, _, rfl, Below.refl _ _⟩
  | some b =>
    go_enter Try.func12, Try.ntmps12
    go_wp2_with (first | (at_make; refine make_law rfl (.tmp 7) (.tmp 7) rfl 0 rfl rfl (by omega) ?_; intro w1 f1 b1 z1) | (refine copy_law rfl (.tmp 9) (.tmp 10) rfl _ _ _ _ _ _ rfl rfl w.heap.size 0 _ [] f1 (Or.inl rfl) rfl (fun _ => rfl) (by simp) ?_; intro w2 f2 k2; clear f1))
    go_ret
    exact ⟨_, _, rfl, b1.trans (k2.below (Nat.le_refl _))⟩

set_option maxHeartbeats 400000 in
theorem inversions_any (a : Option Addr) (c : Nat) (X : List Nat) (w : World) (hn : X.length ≤ 65536) (nx : ∀ a ∈ X, nan a = false) (hX : Fl w a X) :
    Calls Try.prog 14 #[.slice a X.length c] w fun e w' => e = .returned (.int .i64 (inv X)) ∧ Dr w w' := by
  go_enter Try.func14, Try.ntmps14
  go_wp2
  go_loopg [3, 4] (X.length + 1) (fun g s3 s4 wr => ∃ t i : Nat, s3 = .int .i64 t ∧ s4 = .int .i64 i ∧ i ≤ X.length ∧ X.length + 1 - i ≤ g ∧ Dr w wr ∧ Hid (InvO X i t))
  case atStart => exact ⟨0, 0, rfl, rfl, by omega, by omega, Dr.refl _, InvO_start X⟩
  case round =>
    obtain ⟨t, i, rfl, rfl, hi, hg, hd, HO⟩ := hrel
    by_cases hlt : i < X.length
    · have HV : Hid (IV X i (i + 1) t) := InvO_in HO.out hlt
      clear HO
      go_wp2
      go_loopg [3, 5] (X.length + 1) (fun g s3 s5 wr2 => ∃ t j : Nat, s3 = .int .i64 t ∧ s5 = .int .i64 j ∧ j ≤ X.length ∧ X.length + 1 - j ≤ g ∧ Dr w wr2 ∧ Hid (IV X i j t))
      case atStart => exact ⟨t, i + 1, rfl, by go_num, by omega, by omega, hd, HV⟩
      case round =>
        obtain ⟨t, j, rfl, rfl, hj, hg', hd', HV'⟩ := hrel
        clear HV
        have hbd : t ≤ 4294967296 := by
          have h1 := IV_bd HV'.out
          have h2 : X.length * X.length ≤ 65536 * 65536 := Nat.mul_le_mul hn hn
          omega
        by_cases hltj : j < X.length
        · have hX1 := hX.dr hd'
          obtain ⟨b, off, rfl, hc⟩ := hX1.resolve_left (by omega)
          have ci := hc i hlt
          have cj := hc j hltj
          have ni := nx _ (getD_mem hlt)
          have nj := nx _ (getD_mem hltj)
          have tt := (fgt_eq (X.getD i 0) (X.getD j 0)).trans (flt_eq nj ni)
          by_cases hk : key (X.getD j 0) < key (X.getD i 0)
          · have HV2 : Hid (IV X i (j + 1) (t + 1)) := IV_yes HV'.out hltj hk
            rw [decide_eq_true hk] at tt
            have t1 : (FloatKind.f64.format.order (X.getD i 0) (X.getD j 0) == some .gt) = true := tt
            clear tt hk ni nj hc hX1 hX nx HV'
            generalize X.getD i 0 = xi at *
            generalize X.getD j 0 = xj at *
            go_wp2
            go_quiet (fail)
            go_wp2
            go_roundg (X.length - j)
            case measure => omega
            case rel => exact ⟨t + 1, j + 1, by go_num, by go_num, by omega, by omega, hd'.more, HV2⟩
          · have HV2 : Hid (IV X i (j + 1) t) := IV_no HV'.out hltj hk
            rw [decide_eq_false hk] at tt
            have t1 : (FloatKind.f64.format.order (X.getD i 0) (X.getD j 0) == some .gt) = false := tt
            clear tt hk ni nj hc hX1 hX nx HV'
            generalize X.getD i 0 = xi at *
            generalize X.getD j 0 = xj at *
            go_wp2
            go_quiet (fail)
            go_wp2
            go_roundg (X.length - j)
            case measure => omega
            case rel => exact ⟨t, j + 1, rfl, by go_num, by omega, by omega, hd'.more, HV2⟩
        · have HO2 : Hid (InvO X (i + 1) t) := IV_out HV'.out (by omega)
          clear HV' hX nx
          go_wp2
          go_roundg (X.length - i)
          case measure => omega
          case rel => exact ⟨t, i + 1, rfl, by go_num, by omega, by omega, hd', HO2⟩
    · have e : t = inv X := InvO_end HO.out (by omega)
      subst e
      clear HO hX nx
      go_wp2
      go_ret
      exact ⟨rfl, hd⟩

set_option maxHeartbeats 1000000 in
set_option maxRecDepth 100000 in
theorem rankSort_N (a : Option Addr) (c N : Nat) (X : List Nat) (w : World) (hN : w.heap.size = N) (hn : X.length ≤ 65536) (nx : ∀ a ∈ X, nan a = false) (hX : Fl w a X) :
    Calls Try.prog 16 #[.slice a X.length c] w fun e w' => e = .returned (.slice (some ⟨N, 0, none⟩) X.length X.length) ∧ FR w' N (srt X) ∧ Below N w w' := by
  have HN : Hid (w.heap.size = N) := hN
  go_enter Try.func16, Try.ntmps16
  go_upto_block 0 with (at_make; refine make_law rfl (.tmp 8) (.tmp 8) rfl X.length rfl rfl (by omega) ?_; intro w1 f1 b1 z1; rw [HN.out] at f1 b1)
  clear z1 hN
  go_cut [3] (fun s3 wd => s3 = .slice (some ⟨N, 0, none⟩) X.length X.length ∧ FR wd N (srt X) ∧ Below N w wd)
  case first =>
    go_wp2
    go_loopg [4] (X.length + 1) (fun g si wr => ∃ (i : Nat) (out : List Nat), si = .int .i64 i ∧ i ≤ X.length ∧ X.length + 1 - i ≤ g ∧ FR wr N out ∧ Below N w wr ∧ Hid (RK X i out))
    case atStart => exact ⟨0, _, rfl, by omega, by omega, f1, b1, RK_start X⟩
    case round =>
      obtain ⟨i, out, rfl, hi, hg, FO, hB, HR⟩ := hrel
      clear f1 b1
      by_cases hlt : i < X.length
      · have hXr := hX.below hB (Nat.le_of_eq HN.out)
        have hlen := HR.out.1
        obtain ⟨r, hr⟩ : ∃ r, r = rk X i := ⟨_, rfl⟩
        have HRK : Hid (r = rk X i) := hr
        have hrn : r < X.length := by rw [hr]; exact ((rank_place X).1 i hlt).1
        have HR2 : Hid (RK X (i + 1) (out.set r (X.getD i 0))) := by rw [hr]; exact RK_step HR.out hlt
        clear hr HR
        go_upto_block 2 with (fail)
        go_cut [5] (fun s5 wd => s5 = .int .i64 r ∧ Dr wr wd)
        case first =>
          go_wp2
          go_loopg [5, 6] (X.length + 1) (fun g s5 s6 wr2 => ∃ p j : Nat, s5 = .int .i64 p ∧ s6 = .int .i64 j ∧ j ≤ X.length ∧ p ≤ j ∧ X.length + 1 - j ≤ g ∧ Dr wr wr2 ∧ Hid (p = rks X i j))
          case atStart => exact ⟨0, 0, rfl, rfl, by omega, by omega, by omega, Dr.refl _, rfl⟩
          case round =>
            obtain ⟨p, j, rfl, rfl, hj, hpj, hg', hd, HP⟩ := hrel
            clear HR2
            by_cases hltj : j < X.length
            · have hX1 := hXr.dr hd
              obtain ⟨b, off, rfl, hc⟩ := hX1.resolve_left (by omega)
              have ci := hc i hlt
              have cj := hc j hltj
              have ni := nx _ (getD_mem hlt)
              have nj := nx _ (getD_mem hltj)
              have ta := flt_eq nj ni
              have tb := feq_eq nj ni
              obtain ⟨B, hB'⟩ : ∃ B : Bool, B = rc X i j := ⟨_, rfl⟩
              have HP2 : Hid (p + B.toNat = rks X i (j + 1)) := by rw [hB']; show p + _ = rks X i j + _; rw [HP.out]
              have HB : Hid (B = rc X i j) := hB'
              clear hB' HP
              go_upto_region 9 with (fail)
              go_cut [46] (fun tt wd => tt = .bool B ∧ Dr wr wd)
              case first =>
                by_cases k1 : key (X.getD j 0) < key (X.getD i 0)
                · have eB : B = true := by rw [HB.out, rc, decide_eq_true k1]; rfl
                  subst eB
                  rw [decide_eq_true k1] at ta
                  have t1 : (FloatKind.f64.format.order (X.getD j 0) (X.getD i 0) == some .lt) = true := ta
                  clear ta tb k1 ni nj hc hX1 hXr hX nx HB HP2 FO hB
                  generalize X.getD i 0 = xi at *
                  generalize X.getD j 0 = xj at *
                  go_wp2
                  go_quiet (fail)
                  go_wp2
                  go_meet
                  case rel => exact ⟨rfl, dr0 _⟩
                · rw [decide_eq_false k1] at ta
                  have t1 : (FloatKind.f64.format.order (X.getD j 0) (X.getD i 0) == some .lt) = false := ta
                  by_cases k2 : j < i
                  · have k2' : (j : Int) < (i : Int) := by omega
                    have tc : (FloatKind.f64.format.order (X.getD j 0) (X.getD i 0) == some .eq) = B := by
                      rw [HB.out]
                      refine Eq.trans tb ?_
                      rw [rc, decide_eq_false k1, decide_eq_true k2]
                      simp
                    clear ta tb k1 ni nj hc hX1 hXr hX nx HB HP2 FO hB
                    generalize X.getD i 0 = xi at *
                    generalize X.getD j 0 = xj at *
                    go_wp2
                    go_quiet (fail)
                    go_wp2
                    go_meet
                    case rel => exact ⟨rfl, dr0 _⟩
                  · have k2' : decide ((j : Int) < (i : Int)) = false := decide_eq_false (by omega)
                    have eB : B = false := by rw [HB.out, rc, decide_eq_false k1, decide_eq_false k2]; rfl
                    subst eB
                    clear ta tb k1 ni nj hc hX1 hXr hX nx HB HP2 FO hB
                    generalize X.getD i 0 = xi at *
                    generalize X.getD j 0 = xj at *
                    go_wp2
                    go_quiet (fail)
                    go_wp2
                    go_meet
                    case rel => exact ⟨rfl, dr0 _⟩
              case rest =>
                obtain ⟨rfl, hd'⟩ := hcut
                clear HB ci cj hc hX1 hXr hX nx ni nj ta tb FO hB
                cases B with
                | true =>
                  go_wp2
                  go_roundg (X.length - j)
                  case measure => omega
                  case rel => exact ⟨p + 1, j + 1, by go_num, by go_num, by omega, by omega, by omega, hd.trans hd', HP2⟩
                | false =>
                  go_wp2
                  go_roundg (X.length - j)
                  case measure => omega
                  case rel => exact ⟨p, j + 1, rfl, by go_num, by omega, by omega, by omega, hd.trans hd', HP2⟩
            · obtain rfl : j = X.length := by omega
              have e : p = r := by rw [HP.out, HRK.out]; rfl
              subst e
              clear HP nx hX hXr FO hB
              go_wp2
              go_meet
              case rel => exact ⟨rfl, hd⟩
        case rest =>
          obtain ⟨rfl, hd⟩ := hcut
          have hX1 := hXr.dr hd
          obtain ⟨b, off, rfl, hc⟩ := hX1.resolve_left (by omega)
          have ci := hc i hlt
          have FO1 := FO.dr hd
          have hB1 := hB.trans (hd.below _)
          have cr := FO1.cell (i := r) (by omega)
          have fr := FO1.frozen r
          have F2 := FO1.set r (X.getD i 0)
          have hB2 := hB1.setCell (p := ⟨N, r, none⟩) (Nat.le_refl _) (.float .f64 (X.getD i 0))
          generalize X.getD i 0 = xi at *
          generalize out.getD r 0 = old at cr
          have hr' : (r : Int) < (X.length : Int) := by omega
          clear hc hX1 hXr hX nx FO hB FO1 hB1
          go_wp2
          go_roundg (X.length - i)
          case measure => omega
          case rel => exact ⟨i + 1, _, by go_num, by omega, by omega, F2, hB2, HR2⟩
      · have e := RK_end HR.out (by omega)
        subst e
        clear HR nx hX
        go_wp2
        go_meet
        case rel => exact ⟨rfl, FO, hB⟩
  case rest =>
    obtain ⟨rfl, F2, hB2⟩ := hcut
    clear f1 b1
    go_wp2
    go_ret
    exact ⟨rfl, F2, hB2⟩

theorem rankSort_any (a : Option Addr) (c : Nat) (X : List Nat) (w : World) (hn : X.length ≤ 65536) (nx : ∀ a ∈ X, nan a = false) (hX : Fl w a X) :
    Calls Try.prog 16 #[.slice a X.length c] w fun e w' => e = .returned (.slice (some ⟨w.heap.size, 0, none⟩) X.length X.length) ∧ FR w' w.heap.size (srt X) ∧ Below w.heap.size w w' := rankSort_N a c _ X w rfl hn nx hX

end Go.Proofs.Qxb6602348a
