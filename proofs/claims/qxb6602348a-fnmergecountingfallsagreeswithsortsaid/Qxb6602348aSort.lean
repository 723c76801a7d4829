/-
  THE WALK OF sortCountingFalls (over two rows of the caller's own): the row sorted, the falls counted, what is left in the scratch row.
-/
import Derived.Test.Qxb6602348aSortMem
import Derived.Deep.CutRange
import Derived.Deep.CutBlock
import Derived.Deep.DeepCutAuto
import Derived.WalkSpells
namespace Go.Proofs.Qxb6602348a
open Go.RowKit Flt

attribute [local go_sem] run_store_float

theorem int_eq {a b : Int} (h : a = b) : Value.int .i64 a = .int .i64 b := by rw [h]
theorem slc {a : Option Addr} {n n' c c' : Nat} (h : n = n') (h' : c = c') : Value.slice a n c = .slice a n' c' := by rw [h, h']

set_option maxHeartbeats 1000000 in
set_option maxRecDepth 100000 in
theorem sort_any (bx bb : Nat) (X Z : List Nat) (w : World) (hne : bx ≠ bb) (h0 : 0 < X.length) (hn : X.length ≤ 65536) (hZ : Z.length = X.length) (nx : ∀ a ∈ X, nan a = false) (FX : FR w bx X) (FB : FR w bb Z) :
    Calls Try.prog 27 #[.slice (some ⟨bx, 0, none⟩) X.length X.length, .slice (some ⟨bb, 0, none⟩) X.length X.length] w fun e w' =>
      e = .returned (.int .i64 (inv X)) ∧ FR w' bx (srt X) ∧ (∃ Z', FR w' bb Z' ∧ BUF X Z Z') ∧ Kp2 bx bb w w' := by
  go_enter Try.func27, Try.ntmps27
  go_upto_block 0 with (fail)
  go_cut [5] (fun s5 wd => ∃ (L : List Nat) (fl : Nat), s5 = .int .i64 fl ∧ FR wd bx L ∧ Kp1 bx w wd ∧ Hid (CS 32 X L ∧ FLs 32 X fl))
  case first =>
    go_wp2
    go_loopg [5, 6] (X.length + 1) (fun g s5 s6 wr => ∃ (m lo fl : Nat) (L : List Nat), s6 = .int .i64 lo ∧ s5 = .int .i64 fl ∧ Hid (lo = m * 32) ∧ lo ≤ X.length + 31 ∧ X.length + 1 - lo ≤ g ∧ FR wr bx L ∧ Kp1 bx w wr ∧ Hid (INS X m L fl))
    case atStart => exact ⟨0, 0, 0, X, rfl, rfl, rfl, by omega, by omega, FX, Kp1.refl _ _, INS_start X⟩
    case round =>
      obtain ⟨m, lo, fl, L, rfl, rfl, HLO, hlo, hg, FL, K1, HI⟩ := hrel
      by_cases hlt : lo < X.length
      · obtain ⟨rl, hrl⟩ : ∃ rl, rl = (chunk 32 X m).length := ⟨_, rfl⟩
        have HRL : Hid (rl = (chunk 32 X m).length) := hrl
        have hrl2 : rl = min 32 (X.length - lo) := by rw [hrl, chunk_len, HLO.out]
        clear hrl
        have HM : Hid (MID X m L fl 1 L fl) := MID_start HI.out (by rw [← HLO.out]; exact hlt)
        go_upto_region 5 with (fail)
        go_cut [7] (fun s7 wd => s7 = .slice (some ⟨bx, lo, none⟩) rl (X.length - lo) ∧ wr = wd)
        case first =>
          go_wp2
          all_goals
            go_meet
            case rel => exact ⟨slc (by omega) rfl, rfl⟩
        case rest =>
          obtain ⟨rfl, rfl⟩ := hcut
          have hrl3 : 1 ≤ rl ∧ rl ≤ 32 ∧ lo + rl ≤ X.length := by omega
          obtain ⟨hr1, hr2, hr3⟩ := hrl3
          have hlo2 : lo + rl = X.length ∨ rl = 32 := by omega
          clear hrl2
          go_wp2
          go_loopg [5, 8] (rl + 1) (fun g s5 s8 wr' => ∃ (i fl' : Nat) (L' : List Nat), s8 = .int .i64 i ∧ s5 = .int .i64 fl' ∧ 1 ≤ i ∧ i ≤ rl ∧ rl + 1 - i ≤ g ∧ FR wr' bx L' ∧ Kp1 bx w wr' ∧ Hid (MID X m L fl i L' fl'))
          case atStart => exact ⟨1, fl, L, rfl, rfl, by omega, by omega, by omega, FL, K1, HM⟩
          case round =>
            obtain ⟨i, fl', L', rfl, rfl, hi1, hi2, hg', FL', K1', HM'⟩ := hrel
            clear HM FL K1 HI
            have hfl : fl' ≤ 4194304 := by
              have := MID_bd HM'.out
              have := HLO.out
              omega
            by_cases hlti : i < rl
            · have hlen : L'.length = X.length := HM'.out.2.1
              have hiC : i < (chunk 32 X m).length := by rw [← HRL.out]; exact hlti
              have ci := FL'.cell (i := lo + i) (by omega)
              obtain ⟨v, hv⟩ : ∃ v, v = (chunk 32 X m).getD i 0 := ⟨_, rfl⟩
              have eC : L'.getD (lo + i) 0 = v := by rw [hv, HLO.out]; exact MID_v HM'.out hiC
              rw [eC] at ci
              have HV : Hid (v = (chunk 32 X m).getD i 0) := hv
              have nv : nan v = false := by rw [hv]; exact nx _ (chunk_mem (getD_mem hiC))
              have HN : Hid (INN X m L fl i fl' i L') := INN_start HM'.out hiC
              clear hv eC hiC HM'
              go_upto_block 4 with (fail)
              go_cut [10] (fun sj wd => ∃ (j : Nat) (L2 : List Nat), sj = .int .i64 j ∧ j ≤ i ∧ FR wd bx L2 ∧ Kp1 bx w wd ∧ Hid (INE X m L fl i fl' j L2))
              case first =>
                clear ci
                go_wp2
                go_loopg [10] (i + 1) (fun g sj wr2 => ∃ (j : Nat) (L2 : List Nat), sj = .int .i64 j ∧ j ≤ i ∧ j + 1 ≤ g ∧ FR wr2 bx L2 ∧ Kp1 bx w wr2 ∧ Hid (INN X m L fl i fl' j L2))
                case atStart => exact ⟨i, L', rfl, by omega, by omega, FL', K1', HN⟩
                case round =>
                  obtain ⟨j, L2, rfl, hj, hg2, F2, K2, HN2⟩ := hrel
                  have hlen2 : L2.length = X.length := HN2.out.2.1
                  by_cases hj0 : 0 < j
                  · obtain ⟨u, hu⟩ : ∃ u, u = L2.getD (lo + (j - 1)) 0 := ⟨_, rfl⟩
                    have cu := F2.cell (i := lo + (j - 1)) (by omega)
                    rw [← hu] at cu
                    have hu2 : u = (srt ((chunk 32 X m).take i)).getD (j - 1) 0 := by rw [hu, HLO.out]; exact INN_prev HN2.out hj0
                    have nu : nan u = false := by
                      rw [hu2]
                      refine nx _ (chunk_mem (w := 32) (k := m) ?_)
                      refine List.mem_of_mem_take (srt_mem.1 (getD_mem ?_))
                      rw [srt_length, List.length_take, ← HRL.out]
                      omega
                    have tt := (fgt_eq u v).trans (flt_eq nv nu)
                    have e1 : ((j : Int) - 1).toNat = j - 1 := by omega
                    have hj0' : (0 : Int) < (j : Int) := by omega
                    have hjr : (j : Int) - 1 < (rl : Int) := by omega
                    by_cases hk : key v < key u
                    · rw [decide_eq_true hk] at tt
                      have t1 : (FloatKind.f64.format.order u v == some .gt) = true := tt
                      have HN3 : Hid (INN X m L fl i fl' (j - 1) (L2.set (lo + j) u)) := by
                        have := INN_step HN2.out hj0 (by rw [← HV.out, ← HLO.out, ← hu]; exact hk)
                        rw [← HLO.out, ← hu] at this
                        exact this
                      have cj := F2.cell (i := lo + j) (by omega)
                      have fj := F2.frozen (lo + j)
                      have F3 := F2.set (lo + j) u
                      have K3 := K2.setCell (lo + j) (.float .f64 u)
                      have hjr2 : (j : Int) < (rl : Int) := by omega
                      generalize L2.getD (lo + j) 0 = old at cj
                      clear hu hu2 nu tt hk F2 K2 HN2 HN FL' K1' FX FB
                      go_wp2
                      go_roundg j
                      case measure => omega
                      case rel => exact ⟨j - 1, _, int_eq (by omega), by omega, by omega, F3, K3, HN3⟩
                    · rw [decide_eq_false hk] at tt
                      have t1 : (FloatKind.f64.format.order u v == some .gt) = false := tt
                      have HN3 : Hid (INE X m L fl i fl' j L2) := ⟨HN2.out, Or.inr (by rw [← HV.out, ← HLO.out, ← hu]; exact hk)⟩
                      clear hu hu2 nu tt hk HN2 HN FL' K1' FX FB
                      go_wp2
                      go_meet
                      case rel => exact ⟨j, L2, rfl, hj, F2, K2, HN3⟩
                  · have HN3 : Hid (INE X m L fl i fl' j L2) := ⟨HN2.out, Or.inl (by omega)⟩
                    obtain rfl : j = 0 := by omega
                    clear HN2 HN FL' K1' FX FB
                    go_wp2
                    go_meet
                    case rel => exact ⟨0, L2, rfl, by omega, F2, K2, HN3⟩
              case rest =>
                obtain ⟨j, L2, rfl, hj, F2, K2, HN2⟩ := hcut
                have hlen2 : L2.length = X.length := HN2.out.1.2.1
                have cj := F2.cell (i := lo + j) (by omega)
                have fj := F2.frozen (lo + j)
                have F3 := F2.set (lo + j) v
                have K3 := K2.setCell (lo + j) (.float .f64 v)
                have HM3 : Hid (MID X m L fl (i + 1) (L2.set (lo + j) v) (fl' + (i - j))) := by
                  have := INN_end HN2.out.1 HN2.out.2
                  rw [← HV.out, ← HLO.out] at this
                  exact this
                have hjr : (j : Int) < (rl : Int) := by omega
                generalize L2.getD (lo + j) 0 = old at cj
                clear HN2 HN FL' K1' F2 K2 ci
                go_wp2
                go_roundg (rl - i)
                case measure => omega
                case rel => exact ⟨i + 1, fl' + (i - j), _, int_eq (by omega), int_eq (by omega), by omega, by omega, by omega, F3, K3, HM3⟩
            · obtain rfl : i = rl := by omega
              have HI2 : Hid (INS X (m + 1) L' fl') := MID_end HM'.out (by rw [← HRL.out]; omega)
              have HLO2 : Hid (lo + 32 = (m + 1) * 32) := by have := HLO.out; show _ = _; omega
              clear HM' HLO HRL
              go_wp2
              go_roundg (X.length - lo)
              case measure => omega
              case rel => exact ⟨m + 1, lo + 32, fl', L', int_eq (by omega), rfl, HLO2, by omega, by omega, FL', K1', HI2⟩
      · have HE : Hid (CS 32 X L ∧ FLs 32 X fl) := INS_end HI.out (by rw [← HLO.out]; exact hlt)
        clear HI HLO
        go_wp2
        go_meet
        case rel => exact ⟨L, fl, rfl, FL, K1, HE⟩
  case rest =>
    obtain ⟨L, fl, rfl, FL, K1, HC⟩ := hcut
    have FB1 := FB.kp1 K1 (fun e => hne e.symm)
    have HS : Hid (ST X Z 0 L Z fl) := ST_start hZ HC.out
    have K2 : Kp2 bx bb w wc := Kp2.of1 K1
    clear FX FB K1 HC
    go_upto_block 6 with (fail)
    go_cut [5, 11] (fun s5 s11 wd => ∃ (p fl bf bt : Nat) (F T : List Nat), s5 = .int .i64 fl ∧ s11 = .slice (some ⟨bf, 0, none⟩) X.length X.length ∧ FR wd bf F ∧ FR wd bt T ∧ Hid ((p % 2 = 0 ∧ bf = bx ∧ bt = bb) ∨ (p % 2 = 1 ∧ bf = bb ∧ bt = bx)) ∧ Kp2 bx bb w wd ∧ Hid (ST X Z p F T fl) ∧ Hid (X.length ≤ 32 * 2 ^ p))
    case first =>
      go_wp2
      go_loopg [5, 11, 12, 13] (X.length + 1) (fun g s5 s11 s12 s13 wr => ∃ (p W fl bf bt : Nat) (F T : List Nat), s5 = .int .i64 fl ∧ s11 = .slice (some ⟨bf, 0, none⟩) X.length X.length ∧ s12 = .slice (some ⟨bt, 0, none⟩) X.length X.length ∧ s13 = .int .i64 W ∧ FR wr bf F ∧ FR wr bt T ∧
        Hid ((p % 2 = 0 ∧ bf = bx ∧ bt = bb) ∨ (p % 2 = 1 ∧ bf = bb ∧ bt = bx)) ∧ Kp2 bx bb w wr ∧ Hid (ST X Z p F T fl) ∧ Hid (W = 32 * 2 ^ p) ∧ 32 ≤ W ∧ W ≤ 131072 ∧ X.length + 1 - W ≤ g)
      case atStart => exact ⟨0, 32, fl, bx, bb, L, Z, rfl, rfl, rfl, rfl, FL, FB1, Or.inl ⟨rfl, rfl, rfl⟩, K2, HS, rfl, by omega, by omega, by omega⟩
      case round =>
        obtain ⟨p, W, fl, bf, bt, F, T, rfl, rfl, rfl, rfl, FF, FT, HB, K3, HS3, HW, hW1, hW2, hg⟩ := hrel
        clear HS FL FB1 K2
        by_cases hlt : W < X.length
        · have HP : Hid (PASS W X fl 0 T fl) := PASS_start HS3.out.2.1
          have hne2 : bf ≠ bt := by rcases HB.out with ⟨_, rfl, rfl⟩ | ⟨_, rfl, rfl⟩; exact hne; exact fun e => hne e.symm
          have hbt : bt = bx ∨ bt = bb := by rcases HB.out with ⟨_, rfl, rfl⟩ | ⟨_, rfl, rfl⟩; exact Or.inr rfl; exact Or.inl rfl
          have HBT : Hid (bt = bx ∨ bt = bb) := hbt
          clear hbt
          have hF0 : fl ≤ 281474976710656 := by
            have h1 := FLs_bd HS3.out.2.2.2.2.2 (by rw [← HW.out]; omega)
            rw [← HW.out] at h1
            have h2 : W * W ≤ 65536 * 65536 := Nat.mul_le_mul (by omega) (by omega)
            have h3 : X.length * (W * W) ≤ 65536 * (65536 * 65536) := Nat.mul_le_mul hn h2
            omega
          go_wp2
          go_loopg [5, 14] (X.length + 1) (fun g s5 s14 wr' => ∃ (m lo fl' : Nat) (T' : List Nat), s5 = .int .i64 fl' ∧ s14 = .int .i64 lo ∧ Hid (lo = m * (2 * W)) ∧ lo ≤ X.length + 2 * W ∧ X.length + 1 - lo ≤ g ∧ FR wr' bf F ∧ FR wr' bt T' ∧ Kp2 bx bb w wr' ∧ Hid (PASS W X fl m T' fl'))
          case atStart => exact ⟨0, 0, fl, T, rfl, rfl, (Nat.zero_mul _).symm, by omega, by omega, FF, FT, K3, HP⟩
          case round =>
            obtain ⟨m, lo, fl', T', rfl, rfl, HLO, hlo, hg', FF', FT', K4, HP'⟩ := hrel
            clear HP FF FT K3
            by_cases hlt2 : lo < X.length
            · obtain ⟨la, hla⟩ : ∃ la, la = (chunk W X (2 * m)).length := ⟨_, rfl⟩
              obtain ⟨lb, hlb⟩ : ∃ lb, lb = (chunk W X (2 * m + 1)).length := ⟨_, rfl⟩
              have HLA : Hid (la = (chunk W X (2 * m)).length) := hla
              have HLB : Hid (lb = (chunk W X (2 * m + 1)).length) := hlb
              have e2m : 2 * m * W = lo := by rw [HLO.out]; exact tm1 m W
              have e2m1 : (2 * m + 1) * W = lo + W := by rw [HLO.out]; exact tm2 m W
              have hla2 : la = min W (X.length - lo) := by rw [hla, chunk_len, e2m]
              have hlb2 : lb = min W (X.length - (lo + W)) := by rw [hlb, chunk_len, e2m1]
              clear hla hlb e2m e2m1
              go_upto_region 22 with (fail)
              go_cut [15, 16] (fun s15 s16 wd => s15 = .int .i64 ((lo : Int) + (la : Int)) ∧ s16 = .int .i64 ((lo : Int) + (la : Int) + (lb : Int)) ∧ wr = wd)
              case first =>
                go_wp2
                all_goals
                  go_meet
                  case rel => exact ⟨int_eq (by omega), int_eq (by omega), rfl⟩
              case rest =>
                obtain ⟨rfl, rfl, rfl⟩ := hcut
                have HG : Hid (MG W X fl m T' fl' 0 0 T' fl') := MG_start HP'.out
                have hla3 : 1 ≤ la ∧ la ≤ W ∧ lb ≤ W ∧ lo + la + lb ≤ X.length := by omega
                obtain ⟨hA1, hA2, hB2, hAB⟩ := hla3
                clear hla2 hlb2 HP'
                go_upto_block 10 with (fail)
                go_cut [5, 17, 18, 19] (fun s5 s17 s18 s19 wd => ∃ (a b fl2 : Nat) (T2 : List Nat), s5 = .int .i64 fl2 ∧ s17 = .int .i64 ((lo : Int) + (a : Int)) ∧ s18 = .int .i64 ((lo : Int) + (la : Int) + (b : Int)) ∧ s19 = .int .i64 ((lo : Int) + (a : Int) + (b : Int)) ∧ a ≤ la ∧ b ≤ lb ∧ Hid (a = la ∨ b = lb) ∧
                  FR wd bf F ∧ FR wd bt T2 ∧ Kp2 bx bb w wd ∧ Hid (MG W X fl m T' fl' a b T2 fl2))
                case first =>
                  go_wp2
                  go_loopg [5, 17, 18, 19] (la + lb + 1) (fun g s5 s17 s18 s19 wr2 => ∃ (a b fl2 : Nat) (T2 : List Nat), s5 = .int .i64 fl2 ∧ s17 = .int .i64 ((lo : Int) + (a : Int)) ∧ s18 = .int .i64 ((lo : Int) + (la : Int) + (b : Int)) ∧ s19 = .int .i64 ((lo : Int) + (a : Int) + (b : Int)) ∧ a ≤ la ∧ b ≤ lb ∧ la + lb + 1 - (a + b) ≤ g ∧
                    FR wr2 bf F ∧ FR wr2 bt T2 ∧ Kp2 bx bb w wr2 ∧ Hid (MG W X fl m T' fl' a b T2 fl2))
                  case atStart => exact ⟨0, 0, fl', T', rfl, int_eq (by omega), int_eq (by omega), int_eq (by omega), by omega, by omega, by omega, FF', FT', K4, HG⟩
                  case round =>
                    obtain ⟨a, b, fl2, T2, rfl, rfl, rfl, rfl, ha, hb, hg2, FF2, FT2, K5, HG2⟩ := hrel
                    clear HG FF' FT' K4
                    have hfl2 : fl2 ≤ 4611686018427387904 := by
                      have h1 := MG_bd HG2.out
                      have h2 : W * W ≤ 65536 * 65536 := Nat.mul_le_mul (by omega) (by omega)
                      have h4 : m ≤ 65536 := by
                        have h5 := HLO.out
                        have h6 : m * 1 ≤ m * (2 * W) := Nat.mul_le_mul_left _ (by omega)
                        omega
                      have h3 : m * (W * W) ≤ 65536 * (65536 * 65536) := Nat.mul_le_mul h4 h2
                      omega
                    by_cases hab : a < la ∧ b < lb
                    · obtain ⟨hal, hbl⟩ := hab
                      have haC : a < (chunk W X (2 * m)).length := by rw [← HLA.out]; exact hal
                      have hbC : b < (chunk W X (2 * m + 1)).length := by rw [← HLB.out]; exact hbl
                      have hlenF : F.length = X.length := HS3.out.1.1
                      have hlenT : T2.length = X.length := HG2.out.2.1
                      have hCS : CS W X F := by rw [HW.out]; exact HS3.out.1
                      obtain ⟨x, hx⟩ : ∃ x, x = (srt (chunk W X (2 * m))).getD a 0 := ⟨_, rfl⟩
                      obtain ⟨y, hy⟩ : ∃ y, y = (srt (chunk W X (2 * m + 1))).getD b 0 := ⟨_, rfl⟩
                      have cx := FF2.cell (i := lo + a) (by omega)
                      have cy := FF2.cell (i := lo + la + b) (by omega)
                      rw [CS_left hCS HLO.out haC, ← hx] at cx
                      rw [CS_right hCS HLO.out HLA.out hbC, ← hy] at cy
                      have nx1 : nan x = false := by rw [hx]; exact chunk_nan nx haC
                      have ny1 : nan y = false := by rw [hy]; exact chunk_nan nx hbC
                      have tt := flt_eq ny1 nx1
                      have ct := FT2.cell (i := lo + a + b) (by omega)
                      have ft := FT2.frozen (lo + a + b)
                      generalize T2.getD (lo + a + b) 0 = old at ct
                      have hi1 : (lo : Int) + (a : Int) < (lo : Int) + (la : Int) := by omega
                      have hi2 : (lo : Int) + (la : Int) + (b : Int) < (lo : Int) + (la : Int) + (lb : Int) := by omega
                      have hi3 : (lo : Int) + (a : Int) < (X.length : Int) := by omega
                      have hi4 : (lo : Int) + (la : Int) + (b : Int) < (X.length : Int) := by omega
                      have hi5 : (lo : Int) + (a : Int) + (b : Int) < (X.length : Int) := by omega
                      by_cases hk : key y < key x
                      · rw [decide_eq_true hk] at tt
                        have t1 : (FloatKind.f64.format.order y x == some .lt) = true := tt
                        have HG3 : Hid (MG W X fl m T' fl' a (b + 1) (T2.set (lo + a + b) y) (fl2 + (la - a))) := by
                          have := MG_right HG2.out haC hbC (by rw [← hx, ← hy]; exact hk)
                          rw [← HLO.out, ← hy, ← HLA.out, ← Nat.add_assoc] at this
                          exact this
                        clear hx hy nx1 ny1 tt hk HG2 hCS haC hbC hlenF hlenT
                        go_wp2
                        go_quiet (fail)
                        go_wp2
                        go_roundg (la + lb - (a + b))
                        case measure => omega
                        case rel => exact ⟨a, b + 1, fl2 + (la - a), _, int_eq (by omega), rfl, int_eq (by omega), int_eq (by omega), by omega, by omega, by omega, FF2.other hne2 _, FT2.set _ _, (K5.dr (dr0 _)).setCell HBT.out _ _, HG3⟩
                      · rw [decide_eq_false hk] at tt
                        have t1 : (FloatKind.f64.format.order y x == some .lt) = false := tt
                        have HG3 : Hid (MG W X fl m T' fl' (a + 1) b (T2.set (lo + a + b) x) fl2) := by
                          have := MG_left HG2.out haC hbC (by rw [← hx, ← hy]; exact hk)
                          rw [← HLO.out, ← hx, ← Nat.add_assoc] at this
                          exact this
                        clear hx hy nx1 ny1 tt hk HG2 hCS haC hbC hlenF hlenT
                        go_wp2
                        go_quiet (fail)
                        go_wp2
                        go_roundg (la + lb - (a + b))
                        case measure => omega
                        case rel => exact ⟨a + 1, b, fl2, _, rfl, int_eq (by omega), int_eq (by omega), int_eq (by omega), by omega, by omega, by omega, FF2.other hne2 _, FT2.set _ _, (K5.dr (dr0 _)).setCell HBT.out _ _, HG3⟩
                    · by_cases hal : a < la
                      · obtain rfl : b = lb := by omega
                        have hi1 : (lo : Int) + (a : Int) < (lo : Int) + (la : Int) := by omega
                        clear hab
                        go_wp2
                        go_meet
                        case rel => exact ⟨a, b, fl2, T2, rfl, rfl, rfl, rfl, ha, hb, Or.inr rfl, FF2, FT2, K5, HG2⟩
                      · obtain rfl : a = la := by omega
                        clear hab
                        go_wp2
                        go_meet
                        case rel => exact ⟨a, b, fl2, T2, rfl, rfl, rfl, rfl, ha, hb, Or.inl rfl, FF2, FT2, K5, HG2⟩
                case rest =>
                  obtain ⟨a, b, fl2, T2, rfl, rfl, rfl, rfl, ha, hb, HAB, FF2, FT2, K5, HG2⟩ := hcut
                  clear HG FF' FT' K4
                  have hlenF : F.length = X.length := HS3.out.1.1
                  have hlenT : T2.length = X.length := HG2.out.2.1
                  obtain ⟨cA, hcA⟩ : ∃ cA, cA = (F.drop (lo + a)).take (la - a) := ⟨_, rfl⟩
                  obtain ⟨cB, hcB⟩ : ∃ cB, cB = (F.drop (lo + la + b)).take (lb - b) := ⟨_, rfl⟩
                  have lcA : cA.length = la - a := by rw [hcA]; simp; omega
                  have lcB : cB.length = lb - b := by rw [hcB]; simp; omega
                  have HCA : Hid (cA = (F.drop (lo + a)).take (la - a)) := hcA
                  have HCB : Hid (cB = (F.drop (lo + la + b)).take (lb - b)) := hcB
                  clear hcA hcB
                  have u0 : (0 : Int) ≤ (lo : Int) + (a : Int) + (b : Int) := by omega
                  have u1 : (lo : Int) + (a : Int) + (b : Int) ≤ (X.length : Int) := by omega
                  have u2 : ((lo : Int) + (a : Int) + (b : Int)).toNat = lo + a + b := by omega
                  have u3 : (0 : Int) ≤ (lo : Int) + (a : Int) := by omega
                  have u4 : (lo : Int) + (a : Int) ≤ (lo : Int) + (la : Int) := by omega
                  have u5 : (lo : Int) + (la : Int) ≤ (X.length : Int) := by omega
                  have u6 : ((lo : Int) + (a : Int)).toNat = lo + a := by omega
                  have u7 : ((lo : Int) + (la : Int)).toNat = lo + la := by omega
                  have u8 : lo + la - (lo + a) = la - a := by omega
                  go_upto_region 32 with (fail)
                  go_cut [19] (fun s19 wd => s19 = .int .i64 ((lo : Int) + (la : Int) + (b : Int)) ∧ FR wd bf F ∧ FR wd bt (splice T2 (lo + a + b) cA) ∧ Kp2 bx bb w wd)
                  case first =>
                    have hFs : Fl wc.drew (some ⟨bf, lo + a, none⟩) cA := by rw [HCA.out]; exact FR.sub (w := wc.drew) FF2 (lo + a) (la - a) (by omega)
                    have FT2' : FR wc.drew bt T2 := FT2
                    by_cases hk : lo + a + b < X.length
                    · have u9 : ¬ X.length = lo + a + b := by omega
                      have u10 : ¬ X.length = lo + a := by omega
                      have u11 : min (la - a) (X.length - (lo + a + b)) = la - a := by omega
                      have u12 : List.take (la - a) cA = cA := List.take_of_length_le (by omega)
                      clear HG2 HS3 HLA HLB HCA HCB HW HLO
                      have u13 : lo + a + b + min (la - a) (X.length - (lo + a + b)) ≤ T2.length := by omega
                      go_region_law (refine step_copy rfl (.tmp 152) (.tmp 156) rfl (some ⟨bt, lo + a + b, none⟩) (some ⟨bf, lo + a, none⟩) (X.length - (lo + a + b)) (X.length - (lo + a + b)) (la - a) (X.length - (lo + a)) (by kernel_rfl) (by kernel_rfl) bt (lo + a + b) T2 cA FT2' hFs lcA (fun _ => rfl) u13 ?_; intro w2 f2 k2; rw [u11, u12] at f2)
                      all_goals go_wp2
                      all_goals go_meet
                      all_goals exact ⟨int_eq (by rw [IntKind.wrap_i64]; omega), FR.kp1 (w := wc.drew) FF2 k2 hne2, f2, (K5.dr ⟨1, rfl⟩).then k2 HBT.out⟩
                    · have e1 : lo + a + b = X.length := by omega
                      obtain rfl : a = la := by omega
                      obtain rfl : b = lb := by omega
                      have hcA0 : cA = [] := List.eq_nil_of_length_eq_zero (by omega)
                      have UE : Hid (splice T2 (lo + a + b) cA = T2) := by show _ = _; rw [hcA0]; simp [splice]
                      clear HG2 HS3 HLA HLB HCA HCB HW HLO hcA0 lcA lcB hFs
                      by_cases hb0 : b = 0
                      · have u10 : X.length = lo + a := by omega
                        have HB0 : Hid (b = 0) := hb0
                        go_region_law (refine step_copy rfl (.tmp 152) (.tmp 156) rfl (some ⟨bt, 0, none⟩) (some ⟨bf, 0, none⟩) 0 0 0 0 (by kernel_rfl) (by kernel_rfl) bt 0 T2 [] FT2' (Or.inl rfl) rfl (fun h => absurd h (by decide)) (by rw [hlenT]; omega) ?_; intro w2 f2 k2; clear u10 hb0 e1)
                        all_goals go_wp2
                        all_goals go_meet
                        all_goals exact ⟨int_eq (by have := HB0.out; rw [IntKind.wrap_i64]; omega), FR.kp1 (w := wc.drew) FF2 k2 hne2, by rw [UE.out]; simpa [splice] using f2, (K5.dr ⟨1, rfl⟩).then k2 HBT.out⟩
                      · have u10 : ¬ X.length = lo + a := by omega
                        go_region_law (refine step_copy rfl (.tmp 152) (.tmp 156) rfl (some ⟨bt, 0, none⟩) (some ⟨bf, lo + a, none⟩) 0 0 0 (X.length - (lo + a)) (by kernel_rfl) (by kernel_rfl) bt 0 T2 [] FT2' (Or.inl rfl) rfl (fun h => absurd h (by decide)) (by rw [hlenT]; omega) ?_; intro w2 f2 k2)
                        all_goals go_wp2
                        all_goals go_meet
                        all_goals exact ⟨int_eq (by rw [IntKind.wrap_i64]; omega), FR.kp1 (w := wc.drew) FF2 k2 hne2, by rw [UE.out]; simpa [splice] using f2, (K5.dr ⟨1, rfl⟩).then k2 HBT.out⟩
                  case rest =>
                    obtain ⟨rfl, FF3, FT3, K6⟩ := hcut
                    have HP2 : Hid (PASS W X fl (m + 1) (splice (splice T2 (lo + a + b) cA) (lo + la + b) cB) fl2) := by
                      have hCS : CS W X F := by rw [HW.out]; exact HS3.out.1
                      have eA : cA = (srt (chunk W X (2 * m))).drop a := by
                        refine ext_getD (by rw [lcA, List.length_drop, srt_length, ← HLA.out]) (fun i hi => ?_)
                        rw [HCA.out, getD_take, if_pos (by omega), getD_drop, getD_drop, Nat.add_assoc]
                        exact CS_left hCS HLO.out (by rw [← HLA.out]; omega)
                      have eB : cB = (srt (chunk W X (2 * m + 1))).drop b := by
                        refine ext_getD (by rw [lcB, List.length_drop, srt_length, ← HLB.out]) (fun i hi => ?_)
                        rw [HCB.out, getD_take, if_pos (by omega), getD_drop, getD_drop, Nat.add_assoc]
                        exact CS_right hCS HLO.out HLA.out (by rw [← HLB.out]; omega)
                      have := MG_end HG2.out (by rw [← HLO.out]; exact hlt2) (by rw [← HLA.out, ← HLB.out]; exact HAB.out) eA eB
                      rw [← HLO.out, lcA, show lo + (a + b) = lo + a + b by omega, show lo + a + b + (la - a) = lo + la + b by omega] at this
                      exact this
                    have HLO2 : Hid (lo + 2 * W = (m + 1) * (2 * W)) := by show _ = _; rw [tm3, ← HLO.out]
                    have hlT3 : (splice T2 (lo + a + b) cA).length = X.length := by rw [splice_length _ _ _ (by omega), hlenT]
                    have v0 : (0 : Int) ≤ (lo : Int) + (la : Int) + (b : Int) := by omega
                    have v1 : (lo : Int) + (la : Int) + (b : Int) ≤ (X.length : Int) := by omega
                    have v2 : ((lo : Int) + (la : Int) + (b : Int)).toNat = lo + la + b := by omega
                    have v4 : (lo : Int) + (la : Int) + (b : Int) ≤ (lo : Int) + (la : Int) + (lb : Int) := by omega
                    have v5 : (lo : Int) + (la : Int) + (lb : Int) ≤ (X.length : Int) := by omega
                    have v7 : ((lo : Int) + (la : Int) + (lb : Int)).toNat = lo + la + lb := by omega
                    have v8 : lo + la + lb - (lo + la + b) = lb - b := by omega
                    have hFs : Fl wc.drew (some ⟨bf, lo + la + b, none⟩) cB := by rw [HCB.out]; exact FR.sub (w := wc.drew) FF3 (lo + la + b) (lb - b) (by omega)
                    clear HG2 HLA HLB HCA HCB HLO u0 u1 u2 u3 u4 u5 u6 u7 u8 HAB FF2 FT2 K5
                    generalize splice T2 (lo + a + b) cA = T3 at *
                    have FT3' : FR wc.drew bt T3 := FT3
                    go_upto_region 33 with (fail)
                    by_cases hk : lo + la + b < X.length
                    · have u9 : ¬ X.length = lo + la + b := by omega
                      have u11 : min (lb - b) (X.length - (lo + la + b)) = lb - b := by omega
                      have u12 : List.take (lb - b) cB = cB := List.take_of_length_le (by omega)
                      have u13 : lo + la + b + min (lb - b) (X.length - (lo + la + b)) ≤ T3.length := by omega
                      go_region_law (refine step_copy rfl (.tmp 161) (.tmp 165) rfl (some ⟨bt, lo + la + b, none⟩) (some ⟨bf, lo + la + b, none⟩) (X.length - (lo + la + b)) (X.length - (lo + la + b)) (lb - b) (X.length - (lo + la + b)) (by kernel_rfl) (by kernel_rfl) bt (lo + la + b) T3 cB FT3' hFs lcB (fun _ => rfl) u13 ?_; intro w2 f2 k2; rw [u11, u12] at f2)
                      all_goals go_wp2
                      all_goals go_roundg (X.length - lo)
                      case measure => omega
                      case rel => exact ⟨m + 1, lo + 2 * W, fl2, _, rfl, int_eq (by omega), HLO2, by omega, by omega, FR.kp1 (w := wc.drew) FF3 k2 hne2, f2, (K6.dr ⟨1, rfl⟩).then k2 HBT.out, HP2⟩
                    · have e1 : lo + la + b = X.length := by omega
                      obtain rfl : b = lb := by omega
                      have hcB0 : cB = [] := List.eq_nil_of_length_eq_zero (by omega)
                      have UE : Hid (splice T3 (lo + la + b) cB = T3) := by show _ = _; rw [hcB0]; simp [splice]
                      have HP3 : Hid (PASS W X fl (m + 1) T3 fl2) := by have := HP2.out; rw [UE.out] at this; exact this
                      clear HP2 UE hcB0 lcB hFs
                      go_region_law (refine step_copy rfl (.tmp 161) (.tmp 165) rfl (some ⟨bt, 0, none⟩) (some ⟨bf, 0, none⟩) 0 0 0 0 (by kernel_rfl) (by kernel_rfl) bt 0 T3 [] FT3' (Or.inl rfl) rfl (fun h => absurd h (by decide)) (by rw [hlT3]; omega) ?_; intro w2 f2 k2; clear e1)
                      all_goals go_wp2
                      all_goals go_roundg (X.length - lo)
                      case measure => omega
                      case rel => exact ⟨m + 1, lo + 2 * W, fl2, T3, rfl, int_eq (by omega), HLO2, by omega, by omega, FR.kp1 (w := wc.drew) FF3 k2 hne2, by simpa [splice] using f2, (K6.dr ⟨1, rfl⟩).then k2 HBT.out, HP3⟩
            · have HS4 : Hid (ST X Z (p + 1) T' F fl') := ST_step HS3.out (by rw [← HW.out]; exact hlt) (HW.out ▸ HP'.out) (by rw [← HW.out, ← HLO.out]; exact hlt2)
              have HW2 : Hid (2 * W = 32 * 2 ^ (p + 1)) := by show _ = _; rw [Nat.pow_succ, HW.out]; omega
              have HB2 : Hid (((p + 1) % 2 = 0 ∧ bt = bx ∧ bf = bb) ∨ ((p + 1) % 2 = 1 ∧ bt = bb ∧ bf = bx)) := by
                rcases HB.out with ⟨h1, h2, h3⟩ | ⟨h1, h2, h3⟩
                · exact Or.inr ⟨by omega, h3, h2⟩
                · exact Or.inl ⟨by omega, h3, h2⟩
              clear HP' HLO HS3 HW HB
              go_wp2
              go_roundg (X.length - W)
              case measure => omega
              case rel => exact ⟨p + 1, 2 * W, fl', bt, bf, T', F, rfl, rfl, rfl, int_eq (by omega), FT', FF', HB2, K4, HS4, HW2, by omega, by omega, by omega⟩
        · have HE : Hid (X.length ≤ 32 * 2 ^ p) := by show _ ≤ _; rw [← HW.out]; omega
          clear HW
          go_wp2
          go_meet
          case rel => exact ⟨p, fl, bf, bt, F, T, rfl, rfl, FF, FT, HB, K3, HS3, HE⟩
    case rest =>
      obtain ⟨p, fl, bf, bt, F, T, rfl, rfl, FF, FT, HB, K3, HS3, HE⟩ := hcut
      clear HS FL FB1 K2
      have eF : F = srt X := CS_whole HE.out HS3.out.1
      have efl : fl = inv X := FLs_whole HE.out HS3.out.2.2.2.2.2
      subst eF efl
      obtain ⟨hp, e1, e2⟩ | ⟨hp, e1, e2⟩ := HB.out
      · subst e1 e2
        have HBUF : Hid (BUF X Z T) := ⟨p, HE.out, HS3.out.2.2.2.2.1, HS3.out.2.2.1, fun h => absurd h (by omega), fun _ h => HS3.out.2.2.2.1 h, HS3.out.2.1⟩
        clear HS3 HE HB
        have h0' : (0 : Int) < (X.length : Int) := by omega
        have hpn := fun w => run_neq_ptr_same w ⟨bf, 0, none⟩
        go_upto_region 35 with (fail)
        go_quiet (fail)
        go_wp2
        go_ret
        exact ⟨rfl, FF, ⟨T, FT, HBUF.out⟩, K3.dr (dr0 _)⟩
      · subst e1 e2
        have HBUF : Hid (BUF X Z (srt X)) := ⟨p, HE.out, HS3.out.2.2.2.2.1, fun h => absurd h (by omega), fun _ => HS3.out.1, fun h => absurd h (by omega), srt_length X⟩
        have hlT : T.length = X.length := HS3.out.2.1
        clear HS3 HE HB
        have h0' : (0 : Int) < (X.length : Int) := by omega
        have hne' : bf ≠ bt := fun e => hne e.symm
        have hpn := fun n => run_neq_ptr_other (w := wc.drewN n) hne' FF FT
        go_upto_region 35 with (fail)
        go_quiet (fail)
        have FT9 := FT.dr (dr0 nq)
        have FF9 := FF.dr (dr0 nq)
        have K9 := K3.dr (dr0 nq)
        generalize wc.drewN nq = w9 at *
        go_wp2_with (refine copy_law rfl (.tmp 179) (.tmp 180) rfl _ _ _ _ _ _ rfl rfl bt 0 T (srt X) FT9 FF9.fl (srt_length X) (fun _ => rfl) (by omega) ?_; intro w2 f2 k2)
        go_ret
        have f3 : FR w2 bt (srt X) := by
          have : splice T 0 (List.take (min X.length X.length) (srt X)) = srt X := by
            rw [Nat.min_self, List.take_of_length_le (by rw [srt_length]; omega)]
            exact splice_same _ _ (by rw [hlT, srt_length])
          first | (rw [this] at f2; exact f2) | (rw [splice_same _ _ (by rw [hlT, srt_length])] at f2; exact f2)
        exact ⟨rfl, f3, ⟨srt X, FF9.kp1 k2 hne', HBUF.out⟩, K9.then k2 (Or.inl rfl)⟩
end Go.Proofs.Qxb6602348a
