/-
  THE WALK OF rankSum: its answer is the sums over the groups.
-/
import Derived.Test.Qxb6602348aBase
import Derived.Test.Qxb6602348aRankParts
import Derived.Deep.CutRange
import Derived.Deep.CutBlock
import Derived.Deep.DeepCutAuto
namespace Go.Proofs.Qxb6602348a
open Go.RowKit Flt

set_option maxHeartbeats 1000000 in
set_option maxRecDepth 100000 in
theorem rank_any (ax ay : Option Addr) (cx cy : Nat) (xs ys : List Nat) (w : World) (hn : xs.length ≤ 65536) (hm : ys.length ≤ 65536) (nx : Num xs) (ny : Num ys) (hX : Fl w ax xs) (hY : Fl w ay ys) :
    Calls Try.prog 29 #[.slice ax xs.length cx, .slice ay ys.length cy] w fun e w' =>
      e = .returned (.tuple #[.float .f64 (h2 (uOf 0 (G xs ys))), .int .i64 (G xs ys).length, .float .f64 (h2 (2 * tOf (G xs ys)))]) ∧ Dr w w' := by
  go_enter Try.func29, Try.ntmps29
  go_wp2
  go_loopg [4, 5, 6, 7, 8] (xs.length + ys.length + 1) (fun g su sg st i j wr => ∃ k l u gr t : Nat, k ≤ xs.length ∧ l ≤ ys.length ∧ i = .int .i64 k ∧ j = .int .i64 l ∧ su = .float .f64 (h2 u) ∧ sg = .int .i64 gr ∧ st = .float .f64 (h2 (2 * t)) ∧ xs.length + ys.length + 1 - (k + l) ≤ g ∧ Dr w wr ∧ Hid (RS xs ys k l u gr t))
  case atStart => exact ⟨0, 0, 0, 0, 0, by omega, by omega, rfl, rfl, rfl, rfl, rfl, by omega, Dr.refl _, RS_start xs ys⟩
  case round =>
    obtain ⟨k, l, u, gr, t, hk, hl, rfl, rfl, rfl, rfl, rfl, hg, ⟨q, rfl⟩, HR⟩ := hrel
    by_cases hmore : k < xs.length ∨ l < ys.length
    · go_upto_region 2 with (fail)
      go_cut [22] (fun t wc => t = .bool true ∧ wc = w.drewN q)
      case first =>
        by_cases hlt : k < xs.length
        · go_wp2
          go_meet
          case rel => exact ⟨rfl, rfl⟩
        · have hlt' : l < ys.length := by omega
          go_wp2
          go_meet
          case rel => exact ⟨rfl, rfl⟩
      case rest =>
        obtain ⟨rfl, rfl⟩ := hcut
        go_upto_block 2 with (fail)
        go_cut [9] (fun v wc => ∃ vw, v = .float .f64 vw ∧ nan vw = false ∧ Hid (key vw = vmin (kd xs k) (kd ys l)) ∧ Dr w wc)
        case first =>
          by_cases hlt : k < xs.length
          · obtain ⟨b, off, rfl, hcell⟩ := hX.resolve_left (by omega)
            have ck := hcell k hlt
            have nk := nx k hlt
            by_cases hlt' : l < ys.length
            · obtain ⟨b', off', rfl, hcell'⟩ := hY.resolve_left (by omega)
              have cl := hcell' l hlt'
              have nl := ny l hlt'
              have tt := fle_eq nk nl
              have hv := vmin_xy xs ys hlt hlt'
              generalize xs.getD k 0 = xk at *
              generalize ys.getD l 0 = yl at *
              have g1 : ((l : Int) == (ys.length : Int)) = false := beq_eq_false_iff_ne.2 (by omega)
              by_cases hle : key xk ≤ key yl
              · rw [decide_eq_true hle] at tt
                rw [if_pos hle] at hv
                have HV : Hid (key xk = vmin (kd xs k) (kd ys l)) := hv.symm
                clear hv hcell hcell' nx ny hX hY
                go_wp2
                go_quiet (fail)
                go_wp2
                go_meet
                case rel => exact ⟨xk, rfl, nk, HV, (by first | exact dr0 _ | exact (dr0 _).more | exact (dr0 _).more.more)⟩
              · rw [decide_eq_false hle] at tt
                rw [if_neg hle] at hv
                have HV : Hid (key yl = vmin (kd xs k) (kd ys l)) := hv.symm
                clear hv hcell hcell' nx ny hX hY
                go_wp2
                go_quiet (fail)
                go_wp2
                go_meet
                case rel => exact ⟨yl, rfl, nl, HV, (by first | exact dr0 _ | exact (dr0 _).more | exact (dr0 _).more.more)⟩
            · have hv := vmin_x xs ys hlt (Nat.le_of_not_lt hlt')
              generalize xs.getD k 0 = xk at *
              have HV : Hid (key xk = vmin (kd xs k) (kd ys l)) := hv.symm
              obtain rfl : l = ys.length := by omega
              clear hv hcell nx ny hX hY
              go_wp2
              go_quiet (fail)
              go_wp2
              go_meet
              case rel => exact ⟨xk, rfl, nk, HV, (by first | exact dr0 _ | exact (dr0 _).more | exact (dr0 _).more.more)⟩
          · have hlt' : l < ys.length := by omega
            obtain ⟨b', off', rfl, hcell'⟩ := hY.resolve_left (by omega)
            have cl := hcell' l hlt'
            have nl := ny l hlt'
            have hv := vmin_y xs ys hlt' (Nat.le_of_not_lt hlt)
            generalize ys.getD l 0 = yl at *
            have HV : Hid (key yl = vmin (kd xs k) (kd ys l)) := hv.symm
            obtain rfl : k = xs.length := by omega
            clear hv hcell' nx ny hX hY
            go_wp2
            go_meet
            case rel => exact ⟨yl, rfl, nl, HV, (by first | exact dr0 _ | exact (dr0 _).more | exact (dr0 _).more.more)⟩
        case rest =>
          obtain ⟨vw, rfl, nv, HV, ⟨q, rfl⟩⟩ := hcut
          obtain ⟨A, hA⟩ : ∃ A, A = run (key vw) (kd xs k) := ⟨_, rfl⟩
          obtain ⟨B, hB⟩ : ∃ B, B = run (key vw) (kd ys l) := ⟨_, rfl⟩
          have HA : Hid (A = run (key vw) (kd xs k)) := hA
          have HB : Hid (B = run (key vw) (kd ys l)) := hB
          have hAle : k + A ≤ xs.length := by have := run_le (key vw) (kd xs k); rw [kd_len] at this; omega
          have hBle : l + B ≤ ys.length := by have := run_le (key vw) (kd ys l); rw [kd_len] at this; omega
          clear hA hB
          go_upto_block 3 with (fail)
          go_cut [7, 10] (fun i tx wc => i = .int .i64 ((k : Int) + (A : Int)) ∧ tx = .int .i64 A ∧ wc = w.drewN q)
          case first =>
            go_wp2
            go_loopg [7, 10] (A + 1) (fun g i tx wr => ∃ c : Nat, c ≤ A ∧ i = .int .i64 ((k : Int) + (c : Int)) ∧ tx = .int .i64 c ∧ A + 1 - c ≤ g ∧ wr = w.drewN q)
            case atStart => exact ⟨0, by omega, by simp, rfl, by omega, rfl⟩
            case round =>
              obtain ⟨c, hc, rfl, rfl, hg', rfl⟩ := hrel
              by_cases hlt : k + c < xs.length
              · obtain ⟨b, off, rfl, hcell⟩ := hX.resolve_left (by omega)
                have ck := hcell (k + c) hlt
                have nk := nx (k + c) hlt
                have tt := feq_eq nk nv
                have hlt' : (k : Int) + (c : Int) < (xs.length : Int) := by omega
                by_cases hcA : c < A
                · have hk1 := (run_lt (HA.out ▸ hcA)).2
                  rw [kd_get xs hlt] at hk1
                  rw [decide_eq_true hk1] at tt
                  have t1 : (FloatKind.f64.format.order (xs.getD (k + c) 0) vw == some .eq) = true := tt
                  generalize xs.getD (k + c) 0 = xk at *
                  clear hcell nx ny hX hY tt hk1
                  go_wp2
                  go_roundg (A - c)
                  case measure => omega
                  case rel => exact ⟨c + 1, by omega, by go_num, by go_num, by omega, rfl⟩
                · obtain rfl : c = A := by omega
                  have hk1 : key (xs.getD (k + c) 0) ≠ key vw := by
                    have := run_end (v := key vw) (L := kd xs k) (by rw [← HA.out, kd_len]; omega)
                    rw [← HA.out, kd_get xs hlt] at this
                    exact this
                  rw [decide_eq_false hk1] at tt
                  have t1 : (FloatKind.f64.format.order (xs.getD (k + c) 0) vw == some .eq) = false := tt
                  generalize xs.getD (k + c) 0 = xk at *
                  clear hcell nx ny hX hY tt hk1
                  go_wp2
                  go_meet
                  case rel => exact ⟨rfl, rfl, rfl⟩
              · obtain rfl : c = A := by omega
                have hlt' : ¬ (k : Int) + (c : Int) < (xs.length : Int) := by omega
                clear nx ny hX hY
                go_wp2
                go_meet
                case rel => exact ⟨rfl, rfl, rfl⟩
          case rest =>
            obtain ⟨rfl, rfl, rfl⟩ := hcut
            go_upto_block 5 with (fail)
            go_cut [8, 11] (fun j ty wc => j = .int .i64 ((l : Int) + (B : Int)) ∧ ty = .int .i64 B ∧ wc = w.drewN q)
            case first =>
              go_wp2
              go_loopg [8, 11] (B + 1) (fun g j ty wr => ∃ c : Nat, c ≤ B ∧ j = .int .i64 ((l : Int) + (c : Int)) ∧ ty = .int .i64 c ∧ B + 1 - c ≤ g ∧ wr = w.drewN q)
              case atStart => exact ⟨0, by omega, by simp, rfl, by omega, rfl⟩
              case round =>
                obtain ⟨c, hc, rfl, rfl, hg', rfl⟩ := hrel
                by_cases hlt : l + c < ys.length
                · obtain ⟨b, off, rfl, hcell⟩ := hY.resolve_left (by omega)
                  have ck := hcell (l + c) hlt
                  have nk := ny (l + c) hlt
                  have tt := feq_eq nk nv
                  have hlt' : (l : Int) + (c : Int) < (ys.length : Int) := by omega
                  by_cases hcB : c < B
                  · have hk1 := (run_lt (HB.out ▸ hcB)).2
                    rw [kd_get ys hlt] at hk1
                    rw [decide_eq_true hk1] at tt
                    have t1 : (FloatKind.f64.format.order (ys.getD (l + c) 0) vw == some .eq) = true := tt
                    generalize ys.getD (l + c) 0 = yk at *
                    clear hcell nx ny hX hY tt hk1
                    go_wp2
                    go_roundg (B - c)
                    case measure => omega
                    case rel => exact ⟨c + 1, by omega, by go_num, by go_num, by omega, rfl⟩
                  · obtain rfl : c = B := by omega
                    have hk1 : key (ys.getD (l + c) 0) ≠ key vw := by
                      have := run_end (v := key vw) (L := kd ys l) (by rw [← HB.out, kd_len]; omega)
                      rw [← HB.out, kd_get ys hlt] at this
                      exact this
                    rw [decide_eq_false hk1] at tt
                    have t1 : (FloatKind.f64.format.order (ys.getD (l + c) 0) vw == some .eq) = false := tt
                    generalize ys.getD (l + c) 0 = yk at *
                    clear hcell nx ny hX hY tt hk1
                    go_wp2
                    go_meet
                    case rel => exact ⟨rfl, rfl, rfl⟩
                · obtain rfl : c = B := by omega
                  have hlt' : ¬ (l : Int) + (c : Int) < (ys.length : Int) := by omega
                  clear nx ny hX hY
                  go_wp2
                  go_meet
                  case rel => exact ⟨rfl, rfl, rfl⟩
            case rest =>
              obtain ⟨rfl, rfl, rfl⟩ := hcut
              obtain ⟨hAB, R⟩ := RS_step HR.out hmore HV.out HA.out HB.out
              have hb := RS_bounds R hn hm
              obtain ⟨f1, f2, f3, f4, f5, f6, f7, f8, f9, f10, q1, q2, q3, q4, q5, q6, q7, q8, q9, q10, q11, q12⟩ := rs_floats (k := k) (A := A) (B := B) (u := u) (t := t) (by omega) (by omega) hb.1 hb.2.2
              have R' : Hid (RS xs ys (k + A) (l + B) (u + B * (2 * k + A)) (gr + 1) (t + ((A + B) * (A + B) * (A + B) - (A + B)))) := R
              have hgr : gr ≤ 131072 := by omega
              clear R hb HR HV HA HB
              have r4 := fun w => farith .quo q4 w
              have r5 := fun w => farith .add q5 w
              have r6 := fun w => farith .mul q6 w
              have r7 := fun w => farith .add q7 w
              have r9 := fun w => farith .mul q9 w
              have r10 := fun w => farith .mul q10 w
              have r11 := fun w => farith .sub q11 w
              have r12 := fun w => farith .add q12 w
              clear q4 q5 q6 q7 q9 q10 q11 q12
              go_wp2
              go_roundg (xs.length + ys.length + 1 - (k + A + (l + B)))
              case measure => omega
              case rel => exact ⟨k + A, l + B, _, _, _, by omega, by omega, by go_num, by go_num, rfl, by go_num, rfl, by omega, dr0 _, R'⟩
    · have hk' : ¬ k < xs.length := by omega
      have hl' : ¬ l < ys.length := by omega
      have R := RS_end HR.out hmore
      obtain ⟨rfl, rfl, rfl⟩ := R
      clear hmore HR nx ny hX hY
      go_wp2
      go_ret3
      exact ⟨rfl, dr0 _⟩
end Go.Proofs.Qxb6602348a
