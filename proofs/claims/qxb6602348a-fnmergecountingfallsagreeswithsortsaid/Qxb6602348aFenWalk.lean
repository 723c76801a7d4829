/-
  THE WALKS OF fenwick.add AND fenwick.sumBefore.
-/
import Derived.Test.Qxb6602348aMemI
import Derived.Deep.CutRange
import Derived.Deep.CutBlock
import Derived.Deep.DeepCutAuto
import Derived.WalkSpells
namespace Go.Proofs.Qxb6602348a
open Go.RowKit

theorem iEq {a b : Int} (h : a = b) : Value.int .i64 a = .int .i64 b := by rw [h]
theorem iEq' {a b : Int} (h : a = b) : Ending.returned (Value.int .i64 a) = .returned (.int .i64 b) := by rw [h]

set_option maxHeartbeats 400000 in
theorem add_any (b p : Nat) (d : Int) (a : Nat → Int) (f : List Int) (w : World) (hn : f.length ≤ 1048576) (hp : p < f.length) (hd : -1048576 ≤ d ∧ d ≤ 1048576) (hf : ∀ i, 0 < i → i < f.length → -1048576 ≤ f.getD i 0 ∧ f.getD i 0 ≤ 1048576) (HF : FEN f a) (FI : IR w b f f.length) :
    Calls Try.prog 31 #[.slice (some ⟨b, 0, none⟩) f.length f.length, .int .i64 p, .int .i64 d] w fun e w' => e = .returned (.tuple #[]) ∧ (∃ f', IR w' b f' f'.length ∧ FEN f' (upd a p d) ∧ f'.length = f.length) ∧ Kp1 b w w' := by
  go_enter Try.func31, Try.ntmps31
  go_wp2
  go_loopg [1] (f.length + 1) (fun g s1 wr => ∃ (c : Nat) (f1 : List Int), s1 = .int .i64 c ∧ 0 < c ∧ c ≤ 2 * f.length ∧ f.length + 1 - c ≤ g ∧ f1.length = f.length ∧ IR wr b f1 f.length ∧ Kp1 b w wr ∧ Hid (FENA f f1 p d c))
  case atStart => exact ⟨p + 1, f, by go_num, by omega, by omega, by omega, rfl, FI, Kp1.refl _ _, FENA_start f p d⟩
  case round =>
    obtain ⟨c, f1, rfl, hc0, hc, hg, hl, F1, K1, HA⟩ := hrel
    by_cases hlt : c < f.length
    · have ec := FENA_get HA.out
      have cc := F1.cell (i := c) (by omega)
      have fc := F1.frozen c
      rw [ec] at cc
      have hb := hf c hc0 hlt
      have F2 := F1.set c (f.getD c 0 + d)
      have K2 := K1.setCell c (.int .i64 (f.getD c 0 + d))
      have HA2 : Hid (FENA f (f1.set c (f.getD c 0 + d)) p d (c + lb c)) := by
        have := FENA_step HA.out (by omega)
        rw [ec] at this
        exact this
      have hl2 : (f1.set c (f.getD c 0 + d)).length = f.length := by rw [List.length_set]; exact hl
      have e1 := bits_and_neg hc0 (by omega)
      have h1 := lb_pos hc0
      have h2 := lb_le c
      generalize f1.set c (f.getD c 0 + d) = f2 at *
      generalize f.getD c 0 = x at *
      generalize lb c = l at *
      clear hf HF FI ec HA F1 K1
      go_wp2
      go_roundg (f.length - c)
      case measure => omega
      case rel => exact ⟨c + l, f2, iEq (by omega), by omega, by omega, by omega, hl2, F2, K2, HA2⟩
    · have HE : Hid (FEN f1 (upd a p d) ∧ f1.length = f.length) := FENA_end HA.out HF (by omega)
      rw [← hl] at F1
      clear hf HF FI HA
      go_wp2
      go_end0
      exact ⟨rfl, ⟨f1, F1, HE.out.1, HE.out.2⟩, K1⟩

set_option maxHeartbeats 400000 in
theorem sumBefore_any (b p : Nat) (a : Nat → Int) (f : List Int) (w : World) (hn : f.length ≤ 1048576) (hp : p < f.length) (hs : ∀ n, n < f.length → 0 ≤ sumN a n ∧ sumN a n ≤ 1048576) (HF : FEN f a) (FI : IR w b f f.length) :
    Calls Try.prog 34 #[.slice (some ⟨b, 0, none⟩) f.length f.length, .int .i64 p] w fun e w' => e = .returned (.int .i64 (sumN a p)) ∧ w = w' := by
  have hsp := hs p hp
  go_enter Try.func34, Try.ntmps34
  go_wp2
  go_loopg [1, 5] (p + 1) (fun g s1 s5 wr => ∃ (c : Nat), s1 = .int .i64 c ∧ s5 = .int .i64 (sumN a p - sumN a c) ∧ c ≤ p ∧ c + 1 ≤ g ∧ w = wr)
  case atStart => exact ⟨p, rfl, iEq (by omega), by omega, by omega, rfl⟩
  case round =>
    obtain ⟨c, rfl, rfl, hc, hg, rfl⟩ := hrel
    by_cases h0 : 0 < c
    · have cc := FI.cell (i := c) (by omega)
      rw [HF c h0 (by omega)] at cc
      have e1 := bits_and_neg h0 (by omega)
      have h1 := lb_pos h0
      have h2 := lb_le c
      have s1 := hs c (by omega)
      have s2 := hs (c - lb c) (by omega)
      have e2 : Value.int .i64 (sumN a p - sumN a c + (sumN a c - sumN a (c - lb c))) = .int .i64 (sumN a p - sumN a (c - lb c)) := iEq (by omega)
      obtain ⟨c', hc'⟩ : ∃ c', c' = c - lb c := ⟨_, rfl⟩
      rw [← hc'] at cc e2 s2
      have h3 : c' < c := by omega
      have h4 : ((c : Int) - (lb c : Int)) = (c' : Int) := by omega
      generalize lb c = l at *
      have e3 : Value.int .i64 ((c : Int) - (l : Int)) = .int .i64 (c' : Int) := iEq h4
      have HE2 : Hid (Value.int .i64 (sumN a p - sumN a c + (sumN a c - sumN a c')) = .int .i64 (sumN a p - sumN a c')) := e2
      have HE3 : Hid (Value.int .i64 ((c : Int) - (l : Int)) = .int .i64 (c' : Int)) := e3
      clear e2 e3 hs HF FI h4
      generalize sumN a p = x at *
      generalize sumN a c = y at *
      generalize hz : sumN a c' = z at *
      have hl : l ≤ c ∧ c' + l = c := by omega
      clear hc'
      go_wp2
      go_roundg c
      case measure => omega
      case rel => exact ⟨c', HE3.out, by rw [hz]; first | exact HE2.out | exact iEq (by omega), by omega, by omega, rfl⟩
    · obtain rfl : c = 0 := by omega
      have e0 : sumN a 0 = 0 := rfl
      have HE : Hid (sumN a p - sumN a 0 = sumN a p) := by show _ = _; rw [e0]; omega
      clear hs HF FI e0
      generalize sumN a 0 = z at *
      go_wp2
      go_ret
      exact ⟨iEq' HE.out, rfl⟩
end Go.Proofs.Qxb6602348a
