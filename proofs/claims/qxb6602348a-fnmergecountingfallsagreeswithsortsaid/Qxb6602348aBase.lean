import Derived.Test.Qxb6602348aRows
import Derived.Test.Qxb6602348aFlt
import Derived.WalkKit
import Derived.WalkLawsBesides
import Derived.Deep.LoopGhost
import Derived.Deep.QuietTactic
import Derived.BigQuiet
namespace Go.Proofs.Qxb6602348a
open Go.RowKit Flt

def Fl (w : World) (a : Option Addr) (xs : List Nat) : Prop :=
  xs.length = 0 ∨ ∃ b off, a = some ⟨b, off, none⟩ ∧ ∀ i, i < xs.length → w.cell? ⟨b, off + i, none⟩ = some (.float .f64 (xs.getD i 0))

def Good (xs : List Nat) (k : Nat) : Prop := ∀ i, i < k → nan (xs.getD i 0) = false ∧ (0 < i → flt (xs.getD i 0) (xs.getD (i - 1) 0) = false)

/-- The world has drawn, and nothing else. -/
def Dr (w w' : World) : Prop := ∃ q, w' = w.drewN q
theorem dr0 {w : World} (n : Nat) : Dr w (w.drewN n) := ⟨n, rfl⟩
theorem Dr.refl (w : World) : Dr w w := ⟨0, rfl⟩
theorem Dr.more {w w' : World} (h : Dr w w') {n : Nat} : Dr w (w'.drewN n) := by
  obtain ⟨q, rfl⟩ := h
  exact ⟨_, World.drewN_drewN ..⟩
theorem Dr.trans {a b c : World} (h : Dr a b) (k : Dr b c) : Dr a c := by
  obtain ⟨q, rfl⟩ := k
  exact h.more

set_option maxHeartbeats 400000 in
theorem sorted_any (a : Option Addr) (c : Nat) (xs : List Nat) (w : World) (hn : xs.length ≤ 1048576) (hF : Fl w a xs) :
    Calls Try.prog 19 #[.slice a xs.length c] w fun e w' => ∃ r : Bool, e = .returned (.bool r) ∧ (r = true → Good xs xs.length) ∧ Dr w w' := by
  go_enter Try.func19, Try.ntmps19
  go_wp2
  go_loopg [3] (xs.length + 1) (fun g i wr => ∃ k : Nat, k ≤ xs.length ∧ i = .int .i64 k ∧ xs.length + 1 - k ≤ g ∧ Dr w wr ∧ Hid (Good xs k))
  case atStart => exact ⟨0, by omega, rfl, by omega, Dr.refl _, fun i hi => absurd hi (by omega)⟩
  case round =>
    obtain ⟨k, hk, rfl, hg, ⟨q, rfl⟩, HG⟩ := hrel
    by_cases hlt : k < xs.length
    · obtain ⟨b, off, rfl, hcell⟩ := hF.resolve_left (by omega)
      have ck := hcell k hlt
      clear hF
      by_cases hnan : nan (xs.getD k 0) = true
      · have t1 : (FloatKind.f64.format.order (xs.getD k 0) (xs.getD k 0) != some .eq) = true := (fne_self _).trans hnan
        generalize xs.getD k 0 = xk at *
        clear hcell
        go_wp2
        go_quiet (fail)
        go_wp2
        go_ret
        exact ⟨false, rfl, fun h => (by cases h), (by first | exact dr0 _ | exact (dr0 _).more | exact (dr0 _).more.more)⟩
      · have hnan' : nan (xs.getD k 0) = false := by simpa using hnan
        have t1 : (FloatKind.f64.format.order (xs.getD k 0) (xs.getD k 0) != some .eq) = false := (fne_self _).trans hnan'
        by_cases h0 : 0 < k
        · have ck' := hcell (k - 1) (by omega)
          have e1 : ((k : Int) - 1).toNat = k - 1 := by omega
          by_cases hf : flt (xs.getD k 0) (xs.getD (k - 1) 0) = true
          · have t2 : (FloatKind.f64.format.order (xs.getD (k - 1) 0) (xs.getD k 0) == some .gt) = true := (fgt_eq _ _).trans hf
            generalize xs.getD k 0 = xk at *
            generalize xs.getD (k - 1) 0 = xk' at *
            have h0' : (0 : Int) < (k : Int) := by omega
            clear hcell
            go_wp2
            go_quiet (fail)
            go_wp2
            go_quiet (fail)
            go_wp2
            go_ret
            exact ⟨false, rfl, fun h => (by cases h), (by first | exact dr0 _ | exact (dr0 _).more | exact (dr0 _).more.more)⟩
          · have hf' : flt (xs.getD k 0) (xs.getD (k - 1) 0) = false := by simpa using hf
            have t2 : (FloatKind.f64.format.order (xs.getD (k - 1) 0) (xs.getD k 0) == some .gt) = false := (fgt_eq _ _).trans hf'
            have HG' : Hid (Good xs (k + 1)) := fun i hi => by
              by_cases e : i = k
              · subst e; exact ⟨hnan', fun _ => hf'⟩
              · exact HG.out i (by omega)
            generalize xs.getD k 0 = xk at *
            generalize xs.getD (k - 1) 0 = xk' at *
            have h0' : (0 : Int) < (k : Int) := by omega
            clear hcell
            go_wp2
            go_quiet (fail)
            go_wp2
            go_quiet (fail)
            go_wp2
            go_roundg (xs.length - k)
            case measure => omega
            case rel => exact ⟨k + 1, by omega, by go_num, by omega, (by first | exact dr0 _ | exact (dr0 _).more | exact (dr0 _).more.more), HG'⟩
        · have h0' : decide ((0 : Int) < (k : Int)) = false := decide_eq_false (by omega)
          have HG' : Hid (Good xs (k + 1)) := fun i hi => by
            by_cases e : i = k
            · subst e; exact ⟨hnan', fun h => absurd h h0⟩
            · exact HG.out i (by omega)
          generalize xs.getD k 0 = xk at *
          clear hcell
          go_wp2
          go_quiet (fail)
          go_wp2
          go_quiet (fail)
          go_wp2
          go_roundg (xs.length - k)
          case measure => omega
          case rel => exact ⟨k + 1, by omega, by go_num, by omega, (by first | exact dr0 _ | exact (dr0 _).more | exact (dr0 _).more.more), HG'⟩
    · obtain rfl : k = xs.length := by omega
      go_wp2
      go_ret
      exact ⟨true, rfl, fun _ => HG.out, dr0 _⟩
end Go.Proofs.Qxb6602348a
