/-
  sortCountingFalls at every length up to 65536, through its shim.
-/
import Derived.Test.Qxb6602348aSort
import Derived.Test.Qxb6602348aSmall
namespace Go.Proofs.Qxb6602348a
open Go.RowKit Flt

set_option maxRecDepth 100000 in
theorem sort_zero (a b : Option Addr) (c c' : Nat) (w : World) :
    Calls Try.prog 27 #[.slice a 0 c, .slice b 0 c'] w fun e w' => e = .returned (.int .i64 0) ∧ Dr w w' := by
  have h0 : decide ((0 : Int) < 0) = false := rfl
  go_enter Try.func27, Try.ntmps27
  go_wp2
  refine wp_loop_rounds 1 ?_
  rw [rounds_succ]
  go_wp2
  refine wp_loop_rounds 1 ?_
  rw [rounds_succ]
  go_wp2
  go_quiet (fail)
  go_wp2
  go_ret
  exact ⟨rfl, dr0 _⟩

/-- What the sort leaves. -/
def Sorted (bx bb : Nat) (X Z : List Nat) (w w' : World) : Prop := FR w' bx (srt X) ∧ (∃ Z', FR w' bb Z' ∧ BUF X Z Z') ∧ Kp2 bx bb w w'

theorem zsort_any (bx bb : Nat) (X Z : List Nat) (w : World) (hne : bx ≠ bb) (hn : X.length ≤ 65536) (hZ : Z.length = X.length) (nx : ∀ a ∈ X, nan a = false) (FX : FR w bx X) (FB : FR w bb Z) :
    Calls Try.prog 13 #[.slice (some ⟨bx, 0, none⟩) X.length X.length, .slice (some ⟨bb, 0, none⟩) X.length X.length] w fun e w' => e = .returned (.int .i64 (inv X)) ∧ Sorted bx bb X Z w w' := by
  by_cases h0 : X.length = 0
  · obtain rfl : X = [] := List.eq_nil_of_length_eq_zero h0
    obtain rfl : Z = [] := List.eq_nil_of_length_eq_zero (by rw [hZ]; rfl)
    go_enter Try.func13, Try.ntmps13
    go_wp2_with fail
    refine (sort_zero (some ⟨bx, 0, none⟩) (some ⟨bb, 0, none⟩) 0 0 _).mono ?_
    rintro e w' ⟨rfl, hd⟩
    go_wp2_with fail
    go_ret
    exact ⟨rfl, FX.dr hd, ⟨[], FB.dr hd, 0, by simp, fun h => absurd h (by omega), fun _ => rfl, fun h => absurd h (by omega), fun _ h => absurd h (by omega), rfl⟩, (Kp2.refl _ _ _).dr hd⟩
  · go_enter Try.func13, Try.ntmps13
    go_wp2_with fail
    refine (sort_any bx bb X Z _ hne (by omega) hn hZ nx FX FB).mono ?_
    rintro e w' ⟨rfl, h1, h2, h3⟩
    go_wp2_with fail
    go_ret
    exact ⟨rfl, h1, h2, h3⟩

end Go.Proofs.Qxb6602348a
