/-
  Small things for the laws over rankSum: its shim; the order of the words of whole numbers and halves.
-/
import Derived.Test.Qxb6602348aRank
import Derived.Test.Qxb6602348aMem
import Derived.WalkSpells
namespace Go.Proofs.Qxb6602348a
open Go.RowKit Flt

/-- The answer is a bool of which this holds. -/
def AnsB (p : Bool → Prop) (e : Ending) : Prop := ∃ r : Bool, e = .returned (.bool r) ∧ p r
theorem AnsB.no {p : Bool → Prop} (h : p false) : AnsB p (.returned (.bool false)) := ⟨false, rfl, h⟩
theorem AnsB.yes {p : Bool → Prop} (h : p true) : AnsB p (.returned (.bool true)) := ⟨true, rfl, h⟩

theorem zzrank_any (ax ay : Option Addr) (cx cy : Nat) (xs ys : List Nat) (w : World) (hn : xs.length ≤ 65536) (hm : ys.length ≤ 65536) (nx : Num xs) (ny : Num ys) (hX : Fl w ax xs) (hY : Fl w ay ys) :
    Calls Try.prog 20 #[.slice ax xs.length cx, .slice ay ys.length cy] w fun e w' =>
      e = .returned (.tuple #[.float .f64 (h2 (uOf 0 (G xs ys))), .int .i64 (G xs ys).length, .float .f64 (h2 (2 * tOf (G xs ys)))]) ∧ Dr w w' := by
  go_enter Try.func20, Try.ntmps20
  go_wp2_with fail
  refine (rank_any ax ay cx cy xs ys _ hn hm nx ny hX hY).mono ?_
  rintro e w' ⟨rfl, ⟨q, rfl⟩⟩
  go_wp2
  go_ret3
  exact ⟨rfl, dr0 _⟩

theorem Num_of {xs : List Nat} (h : Good xs xs.length) : Num xs := fun i hi => (h i hi).1

theorem G_comm (xs ys : List Nat) : G ys xs = (G xs ys).map fun p => (p.2, p.1) := by
  unfold G
  rw [Nat.add_comm ys.length xs.length, grp_comm]

theorem order_self {x : Nat} (h : nan x = false) : FloatKind.f64.format.order x x = some .eq := by
  show Ieee.double.order x x = some .eq
  rw [order_some h h, compare_int]
  simp

theorem order_lt {a b : Nat} (ha : a < 2 ^ 53) (hb : b < 2 ^ 53) (h : a < b) : FloatKind.f64.format.order (h2 a) (h2 b) = some .lt := by
  show Ieee.double.order _ _ = some .lt
  rw [order_h2 ha hb, compare_int, if_pos (by omega)]
theorem order_eq {a b : Nat} (ha : a < 2 ^ 53) (hb : b < 2 ^ 53) (h : a = b) : FloatKind.f64.format.order (h2 a) (h2 b) = some .eq := by
  show Ieee.double.order _ _ = some .eq
  rw [order_h2 ha hb, compare_int, if_neg (by omega), if_pos (by omega)]
theorem order_gt {a b : Nat} (ha : a < 2 ^ 53) (hb : b < 2 ^ 53) (h : b < a) : FloatKind.f64.format.order (h2 a) (h2 b) = some .gt := by
  show Ieee.double.order _ _ = some .gt
  rw [order_h2 ha hb, compare_int, if_neg (by omega), if_neg (by omega)]

theorem order_eq0 {a : Nat} (h : a = 0) : FloatKind.f64.format.order (h2 a) 0 = some .eq := by
  have := order_eq (a := a) (b := 0) (by omega) (by omega) h
  rwa [h2_zero] at this
theorem order_gt0 {a : Nat} (ha : a < 2 ^ 53) (h : a ≠ 0) : FloatKind.f64.format.order (h2 a) 0 = some .gt := by
  have := order_gt (a := a) (b := 0) ha (by omega) (by omega)
  rwa [h2_zero] at this

end Go.Proofs.Qxb6602348a
