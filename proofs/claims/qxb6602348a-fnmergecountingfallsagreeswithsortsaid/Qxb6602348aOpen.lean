/-
  A SLICE OF float64 THAT CAME IN, OPENED: its elements as words.
-/
import Derived.Test.Qxb6602348aRows
import Derived.Test.Qxb6602348aBase
import Derived.ProofKit
import Derived.Deep.Slices
import Derived.ChangeOld
namespace Go.Proofs.Qxb6602348a
open Go.ChangeShapes Go.WideShapes Go.ChangeAt Go.RowKit Go.Deep

theorem Try.own : ownKnob Try.prog.godebug = none := by kernel_rfl
theorem Try.laidOut : laidOutB Try.prog = true := by kernel_rfl
theorem Try.cells28 : Try.prog.cellsOf 28 = 1 := by kernel_rfl
theorem Try.cells22 : Try.prog.cellsOf 22 = 1 := by kernel_rfl

section
variable {H : Type} {enc : TypeId × Value → H} {w : World} {base : Nat} {spare : Nat → Bool} {held : Bool}

theorem trod_float {fuel : Nat} {v : Value} {x : DataW H × List MemPlace} (h : DataW.trod enc Try.prog w base spare held fuel 28 [v] = some x) : ∃ b, v = .float .f64 b := by
  cases fuel with
  | zero => simp [DataW.trod] at h
  | succ n =>
    simp only [DataW.trod, Try.underlying28] at h
    cases v <;> simp at h
    rename_i k b
    cases k
    · simp at h
    · exact ⟨b, rfl⟩

theorem open_fl_cells {a : Option Addr} {len cap fuel : Nat} {x : DataW H × List MemPlace} (h : DataW.trod enc Try.prog w base spare held fuel 22 [.slice a len cap] = some x) :
    ∃ xs : List Nat, xs.length = len ∧ len ≤ maxLen ∧ Fl w a xs := by
  rcases open_slice1 Try.underlying22 Try.cells28 h with ⟨hcs, _⟩ | ⟨a', len', cap', m, n, V, D, Pl, hcs, _, hl, hm, hmm, _, hx⟩
  · simp at hcs
    obtain ⟨rfl, rfl, rfl⟩ := hcs
    exact ⟨[], rfl, by omega, Or.inl rfl⟩
  · simp at hcs
    obtain ⟨rfl, rfl, rfl⟩ := hcs
    have hlm : len ≤ m := by rw [hmm]; split <;> omega
    obtain ⟨f, hf⟩ := choose_lt (α := Nat) (p := fun i b => w.cell? (a'.add i) = some (.float .f64 b)) (fun i hi => by
      obtain ⟨h1, h2⟩ := hx i (Nat.lt_of_lt_of_le hi hlm)
      obtain ⟨b, hb⟩ := trod_float h2
      exact ⟨b, by rw [h1, hb]⟩)
    refine ⟨(List.range len).map f, by simp, by omega, ?_⟩
    by_cases h0 : len = 0
    · exact Or.inl (by simp [h0])
    · obtain ⟨b, off, spot⟩ := a'
      have hs : spot = none := by simpa [Addr.add] using World.cell?_spot (hf 0 (by omega))
      subst hs
      refine Or.inr ⟨b, off, rfl, fun i hi => ?_⟩
      have hi' : i < len := by simpa using hi
      have := hf i hi'
      rw [add_plain] at this
      rw [this]
      simp [hi']
end

end Go.Proofs.Qxb6602348a
