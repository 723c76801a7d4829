/-
  RUNS THAT CAME IN: a slice of slices of float64, opened; the law's bound on their lengths (zzBytes), walked.
-/
import Derived.Test.Qxb6602348aMemI
import Derived.Test.Qxb6602348aOpen
import Derived.Test.Qxb6602348aFenWalk
import Derived.Test.Qxb6602348aKWay
import Derived.Test.Qxb6602348aSmallB
namespace Go.Proofs.Qxb6602348a
open Go.ChangeShapes Go.WideShapes Go.ChangeAt Go.RowKit Go.Deep Flt

/-- The runs as they lie in memory. -/
def RP (w : World) (a : Option Addr) (rss : List (List Nat)) : Prop :=
  rss.length = 0 ∨ ∃ A off, a = some ⟨A, off, none⟩ ∧ ∀ r, r < rss.length → ∃ sr cr, w.cell? ⟨A, off + r, none⟩ = some (.slice sr (rss.getD r []).length cr) ∧ Fl w sr (rss.getD r [])

theorem RP.below {w w' : World} {a : Option Addr} {rss : List (List Nat)} (h : RP w a rss) {B : Nat} (hb : Below B w w') (hB : w.heap.size ≤ B) : RP w' a rss := by
  rcases h with h | ⟨A, off, rfl, hc⟩
  · exact Or.inl h
  · refine Or.inr ⟨A, off, rfl, fun r hr => ?_⟩
    obtain ⟨sr, cr, h1, h2⟩ := hc r hr
    exact ⟨sr, cr, by rw [cell_block (hb.block A (by have := cell_lt h1; omega))]; exact h1, h2.below hb hB⟩
theorem RP.dr {w w' : World} {a : Option Addr} {rss : List (List Nat)} (h : RP w a rss) (k : Dr w w') : RP w' a rss := by
  obtain ⟨q, rfl⟩ := k
  exact h
theorem RP.rn {w w' : World} {a : Option Addr} {rss : List (List Nat)} (h : RP w a rss) (k : Below w.heap.size w w') {b : Nat} (hb : w.heap.size ≤ b) : RN w' b w'.heap.size a rss := by
  have hs := k.size
  rcases h with h | ⟨A, off, rfl, hc⟩
  · exact Or.inl h
  · by_cases c : rss.length = 0
    · exact Or.inl c
    · have hA : A < w.heap.size := by
        obtain ⟨sr, cr, h1, _⟩ := hc 0 (by omega)
        exact cell_lt h1
      refine Or.inr ⟨A, off, rfl, by omega, fun r hr => ?_⟩
      obtain ⟨sr, cr, h1, h2⟩ := hc r hr
      refine ⟨sr, cr, by rw [cell_block (k.block A hA)]; exact h1, ?_⟩
      rcases h2.x (b := b) (n := w'.heap.size) hb hs with h | ⟨bb, o, rfl, h3, h4⟩
      · exact Or.inl h
      · by_cases c2 : (rss.getD r []).length = 0
        · exact Or.inl c2
        · refine Or.inr ⟨bb, o, rfl, h3, fun i hi => ?_⟩
          rw [cell_block (k.block bb (cell_lt (h4 i hi)))]
          exact h4 i hi

theorem Try.cells32 : Try.prog.cellsOf 32 = 1 := by kernel_rfl

section
variable {H : Type} {enc : TypeId × Value → H} {w : World} {base : Nat} {spare : Nat → Bool} {held : Bool}
theorem trod_slice22 {fuel : Nat} {v : Value} {x : DataW H × List MemPlace} (h : DataW.trod enc Try.prog w base spare held fuel 22 [v] = some x) : ∃ a len cap, v = .slice a len cap := by
  cases fuel with
  | zero => simp [DataW.trod] at h
  | succ n =>
    simp only [DataW.trod, Try.underlying22] at h
    cases v <;> simp at h
    exact ⟨_, _, _, rfl⟩
theorem open_runs {a : Option Addr} {len cap fuel : Nat} {x : DataW H × List MemPlace} (h : DataW.trod enc Try.prog w base spare held fuel 32 [.slice a len cap] = some x) :
    ∃ rss : List (List Nat), rss.length = len ∧ RP w a rss := by
  rcases open_slice1 Try.underlying32 Try.cells22 h with ⟨hcs, _⟩ | ⟨a', len', cap', m, n, V, D, Pl, hcs, _, hl, hm, hmm, _, hx⟩
  · simp at hcs
    obtain ⟨rfl, rfl, rfl⟩ := hcs
    exact ⟨[], rfl, Or.inl rfl⟩
  · simp at hcs
    obtain ⟨rfl, rfl, rfl⟩ := hcs
    have hlm : len ≤ m := by rw [hmm]; split <;> omega
    obtain ⟨f, hf⟩ := choose_lt (α := List Nat) (p := fun i xs => ∃ sr cr, w.cell? (a'.add i) = some (.slice sr xs.length cr) ∧ Fl w sr xs) (fun i hi => by
      obtain ⟨h1, h2⟩ := hx i (Nat.lt_of_lt_of_le hi hlm)
      obtain ⟨sr, lr, cr, hv⟩ := trod_slice22 h2
      rw [hv] at h1 h2
      obtain ⟨xs, rfl, _, hF⟩ := open_fl_cells h2
      exact ⟨xs, sr, cr, h1, hF⟩)
    refine ⟨(List.range len).map f, by simp, ?_⟩
    by_cases h0 : len = 0
    · exact Or.inl (by simp [h0])
    · obtain ⟨b, off, spot⟩ := a'
      have hs : spot = none := by
        obtain ⟨sr, cr, h1, _⟩ := hf 0 (by omega)
        simpa [Addr.add] using World.cell?_spot h1
      subst hs
      refine Or.inr ⟨b, off, rfl, fun i hi => ?_⟩
      have hi' : i < len := by simpa using hi
      obtain ⟨sr, cr, h1, h2⟩ := hf i hi'
      rw [add_plain] at h1
      have e : ((List.range len).map f).getD i [] = f i := by simp [hi']
      rw [e]
      exact ⟨sr, cr, h1, h2⟩
end
end Go.Proofs.Qxb6602348a
