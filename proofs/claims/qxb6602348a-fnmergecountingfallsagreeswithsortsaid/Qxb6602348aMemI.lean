/-
  ROWS OF int THAT THE CALL ITSELF HAS MADE ('IR w b xs k': block b has k cells, the first of them are xs), cells of one value ('OC'); make and append as laws for the walk; the runs as they lie in memory ('RN').
-/
import Derived.Test.Qxb6602348aMem
import Derived.Test.Qxb6602348aFen
import Derived.OwnWalk
namespace Go.Proofs.Qxb6602348a
open Go.RowKit Go.Deep

def iv (x : Int) : Value := .int .i64 x
def IR (w : World) (b : Nat) (xs : List Int) (k : Nat) : Prop :=
  ∃ cur : Array Value, w.heap[b]? = some (.cells cur 3 (0, 0)) ∧ cur.size = k ∧ xs.length ≤ k ∧ cur.toList.take xs.length = xs.map iv
/-- The same, of natural numbers. -/
def NR (w : World) (b : Nat) (xs : List Nat) (k : Nat) : Prop := IR w b (xs.map Int.ofNat) k
/-- Block b is one cell that holds v. -/
def OC (w : World) (b : Nat) (t : TypeId) (v : Value) : Prop := w.heap[b]? = some (.cells #[v] t (0, 0))

theorem IR.cell {w : World} {b k : Nat} {xs : List Int} (h : IR w b xs k) {i : Nat} (hi : i < xs.length) : w.cell? ⟨b, i, none⟩ = some (.int .i64 (xs.getD i 0)) := by
  obtain ⟨cur, h1, h2, h3, h4⟩ := h
  have h5 : (cur.toList.take xs.length)[i]? = some (iv (xs.getD i 0)) := by rw [h4]; simp [hi]
  rw [List.getElem?_take, if_pos hi] at h5
  have h6 : cur[i]? = some (iv (xs.getD i 0)) := by rw [← h5]; simp
  simp [World.cell?, h1, h6, iv]
theorem IR.frozen {w : World} {b k : Nat} {xs : List Int} (h : IR w b xs k) (i : Nat) : w.frozen? ⟨b, i, none⟩ = false := by
  obtain ⟨cur, h1, _⟩ := h
  simp [World.frozen?, h1]
theorem IR.lt {w : World} {b k : Nat} {xs : List Int} (h : IR w b xs k) : b < w.heap.size := by
  obtain ⟨cur, h1, _⟩ := h
  exact (Array.getElem?_eq_some_iff.1 h1).1
theorem IR.of_block {w w' : World} {b k : Nat} {xs : List Int} (h : IR w b xs k) (e : w'.heap[b]? = w.heap[b]?) : IR w' b xs k := by
  obtain ⟨cur, h1, h2⟩ := h
  exact ⟨cur, e.trans h1, h2⟩
theorem IR.set {w : World} {b k : Nat} {xs : List Int} (h : IR w b xs k) (i : Nat) (v : Int) : IR (w.setCell ⟨b, i, none⟩ (.int .i64 v)) b (xs.set i v) k := by
  obtain ⟨cur, h1, h2, h3, h4⟩ := h
  refine ⟨cur.setIfInBounds i (.int .i64 v), ?_, by simpa using h2, by simpa using h3, ?_⟩
  · simp [World.setCell, Array.getElem?_modify, h1]
  · rw [List.length_set, Array.toList_setIfInBounds, List.take_set, h4, List.map_set]
    rfl
theorem IR.take {w : World} {b k : Nat} {xs : List Int} (h : IR w b xs k) (n : Nat) : IR w b (xs.take n) k := by
  obtain ⟨cur, h1, h2, h3, h4⟩ := h
  refine ⟨cur, h1, h2, by simp; omega, ?_⟩
  rw [List.map_take, ← h4, List.take_take, List.length_take]
theorem IR.other {w : World} {b k : Nat} {xs : List Int} (h : IR w b xs k) {a : Addr} (ha : b ≠ a.block) (v : Value) : IR (w.setCell a v) b xs k := h.of_block (blk_setCell_other _ _ _ _ ha)
theorem IR.kp1 {w w' : World} {b g k : Nat} {xs : List Int} (h : IR w b xs k) (e : Kp1 g w w') (hb : b ≠ g) : IR w' b xs k := h.of_block (e.block b hb)
theorem IR.dr {w w' : World} {b k : Nat} {xs : List Int} (h : IR w b xs k) (e : Dr w w') : IR w' b xs k := by
  obtain ⟨q, rfl⟩ := e
  exact h

theorem NR.cell {w : World} {b k : Nat} {xs : List Nat} (h : NR w b xs k) {i : Nat} (hi : i < xs.length) : w.cell? ⟨b, i, none⟩ = some (.int .i64 ((xs.getD i 0 : Nat) : Int)) := by
  have := IR.cell h (i := i) (by simpa using hi)
  rw [this]
  simp [hi]
theorem NR.frozen {w : World} {b k : Nat} {xs : List Nat} (h : NR w b xs k) (i : Nat) : w.frozen? ⟨b, i, none⟩ = false := IR.frozen h i
theorem NR.lt {w : World} {b k : Nat} {xs : List Nat} (h : NR w b xs k) : b < w.heap.size := IR.lt h
theorem NR.len {w : World} {b k : Nat} {xs : List Nat} (h : NR w b xs k) : xs.length ≤ k := by
  obtain ⟨_, _, _, h3, _⟩ := h
  simpa using h3
theorem NR.set {w : World} {b k : Nat} {xs : List Nat} (h : NR w b xs k) (i v : Nat) : NR (w.setCell ⟨b, i, none⟩ (.int .i64 (v : Int))) b (xs.set i v) k := by
  have := IR.set h i (v : Int)
  unfold NR
  rw [List.map_set]
  exact this
theorem NR.take {w : World} {b k : Nat} {xs : List Nat} (h : NR w b xs k) (n : Nat) : NR w b (xs.take n) k := by
  have := IR.take h n
  unfold NR
  rw [List.map_take]
  exact this
theorem NR.of_block {w w' : World} {b k : Nat} {xs : List Nat} (h : NR w b xs k) (e : w'.heap[b]? = w.heap[b]?) : NR w' b xs k := IR.of_block h e
theorem NR.other {w : World} {b k : Nat} {xs : List Nat} (h : NR w b xs k) {a : Addr} (ha : b ≠ a.block) (v : Value) : NR (w.setCell a v) b xs k := IR.other h ha v
theorem NR.kp1 {w w' : World} {b g k : Nat} {xs : List Nat} (h : NR w b xs k) (e : Kp1 g w w') (hb : b ≠ g) : NR w' b xs k := IR.kp1 h e hb
theorem NR.dr {w w' : World} {b k : Nat} {xs : List Nat} (h : NR w b xs k) (e : Dr w w') : NR w' b xs k := IR.dr h e

theorem OC.cell {w : World} {b : Nat} {t : TypeId} {v : Value} (h : OC w b t v) : w.cell? ⟨b, 0, none⟩ = some v := cell_of_one h
theorem OC.frozen {w : World} {b : Nat} {t : TypeId} {v : Value} (h : OC w b t v) : w.frozen? ⟨b, 0, none⟩ = false := free_of_one h
theorem OC.lt {w : World} {b : Nat} {t : TypeId} {v : Value} (h : OC w b t v) : b < w.heap.size := lt_of_block h
theorem OC.set {w : World} {b : Nat} {t : TypeId} {v : Value} (h : OC w b t v) (u : Value) : OC (w.setCell ⟨b, 0, none⟩ u) b t u := one_setCell h
theorem OC.of_block {w w' : World} {b : Nat} {t : TypeId} {v : Value} (h : OC w b t v) (e : w'.heap[b]? = w.heap[b]?) : OC w' b t v := e.trans h
theorem OC.other {w : World} {b : Nat} {t : TypeId} {v : Value} (h : OC w b t v) {a : Addr} (ha : b ≠ a.block) (u : Value) : OC (w.setCell a u) b t v := h.of_block (blk_setCell_other _ _ _ _ ha)
theorem OC.kp1 {w w' : World} {b g : Nat} {t : TypeId} {v : Value} (h : OC w b t v) (e : Kp1 g w w') (hb : b ≠ g) : OC w' b t v := h.of_block (e.block b hb)
theorem OC.dr {w w' : World} {b : Nat} {t : TypeId} {v : Value} (h : OC w b t v) (e : Dr w w') : OC w' b t v := by
  obtain ⟨q, rfl⟩ := e
  exact h

theorem Try.info3 : (Try.prog.info? 3).map (fun i => (i.zero, i.size, i.bytes)) = some (some (.int .i64 0), 1, 8) := by kernel_rfl

/-- 'make([]int, n)', 'make(fenwick, n)'. -/
theorem makeI_law {w : World} {ops : Array Oper} {rest : List Oper} {o : Oper} {a : Act} {Q : Exit → Act → World → Prop}
    (hg : o.guard = none) (l c : Operand) (t : TypeId) (hop : o.op = Op.makeSlice t l c) (ht : Try.prog.underlying t = some (.slice 3)) (n : Nat) (hl : a.eval l = .int .i64 (n : Int)) (hc : a.eval c = .int .i64 (n : Int)) (hn : n ≤ 1048576)
    (hK : ∀ w', IR w' w.heap.size (List.replicate n 0) n → Below w.heap.size w w' → w'.heap.size = w.heap.size + 1 → wpList Try.prog ops Q rest (a.put o.dst (.slice (some ⟨w.heap.size, 0, none⟩) n n)) w') :
    wpList Try.prog ops Q (o :: rest) a w := by
  obtain ⟨i, hi, hzz⟩ := Option.map_eq_some_iff.1 Try.info3
  simp only [Prod.mk.injEq] at hzz
  obtain ⟨hz, hs, hb⟩ := hzz
  refine wpList_make_row w hg l c t hop 3 i (.int .i64 0) ht hi hz hs rfl .i64 .i64 n hl hc (by rw [hb]; omega) (by omega) (hK _ ?_ ?_ ?_)
  · refine ⟨_, blk_alloc_new _ _, ?_, by simp, ?_⟩
    · rw [← Array.length_toList, toList_madeCells_one]; simp
    · rw [toList_madeCells_one]; simp [iv]
  · exact (Below.refl _ _).alloc (Nat.le_refl _) _
  · rw [nblk_alloc]

/-- 'make([]int, 0, n)'. -/
theorem makeC_law {w : World} {ops : Array Oper} {rest : List Oper} {o : Oper} {a : Act} {Q : Exit → Act → World → Prop}
    (hg : o.guard = none) (l c : Operand) (hop : o.op = Op.makeSlice 37 l c) (n : Nat) (hl : a.eval l = .int .i64 0) (hc : a.eval c = .int .i64 (n : Int)) (hn : n ≤ 1048576)
    (hK : ∀ w', NR w' w.heap.size [] n → Below w.heap.size w w' → w.heap.size + 1 ≤ w'.heap.size → wpList Try.prog ops Q rest (a.put o.dst (.slice (some ⟨w.heap.size, 0, none⟩) 0 n)) w') :
    wpList Try.prog ops Q (o :: rest) a w := by
  obtain ⟨i, hi, hzz⟩ := Option.map_eq_some_iff.1 Try.info3
  simp only [Prod.mk.injEq] at hzz
  obtain ⟨hz, hs, hb⟩ := hzz
  refine wpList_make_own w hg l c 37 hop w.heap.size 3 i (.int .i64 0) 1 Try.underlying37 hi hz hs .i64 .i64 n n hl hc rfl (by rw [hb]; omega) (by simp only [maxLen]; omega) (Nat.le_refl _) ?_
  intro w' h1 h2
  have h3 : NR w' w.heap.size [] n := by
    rcases h1.2 with ⟨h, _⟩ | ⟨g, cap, cur, e, _, hh, _, _, hcs, _⟩
    · simp at h
    · simp only [Value.slice.injEq, Option.some.injEq, Addr.mk.injEq, and_true, true_and] at e
      obtain ⟨rfl, rfl⟩ := e
      exact ⟨cur, hh, by omega, by simp, by simp⟩
  exact hK w' h3 ⟨h2.os, h2.tape, h2.output, h2.size, fun k hk => h2.block k hk (by simp)⟩ h3.lt

/-- 'append(s, x)' where there is room. -/
theorem appendI_law {w : World} {ops : Array Oper} {rest : List Oper} {o : Oper} {a : Act} {Q : Exit → Act → World → Prop}
    (hg : o.guard = none) (s x : Operand) (hop : o.op = Op.call { callee := Callee.builtin Builtin.append, args := #[s, x], argTypes := #[37, 37] })
    (g n k : Nat) (H : List Nat) (hs : a.eval s = .slice (some ⟨g, 0, none⟩) n k) (hH : NR w g H k) (hn : H.length = n) (ad : Addr) (c r : Nat) (hx : a.eval x = .slice (some ad) 1 c) (hc : w.cell? (ad.add 0) = some (.int .i64 (r : Int))) (hroom : n + 1 ≤ k) (hk : k ≤ 1048576)
    (hK : ∀ w', NR w' g (H ++ [r]) k → w.grownBy w' (some g) → wpList Try.prog ops Q rest (a.put o.dst (.slice (some ⟨g, 0, none⟩) (n + 1) k)) w') :
    wpList Try.prog ops Q (o :: rest) a w := by
  subst hn
  obtain ⟨i, hi, hzz⟩ := Option.map_eq_some_iff.1 Try.info3
  simp only [Prod.mk.injEq] at hzz
  obtain ⟨hz, hs1, hb⟩ := hzz
  obtain ⟨cur, h1, h2, h3, h4⟩ := hH
  simp only [List.length_map] at h3 h4
  have hown : w.ownsRow 0 3 1 (.slice (some ⟨g, 0, none⟩) H.length k) H.length ((H.map Int.ofNat).map iv) :=
    ⟨by simp, Or.inr ⟨g, k, cur, rfl, Nat.zero_le _, h1, h3, by simp only [maxLen]; omega, by omega, by rw [Nat.mul_one]; exact h4⟩⟩
  refine wpList_append_fits w hg s x 37 hop 0 3 i 1 Try.underlying37 hi hs1 g H.length k _ hs hown ad 1 c [.int .i64 (r : Int)] hx rfl ?_ ?_ hroom ?_
  · intro j u hj
    obtain rfl : j = 0 := by
      have := (List.getElem?_eq_some_iff.1 hj).1
      simp at this
      omega
    simp at hj
    rw [hc, hj]
  · intro u hu
    simp at hu
    subst hu
    rfl
  · intro w' k1 k2
    refine hK w' ?_ k2
    rcases k1.2 with ⟨h, _⟩ | ⟨g', cap, cur', e, _, hh, hle, _, hcs, ht⟩
    · simp at h
    · simp only [Value.slice.injEq, Option.some.injEq, Addr.mk.injEq, and_true, true_and] at e
      obtain ⟨rfl, rfl⟩ := e
      refine ⟨cur', hh, by omega, by simpa using hle, ?_⟩
      rw [Nat.mul_one] at ht
      simp only [List.map_append, List.length_append, List.length_map, List.length_cons, List.length_nil, List.map_cons, List.map_nil] at ht ⊢
      rw [ht]
      rfl

/-- ALL THAT WAS THERE IS AS IT WAS BUT FOR BLOCK b; there may be more. -/
structure Gr (b n : Nat) (w w' : World) : Prop where
  os : w'.os = w.os
  tape : w'.tape = w.tape
  output : w'.output = w.output
  size : w.heap.size ≤ w'.heap.size
  block : ∀ k, k < n → k ≠ b → w'.heap[k]? = w.heap[k]?
theorem Gr.refl (b n : Nat) (w : World) : Gr b n w w := ⟨rfl, rfl, rfl, Nat.le_refl _, fun _ _ _ => rfl⟩
theorem Gr.trans {b n : Nat} {u v w : World} (h : Gr b n u v) (k : Gr b n v w) : Gr b n u w :=
  ⟨k.os.trans h.os, k.tape.trans h.tape, k.output.trans h.output, Nat.le_trans h.size k.size, fun i h1 h2 => (k.block i h1 h2).trans (h.block i h1 h2)⟩
theorem Gr.of1 {b n : Nat} {w w' : World} {g : Nat} (h : Kp1 g w w') (hg : g = b ∨ n ≤ g) : Gr b n w w' := ⟨h.os, h.tape, h.output, Nat.le_of_eq h.size.symm, fun k h1 h2 => h.block k (by omega)⟩
theorem Gr.setCell {b n : Nat} {w : World} {g : Nat} (hg : g = b ∨ n ≤ g) (i : Nat) (v : Value) : Gr b n w (w.setCell ⟨g, i, none⟩ v) := Gr.of1 ((Kp1.refl g w).setCell i v) hg
theorem Gr.dr {b n : Nat} {w w' : World} (h : Dr w w') : Gr b n w w' := by
  obtain ⟨q, rfl⟩ := h
  exact ⟨rfl, rfl, rfl, Nat.le_refl _, fun _ _ _ => rfl⟩
theorem Gr.below {b n : Nat} {w w' : World} (h : Below n w w') : Gr b n w w' := ⟨h.os, h.tape, h.output, h.size, fun k h1 _ => h.block k h1⟩
theorem Gr.grown {b n : Nat} {w w' : World} {g : Nat} (h : w.grownBy w' (some g)) (hg : n ≤ g) (hn : n ≤ w.heap.size) : Gr b n w w' := ⟨h.os, h.tape, h.output, h.size, fun k h1 _ => h.block k (by omega) (by simp; omega)⟩

/-- A slice of floats that does not lie in block b, nor in n or behind it. -/
def FlX (w : World) (b n : Nat) (a : Option Addr) (xs : List Nat) : Prop :=
  xs.length = 0 ∨ ∃ bb off, a = some ⟨bb, off, none⟩ ∧ (bb ≠ b ∧ bb < n) ∧ ∀ i, i < xs.length → w.cell? ⟨bb, off + i, none⟩ = some (.float .f64 (xs.getD i 0))
/-- The runs, none of them in block b, nor in n or behind it. -/
def RN (w : World) (b n : Nat) (a : Option Addr) (rss : List (List Nat)) : Prop :=
  rss.length = 0 ∨ ∃ A off, a = some ⟨A, off, none⟩ ∧ (A ≠ b ∧ A < n) ∧ ∀ r, r < rss.length → ∃ sr cr, w.cell? ⟨A, off + r, none⟩ = some (.slice sr (rss.getD r []).length cr) ∧ FlX w b n sr (rss.getD r [])

theorem cell_lt {w : World} {b o : Nat} {v : Value} (h : w.cell? ⟨b, o, none⟩ = some v) : b < w.heap.size := by
  unfold World.cell? at h
  cases hq : w.heap[b]? with
  | none => simp [hq] at h
  | some o => exact (Array.getElem?_eq_some_iff.1 hq).1
theorem cell_block {w w' : World} {b o : Nat} (e : w'.heap[b]? = w.heap[b]?) : w'.cell? ⟨b, o, none⟩ = w.cell? ⟨b, o, none⟩ := by
  simp [World.cell?, e]

theorem FlX.gr {w w' : World} {b n : Nat} {a : Option Addr} {xs : List Nat} (h : FlX w b n a xs) (k : Gr b n w w') : FlX w' b n a xs := by
  rcases h with h | ⟨bb, off, rfl, hb, hc⟩
  · exact Or.inl h
  · refine Or.inr ⟨bb, off, rfl, hb, fun i hi => ?_⟩
    rw [cell_block (k.block bb hb.2 hb.1)]
    exact hc i hi
theorem RN.gr {w w' : World} {b n : Nat} {a : Option Addr} {rss : List (List Nat)} (h : RN w b n a rss) (k : Gr b n w w') : RN w' b n a rss := by
  rcases h with h | ⟨A, off, rfl, hb, hc⟩
  · exact Or.inl h
  · refine Or.inr ⟨A, off, rfl, hb, fun r hr => ?_⟩
    obtain ⟨sr, cr, h1, h2⟩ := hc r hr
    exact ⟨sr, cr, by rw [cell_block (k.block A hb.2 hb.1)]; exact h1, h2.gr k⟩
theorem FlX.fl {w : World} {b n : Nat} {a : Option Addr} {xs : List Nat} (h : FlX w b n a xs) : Fl w a xs := by
  rcases h with h | ⟨bb, off, rfl, hb, hc⟩
  · exact Or.inl h
  · exact Or.inr ⟨bb, off, rfl, hc⟩
theorem Fl.x {w : World} {a : Option Addr} {xs : List Nat} (h : Fl w a xs) {b n : Nat} (hb : w.heap.size ≤ b) (hn : w.heap.size ≤ n) : FlX w b n a xs := by
  rcases h with h | ⟨bb, off, rfl, hc⟩
  · exact Or.inl h
  · by_cases c : xs.length = 0
    · exact Or.inl c
    · exact Or.inr ⟨bb, off, rfl, by have := cell_lt (hc 0 (by omega)); omega, hc⟩

end Go.Proofs.Qxb6602348a
