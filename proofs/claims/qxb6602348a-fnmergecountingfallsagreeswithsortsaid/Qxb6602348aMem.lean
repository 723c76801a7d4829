/-
  ROWS OF float64 THAT THE CALL ITSELF HAS MADE ('FR w b xs': block b holds the words xs, nothing frozen); make and copy as laws for the walk, the world behind them a variable.
-/
import Derived.Test.Qxb6602348aBase
import Derived.Deep.OwnRows
import Derived.Laws.CopyOwn
namespace Go.Proofs.Qxb6602348a
open Go.RowKit Go.Deep

theorem addr_add (b off i : Nat) : (⟨b, off, none⟩ : Addr).add i = ⟨b, off + i, none⟩ := by unfold Addr.add; split <;> simp_all

def fl (x : Nat) : Value := .float .f64 x

/-- BLOCK b IS A ROW OF THESE WORDS. -/
def FR (w : World) (b : Nat) (xs : List Nat) : Prop := w.heap[b]? = some (.cells (xs.map fl).toArray 28 (0, 0))

/-- ALL BUT BLOCK g IS AS IT WAS. -/
structure Kp1 (g : Nat) (w w' : World) : Prop where
  os : w'.os = w.os
  tape : w'.tape = w.tape
  output : w'.output = w.output
  size : w'.heap.size = w.heap.size
  block : ∀ k, k ≠ g → w'.heap[k]? = w.heap[k]?

theorem FR.cell {w : World} {b : Nat} {xs : List Nat} (h : FR w b xs) {i : Nat} (hi : i < xs.length) : w.cell? ⟨b, i, none⟩ = some (.float .f64 (xs.getD i 0)) := by
  unfold FR at h
  simp [World.cell?, h, hi, fl]
theorem FR.frozen {w : World} {b : Nat} {xs : List Nat} (h : FR w b xs) (i : Nat) : w.frozen? ⟨b, i, none⟩ = false := by
  unfold FR at h
  simp [World.frozen?, h]
theorem FR.lt {w : World} {b : Nat} {xs : List Nat} (h : FR w b xs) : b < w.heap.size := (Array.getElem?_eq_some_iff.1 h).1
theorem FR.set {w : World} {b : Nat} {xs : List Nat} (h : FR w b xs) (i v : Nat) : FR (w.setCell ⟨b, i, none⟩ (.float .f64 v)) b (xs.set i v) := by
  unfold FR at h ⊢
  simp [World.setCell, Array.getElem?_modify, h, List.map_set, fl]
theorem FR.of_block {w w' : World} {b : Nat} {xs : List Nat} (h : FR w b xs) (e : w'.heap[b]? = w.heap[b]?) : FR w' b xs := e.trans h
theorem FR.other {w : World} {b : Nat} {xs : List Nat} (h : FR w b xs) {a : Addr} (ha : b ≠ a.block) (v : Value) : FR (w.setCell a v) b xs := h.of_block (blk_setCell_other _ _ _ _ ha)
theorem FR.alloc {w : World} {b : Nat} {xs : List Nat} (h : FR w b xs) (o : Obj) : FR (w.alloc o) b xs := h.of_block (blk_alloc_lt _ _ _ h.lt)
theorem FR.kp1 {w w' : World} {b g : Nat} {xs : List Nat} (h : FR w b xs) (k : Kp1 g w w') (hb : b ≠ g) : FR w' b xs := h.of_block (k.block b hb)
theorem FR.below {w w' : World} {b B : Nat} {xs : List Nat} (h : FR w b xs) (k : Below B w w') (hb : b < B) : FR w' b xs := h.of_block (k.block b hb)
theorem FR.dr {w w' : World} {b : Nat} {xs : List Nat} (h : FR w b xs) (k : Dr w w') : FR w' b xs := by
  obtain ⟨q, rfl⟩ := k
  exact h

theorem FR.fl {w : World} {b : Nat} {xs : List Nat} (h : FR w b xs) : Fl w (some ⟨b, 0, none⟩) xs :=
  Or.inr ⟨b, 0, rfl, fun i hi => by rw [Nat.zero_add]; exact h.cell hi⟩

theorem Fl.below {w w' : World} {a : Option Addr} {xs : List Nat} (h : Fl w a xs) {B : Nat} (hb : Below B w w') (hB : w.heap.size ≤ B) : Fl w' a xs := by
  rcases h with h | ⟨b, off, rfl, hc⟩
  · exact Or.inl h
  · refine Or.inr ⟨b, off, rfl, fun i hi => ?_⟩
    have h1 := hc i hi
    have hlt : b < w.heap.size := by
      unfold World.cell? at h1
      cases hq : w.heap[b]? with
      | none => simp [hq] at h1
      | some o => exact (Array.getElem?_eq_some_iff.1 hq).1
    rw [hb.cell (p := ⟨b, off + i, none⟩) (by show b < B; omega)]
    exact h1
theorem Fl.dr {w w' : World} {a : Option Addr} {xs : List Nat} (h : Fl w a xs) (k : Dr w w') : Fl w' a xs := by
  obtain ⟨q, rfl⟩ := k
  exact h

theorem Dr.below {w w' : World} (h : Dr w w') (B : Nat) : Below B w w' := by
  obtain ⟨q, rfl⟩ := h
  exact ⟨rfl, rfl, rfl, Nat.le_refl _, fun _ _ => rfl⟩
theorem Dr.size {w w' : World} (h : Dr w w') : w'.heap.size = w.heap.size := by
  obtain ⟨q, rfl⟩ := h
  rfl
theorem Kp1.below {g : Nat} {w w' : World} (h : Kp1 g w w') {B : Nat} (hB : B ≤ g) : Below B w w' := ⟨h.os, h.tape, h.output, Nat.le_of_eq h.size.symm, fun k hk => h.block k (by omega)⟩
theorem Kp1.refl (g : Nat) (w : World) : Kp1 g w w := ⟨rfl, rfl, rfl, rfl, fun _ _ => rfl⟩
theorem Kp1.setCell {g : Nat} {w0 w : World} (h : Kp1 g w0 w) (i : Nat) (v : Value) : Kp1 g w0 (w.setCell ⟨g, i, none⟩ v) :=
  ⟨h.os, h.tape, h.output, by rw [nblk_setCell]; exact h.size, fun k hk => (blk_setCell_other _ _ _ _ hk).trans (h.block k hk)⟩
theorem Kp1.dr {g : Nat} {w0 w w' : World} (h : Kp1 g w0 w) (k : Dr w w') : Kp1 g w0 w' := by
  obtain ⟨q, rfl⟩ := k
  exact ⟨h.os, h.tape, h.output, h.size, h.block⟩
theorem Kp1.trans {g : Nat} {a b c : World} (h : Kp1 g a b) (k : Kp1 g b c) : Kp1 g a c :=
  ⟨k.os.trans h.os, k.tape.trans h.tape, k.output.trans h.output, k.size.trans h.size, fun i hi => (k.block i hi).trans (h.block i hi)⟩

theorem Try.info28 : (Try.prog.info? 28).map (fun i => (i.zero, i.size, i.bytes)) = some (some (.float .f64 0), 1, 8) := by kernel_rfl
theorem Try.size28 : (Try.prog.info? 28).map (·.size) = some 1 := by kernel_rfl

/-- 'make([]float64, n)'. -/
theorem make_law {w : World} {ops : Array Oper} {rest : List Oper} {o : Oper} {a : Act} {Q : Exit → Act → World → Prop}
    (hg : o.guard = none) (l c : Operand) (hop : o.op = Op.makeSlice 22 l c) (n : Nat) (hl : a.eval l = .int .i64 (n : Int)) (hc : a.eval c = .int .i64 (n : Int)) (hn : n ≤ 1048576)
    (hK : ∀ w', FR w' w.heap.size (List.replicate n 0) → Below w.heap.size w w' → w'.heap.size = w.heap.size + 1 → wpList Try.prog ops Q rest (a.put o.dst (.slice (some ⟨w.heap.size, 0, none⟩) n n)) w') :
    wpList Try.prog ops Q (o :: rest) a w := by
  obtain ⟨i, hi, hzz⟩ := Option.map_eq_some_iff.1 Try.info28
  simp only [Prod.mk.injEq] at hzz
  obtain ⟨hz, hs, hb⟩ := hzz
  refine wpList_make_row w hg l c 22 hop 28 i (.float .f64 0) Try.underlying22 hi hz hs rfl .i64 .i64 n hl hc (by rw [hb]; omega) (by omega) (hK _ ?_ ?_ ?_)
  · show (w.alloc _).heap[w.heap.size]? = _
    rw [blk_alloc_new]
    congr 2
    have := toList_madeCells_one (.float .f64 0) n
    rw [← Array.toArray_toList (xs := madeCells #[Value.float .f64 0] n), this]
    simp [fl]
  · exact (Below.refl _ _).alloc (Nat.le_refl _) _
  · rw [nblk_alloc]

/-- 'copy(dst, src)', dst in a row of the call's own. -/
theorem copy_law {w : World} {ops : Array Oper} {rest : List Oper} {o : Oper} {a : Act} {Q : Exit → Act → World → Prop} (hgd : o.guard = none) (d s : Operand)
    (ho : o.op = .call { callee := .builtin .copy, args := #[d, s], argTypes := #[22, 22] })
    (dp sp : Option Addr) (dLen dCap sLen sCap : Nat) (hd : a.eval d = .slice dp dLen dCap) (hs : a.eval s = .slice sp sLen sCap)
    (g off : Nat) (cur src : List Nat) (hg : FR w g cur) (hF : Fl w sp src) (hsl : src.length = sLen) (hdp : 0 < min sLen dLen → dp = some ⟨g, off, none⟩) (hfit : off + min sLen dLen ≤ cur.length)
    (h : ∀ w', FR w' g (splice cur off (src.take (min sLen dLen))) → Kp1 g w w' → wpList Try.prog ops Q rest (a.put o.dst (.int .i64 ((min sLen dLen : Nat) : Int))) w') : wpList Try.prog ops Q (o :: rest) a w := by
  have hlen : ((src.take (min sLen dLen)).map fl).length = min sLen dLen := by simp; omega
  by_cases h0 : min sLen dLen = 0
  · refine wpList_copy_nothing hgd d s 22 22 ho 28 Try.underlying22 Try.size28 dp sp dLen dCap sLen sCap hd hs h0 ?_
    have := h w (by rw [h0]; simpa [splice] using hg) (Kp1.refl _ _)
    rw [h0] at this
    exact this
  · obtain rfl := hdp (by omega)
    obtain ⟨b, so, rfl, hc⟩ := hF.resolve_left (by omega)
    refine wpList_copy_own hgd d s 22 22 ho 28 Try.underlying22 Try.size28 g off dLen dCap ⟨b, so, none⟩ sLen sCap hd hs (cur.map fl).toArray 28 hg ((src.take (min sLen dLen)).map fl) hlen ?_ (by rw [hlen]; simpa using hfit) ?_ ?_
    · intro j v hj
      obtain ⟨hjl, rfl⟩ := List.getElem?_eq_some_iff.1 hj
      simp only [List.length_map, List.length_take] at hjl
      have := hc j (by omega)
      rw [addr_add, this]
      have hj' : j < src.length := by omega
      simp [fl, hj']
    · intro v hv
      obtain ⟨x, _, rfl⟩ := List.mem_map.1 hv
      rfl
    · rw [hlen]
      refine h _ ?_ ?_
      · show _ = _
        rw [setRow_heap w g _ _ 28 _ hg]
        congr 2
        simp [splice, List.map_take, List.map_drop]
        omega
      · exact ⟨rfl, rfl, rfl, by simp [World.setRow], fun k hk => setRow_other w g k _ hk⟩

/-- A store of a float (the kit has this law for integers, bools, pointers, slices, strings). -/
theorem run_store_float {P : Program} {w : World} {a : Addr} {m : Mode} (k : FloatKind) (n : Nat) : (store a (.float k n) m).run P w = stored P w a (.float k n) m := run_store P w a _ m rfl

theorem splice_all (cur src : List Nat) (n : Nat) (h1 : cur.length = n) (h2 : src.length = n) : splice cur 0 (src.take (min n n)) = src := by
  rw [Nat.min_self, List.take_of_length_le (by omega)]
  simp [splice]
  omega

theorem splice_same (cur src : List Nat) (h : cur.length = src.length) : splice cur 0 src = src := by
  simp [splice]
  omega

end Go.Proofs.Qxb6602348a
