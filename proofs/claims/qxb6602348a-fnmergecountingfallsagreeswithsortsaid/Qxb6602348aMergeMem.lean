/-
  mergeCountingFalls: ITS MEMORY between the steps ('MF').
-/
import Derived.Test.Qxb6602348aDown
namespace Go.Proofs.Qxb6602348a
open Go.RowKit Go.Deep Flt

theorem OC.below {w w' : World} {b B : Nat} {t : TypeId} {v : Value} (h : OC w b t v) (k : Below B w w') (hb : b < B) : OC w' b t v := h.of_block (k.block b hb)
theorem IR.below {w w' : World} {b B k : Nat} {xs : List Int} (h : IR w b xs k) (e : Below B w w') (hb : b < B) : IR w' b xs k := h.of_block (e.block b hb)
theorem NR.below {w w' : World} {b B k : Nat} {xs : List Nat} (h : NR w b xs k) (e : Below B w w') (hb : b < B) : NR w' b xs k := IR.below h e hb

/-- WHAT LIES IN MEMORY: the runs, next, heap, left; the caller's row that is filled. -/
structure MF (w0 w : World) (n0 b BN B5 BH B6 BL : Nat) (a : Option Addr) (ra : Option Addr) (cr : Nat) (rss : List (List Nat)) (nx H : List Nat) (f : List Int) (D : List Nat) : Prop where
  lw : LW w n0 B5 BN b n0 ra cr rss nx
  c6 : OC w B6 37 (.slice (some ⟨BH, 0, none⟩) H.length rss.length)
  hr : NR w BH H rss.length
  lr : IR w BL f f.length
  gr : Gr b n0 w0 w
  ch : n0 < BN ∧ BN < B5 ∧ B5 < BH ∧ BH < B6 ∧ B6 < BL
  ds : D.length = 0 ∨ (a = some ⟨b, 0, none⟩ ∧ b < n0 ∧ FR w b D)

section
variable {w0 w w' : World} {n0 b BN B5 BH B6 BL : Nat} {a : Option Addr} {ra : Option Addr} {cr : Nat} {rss : List (List Nat)} {nx H : List Nat} {f : List Int} {D : List Nat}

theorem ds_keep (h : D.length = 0 ∨ (a = some ⟨b, 0, none⟩ ∧ b < n0 ∧ FR w b D)) (e : b < n0 → w'.heap[b]? = w.heap[b]?) : D.length = 0 ∨ (a = some ⟨b, 0, none⟩ ∧ b < n0 ∧ FR w' b D) := by
  rcases h with h | ⟨h1, h2, h3⟩
  · exact Or.inl h
  · exact Or.inr ⟨h1, h2, h3.of_block (e h2)⟩

theorem MF.dr (h : MF w0 w n0 b BN B5 BH B6 BL a ra cr rss nx H f D) (k : Dr w w') : MF w0 w' n0 b BN B5 BH B6 BL a ra cr rss nx H f D := by
  obtain ⟨q, rfl⟩ := k
  exact ⟨h.lw.dr (dr0 q), h.c6.dr (dr0 q), h.hr.dr (dr0 q), h.lr.dr (dr0 q), h.gr.trans (Gr.dr (dr0 q)), h.ch, ds_keep h.ds fun _ => rfl⟩
theorem MF.left (h : MF w0 w n0 b BN B5 BH B6 BL a ra cr rss nx H f D) (k : Kp1 BL w w') {f' : List Int} (F : IR w' BL f' f'.length) : MF w0 w' n0 b BN B5 BH B6 BL a ra cr rss nx H f' D := by
  have := h.ch
  exact ⟨h.lw.kp k (by omega) (by omega) (by omega) (by omega), h.c6.kp1 k (by omega), h.hr.kp1 k (by omega), F, h.gr.trans (Gr.of1 k (by omega)), h.ch, ds_keep h.ds fun hb => k.block b (by omega)⟩
theorem MF.heap (h : MF w0 w n0 b BN B5 BH B6 BL a ra cr rss nx H f D) (k : Kp1 BH w w') {H' : List Nat} (F : NR w' BH H' rss.length) (hl : H'.length = H.length) : MF w0 w' n0 b BN B5 BH B6 BL a ra cr rss nx H' f D := by
  have := h.ch
  exact ⟨h.lw.kp k (by omega) (by omega) (by omega) (by omega), by rw [hl]; exact h.c6.kp1 k (by omega), F, h.lr.kp1 k (by omega), h.gr.trans (Gr.of1 k (by omega)), h.ch, ds_keep h.ds fun hb => k.block b (by omega)⟩
theorem MF.next (h : MF w0 w n0 b BN B5 BH B6 BL a ra cr rss nx H f D) (i v : Nat) : MF w0 (w.setCell ⟨BN, i, none⟩ (.int .i64 (v : Int))) n0 b BN B5 BH B6 BL a ra cr rss (nx.set i v) H f D := by
  have := h.ch
  have k := (Kp1.refl BN w).setCell i (.int .i64 (v : Int))
  refine ⟨⟨h.lw.c3.kp1 k (by omega), h.lw.c5.kp1 k (by omega), h.lw.nr.set i v, by rw [List.length_set]; exact h.lw.nl, h.lw.rn.gr (Gr.of1 k (by omega))⟩, h.c6.kp1 k (by omega), h.hr.kp1 k (by omega), h.lr.kp1 k (by omega), h.gr.trans (Gr.of1 k (by omega)), h.ch, ds_keep h.ds fun hb => k.block b (by omega)⟩
theorem MF.dst (h : MF w0 w n0 b BN B5 BH B6 BL a ra cr rss nx H f D) (hD : 0 < D.length) (i v : Nat) : MF w0 (w.setCell ⟨b, i, none⟩ (.float .f64 v)) n0 b BN B5 BH B6 BL a ra cr rss nx H f (D.set i v) := by
  have := h.ch
  have k := (Kp1.refl b w).setCell i (.float .f64 v)
  obtain ⟨h1, h2, h3⟩ := h.ds.resolve_left (by omega)
  exact ⟨h.lw.kp k (by omega) (by omega) (by omega) (by omega), h.c6.kp1 k (by omega), h.hr.kp1 k (by omega), h.lr.kp1 k (by omega), h.gr.trans (Gr.of1 k (by omega)), h.ch, Or.inr ⟨h1, h2, h3.set i v⟩⟩
theorem MF.size (h : MF w0 w n0 b BN B5 BH B6 BL a ra cr rss nx H f D) : BL < w.heap.size := h.lr.lt
theorem MF.new (h : MF w0 w n0 b BN B5 BH B6 BL a ra cr rss nx H f D) (k : Below w.heap.size w w') : MF w0 w' n0 b BN B5 BH B6 BL a ra cr rss nx H f D := by
  have := h.ch
  have hs := h.size
  have hg : Gr b n0 w w' := ⟨k.os, k.tape, k.output, k.size, fun i hi _ => k.block i (by omega)⟩
  exact ⟨⟨h.lw.c3.below k (by omega), h.lw.c5.below k (by omega), h.lw.nr.below k (by omega), h.lw.nl, h.lw.rn.gr hg⟩, h.c6.below k (by omega), h.hr.below k (by omega), h.lr.below k (by omega), h.gr.trans hg, h.ch, ds_keep h.ds fun hb => k.block b (by omega)⟩
theorem MF.push (h : MF w0 w n0 b BN B5 BH B6 BL a ra cr rss nx H f D) (k : w.grownBy w' (some BH)) {r : Nat} (F : NR w' BH (H ++ [r]) rss.length) : MF w0 (w'.setCell ⟨B6, 0, none⟩ (.slice (some ⟨BH, 0, none⟩) (H.length + 1) rss.length)) n0 b BN B5 BH B6 BL a ra cr rss nx (H ++ [r]) f D := by
  have := h.ch
  have hs := h.size
  have bl : ∀ i, i < w.heap.size → i ≠ BH → w'.heap[i]? = w.heap[i]? := fun i hi hne => k.block i hi (by simp; omega)
  have hg : Gr b n0 w w' := ⟨k.os, k.tape, k.output, k.size, fun i hi _ => bl i (by omega) (by omega)⟩
  have k2 := (Kp1.refl B6 w').setCell 0 (.slice (some ⟨BH, 0, none⟩) (H.length + 1) rss.length)
  have g2 : Gr b n0 w' (w'.setCell ⟨B6, 0, none⟩ (.slice (some ⟨BH, 0, none⟩) (H.length + 1) rss.length)) := Gr.of1 k2 (by omega)
  have l1 : LW w' n0 B5 BN b n0 ra cr rss nx := ⟨h.lw.c3.of_block (bl _ (by omega) (by omega)), h.lw.c5.of_block (bl _ (by omega) (by omega)), h.lw.nr.of_block (bl _ (by omega) (by omega)), h.lw.nl, h.lw.rn.gr hg⟩
  refine ⟨l1.kp k2 (by omega) (by omega) (by omega) (by omega), ?_, F.kp1 k2 (by omega), (h.lr.of_block (bl _ hs (by omega))).kp1 k2 (by omega), (h.gr.trans hg).trans g2, h.ch, ds_keep (ds_keep h.ds fun hb => bl b (by omega) (by omega)) fun hb => k2.block b (by omega)⟩
  have := (h.c6.of_block (bl B6 (by omega) (by omega))).set (.slice (some ⟨BH, 0, none⟩) (H.length + 1) rss.length)
  simpa using this
theorem MF.pop (h : MF w0 w n0 b BN B5 BH B6 BL a ra cr rss nx H f D) : MF w0 ((w.setCell ⟨BH, 0, none⟩ (.int .i64 ((H.getD (H.length - 1) 0 : Nat) : Int))).setCell ⟨B6, 0, none⟩ (.slice (some ⟨BH, 0, none⟩) (H.length - 1) rss.length)) n0 b BN B5 BH B6 BL a ra cr rss nx (pop H) f D := by
  have := h.ch
  have k1 := (Kp1.refl BH w).setCell 0 (.int .i64 ((H.getD (H.length - 1) 0 : Nat) : Int))
  have m1 := h.heap k1 (h.hr.set 0 (H.getD (H.length - 1) 0)) (by simp)
  have k2 := (Kp1.refl B6 (w.setCell ⟨BH, 0, none⟩ (.int .i64 ((H.getD (H.length - 1) 0 : Nat) : Int)))).setCell 0 (.slice (some ⟨BH, 0, none⟩) (H.length - 1) rss.length)
  refine ⟨m1.lw.kp k2 (by omega) (by omega) (by omega) (by omega), ?_, ?_, m1.lr.kp1 k2 (by omega), m1.gr.trans (Gr.of1 k2 (by omega)), h.ch, ds_keep m1.ds fun hb => k2.block b (by omega)⟩
  · rw [pop_length]; exact m1.c6.set _
  · exact (m1.hr.kp1 k2 (by omega)).take (H.length - 1)
end

theorem mrun_le (rss : List (List Nat)) {q : Nat} (h : q < rss.length) : (rss.getD q []).length ≤ (allR rss).length := by
  have h1 : ∀ k, q < k → (rss.getD q []).length ≤ (catN (fun q => rss.getD q []) k).length := by
    intro k
    induction k with
    | zero => intro h; omega
    | succ k ih =>
      intro h
      rw [catN, List.length_append]
      by_cases c : q = k
      · subst c; omega
      · have := ih (by omega); omega
  exact h1 _ h

/-- The tree's cells while the runs are counted: no count is great. -/
theorem BST.small {rss : List (List Nat)} {H : List Nat} {f : List Int} {r : Nat} (h : BST rss H f r) (ht : (allR rss).length ≤ 1048576) : ∀ i, 0 < i → i < f.length → -1048576 ≤ f.getD i 0 ∧ f.getD i 0 ≤ 1048576 := by
  have hp : ∀ j, 0 ≤ (fun q => if q < r then ((rss.getD q []).length : Int) else 0) j := fun j => by
    show 0 ≤ (if j < r then ((rss.getD j []).length : Int) else 0)
    split <;> omega
  have hle : ∀ n, sumN (fun q => if q < r then ((rss.getD q []).length : Int) else 0) n ≤ sumN (fun q => ((rss.getD q []).length : Int)) n := by
    intro n
    induction n with
    | zero => simp [sumN]
    | succ n ih =>
      simp only [sumN]
      split <;> omega
  have htot : ∀ n, n ≤ rss.length → sumN (fun q => ((rss.getD q []).length : Int)) n ≤ 1048576 := by
    intro n hn
    have h1 := sumN_mono (a := fun q => ((rss.getD q []).length : Int)) (fun j => by show 0 ≤ ((rss.getD j []).length : Int); omega) hn
    have h2 := catN_len (fun q => rss.getD q []) rss.length
    have h3 : ((allR rss).length : Int) = sumN (fun q => ((rss.getD q []).length : Int)) rss.length := h2
    omega
  intro i hi0 hi
  rw [h.fen i hi0 hi]
  have h1 := sumN_mono hp (n := i - lb i) (m := i) (by omega)
  have h2 := sumN_nonneg hp (i - lb i)
  have h3 := hle i
  have h4 := htot i (by have := h.flen; omega)
  omega
theorem MST.small {rss : List (List Nat)} {nx H : List Nat} {f : List Int} {i : Nat} {D : List Nat} {fl : Nat} (h : MST rss nx H f i D fl) (ht : (allR rss).length ≤ 1048576) : ∀ i, 0 < i → i < f.length → -1048576 ≤ f.getD i 0 ∧ f.getD i 0 ≤ 1048576 := by
  intro j hj0 hj
  have hl := h.flen
  rw [h.fen j hj0 hj]
  have hp : ∀ j, 0 ≤ cntR rss nx j := fun j => by simp [cntR]
  have h1 := sumN_mono hp (n := j - lb j) (m := j) (by omega)
  have h2 := h.sums j (by omega)
  have h3 := h.sums (j - lb j) (by omega)
  omega

end Go.Proofs.Qxb6602348a
