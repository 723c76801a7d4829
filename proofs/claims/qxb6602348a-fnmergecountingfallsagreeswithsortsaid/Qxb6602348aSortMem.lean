/-
  sortCountingFalls: two rows of the call's own; copy inside a region that draws; what holds between the passes.
-/
import Derived.Test.Qxb6602348aMem
import Derived.Test.Qxb6602348aSrtParts
import Derived.Deep.RegionLaw
import Derived.LaidEql
namespace Go.Proofs.Qxb6602348a
open Go.RowKit Go.Deep Flt

/-- ALL BUT THE BLOCKS b1, b2 IS AS IT WAS. -/
structure Kp2 (b1 b2 : Nat) (w w' : World) : Prop where
  os : w'.os = w.os
  tape : w'.tape = w.tape
  output : w'.output = w.output
  size : w'.heap.size = w.heap.size
  block : ∀ k, k ≠ b1 → k ≠ b2 → w'.heap[k]? = w.heap[k]?

theorem Kp2.refl (b1 b2 : Nat) (w : World) : Kp2 b1 b2 w w := ⟨rfl, rfl, rfl, rfl, fun _ _ _ => rfl⟩
theorem Kp2.of1 {b1 b2 : Nat} {w w' : World} (h : Kp1 b1 w w') : Kp2 b1 b2 w w' := ⟨h.os, h.tape, h.output, h.size, fun k h1 _ => h.block k h1⟩
theorem Kp2.then {b1 b2 g : Nat} {w0 w w' : World} (h : Kp2 b1 b2 w0 w) (k : Kp1 g w w') (hg : g = b1 ∨ g = b2) : Kp2 b1 b2 w0 w' :=
  ⟨k.os.trans h.os, k.tape.trans h.tape, k.output.trans h.output, k.size.trans h.size, fun i h1 h2 => (k.block i (by rcases hg with rfl | rfl <;> assumption)).trans (h.block i h1 h2)⟩
theorem Kp2.setCell {b1 b2 g : Nat} {w0 w : World} (h : Kp2 b1 b2 w0 w) (hg : g = b1 ∨ g = b2) (i : Nat) (v : Value) : Kp2 b1 b2 w0 (w.setCell ⟨g, i, none⟩ v) := h.then ((Kp1.refl g w).setCell i v) hg
theorem Kp2.dr {b1 b2 : Nat} {w0 w w' : World} (h : Kp2 b1 b2 w0 w) (k : Dr w w') : Kp2 b1 b2 w0 w' := by
  obtain ⟨q, rfl⟩ := k
  exact ⟨h.os, h.tape, h.output, h.size, h.block⟩
theorem Kp2.trans {b1 b2 : Nat} {a b c : World} (h : Kp2 b1 b2 a b) (k : Kp2 b1 b2 b c) : Kp2 b1 b2 a c :=
  ⟨k.os.trans h.os, k.tape.trans h.tape, k.output.trans h.output, k.size.trans h.size, fun i h1 h2 => (k.block i h1 h2).trans (h.block i h1 h2)⟩
theorem Kp2.below {b1 b2 : Nat} {w w' : World} (h : Kp2 b1 b2 w w') {B : Nat} (h1 : B ≤ b1) (h2 : B ≤ b2) : Below B w w' := ⟨h.os, h.tape, h.output, Nat.le_of_eq h.size.symm, fun k hk => h.block k (by omega) (by omega)⟩

/-- 'copy(dst, src)' as one step of a region that draws its order. -/
theorem step_copy {ops : Array Oper} {o : Oper} {a : Act} {w : World} {K : Act → World → Prop} {Q : Exit → Act → World → Prop} {E : Prop} (hgd : o.guard = none) (d s : Operand)
    (ho : o.op = .call { callee := .builtin .copy, args := #[d, s], argTypes := #[22, 22] })
    (dp sp : Option Addr) (dLen dCap sLen sCap : Nat) (hd : a.eval d = .slice dp dLen dCap) (hs : a.eval s = .slice sp sLen sCap)
    (g off : Nat) (cur src : List Nat) (hg : FR w g cur) (hF : Fl w sp src) (hsl : src.length = sLen) (hdp : 0 < min sLen dLen → dp = some ⟨g, off, none⟩) (hfit : off + min sLen dLen ≤ cur.length)
    (h : ∀ w', FR w' g (splice cur off (src.take (min sLen dLen))) → Kp1 g w w' → K (a.put o.dst (.int .i64 ((min sLen dLen : Nat) : Int))) w') :
    if Region.wanted o (yielded ops a.tmps) = true then Oper.wp Try.prog o a w K Q else E := by
  have hw : Region.wanted o (yielded ops a.tmps) = true := by simp [Region.wanted, hgd]
  rw [if_pos hw]
  have hlen : ((src.take (min sLen dLen)).map fl).length = min sLen dLen := by simp; omega
  by_cases h0 : min sLen dLen = 0
  · have hrun := run_copy_none (P := Try.prog) w 22 22 o.type 28 dp sp dLen dCap sLen sCap Try.underlying22 Try.size28 h0
    unfold Oper.wp
    simp [execOp, ho, resolve, invoke, builtin, hd, hs, hrun, Result.andThen]
    have := h w (by rw [h0]; simpa [splice] using hg) (Kp1.refl _ _)
    rw [h0] at this
    exact this
  · obtain rfl := hdp (by omega)
    obtain ⟨b, so, rfl, hc⟩ := hF.resolve_left (by omega)
    have hrun := run_copy_row (P := Try.prog) w 22 22 o.type 28 g off dLen dCap ⟨b, so, none⟩ sLen sCap (cur.map fl).toArray 28 ((src.take (min sLen dLen)).map fl) Try.underlying22 Try.size28 hg hlen (by
      intro j v hj
      obtain ⟨hjl, rfl⟩ := List.getElem?_eq_some_iff.1 hj
      simp only [List.length_map, List.length_take] at hjl
      have := hc j (by omega)
      rw [addr_add, this]
      have hj' : j < src.length := by omega
      simp [fl, hj']) (by rw [hlen]; simpa using hfit) (by
      intro v hv
      obtain ⟨x, _, rfl⟩ := List.mem_map.1 hv
      rfl)
    rw [hlen] at hrun
    unfold Oper.wp
    simp only [execOp, ho, resolve, invoke, builtin, hd, hs, List.map_toArray, List.map_cons, List.map_nil, Sem.run_bind, Sem.run_pure, Result.andThen_ok, hrun]
    refine h _ ?_ ?_
    · show _ = _
      rw [setRow_heap w g _ _ 28 _ hg]
      congr 2
      simp [splice, List.map_take, List.map_drop]
      omega
    · exact ⟨rfl, rfl, rfl, by simp [World.setRow], fun k hk => setRow_other w g k _ hk⟩

theorem splice_length (L : List Nat) (off : Nat) (cs : List Nat) (h : off + cs.length ≤ L.length) : (splice L off cs).length = L.length := length_splice L off cs h
theorem splice_get (L : List Nat) (off : Nat) (cs : List Nat) (h : off + cs.length ≤ L.length) (p : Nat) : (splice L off cs).getD p 0 = if off ≤ p ∧ p < off + cs.length then cs.getD (p - off) 0 else L.getD p 0 := by
  unfold splice
  have hl : (L.take off).length = off := by simp; omega
  rw [getD_append, hl]
  by_cases c1 : p < off
  · rw [if_pos c1, if_neg (by omega), getD_take, if_pos c1]
  · rw [if_neg c1, getD_append]
    by_cases c2 : p < off + cs.length
    · rw [if_pos (by omega), if_pos ⟨by omega, c2⟩]
    · rw [if_neg (by omega), if_neg (by omega), getD_drop, show off + cs.length + (p - off - cs.length) = p by omega]

theorem FR.sub {w : World} {b : Nat} {L : List Nat} (h : FR w b L) (off n : Nat) (hn : off + n ≤ L.length) : Fl w (some ⟨b, off, none⟩) ((L.drop off).take n) := by
  refine Or.inr ⟨b, off, rfl, fun i hi => ?_⟩
  have hi' : i < n := by simp at hi; omega
  rw [h.cell (by omega), getD_take, if_pos hi', getD_drop]

/-- One side is used up; what is left of the other follows. -/
theorem MG_end {w : Nat} {X : List Nat} {F0 m : Nat} {T0 : List Nat} {F1 a b : Nat} {T : List Nat} {fl : Nat} (h : MG w X F0 m T0 F1 a b T fl) (hm : m * (2 * w) < X.length) (hab : a = (chunk w X (2 * m)).length ∨ b = (chunk w X (2 * m + 1)).length)
    {cA cB : List Nat} (eA : cA = (srt (chunk w X (2 * m))).drop a) (eB : cB = (srt (chunk w X (2 * m + 1))).drop b) :
    PASS w X F0 (m + 1) (splice (splice T (m * (2 * w) + (a + b)) cA) (m * (2 * w) + (a + b) + cA.length) cB) fl := by
  obtain ⟨h1, h2, h3, h4, h5, h6, h7, h8⟩ := h
  have lA := srt_length (chunk w X (2 * m))
  have lB := srt_length (chunk w X (2 * m + 1))
  have lM : (srt (chunk (2 * w) X m)).length = (chunk w X (2 * m)).length + (chunk w X (2 * m + 1)).length := by rw [srt_length, chunk_two, List.length_append]
  have hlX : m * (2 * w) + ((chunk w X (2 * m)).length + (chunk w X (2 * m + 1)).length) ≤ X.length ∧ (chunk w X (2 * m)).length + (chunk w X (2 * m + 1)).length = min (2 * w) (X.length - m * (2 * w)) := by
    have := chunk_len (2 * w) X m
    rw [chunk_two, List.length_append] at this
    omega
  have clA : cA.length = (chunk w X (2 * m)).length - a := by rw [eA, List.length_drop, lA]
  have clB : cB.length = (chunk w X (2 * m + 1)).length - b := by rw [eB, List.length_drop, lB]
  rw [← eA, ← eB] at h5 h6
  have e5 : (srt (chunk (2 * w) X m)).drop (a + b) = cA ++ cB ∧ cross cA cB = 0 := by
    rcases hab with h | h
    · have : cA = [] := List.eq_nil_of_length_eq_zero (by omega)
      rw [h5, this, List.nil_append]
      exact ⟨srtOn_up_nil (by rw [eB]; exact (srt_up _).drop b), rfl⟩
    · have : cB = [] := List.eq_nil_of_length_eq_zero (by omega)
      rw [h5, this, List.append_nil]
      exact ⟨rfl, cross_nil _⟩
  have l1 : (splice T (m * (2 * w) + (a + b)) cA).length = X.length := by rw [splice_length _ _ _ (by omega), h2]
  refine ⟨by rw [splice_length _ _ _ (by omega), l1], fun k q hk hq hkq => ?_, ?_⟩
  · rw [splice_get _ _ _ (by omega), splice_get _ _ _ (by omega)]
    by_cases c : k = m
    · rw [c] at hkq ⊢
      have hM : ∀ r, r < cA.length + cB.length → (cA ++ cB).getD r 0 = (srt (chunk (2 * w) X m)).getD (a + b + r) 0 := fun r hr => by rw [← e5.1, getD_drop]
      by_cases c1 : q < a + b
      · rw [if_neg (by omega), if_neg (by omega)]; exact h4 q c1
      · by_cases c2 : q < a + b + cA.length
        · rw [if_neg (by omega), if_pos (by omega)]
          have := hM (q - (a + b)) (by omega)
          rw [getD_append, if_pos (by omega), show a + b + (q - (a + b)) = q by omega] at this
          rw [← this]; congr 1; omega
        · rw [if_pos (by omega)]
          have := hM (q - (a + b)) (by omega)
          rw [getD_append, if_neg (by omega), show a + b + (q - (a + b)) = q by omega] at this
          rw [← this]; congr 1; omega
    · have hk' : (k + 1) * (2 * w) ≤ m * (2 * w) := Nat.mul_le_mul_right _ (by omega)
      rw [Nat.add_mul, Nat.one_mul] at hk'
      rw [if_neg (by omega), if_neg (by omega), h3 _ (by omega)]
      exact h1.2.1 k q (by omega) hq hkq
  · simp only [sm]
    have := h1.2.2
    omega

theorem tm1 (m W : Nat) : 2 * m * W = m * (2 * W) := by grind
theorem tm2 (m W : Nat) : (2 * m + 1) * W = m * (2 * W) + W := by grind
theorem tm3 (m W : Nat) : (m + 1) * (2 * W) = m * (2 * W) + 2 * W := by grind

theorem CS_left {W m lo a : Nat} {X F : List Nat} (h : CS W X F) (hlo : lo = m * (2 * W)) (ha : a < (chunk W X (2 * m)).length) : F.getD (lo + a) 0 = (srt (chunk W X (2 * m))).getD a 0 := by
  have hl := chunk_len W X (2 * m)
  have e := tm1 m W
  have := h.2 (2 * m) a (by omega) (by omega)
  rw [e, ← hlo] at this
  exact this
theorem CS_right {W m lo la b : Nat} {X F : List Nat} (h : CS W X F) (hlo : lo = m * (2 * W)) (hla : la = (chunk W X (2 * m)).length) (hb : b < (chunk W X (2 * m + 1)).length) : F.getD (lo + la + b) 0 = (srt (chunk W X (2 * m + 1))).getD b 0 := by
  have hl := chunk_len W X (2 * m)
  have hl2 := chunk_len W X (2 * m + 1)
  have e := tm1 m W
  have e2 := tm2 m W
  have := h.2 (2 * m + 1) b (by omega) (by omega)
  rw [e2, ← hlo] at this
  rw [← this]
  congr 1
  omega
theorem chunk_nan {W k i : Nat} {X : List Nat} (nx : ∀ a ∈ X, nan a = false) (h : i < (chunk W X k).length) : nan ((srt (chunk W X k)).getD i 0) = false :=
  nx _ (chunk_mem (w := W) (k := k) (srt_mem.1 (getD_mem (by rw [srt_length]; exact h))))

theorem run_equalIn_ptr (w : World) (d : Nat) (a b : Addr) (r : Bool) (h : (sameAddr a b).run Try.prog w = .ok r w) : (Op.equalIn (d + 1) 36 (.pointer (some a)) (.pointer (some b))).run Try.prog w = .ok r w := by
  have hu : Try.prog.underlying 36 = some (.pointer 28) := Try.underlying36
  obtain ⟨i, hi, hzz⟩ := Option.map_eq_some_iff.1 Try.info28
  simp only [Prod.mk.injEq] at hzz
  obtain ⟨hz, hs, hb⟩ := hzz
  simp [Op.equalIn, run_underlying hu, sizeOf, typeInfo, hi, hs, h]
theorem run_neq_ptr (w : World) (a b : Addr) (r : Bool) (h : (sameAddr a b).run Try.prog w = .ok r w) : (binOp .neq 36 (.pointer (some a)) (.pointer (some b))).run Try.prog w = .ok (.bool (!r)) w := by
  simp only [binOp]
  simp [Op.equal, Op.maxDepth, run_equalIn_ptr w 9999 a b r h]
/-- '&from[0] != &x[0]': one row; two rows. -/
theorem run_neq_ptr_same (w : World) (a : Addr) : (binOp .neq 36 (.pointer (some a)) (.pointer (some a))).run Try.prog w = .ok (.bool false) w := run_neq_ptr w a a true (run_sameAddr_same w a)
theorem run_neq_ptr_other {w : World} {b1 b2 : Nat} {L1 L2 : List Nat} (h : b1 ≠ b2) (h1 : FR w b1 L1) (h2 : FR w b2 L2) : (binOp .neq 36 (.pointer (some ⟨b1, 0, none⟩)) (.pointer (some ⟨b2, 0, none⟩))).run Try.prog w = .ok (.bool true) w :=
  run_neq_ptr w _ _ false (run_sameAddr_other w (by intro e; simp only [Addr.mk.injEq] at e; exact h e.1) h1 h2)

/-- WHAT HOLDS BETWEEN TWO PASSES: p passes are done; F is the row that holds the sorted chunks, T the other. -/
def ST (X Z : List Nat) (p : Nat) (F T : List Nat) (fl : Nat) : Prop :=
  CS (32 * 2 ^ p) X F ∧ T.length = X.length ∧ (p = 0 → T = Z) ∧ (0 < p → CS (32 * 2 ^ (p - 1)) X T) ∧ (0 < p → 32 * 2 ^ (p - 1) < X.length) ∧ FLs (32 * 2 ^ p) X fl
/-- What the sort leaves in its scratch row. -/
def BUF (X Z Z' : List Nat) : Prop :=
  ∃ p, X.length ≤ 32 * 2 ^ p ∧ (0 < p → 32 * 2 ^ (p - 1) < X.length) ∧ (p = 0 → Z' = Z) ∧ (p % 2 = 1 → CS (32 * 2 ^ p) X Z') ∧ (p % 2 = 0 → 0 < p → CS (32 * 2 ^ (p - 1)) X Z') ∧ Z'.length = X.length

theorem ST_start {X Z L : List Nat} {fl : Nat} (hZ : Z.length = X.length) (h : CS 32 X L ∧ FLs 32 X fl) : ST X Z 0 L Z fl :=
  ⟨by simpa using h.1, hZ, fun _ => rfl, fun h => absurd h (by omega), fun h => absurd h (by omega), by simpa using h.2⟩
theorem ST_step {X Z : List Nat} {p : Nat} {F T : List Nat} {fl : Nat} (h : ST X Z p F T fl) (hw : 32 * 2 ^ p < X.length) {m : Nat} {T' : List Nat} {fl' : Nat} (hP : PASS (32 * 2 ^ p) X fl m T' fl') (hm : ¬ m * (2 * (32 * 2 ^ p)) < X.length) : ST X Z (p + 1) T' F fl' := by
  obtain ⟨h1, h2, h3, h4, h5, h6⟩ := h
  have e : 32 * 2 ^ (p + 1) = 2 * (32 * 2 ^ p) := by rw [Nat.pow_succ]; omega
  have := PASS_end hP h6 hm
  refine ⟨by rw [e]; exact this.1, h1.1, fun h => absurd h (by omega), fun _ => by simpa using h1, fun _ => by simpa using hw, by rw [e]; exact this.2⟩

end Go.Proofs.Qxb6602348a
