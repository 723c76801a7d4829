/-
  THE WALKS OF mergeCountingFalls' OWN FUNCTIONS: less, down.
-/
import Derived.Test.Qxb6602348aFenWalk
import Derived.Test.Qxb6602348aKWay
namespace Go.Proofs.Qxb6602348a
open Go.RowKit Flt

/-- What less answers. -/
def lss (rss : List (List Nat)) (nx : List Nat) (x y : Nat) : Bool := decide (hkey rss nx x < hkey rss nx y ∨ (hkey rss nx x = hkey rss nx y ∧ x < y))

/-- The captured variables as less reads them. -/
structure LW (w : World) (B3 B5 BN b n : Nat) (ra : Option Addr) (cr : Nat) (rss : List (List Nat)) (nx : List Nat) : Prop where
  c3 : OC w B3 32 (.slice ra rss.length cr)
  c5 : OC w B5 37 (.slice (some ⟨BN, 0, none⟩) rss.length rss.length)
  nr : NR w BN nx rss.length
  nl : nx.length = rss.length
  rn : RN w b n ra rss
theorem LW.dr {w w' : World} {B3 B5 BN b n : Nat} {ra : Option Addr} {cr : Nat} {rss : List (List Nat)} {nx : List Nat} (h : LW w B3 B5 BN b n ra cr rss nx) (k : Dr w w') : LW w' B3 B5 BN b n ra cr rss nx :=
  ⟨h.c3.dr k, h.c5.dr k, h.nr.dr k, h.nl, h.rn.gr (Gr.dr k)⟩

set_option maxHeartbeats 400000 in
theorem less_any (B3 B5 BN b n : Nat) (ra : Option Addr) (cr : Nat) (rss : List (List Nat)) (nx : List Nat) (x y : Nat) (w : World) (L : LW w B3 B5 BN b n ra cr rss nx)
    (hx : InR rss nx x) (hy : InR rss nx y) (nn : ∀ r, r < rss.length → ∀ a ∈ rss.getD r [], nan a = false) (hl : ∀ r, r < rss.length → (rss.getD r []).length ≤ 1048576) :
    Calls Try.prog 32 #[.int .i64 x, .int .i64 y, .pointer (some ⟨B3, 0, none⟩), .pointer (some ⟨B5, 0, none⟩)] w fun e w' => e = .returned (.bool (lss rss nx x y)) ∧ ∃ m, w' = w.drewN m := by
  obtain ⟨c3, c5, N, hnl, R⟩ := L
  obtain ⟨hx1, hx2⟩ := hx
  obtain ⟨hy1, hy2⟩ := hy
  obtain ⟨A, off, rfl, _, hR⟩ := R.resolve_left (by omega)
  obtain ⟨sx, cx, ax, Fx⟩ := hR x hx1
  obtain ⟨sy, cy, ay, Fy⟩ := hR y hy1
  obtain ⟨bx, ox, rfl, _, vx⟩ := Fx.resolve_left (by omega)
  obtain ⟨by', oy, rfl, _, vy⟩ := Fy.resolve_left (by omega)
  have ex := vx _ hx2
  have ey := vy _ hy2
  have nx1 := N.cell (i := x) (by omega)
  have ny1 := N.cell (i := y) (by omega)
  have d3 := c3.cell
  have d5 := c5.cell
  have n1 := nn x hx1 _ (getD_mem hx2)
  have n2 := nn y hy1 _ (getD_mem hy2)
  have tt := flt_eq n1 n2
  have te := feq_eq n1 n2
  have lx := hl x hx1
  have ly := hl y hy1
  obtain ⟨res, hres⟩ : ∃ r, r = lss rss nx x y := ⟨_, rfl⟩
  rw [← hres]
  unfold lss hkey at hres
  clear hR Fx Fy vx vy N c3 c5 R nn n1 n2 hl
  generalize (rss.getD x []).getD (nx.getD x 0) 0 = vx at *
  generalize (rss.getD y []).getD (nx.getD y 0) 0 = vy at *
  generalize (rss.getD x []).length = Lx at *
  generalize (rss.getD y []).length = Ly at *
  generalize nx.getD x 0 = px at *
  generalize nx.getD y 0 = py at *
  have i1 : (x : Int) < (rss.length : Int) := by omega
  have i2 : (y : Int) < (rss.length : Int) := by omega
  have i3 : (px : Int) < (Lx : Int) := by omega
  have i4 : (py : Int) < (Ly : Int) := by omega
  by_cases hlt : key vx < key vy
  · have t1 : (FloatKind.f64.format.order vx vy == some .lt) = true := tt.trans (decide_eq_true hlt)
    have hr : res = true := by rw [hres]; exact decide_eq_true (Or.inl hlt)
    subst hr
    clear hres tt te
    go_enter Try.func32, Try.ntmps32
    go_wp2
    go_quiet (fail)
    go_wp2
    go_ret
    exact ⟨rfl, _, rfl⟩
  · have t1 : (FloatKind.f64.format.order vx vy == some .lt) = false := tt.trans (decide_eq_false hlt)
    by_cases heq : key vx = key vy
    · have t2 : (FloatKind.f64.format.order vx vy == some .eq) = true := te.trans (decide_eq_true heq)
      by_cases hxy : x < y
      · have hr : res = true := by rw [hres]; exact decide_eq_true (Or.inr ⟨heq, hxy⟩)
        subst hr
        have i5 : decide ((x : Int) < (y : Int)) = true := decide_eq_true (by omega)
        clear hres tt te
        go_enter Try.func32, Try.ntmps32
        go_wp2
        go_quiet (fail)
        go_wp2
        go_ret
        exact ⟨rfl, _, rfl⟩
      · have hr : res = false := by rw [hres]; exact decide_eq_false (by omega)
        subst hr
        have i5 : decide ((x : Int) < (y : Int)) = false := decide_eq_false (by omega)
        clear hres tt te
        go_enter Try.func32, Try.ntmps32
        go_wp2
        go_quiet (fail)
        go_wp2
        go_ret
        exact ⟨rfl, _, rfl⟩
    · have t2 : (FloatKind.f64.format.order vx vy == some .eq) = false := te.trans (decide_eq_false heq)
      have hr : res = false := by rw [hres]; exact decide_eq_false (by omega)
      subst hr
      clear hres tt te
      go_enter Try.func32, Try.ntmps32
      go_wp2
      go_quiet (fail)
      go_wp2
      go_ret
      exact ⟨rfl, _, rfl⟩

theorem LW.kp {w w' : World} {B3 B5 BN b n : Nat} {ra : Option Addr} {cr : Nat} {rss : List (List Nat)} {nx : List Nat} {g : Nat} (h : LW w B3 B5 BN b n ra cr rss nx) (k : Kp1 g w w') (h3 : B3 ≠ g) (h5 : B5 ≠ g) (hN : BN ≠ g) (hg : g = b ∨ n ≤ g) : LW w' B3 B5 BN b n ra cr rss nx :=
  ⟨h.c3.kp1 k h3, h.c5.kp1 k h5, h.nr.kp1 k hN, h.nl, h.rn.gr (Gr.of1 k hg)⟩

end Go.Proofs.Qxb6602348a
