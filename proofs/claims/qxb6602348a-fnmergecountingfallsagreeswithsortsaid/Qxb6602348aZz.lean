/-
  THE LAWS' BOUNDS ON THE LENGTHS OF RUNS (zzBytes), walked: a bool; nothing turns.
-/
import Derived.Test.Qxb6602348aRuns
import Derived.Test.Qxb6602348aRankTop
namespace Go.Proofs.Qxb6602348a
open Go.RowKit Flt

set_option maxHeartbeats 400000 in
theorem zz23 (a ra : Option Addr) (n ca cr : Nat) (rss : List (List Nat)) (w : World) (R : RP w ra rss) :
    Calls Try.prog 23 #[.slice a n ca, .slice ra rss.length cr] w fun e w' => AnsB (fun _ => True) e ∧ w = w' := by
  by_cases h1 : (1048576 : Int) < (n : Int)
  · go_enter Try.func23, Try.ntmps23
    go_wp2
    go_ret
    exact ⟨AnsB.no trivial, rfl⟩
  · by_cases h2 : (1048576 : Int) < (rss.length : Int)
    · go_enter Try.func23, Try.ntmps23
      go_wp2
      go_ret
      exact ⟨AnsB.no trivial, rfl⟩
    · by_cases h3 : (1048576 : Int) < (n : Int) + (rss.length : Int)
      · go_enter Try.func23, Try.ntmps23
        go_wp2
        go_ret
        exact ⟨AnsB.no trivial, rfl⟩
      · go_enter Try.func23, Try.ntmps23
        go_wp2
        go_loopg [5, 6] (rss.length + 1) (fun g s5 s6 wr => ∃ t r : Nat, s5 = .int .i64 t ∧ s6 = .int .i64 r ∧ t ≤ 1048576 ∧ r ≤ rss.length ∧ rss.length + 1 - r ≤ g ∧ w = wr)
        case atStart => exact ⟨n + rss.length, 0, iEq (by omega), rfl, by omega, by omega, by omega, rfl⟩
        case round =>
          obtain ⟨t, r, rfl, rfl, ht, hr, hg, rfl⟩ := hrel
          by_cases hlt : r < rss.length
          · obtain ⟨A, off, rfl, hR⟩ := R.resolve_left (by omega)
            obtain ⟨sr, csr, ar, _⟩ := hR r hlt
            clear hR R
            generalize (rss.getD r []).length = L at ar
            have ir : (r : Int) < (rss.length : Int) := by omega
            by_cases c1 : (1048576 : Int) < (L : Int)
            · go_wp2
              go_ret
              exact ⟨AnsB.no trivial, rfl⟩
            · by_cases c2 : (1048576 : Int) < (t : Int) + (L : Int)
              · go_wp2
                go_ret
                exact ⟨AnsB.no trivial, rfl⟩
              · go_wp2
                go_roundg (rss.length - r)
                case measure => omega
                case rel => exact ⟨t + L, r + 1, iEq (by omega), iEq (by omega), by omega, by omega, by omega, rfl⟩
          · clear R
            go_wp2
            go_ret
            exact ⟨AnsB.yes trivial, rfl⟩

set_option maxHeartbeats 400000 in
theorem zz25 (a ra : Option Addr) (n ca cr : Nat) (rss : List (List Nat)) (w : World) (R : RP w ra rss) :
    Calls Try.prog 25 #[.slice a n ca, .slice ra rss.length cr] w fun e w' => AnsB (fun _ => True) e ∧ w = w' := by
  by_cases h1 : (1048576 : Int) < (n : Int)
  · go_enter Try.func25, Try.ntmps25
    go_wp2
    go_ret
    exact ⟨AnsB.no trivial, rfl⟩
  · by_cases h2 : (1048576 : Int) < (rss.length : Int)
    · go_enter Try.func25, Try.ntmps25
      go_wp2
      go_ret
      exact ⟨AnsB.no trivial, rfl⟩
    · by_cases h3 : (1048576 : Int) < (n : Int) + (rss.length : Int)
      · go_enter Try.func25, Try.ntmps25
        go_wp2
        go_ret
        exact ⟨AnsB.no trivial, rfl⟩
      · go_enter Try.func25, Try.ntmps25
        go_wp2
        go_loopg [5, 6] (rss.length + 1) (fun g s5 s6 wr => ∃ t r : Nat, s5 = .int .i64 t ∧ s6 = .int .i64 r ∧ t ≤ 1048576 ∧ r ≤ rss.length ∧ rss.length + 1 - r ≤ g ∧ w = wr)
        case atStart => exact ⟨n + rss.length, 0, iEq (by omega), rfl, by omega, by omega, by omega, rfl⟩
        case round =>
          obtain ⟨t, r, rfl, rfl, ht, hr, hg, rfl⟩ := hrel
          by_cases hlt : r < rss.length
          · obtain ⟨A, off, rfl, hR⟩ := R.resolve_left (by omega)
            obtain ⟨sr, csr, ar, _⟩ := hR r hlt
            clear hR R
            generalize (rss.getD r []).length = L at ar
            have ir : (r : Int) < (rss.length : Int) := by omega
            by_cases c1 : (1048576 : Int) < (L : Int)
            · go_wp2
              go_ret
              exact ⟨AnsB.no trivial, rfl⟩
            · by_cases c2 : (1048576 : Int) < (t : Int) + (L : Int)
              · go_wp2
                go_ret
                exact ⟨AnsB.no trivial, rfl⟩
              · go_wp2
                go_roundg (rss.length - r)
                case measure => omega
                case rel => exact ⟨t + L, r + 1, iEq (by omega), iEq (by omega), by omega, by omega, by omega, rfl⟩
          · clear R
            go_wp2
            go_ret
            exact ⟨AnsB.yes trivial, rfl⟩
end Go.Proofs.Qxb6602348a
