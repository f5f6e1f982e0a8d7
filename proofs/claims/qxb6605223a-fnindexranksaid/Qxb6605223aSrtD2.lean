/-
  THE SORT AT uint64: medianAdjacentOrdered: after Derived/Sort/WalkD2.lean.
-/
import Derived.Test.Qxb6605223aSrtD1
import Derived.Sort.WalkD2
namespace Go.Proofs.Qxb6605223a
open Go.Sort Go.RowKit

set_option maxHeartbeats 1000000 in
set_option maxRecDepth 100000 in
/-- WALK 10. -/
theorem U.medianAdjacent_int (d : Array Int) (len : Nat) (hlen : d.size = len) (blk off cap a sb so s : Nat) (w : World) (hH : Holds (Value.int .u64) w blk off d) (ha0 : 1 ≤ a) (ha : a + 1 < d.size) (hsz : d.size < 2 ^ 62) (hne : sb ≠ blk)
    (hS : Holds (Value.int .i64) w sb so (one s)) (hs : s + 3 < 2 ^ 62) :
    Calls Try.prog 45 #[.slice (some ⟨blk, off, none⟩) len cap, .int .i64 a, .pointer (some ⟨sb, so, none⟩)] w fun e w' =>
      e = .returned (.int .i64 (medianAdjacent ltInt d a s).1) ∧ ∃ n, w' = putRow (Value.int .i64) (Sort.ahead w n) sb so (one (medianAdjacent ltInt d a s).2) := by
  subst hlen
  replace hsz : d.size < 4611686018427387904 := by omega
  go_enter Try.func45, Try.ntmps45
  go_wp2_with (go_at_call 46; rw [show ((a : Int) - 1) = ((a - 1 : Nat) : Int) by omega, show ((a : Int) + 1) = ((a + 1 : Nat) : Int) by omega]; refine (U.median_int d _ rfl blk off cap (a - 1) a (a + 1) sb so s w hH (by omega) (by omega) ha hne hS hs).mono ?_; rintro e w' ⟨rfl, n1, rfl⟩)
  go_ret
  exact ⟨rfl, n1, rfl⟩

end Go.Proofs.Qxb6605223a
