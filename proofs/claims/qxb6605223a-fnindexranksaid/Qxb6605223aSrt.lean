/-
  THE SORT AT uint64: THE ASSEMBLY: after Derived/Sort/Assembly.lean, WalkA14.lean, WalkANil.lean.
-/
import Derived.Sort.AssemblyPlain
import Derived.Sort.WalkA14
import Derived.Test.Qxb6605223aSrtA
import Derived.Test.Qxb6605223aSrtA6
import Derived.Test.Qxb6605223aSrtC
import Derived.Test.Qxb6605223aSrtC4
import Derived.Test.Qxb6605223aSrt7
import Derived.Test.Qxb6605223aSrt11
import Derived.Test.Qxb6605223aSrt13
import Derived.Test.Qxb6605223aSrtLen
namespace Go.Proofs.Qxb6605223a
open Go.RowKit Go.Sort

theorem calleesU : CalleesU where
  ins := U.insertionSort_int
  brk := U.breakPatterns_int
  piv := U.choosePivot_int
  par := U.partialInsertionSort_int
  peq := U.partitionEqualOrdered_int
  prt := U.partitionOrdered_int

theorem plainU : Plain13 where
  swo := swo_ltInt
  ins := insertionSort_holds
  par := partialInsertionSort_holds
  prt := partition_holds _
  peq := partitionEqual_holds _
  pdq := pdq_sorts _

set_option maxRecDepth 100000 in
theorem U.Sort_any (blk off cap : Nat) (d : Array Int) (w : World) (hH : Holds (Value.int .u64) w blk off d) (hblk : blk < w.heap.size) (hsz : d.size < 4611686018427387904) :
    Calls Try.prog 25 #[.slice (some ⟨blk, off, none⟩) d.size cap] w fun e w' => e = .returned (.tuple #[]) ∧ ∃ n os, w' = grow (putRow (Value.int .u64) (Sort.ahead w n) blk off (Sort.sort ltInt d)) os := by
  have HH : Hid (Holds (Value.int .u64) w blk off d) := hH
  clear hH
  have hLen : ∀ w, Calls Try.prog 30 #[.int .u64 (d.size : Int)] w fun e w' => e = .returned (.int .i64 (bitsLen d.size : Nat)) ∧ w' = w := fun w => by
    have h := U.bits_Len (d.size : Int) w (by omega) (by omega)
    rwa [Int.toNat_natCast, bitLen_eq _ (by omega)] at h
  have hk : bitsLen d.size ≤ 62 := (bitsLen_le_iff d.size 62).2 (by omega)
  go_enter Try.func25, Try.ntmps25
  go_wp2_with (first
    | (go_at_call 30; refine (hLen _).mono ?_; rintro e w' ⟨rfl, rfl⟩)
    | (go_at_call 29; refine (U.pdqsort_int calleesU plainU (d.size - 0 + 1) blk off cap 0 d.size (bitsLen d.size) d _ (by omega) (by exact HH.out) (by exact hblk) (Nat.zero_le _) (Nat.le_refl _) hsz (by omega) (Or.inl rfl)).mono ?_; rintro e w' ⟨rfl, n, os, rfl⟩))
  go_end0
  exact ⟨rfl, n, os, rfl⟩

theorem U.insertionSort_nil (p : Option Addr) (cap : Nat) (w : World) :
    Calls Try.prog 31 #[.slice p 0 cap, .int .i64 0, .int .i64 0] w fun e w' => e = .returned (.tuple #[]) ∧ w' = w := by
  go_enter Try.func31, Try.ntmps31
  go_wp2
  refine wp_loop_rounds 1 ?_
  rw [rounds_succ]
  go_wp2
  go_end0
  exact ⟨rfl, rfl⟩

set_option maxRecDepth 100000 in
theorem U.pdqsort_nil (p : Option Addr) (cap : Nat) (w : World) :
    Calls Try.prog 29 #[.slice p 0 cap, .int .i64 0, .int .i64 0, .int .i64 0] w fun e w' => e = .returned (.tuple #[]) ∧ w' = w := by
  go_enter Try.func29, Try.ntmps29
  go_wp2
  refine wp_loop_rounds 1 ?_
  rw [rounds_succ]
  go_wp2_with (first | (go_at_call 31; refine (U.insertionSort_nil p cap _).mono ?_; rintro e w' ⟨rfl, rfl⟩))
  refine bodyPost_ret (results_none rfl _ _ _) rfl ?_
  exact ⟨rfl, rfl⟩

set_option maxRecDepth 100000 in
theorem U.Sort_nil (p : Option Addr) (cap : Nat) (w : World) :
    Calls Try.prog 25 #[.slice p 0 cap] w fun e w' => e = .returned (.tuple #[]) ∧ w' = w := by
  have hLen : ∀ w, Calls Try.prog 30 #[.int .u64 0] w fun e w' => e = .returned (.int .i64 0) ∧ w' = w := fun w => U.bits_Len 0 w (by omega) (by omega)
  go_enter Try.func25, Try.ntmps25
  go_wp2_with (first
    | (go_at_call 30; refine (hLen _).mono ?_; rintro e w' ⟨rfl, rfl⟩)
    | (go_at_call 29; refine (U.pdqsort_nil p cap _).mono ?_; rintro e w' ⟨rfl, rfl⟩))
  go_end0
  exact ⟨rfl, rfl⟩

/-- slices.Sort at []uint64. -/
theorem U.slices_Sort (blk off cap : Nat) (zs : List Int) (w : World) (hH : Holds (Value.int .u64) w blk off zs.toArray) (hblk : blk < w.heap.size) (hsz : zs.length < 4611686018427387904) :
    Calls Try.prog 25 #[.slice (some ⟨blk, off, none⟩) zs.length cap] w fun e w' =>
      e = .returned (.tuple #[]) ∧ ∃ n os, w' = grow (putRow (Value.int .u64) (Sort.ahead w n) blk off (zs.mergeSort fun x y => decide (x ≤ y)).toArray) os := by
  have h := U.Sort_any blk off cap zs.toArray w hH hblk (by simpa using hsz)
  have e : Sort.sort ltInt zs.toArray = (zs.mergeSort fun x y => decide (x ≤ y)).toArray := by rw [← sortInt zs]
  rw [e] at h
  simpa using h

end Go.Proofs.Qxb6605223a
