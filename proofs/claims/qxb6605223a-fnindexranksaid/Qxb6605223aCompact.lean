/-
  slices.Compact AT uint64 (26): after Derived/Shelf/Slices/CompactI.lean. slices.Grow (27, 28) of a nil slice.
-/
import Derived.Test.Qxb6605223aSrtB12
import Derived.Test.Qxb6605223aBase
import Derived.Deep.Draws
import Derived.Lib.Walk
import Derived.Lib.SliceRun
import Derived.Lib.SlicesS
import Derived.Lib.SlicesCompact
import Derived.Lib.AppendZerosOnto
namespace Go.Proofs.Qxb6605223a
open Go.RowKit Go.Lib Go.Sort

theorem zero64 (w : World) : (zeroValue 64).run Try.prog w = .ok (.int .u64 0) w := by kernel_rfl

theorem store_world_u {w wr : World} {n blk off : Nat} {dk : Array Int} {i : Nat} (hi : i < dk.size) (hwr : wr = putRow encU (Sort.ahead w n) blk off dk) (x : Int) :
    (wr.setCell ⟨blk, off + i, none⟩ (encU x)).drew = putRow encU (Sort.ahead w (n + 1)) blk off (dk.setIfInBounds i x) := by
  subst hwr
  rw [putRow_set encU _ blk off dk i x hi, ← ahead_drew]
  rfl

set_option maxHeartbeats 4000000 in
set_option maxRecDepth 1000000 in
/-- slices.Compact at []uint64, over an array. -/
theorem U.slices_Compact_arr (blk off cap : Nat) (d : Array Int) (w : World) (hH : Holds encU w blk off d) (hsz : d.size ≤ 9223372036854775807) (hcap : d.size ≤ cap) :
    Calls Try.prog 26 #[.slice (some ⟨blk, off, none⟩) d.size cap] w fun e w' => e = .returned (.slice (some ⟨blk, off, none⟩) (compactUpTo d d.size).length cap) ∧ ∃ q, w' = putRow encU (Sort.ahead w q) blk off (compactUpTo d d.size ++ List.replicate (d.size - (compactUpTo d d.size).length) 0).toArray := by
  have same : ∀ q, (∀ j, j < d.size → keeps d j = true) → (compactUpTo d d.size).length = d.size ∧ w.drewN q = putRow encU (Sort.ahead w q) blk off (compactUpTo d d.size ++ List.replicate (d.size - (compactUpTo d d.size).length) 0).toArray := by
    intro q hall
    have e : compactUpTo d d.size = d.toList := by rw [compactUpTo_all d _ hall, range_map_get]
    rw [e]
    refine ⟨by simp, ?_⟩
    simp only [Array.length_toList, Nat.sub_self, List.replicate_zero, List.append_nil, Array.toArray_toList]
    exact (putRow_self encU (Sort.ahead w q) blk off d (holds_ahead encU w q blk off d hH)).symm
  have HS : Aside (∀ q, (∀ j, j < d.size → keeps d j = true) → (compactUpTo d d.size).length = d.size ∧ w.drewN q = putRow encU (Sort.ahead w q) blk off (compactUpTo d d.size ++ List.replicate (d.size - (compactUpTo d d.size).length) 0).toArray) := same
  clear same
  by_cases h2 : d.size < 2
  · have HH : Aside (Holds encU w blk off d) := hH
    clear hH
    go_enter Try.func26, Try.ntmps26
    go_wp2
    go_ret
    obtain ⟨e1, e2⟩ := HS.out 0 (fun j hj => keeps_lt_one d j (by omega))
    exact ⟨by rw [e1]; rfl, 0, e2⟩
  · go_enter Try.func26, Try.ntmps26
    go_wp2
    go_loopg [3] d.size (fun g s3 wr => ∃ k q : Nat, 1 ≤ k ∧ k ≤ d.size ∧ d.size - k ≤ g ∧ s3 = .int .i64 k ∧ wr = w.drewN q ∧ ∀ j, j < k → keeps d j = true)
    case atStart => exact ⟨1, 0, Nat.le_refl _, by omega, by omega, rfl, rfl, keeps_lt_one d⟩
    case round =>
      obtain ⟨k, q, hk1, hk, hg, rfl, rfl, hall⟩ := hrel
      by_cases hlt : k < d.size
      · obtain ⟨c1, f1⟩ := hH k hlt
        obtain ⟨c0, f0⟩ := hH (k - 1) (by omega)
        have A : Aside (∀ j, j < k → keeps d j = true) := hall
        have HH : Aside (Holds encU w blk off d) := hH
        clear hall hH
        generalize hx : d[k]! = x at c1
        generalize hy : d[k - 1]! = y at c0
        have B : Aside (d[k]! = x ∧ d[k - 1]! = y) := ⟨hx, hy⟩
        clear hx hy
        by_cases hdup : x = y
        · subst hdup
          go_wp2_with fail
          go_region
          go_wp2
          clear c0 c1 f0 f1
          go_loopg [3, 5] d.size (fun g s3 s5 wr => ∃ (kk k2 q2 : Nat) (dk : Array Int), s3 = .int .i64 kk ∧ s5 = .int .i64 k2 ∧ 1 ≤ k2 ∧ k + k2 ≤ d.size ∧ d.size - (k + k2) ≤ g ∧ wr = putRow encU (Sort.ahead w q2) blk off dk ∧ CompInv d (k + k2) kk dk)
          case atStart => exact ⟨k, 1, q + 1, d, rfl, rfl, Nat.le_refl _, by omega, by omega, (putRow_self encU (Sort.ahead w (q + 1)) blk off d (holds_ahead encU w (q + 1) blk off d HH.out)).symm, CompInv.start A.out (keeps_neg (by omega) (by rw [B.out.1, B.out.2]))⟩
          case round =>
            obtain ⟨kk, k2, q2, dk, rfl, rfl, h1, hle, hg2, hwr, hI⟩ := hrel
            have hkk := hI.lt
            have hds := hI.size
            have hHk : Holds encU wr blk off dk := by rw [hwr]; exact holds_putRow encU _ blk off d dk (holds_ahead encU w q2 blk off d HH.out) hds
            have W2 : Aside (wr = putRow encU (Sort.ahead w q2) blk off dk) := hwr
            have I2 : Aside (CompInv d (k + k2) kk dk) := hI
            clear hwr
            by_cases hlt2 : k + k2 < d.size
            · obtain ⟨cm, _⟩ := hHk (k + k2) (by omega)
              obtain ⟨cp, _⟩ := hHk (k + k2 - 1) (by omega)
              obtain ⟨ck, fk⟩ := hHk kk (by omega)
              rw [hI.high (k + k2) (by omega), show off + (k + k2) = off + k + k2 by omega] at cm
              rw [hI.high (k + k2 - 1) (by omega), show off + (k + k2 - 1) = off + k + (k2 - 1) by omega] at cp
              clear hHk hI
              generalize hu : d[k + k2]! = u at cm
              generalize hv : d[k + k2 - 1]! = v at cp
              generalize dk[kk]! = old at ck
              have C : Aside (d[k + k2]! = u ∧ d[k + k2 - 1]! = v) := ⟨hu, hv⟩
              clear hu hv
              by_cases huv : u = v
              · subst huv
                go_wp2_with fail
                go_region
                go_wp2
                go_roundg (d.size - (k + (k2 + 1)))
                case measure => omega
                case rel => exact ⟨kk, k2 + 1, q2 + 1, dk, rfl, by go_num, by omega, by omega, Nat.le_refl _, by rw [W2.out]; rfl, I2.out.skip (keeps_neg (by omega) (by rw [C.out.1, C.out.2]))⟩
              · go_wp2_with fail
                go_region
                go_wp2
                go_roundg (d.size - (k + (k2 + 1)))
                case measure => omega
                case rel => exact ⟨kk + 1, k2 + 1, q2 + 1, dk.setIfInBounds kk u, by go_num, by go_num, by omega, by omega, Nat.le_refl _, store_world_u (by omega) W2.out u, by have := I2.out.keep hlt2 (keeps_pos (by rw [C.out.1, C.out.2]; exact huv)); rwa [C.out.1] at this⟩
            · have hend : k + k2 = d.size := by omega
              have hcl : ∀ ty, (Builtin.clear_ #[44] ty #[.slice (some ⟨blk, off + kk, none⟩) (d.size - kk) (cap - kk)]).run Try.prog wr = .ok (.tuple #[]) (wr.setCells blk (off + kk) (List.replicate (d.size - kk) (encU 0))) :=
                fun ty => Lib.run_clear_slice wr _ _ ty _ Try.underlying44 zero64 rfl rfl blk (off + kk) _ _ (by omega) (fun j hj => by rw [show off + kk + j = off + (kk + j) by omega, (hHk (kk + j) (by omega)).1]; rfl) (fun j hj => by rw [show off + kk + j = off + (kk + j) by omega]; exact (hHk (kk + j) (by omega)).2)
              clear hHk hI
              go_wp2
              go_ret
              have hI := I2.out
              rw [hend] at hI
              refine ⟨by rw [hI.len]; rfl, q2, ?_⟩
              rw [hI.len, ← hI.done 0, ← putRow_setCells encU _ blk off _ dk kk (by simp; omega), ← W2.out, List.map_replicate]
        · go_wp2_with fail
          go_region
          go_wp2
          go_roundg (d.size - (k + 1))
          case measure => omega
          case rel =>
            refine ⟨k + 1, q + 1, by omega, by omega, Nat.le_refl _, by go_num, rfl, fun j hj => ?_⟩
            by_cases e : j = k
            · subst e
              exact keeps_pos (by rw [B.out.1, B.out.2]; exact hdup)
            · exact A.out j (by omega)
      · have : k = d.size := by omega
        subst this
        have HH : Aside (Holds encU w blk off d) := hH
        clear hH
        go_wp2
        go_ret
        obtain ⟨e1, e2⟩ := HS.out q hall
        exact ⟨by rw [e1]; rfl, q, e2⟩

/-- slices.Compact at []uint64. -/
theorem U.slices_Compact (blk off cap : Nat) (zs : List Int) (w : World) (hH : Holds (Value.int .u64) w blk off zs.toArray) (hsz : zs.length ≤ 9223372036854775807) (hcap : zs.length ≤ cap) :
    Calls Try.prog 26 #[.slice (some ⟨blk, off, none⟩) zs.length cap] w fun e w' => e = .returned (.slice (some ⟨blk, off, none⟩) (Lib.compact zs).length cap) ∧ ∃ q, w' = putRow (Value.int .u64) (Sort.ahead w q) blk off (Lib.compact zs ++ List.replicate (zs.length - (Lib.compact zs).length) 0).toArray := by
  have h := U.slices_Compact_arr blk off cap zs.toArray w hH (by simpa using hsz) (by simpa using hcap)
  simpa [Lib.compact] using h

set_option maxHeartbeats 1000000 in
/-- The same at a slice of length 0, a nil one too: it comes back as it is. -/
theorem U.slices_Compact_empty (a : Option Addr) (cap : Nat) (w : World) :
    Calls Try.prog 26 #[.slice a 0 cap] w fun e w' => e = .returned (.slice a 0 cap) ∧ w' = w := by
  go_enter Try.func26, Try.ntmps26
  go_wp2
  go_ret
  exact ⟨rfl, rfl⟩



end Go.Proofs.Qxb6605223a
