/-
  THE SMALL FUNCTIONS ON THE ROAD OF FnStepsNumberPairsInOrderMet: zzBytes (14), pairsFit (15), clonePairs (16), ZZNewSteps (17), ZZStepsN (19).
-/
import Derived.Test.Qxb6603794aPlain
import Derived.Test.Qxb6603794aProg
import Derived.Laws.CopyOwn
import Derived.WalkKit
import Derived.WalkSpells
import Derived.WalkLawsBesides
namespace Go.Proofs.Qxb6603794a
open Go.RowKit

/-- zzBytes: true where the length is at most 2^20. -/
theorem bytes_yes (a : Option Addr) (len cap : Nat) (w : World) (h : (len : Int) ≤ 1048576) :
    Calls Try.prog 14 #[.slice a len cap] w fun e w' => e = .returned (.bool true) ∧ w' = w := by
  go_enter Try.func14, Try.ntmps14
  go_wp2
  go_ret
  exact ⟨rfl, rfl⟩

theorem bytes_no (a : Option Addr) (len cap : Nat) (w : World) (h : (1048576 : Int) < (len : Int)) :
    Calls Try.prog 14 #[.slice a len cap] w fun e w' => e = .returned (.bool false) ∧ w' = w := by
  go_enter Try.func14, Try.ntmps14
  go_wp2
  go_ret
  exact ⟨rfl, rfl⟩

/-- What pairsFit asks of one pair. -/
def fitB (a v : Int) : Bool := decide (0 ≤ v) && decide (v ≤ 65536) && !(a == -1)

theorem fit_empty (a : Option Addr) (cap : Nat) (w : World) :
    Calls Try.prog 15 #[.slice a 0 cap] w fun e w' => e = .returned (.bool true) ∧ w' = w := by
  go_enter Try.func15, Try.ntmps15
  go_wp2
  refine wp_loop_rounds 1 ?_
  rw [rounds_succ]
  go_wp2
  go_ret
  exact ⟨rfl, rfl⟩

theorem fit_any (b off len cap : Nat) (A V : Nat → Int) (w : World) (hl : len ≤ 1048576) (hc : ∀ i, i < len → w.cell? ⟨b, off + i * 2, none⟩ = some (.int .i32 (A i)) ∧ w.cell? ⟨b, off + i * 2 + 1, none⟩ = some (.int .i32 (V i))) :
    Calls Try.prog 15 #[.slice (some ⟨b, off, none⟩) len cap] w fun e w' => ((e = .returned (.bool false) ∧ Hid (∃ i, i < len ∧ fitB (A i) (V i) = false)) ∨ (e = .returned (.bool true) ∧ Hid (∀ i, i < len → fitB (A i) (V i) = true))) ∧ w' = w := by
  go_enter Try.func15, Try.ntmps15
  go_wp2
  go_loop [3] (fun i => ∃ k : Nat, k ≤ len ∧ i = .int .i64 k ∧ Hid (∀ j, j < k → fitB (A j) (V j) = true)) (fun i => len - (intOf i).toNat)
  case atStart => exact ⟨0, Nat.zero_le _, rfl, fun j hj => absurd hj (Nat.not_lt_zero _)⟩
  case round =>
    obtain ⟨k, hk, rfl, HF⟩ := hrel
    have h0 : k < len → w.cell? ⟨b, off + k * 2, none⟩ = some (.int .i32 (A k)) := fun h => (hc k h).1
    have h1 : k < len → w.cell? ⟨b, off + k * 2 + 1, none⟩ = some (.int .i32 (V k)) := fun h => (hc k h).2
    clear hc
    go_wp2
    · have hlt : k < len := by assumption
      have h2 : (V k < 0 ∨ 65536 < V k) ∨ (A k == -1) = true := by assumption
      go_ret
      exact ⟨.inl ⟨rfl, k, hlt, by simp [fitB]; simp at h2; omega⟩, rfl⟩
    · have hlt : k < len := by assumption
      have hfit : fitB (A k) (V k) = true := by
        have h2 : (0 ≤ V k ∧ V k ≤ 65536) ∧ (A k == -1) = false := by assumption
        simp [fitB, h2.1.1, h2.1.2, h2.2]
      go_round
      case rel => exact ⟨k + 1, by omega, by go_num, fun j hj => by
        rcases Nat.lt_succ_iff_lt_or_eq.1 hj with h | rfl
        · exact HF.out j h
        · exact hfit⟩
      case measure => simp [intOf]; omega
    · have hlt : k < len := by assumption
      have h2 : 65536 < V k := by assumption
      go_ret
      exact ⟨.inl ⟨rfl, k, hlt, by simp [fitB]; omega⟩, rfl⟩
    · have hlt : k < len := by assumption
      have h2 : V k < 0 := by assumption
      go_ret
      exact ⟨.inl ⟨rfl, k, hlt, by simp [fitB]; omega⟩, rfl⟩
    · have hge : ¬ k < len := by assumption
      go_ret
      exact ⟨.inr ⟨rfl, fun i hi => HF.out i (by omega)⟩, rfl⟩

/-- ZZNewSteps: a new struct of three cells. -/
theorem new_any (w : World) :
    Calls Try.prog 17 #[] w fun e w' => e = .returned (.pointer (some ⟨w.heap.size, 0, none⟩)) ∧ w' = w.alloc (.cells #[.slice none 0 0, .map none, .int .i32 0] 51) := by
  go_enter Try.func17, Try.ntmps17
  go_wp2
  go_ret
  exact ⟨rfl, rfl⟩

theorem n_any (S : Nat) (n : Int) (w : World) (h : w.cell? ⟨S, 2, none⟩ = some (.int .i32 n)) :
    Calls Try.prog 19 #[.pointer (some ⟨S, 0, none⟩)] w fun e w' => e = .returned (.int .i32 n) ∧ w' = w := by
  go_enter Try.func19, Try.ntmps19
  go_wp2
  go_ret
  exact ⟨rfl, rfl⟩

theorem clone_nil (w : World) :
    Calls Try.prog 16 #[.slice none 0 0] w fun e w' => e = .returned (.slice none 0 0) ∧ w' = w := by
  have q29 : ∀ (w : World) (a : Option Addr) (n c n' c' : Nat), (binOp .eql 29 (.slice a n c) (.slice none n' c')).run Try.prog w = .ok (.bool a.isNone) w := fun w a n c n' c' => Lib.run_eql_slice_nil w _ _ a n c n' c' Try.underlying29
  go_enter Try.func16, Try.ntmps16
  go_wp2
  go_ret
  exact ⟨rfl, rfl⟩

/-- 'copy(c, p)' AT ELEMENTS OF SEVERAL CELLS: the whole of a row of the call's own is written. -/
theorem run_copy_all {P : Program} {w : World} (dT sT ty elem : TypeId) (i : TypeInfo) (size : Nat) (hu : P.underlying dT = some (.slice elem)) (hi : P.info? elem = some i) (hsz : i.size = size)
    (g n dCap : Nat) (ad : Addr) (sCap : Nat) (cur : Array Value) (t : TypeId) (hg : w.heap[g]? = some (.cells cur t (0, 0))) (cs : List Value) (hn : cs.length = n * size)
    (hsrc : ∀ j v, cs[j]? = some v → w.cell? (ad.add j) = some v) (hfit : cs.length = cur.size) (h1 : ∀ v ∈ cs, v.oneCell' = true) :
    (Builtin.copy_ #[dT, sT] ty #[.slice (some ⟨g, 0, none⟩) n dCap, .slice (some ad) n sCap]).run P w = .ok (goInt n) (w.setRow g cs.toArray) := by
  subst hsz
  have hl := run_firstCells_some (P := P) w i.size n ad n sCap cs hn hsrc
  have hst := run_storeCells_at P g 0 t cs 0 cur w hg (by simpa using Nat.le_of_eq hfit) h1
  have e : cur.toList.take (0 + 0) ++ cs ++ cur.toList.drop (0 + 0 + cs.length) = cs := by simp [hfit]
  rw [e] at hst
  simp [Builtin.copy_, run_underlying hu, Builtin.lenOf, sizeOf, typeInfo, hi, hl, hst]

theorem info35 : (Try.prog.info? 35).map (fun i => (i.zero, i.size, i.bytes)) = some (some (.agg #[.int .i32 0, .int .i32 0]), 2, 8) := by kernel_rfl

theorem own_block {w : World} {base : Nat} {g n : Nat} {xs : List Value} (h : w.ownsRow base 35 2 (.slice (some ⟨g, 0, none⟩) n n) n xs) : ∃ cur, w.heap[g]? = some (.cells cur 35 (0, 0)) ∧ cur.size = n * 2 := by
  rcases h.2 with ⟨e, _⟩ | ⟨g', cap, cur, e, _, hg, _, _, hs, _⟩
  · cases e
  · simp only [Value.slice.injEq, Option.some.injEq, Addr.mk.injEq, and_true, true_and] at e
    obtain ⟨rfl, rfl⟩ := e
    exact ⟨cur, hg, hs⟩

theorem clone_src {ad : Addr} {len : Nat} {A V : Nat → Int} {w w1 : World} (h : ∀ j u, (prs len A V)[j]? = some u → w.cell? (ad.add j) = some u) (hg : w.grownBy w1 none) : ∀ j u, (prs len A V)[j]? = some u → w1.cell? (ad.add j) = some u :=
  fun j u hj => hg.cell (h j u hj) (by simp)

theorem clone_any (ad : Addr) (len cap : Nat) (A V : Nat → Int) (w : World) (hl : len ≤ 1048576) (hc : ∀ j u, (prs len A V)[j]? = some u → w.cell? (ad.add j) = some u) :
    Calls Try.prog 16 #[.slice (some ad) len cap] w fun e w' => e = .returned (.slice (some ⟨w.heap.size, 0, none⟩) len len) ∧ w'.heap[w.heap.size]? = some (.cells (prs len A V).toArray 35 (0, 0)) ∧ Below w.heap.size w w' := by
  obtain ⟨i0, hi, hz0, hz1, hz2⟩ := info_parts info35
  have q29 : ∀ (w : World) (a : Option Addr) (n c n' c' : Nat), (binOp .eql 29 (.slice a n c) (.slice none n' c')).run Try.prog w = .ok (.bool a.isNone) w := fun w a n c n' c' => Lib.run_eql_slice_nil w _ _ a n c n' c' Try.underlying29
  have HC : Hid (∀ j u, (prs len A V)[j]? = some u → w.cell? (ad.add j) = some u) := hc
  clear hc
  go_enter Try.func16, Try.ntmps16
  go_wp2_with (first
    | (at_make; refine wpList_make_full _ rfl _ _ 29 rfl w.heap.size 35 i0 (.agg #[.int .i32 0, .int .i32 0]) 2 Try.underlying29 hi hz0 hz1 .i64 .i64 _ _ len rfl rfl rfl rfl (by rw [hz2]; omega) (by unfold maxLen; omega) (Nat.le_refl _) ?_; intro w1 hown1 hgrow1; obtain ⟨cur, hcur, hcs⟩ := own_block hown1))
  rw [run_copy_all 29 29 3 35 i0 2 Try.underlying29 hi hz1 w.heap.size len len ad cap cur 35 hcur (prs len A V) (prs_length _ _ _) (clone_src HC.out hgrow1) (by rw [prs_length, hcs]) (prs_one _ _ _)]
  go_wp2
  go_ret
  refine ⟨rfl, setRow_heap w1 w.heap.size cur _ 35 _ hcur, below_setRow ((Below.refl _ _).grown hgrow1 (Nat.le_refl _) (fun k e => by cases e)) (Nat.le_refl _) _⟩

theorem stepsOf (a : Int) (v : Nat) (S : Nat) (w : World) (Q : Ending → World → Prop) (h : Calls Try.prog 28 #[.pointer (some ⟨S, 0, none⟩), .int .i32 a, .int .i32 v] w fun e w' => (∃ c, e = .returned (.int .i32 c)) ∧ Q e w') :
    Calls Try.prog 18 #[.pointer (some ⟨S, 0, none⟩), .int .i32 a, .int .i32 v] w Q := by
  have H : Hid (Calls Try.prog 28 #[.pointer (some ⟨S, 0, none⟩), .int .i32 a, .int .i32 v] w fun e w' => (∃ c, e = .returned (.int .i32 c)) ∧ Q e w') := h
  clear h
  go_enter Try.func18, Try.ntmps18
  go_wp2_with (go_at_call 28; refine H.out.mono ?_; rintro e w' ⟨⟨c, rfl⟩, hq⟩)
  exact hq

end Go.Proofs.Qxb6603794a
