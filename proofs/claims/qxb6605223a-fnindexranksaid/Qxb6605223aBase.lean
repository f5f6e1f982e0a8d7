/-
  ROWS OF CELLS, FRAMES, AND THE SMALL FUNCTIONS: zzReadsIn (9), zzCloneInt (10), zzClone32 (11), zzCloneInt2 (12), zzReturnedBy (13).
-/
import Derived.Test.Qxb6605223aProg
import Derived.Laws.CopyOwn
import Derived.WalkKit
import Derived.WalkSpells
import Derived.WalkLawsBesides
import Derived.Below
import Derived.Deep.LoopGhost
namespace Go.Proofs.Qxb6605223a
open Go.RowKit

theorem hid {p : Prop} (h : p) : Hid p := h

/-- A row that is read: n elements at pa, of one cell each; its block is under B and is not R. -/
def Sg (R B : Nat) (pa : Option Addr) (n : Nat) (V : Nat → Value) (w : World) : Prop :=
  0 < n → ∃ b o, pa = some ⟨b, o, none⟩ ∧ b ≠ R ∧ b < B ∧ ∀ i, i < n → w.cell? ⟨b, o + i, none⟩ = some (V i)

/-- What lies under B, but for R, is as it was. -/
structure Kp (R B : Nat) (w w' : World) : Prop where
  os : w'.os = w.os
  tape : w'.tape = w.tape
  output : w'.output = w.output
  size : w.heap.size ≤ w'.heap.size
  block : ∀ k, k < B → k ≠ R → w'.heap[k]? = w.heap[k]?

theorem Kp.refl (R B : Nat) (w : World) : Kp R B w w := ⟨rfl, rfl, rfl, Nat.le_refl _, fun _ _ _ => rfl⟩
theorem Kp.trans {R B : Nat} {a b c : World} (h : Kp R B a b) (k : Kp R B b c) : Kp R B a c :=
  ⟨k.os.trans h.os, k.tape.trans h.tape, k.output.trans h.output, Nat.le_trans h.size k.size, fun i h1 h2 => (k.block i h1 h2).trans (h.block i h1 h2)⟩
theorem Kp.of_below {R B : Nat} {w w' : World} (h : Below B w w') : Kp R B w w' := ⟨h.os, h.tape, h.output, h.size, fun i h1 _ => h.block i h1⟩
theorem Kp.below {R B n : Nat} {w w' : World} (h : Kp R B w w') (hR : n ≤ R) (hB : n ≤ B) : Below n w w' := ⟨h.os, h.tape, h.output, h.size, fun i h1 => h.block i (by omega) (by omega)⟩
theorem Kp.alloc {R B : Nat} {a w : World} (h : Kp R B a w) (hB : B ≤ w.heap.size) (o : Obj) : Kp R B a (w.alloc o) := h.trans (Kp.of_below ((Below.refl B w).alloc hB o))
theorem Kp.setCell {R B : Nat} {a w : World} (h : Kp R B a w) {p : Addr} (hp : B ≤ p.block ∨ p.block = R) (u : Value) : Kp R B a (w.setCell p u) :=
  h.trans ⟨rfl, rfl, rfl, by simp [World.setCell], fun k h1 h2 => heap_setCell_other w p k u (fun e => by omega)⟩
theorem Kp.grown {R B : Nat} {a w w' : World} {row : Option Nat} (h : Kp R B a w) (hg : w.grownBy w' row) (hB : B ≤ w.heap.size) (hr : ∀ k, row = some k → B ≤ k) : Kp R B a w' :=
  h.trans (Kp.of_below ((Below.refl B w).grown hg hB hr))
theorem Kp.drew {R B : Nat} {a w : World} (h : Kp R B a w) : Kp R B a w.drew := ⟨h.os, h.tape, h.output, h.size, h.block⟩

theorem Sg.kept {R B : Nat} {pa : Option Addr} {n : Nat} {V : Nat → Value} {w w' : World} (h : Sg R B pa n V w) (hk : Kp R B w w') : Sg R B pa n V w' := by
  intro hn
  obtain ⟨b, o, e, h1, h2, hc⟩ := h hn
  exact ⟨b, o, e, h1, h2, fun i hi => by rw [World.cell?_of_block (w := w) (w' := w') (a := ⟨b, o + i, none⟩) (hk.block b h2 h1)]; exact hc i hi⟩
theorem Sg.mono {R B B' : Nat} {pa : Option Addr} {n : Nat} {V : Nat → Value} {w : World} (h : Sg R B pa n V w) (hB : B ≤ B') : Sg R B' pa n V w := by
  intro hn
  obtain ⟨b, o, e, h1, h2, hc⟩ := h hn
  exact ⟨b, o, e, h1, by omega, hc⟩
theorem Sg.other {R R' B B' : Nat} {pa : Option Addr} {n : Nat} {V : Nat → Value} {w : World} (h : Sg R B pa n V w) (hR : B ≤ R') (hB : B ≤ B') : Sg R' B' pa n V w := by
  intro hn
  obtain ⟨b, o, e, h1, h2, hc⟩ := h hn
  exact ⟨b, o, e, by omega, by omega, hc⟩
theorem Sg.below {R B : Nat} {pa : Option Addr} {n : Nat} {V : Nat → Value} {w w' : World} (h : Sg R B pa n V w) (hk : Below B w w') : Sg R B pa n V w' := h.kept (Kp.of_below hk)

/-- A whole block of cells. -/
def Row (t : TypeId) (b n : Nat) (V : Nat → Value) (w : World) : Prop :=
  ∃ cur, w.heap[b]? = some (.cells cur t (0, 0)) ∧ cur.size = n ∧ ∀ i, i < n → cur[i]? = some (V i)

theorem Row.sg {t : TypeId} {b n R B : Nat} {V : Nat → Value} {w : World} (h : Row t b n V w) (hR : b ≠ R) (hB : b < B) : Sg R B (some ⟨b, 0, none⟩) n V w := by
  intro _
  obtain ⟨cur, hg, _, hc⟩ := h
  exact ⟨b, 0, rfl, hR, hB, fun i hi => by rw [cell_of_row _ _ _ _ _ _ hg, Nat.zero_add]; exact hc i hi⟩

theorem below_two {w w2 w3 : World} (h : Below w.heap.size w w2) (k : Below w2.heap.size w2 w3) : Below w.heap.size w w3 := h.trans (k.mono h.size)

/-- The first k cells of block g are written. -/
def Part (t : TypeId) (g n k : Nat) (V : Nat → Value) (w : World) : Prop :=
  ∃ cur, w.heap[g]? = some (.cells cur t (0, 0)) ∧ cur.size = n ∧ ∀ i, i < k → cur[i]? = some (V i)

theorem Part.set {t : TypeId} {g n k : Nat} {V : Nat → Value} {w : World} (h : Part t g n k V w) (hk : k < n) : Part t g n (k + 1) V (w.setCell ⟨g, k, none⟩ (V k)) := by
  obtain ⟨cur, hg, hs, hc⟩ := h
  refine ⟨cur.setIfInBounds k (V k), heap_setCell_same w g k _ t _ hg, by simpa using hs, fun i hi => ?_⟩
  by_cases e : i = k
  · subst e
    simp [hs, hk]
  · rw [Array.getElem?_setIfInBounds_ne (by omega)]
    exact hc i (by omega)

theorem Part.fz {t : TypeId} {g n k : Nat} {V : Nat → Value} {w : World} (h : Part t g n k V w) (j : Nat) : w.frozen? ⟨g, j, none⟩ = false := by
  obtain ⟨cur, hg, _⟩ := h
  exact frozen_of_row w g j _ t hg
theorem Part.old {t : TypeId} {g n k : Nat} {V : Nat → Value} {w : World} (h : Part t g n k V w) (j : Nat) (hj : j < n) : ∃ u, w.cell? ⟨g, j, none⟩ = some u := by
  obtain ⟨cur, hg, hs, _⟩ := h
  rw [cell_of_row _ _ _ _ _ _ hg]
  exact ⟨cur[j]'(by omega), by simp [hs, hj]⟩

theorem Part.made {t : TypeId} {g n base : Nat} {V : Nat → Value} {w : World} {xs : List Value} (h : w.ownsRow base t 1 (.slice (some ⟨g, 0, none⟩) n n) n xs) : Part t g n 0 V w := by
  rcases h.2 with ⟨e, _⟩ | ⟨g', cap, cur, e, _, hg, _, _, hs, _⟩
  · cases e
  · simp only [Value.slice.injEq, Option.some.injEq, Addr.mk.injEq, and_true, true_and] at e
    obtain ⟨rfl, rfl⟩ := e
    exact ⟨cur, hg, by omega, fun i hi => absurd hi (Nat.not_lt_zero _)⟩

theorem info3 : (Try.prog.info? 3).map (fun i => (i.zero, i.size, i.bytes)) = some (some (.int .i64 0), 1, 8) := by kernel_rfl
theorem info21 : (Try.prog.info? 21).map (fun i => (i.zero, i.size, i.bytes)) = some (some (.int .i32 0), 1, 4) := by kernel_rfl
theorem info22 : (Try.prog.info? 22).map (fun i => (i.zero, i.size, i.bytes)) = some (some (.slice none 0 0), 1, 24) := by kernel_rfl
theorem info4 : (Try.prog.info? 4).map (fun i => (i.zero, i.size, i.bytes)) = some (some (.bool false), 1, 1) := by kernel_rfl

/-- What a test leaves: a bool; where it is true, p. -/
def Told (p : Prop) (w : World) (e : Ending) (w' : World) : Prop := (∃ b, e = .returned (.bool b) ∧ (b = true → p)) ∧ w = w'

theorem Told.no {p : Prop} {w : World} : Told p w (.returned (.bool false)) w := ⟨⟨false, rfl, fun h => by cases h⟩, rfl⟩
theorem Told.yes {p : Prop} {w : World} (h : p) : Told p w (.returned (.bool true)) w := ⟨⟨true, rfl, fun _ => h⟩, rfl⟩

theorem readsIn (R B n m cap : Nat) (pa : Option Addr) (A : Nat → Int) (w : World) (hm : m ≤ 1048576) (hS : Sg R B pa m (fun i => .int .i64 (A i)) w) :
    Calls Try.prog 9 #[.int .i64 n, .slice pa m cap] w fun e w' => Told (∀ k, k < m → 0 ≤ A k ∧ A k < n) w e w' := by
  have HS := hid hS
  clear hS
  go_enter Try.func9, Try.ntmps9
  go_wp2
  go_loop [5] (fun i => ∃ k : Nat, k ≤ m ∧ i = .int .i64 k ∧ Hid (∀ j, j < k → 0 ≤ A j ∧ A j < n)) (fun i => m - (intOf i).toNat)
  case atStart => exact ⟨0, Nat.zero_le _, rfl, fun j hj => absurd hj (Nat.not_lt_zero _)⟩
  case round =>
    obtain ⟨k, hk, rfl, HF⟩ := hrel
    by_cases hlt : k < m
    · obtain ⟨b, o, rfl, _, _, hc⟩ := HS.out (by omega)
      have h0 : w.cell? ⟨b, o + k, none⟩ = some (.int .i64 (A k)) := hc k hlt
      clear hc
      go_wp2
      · go_ret
        exact Told.no
      · go_round
        case rel => exact ⟨k + 1, by omega, by go_num, fun j hj => by
          rcases Nat.lt_succ_iff_lt_or_eq.1 hj with h | rfl
          · exact HF.out j h
          · omega⟩
        case measure => simp [intOf]; omega
      · go_ret
        exact Told.no
    · go_wp2
      go_ret
      exact Told.yes (fun i hi => HF.out i (by omega))

/-- What a clone leaves. -/
def Cloned (t : TypeId) (n : Nat) (V : Nat → Value) (w : World) (e : Ending) (w' : World) : Prop :=
  ∃ pa' cap', e = .returned (.slice pa' n cap') ∧ (0 < n → pa' = some ⟨w.heap.size, 0, none⟩ ∧ Row t w.heap.size n V w') ∧ Below w.heap.size w w'

theorem cloneInt (R B n cap : Nat) (pa : Option Addr) (A : Nat → Int) (w : World) (hn : n ≤ 1048576) (hB : B ≤ w.heap.size) (hS : Sg R B pa n (fun i => .int .i64 (A i)) w) :
    Calls Try.prog 10 #[.slice pa n cap] w fun e w' => Cloned 3 n (fun i => .int .i64 (A i)) w e w' := by
  obtain ⟨i0, hi, hz0, hz1, hz2⟩ := info_parts info3
  have q22 : ∀ (w : World) (a : Option Addr) (n c n' c' : Nat), (binOp .eql 22 (.slice a n c) (.slice none n' c')).run Try.prog w = .ok (.bool a.isNone) w := fun w a n c n' c' => Lib.run_eql_slice_nil w _ _ a n c n' c' Try.underlying22
  have HS := hid hS
  clear hS
  cases pa with
  | none =>
    have h0 : ¬ 0 < n := fun h => by obtain ⟨b, o, e, _⟩ := HS.out h; cases e
    go_enter Try.func10, Try.ntmps10
    go_wp2
    go_ret
    obtain rfl : n = 0 := by omega
    exact ⟨none, 0, rfl, fun h => absurd h h0, Below.refl _ _⟩
  | some ad =>
    go_enter Try.func10, Try.ntmps10
    go_wp2_with (first
      | (at_make; refine wpList_make_full _ rfl _ _ 22 rfl w.heap.size 3 i0 (.int .i64 0) 1 Try.underlying22 hi hz0 hz1 .i64 .i64 _ _ n rfl rfl rfl rfl (by rw [hz2]; omega) (by unfold maxLen; omega) (Nat.le_refl _) ?_; intro w1 hown1 hgrow1))
    have hP := Part.made (V := fun i => .int .i64 (A i)) hown1
    have hb1 : Below w.heap.size w w1 := (Below.refl _ _).grown hgrow1 (Nat.le_refl _) (fun k e => by cases e)
    clear hown1 hgrow1
    go_loopg [4] n (fun k i wr => ∃ j : Nat, j + k = n ∧ i = .int .i64 j ∧ Part 3 w.heap.size n j (fun i => .int .i64 (A i)) wr ∧ Below w.heap.size w wr)
    case atStart => exact ⟨0, by omega, rfl, hP, hb1⟩
    case round =>
      obtain ⟨j, hj, rfl, hPj, hbj⟩ := hrel
      clear hP hb1
      by_cases hlt : j < n
      · obtain ⟨b, o, e0, hbR, hbB, hc⟩ := (HS.out.below (hbj.mono hB)) (by omega)
        cases e0
        have h0 : wr.cell? ⟨b, o + j, none⟩ = some (.int .i64 (A j)) := hc j hlt
        obtain ⟨u, hu⟩ := hPj.old j hlt
        have hfz := hPj.fz j
        clear hc
        go_wp2
        go_roundg (n - (j + 1))
        case measure => omega
        case rel => exact ⟨j + 1, by omega, by go_num, hPj.set hlt, hbj.setCell (p := ⟨w.heap.size, j, none⟩) (Nat.le_refl _) _⟩
      · go_wp2
        go_ret
        obtain rfl : j = n := by omega
        exact ⟨_, _, rfl, fun _ => ⟨rfl, hPj⟩, hbj⟩

theorem clone32 (R B n cap : Nat) (pa : Option Addr) (A : Nat → Int) (w : World) (hn : n ≤ 1048576) (hB : B ≤ w.heap.size) (hS : Sg R B pa n (fun i => .int .i32 (A i)) w) :
    Calls Try.prog 11 #[.slice pa n cap] w fun e w' => Cloned 21 n (fun i => .int .i32 (A i)) w e w' := by
  obtain ⟨i0, hi, hz0, hz1, hz2⟩ := info_parts info21
  have q22 : ∀ (w : World) (a : Option Addr) (n c n' c' : Nat), (binOp .eql 23 (.slice a n c) (.slice none n' c')).run Try.prog w = .ok (.bool a.isNone) w := fun w a n c n' c' => Lib.run_eql_slice_nil w _ _ a n c n' c' Try.underlying23
  have HS := hid hS
  clear hS
  cases pa with
  | none =>
    have h0 : ¬ 0 < n := fun h => by obtain ⟨b, o, e, _⟩ := HS.out h; cases e
    go_enter Try.func11, Try.ntmps11
    go_wp2
    go_ret
    obtain rfl : n = 0 := by omega
    exact ⟨none, 0, rfl, fun h => absurd h h0, Below.refl _ _⟩
  | some ad =>
    go_enter Try.func11, Try.ntmps11
    go_wp2_with (first
      | (at_make; refine wpList_make_full _ rfl _ _ 23 rfl w.heap.size 21 i0 (.int .i32 0) 1 Try.underlying23 hi hz0 hz1 .i64 .i64 _ _ n rfl rfl rfl rfl (by rw [hz2]; omega) (by unfold maxLen; omega) (Nat.le_refl _) ?_; intro w1 hown1 hgrow1))
    have hP := Part.made (V := fun i => .int .i32 (A i)) hown1
    have hb1 : Below w.heap.size w w1 := (Below.refl _ _).grown hgrow1 (Nat.le_refl _) (fun k e => by cases e)
    clear hown1 hgrow1
    go_loopg [4] n (fun k i wr => ∃ j : Nat, j + k = n ∧ i = .int .i64 j ∧ Part 21 w.heap.size n j (fun i => .int .i32 (A i)) wr ∧ Below w.heap.size w wr)
    case atStart => exact ⟨0, by omega, rfl, hP, hb1⟩
    case round =>
      obtain ⟨j, hj, rfl, hPj, hbj⟩ := hrel
      clear hP hb1
      by_cases hlt : j < n
      · obtain ⟨b, o, e0, hbR, hbB, hc⟩ := (HS.out.below (hbj.mono hB)) (by omega)
        cases e0
        have h0 : wr.cell? ⟨b, o + j, none⟩ = some (.int .i32 (A j)) := hc j hlt
        obtain ⟨u, hu⟩ := hPj.old j hlt
        have hfz := hPj.fz j
        clear hc
        go_wp2
        go_roundg (n - (j + 1))
        case measure => omega
        case rel => exact ⟨j + 1, by omega, by go_num, hPj.set hlt, hbj.setCell (p := ⟨w.heap.size, j, none⟩) (Nat.le_refl _) _⟩
      · go_wp2
        go_ret
        obtain rfl : j = n := by omega
        exact ⟨_, _, rfl, fun _ => ⟨rfl, hPj⟩, hbj⟩
end Go.Proofs.Qxb6605223a
