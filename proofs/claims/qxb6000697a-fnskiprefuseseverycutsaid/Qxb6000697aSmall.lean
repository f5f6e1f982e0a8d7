/-
  WHAT THE WORLD HOLDS OF A READER ('items'); 'advance' (30), 'more' (31).
-/
import Derived.Test.Qxb6000697aProg
import Derived.WalkKit
import Derived.WalkSpells
import Derived.WalkLawsBesides
import Derived.Deep.QuietTactic
import Derived.BigQuiet
namespace Go.Proofs.Qxb6000697a
open Go.RowKit

theorem hid {p : Prop} (h : p) : Hid p := h

/-- The reader's block. -/
def It (R : Nat) (dv : Value) (w : World) (off : Int) (ok : Bool) : Prop := w.heap[R]? = some (.cells #[dv, .int .i64 off, .bool ok] 44 (0, 0))

section
variable {R : Nat} {dv : Value} {w : World} {off : Int} {ok : Bool}
theorem It.c0 (h : It R dv w off ok) : w.cell? ⟨R, 0, none⟩ = some dv := by unfold It at h; simp [World.cell?, h]
theorem It.c1 (h : It R dv w off ok) : w.cell? ⟨R, 1, none⟩ = some (.int .i64 off) := by unfold It at h; simp [World.cell?, h]
theorem It.c2 (h : It R dv w off ok) : w.cell? ⟨R, 2, none⟩ = some (.bool ok) := by unfold It at h; simp [World.cell?, h]
theorem It.fz (h : It R dv w off ok) (j : Nat) : w.frozen? ⟨R, j, none⟩ = false := frozen_of_row w R j _ 44 h
theorem It.lt (h : It R dv w off ok) : R < w.heap.size := lt_of_block h
end

/-- FROM w TO w': nothing that was there has turned but the reader's block, which now bears off and ok. -/
structure Gone (R : Nat) (dv : Value) (w w' : World) (off : Int) (ok : Bool) : Prop where
  it : It R dv w' off ok
  grown : w.grownBy w' (some R)

section
variable {R : Nat} {dv : Value} {w w' w'' : World} {off off' : Int} {ok ok' : Bool}

theorem Gone.start (h : It R dv w off ok) : Gone R dv w w off ok := ⟨h, ⟨rfl, rfl, rfl, Nat.le_refl _, fun _ _ _ => rfl⟩⟩

theorem grown_trans {a b c : World} (h : a.grownBy b (some R)) (k : b.grownBy c (some R)) : a.grownBy c (some R) :=
  ⟨k.os.trans h.os, k.tape.trans h.tape, k.output.trans h.output, Nat.le_trans h.size k.size, fun i hi hne => (k.block i (Nat.lt_of_lt_of_le hi h.size) hne).trans (h.block i hi hne)⟩

theorem Gone.trans (h : Gone R dv w w' off ok) (k : Gone R dv w' w'' off' ok') : Gone R dv w w'' off' ok' := ⟨k.it, grown_trans h.grown k.grown⟩

theorem Gone.drewN (h : Gone R dv w w' off ok) (n : Nat) : Gone R dv w (w'.drewN n) off ok :=
  ⟨h.it, ⟨h.grown.os, h.grown.tape, h.grown.output, h.grown.size, h.grown.block⟩⟩

theorem Gone.drew (h : Gone R dv w w' off ok) : Gone R dv w w'.drew off ok :=
  ⟨h.it, ⟨h.grown.os, h.grown.tape, h.grown.output, h.grown.size, h.grown.block⟩⟩

theorem Gone.alloc (h : Gone R dv w w' off ok) (o : Obj) : Gone R dv w (w'.alloc o) off ok :=
  ⟨by unfold It; rw [Below.heap_alloc w' o R h.it.lt]; exact h.it, grown_trans h.grown (World.grownBy_alloc w' o _)⟩

theorem Gone.set1 (h : Gone R dv w w' off ok) (x : Int) : Gone R dv w (w'.setCell ⟨R, 1, none⟩ (.int .i64 x)) x ok := by
  refine ⟨?_, grown_trans h.grown ⟨rfl, rfl, rfl, by simp [World.setCell], fun k _ hk => heap_setCell_other w' ⟨R, 1, none⟩ k _ (fun e => hk (by simp [e]))⟩⟩
  unfold It
  rw [heap_setCell_same w' R 1 _ 44 _ h.it]
  rfl

theorem Gone.set2 (h : Gone R dv w w' off ok) (x : Bool) : Gone R dv w (w'.setCell ⟨R, 2, none⟩ (.bool x)) off x := by
  refine ⟨?_, grown_trans h.grown ⟨rfl, rfl, rfl, by simp [World.setCell], fun k _ hk => heap_setCell_other w' ⟨R, 2, none⟩ k _ (fun e => hk (by simp [e]))⟩⟩
  unfold It
  rw [heap_setCell_same w' R 2 _ 44 _ h.it]
  rfl

/-- A store into a block of the call's own. -/
theorem Gone.setNew (h : Gone R dv w w' off ok) {k : Nat} (hk : w.heap.size ≤ k) (hR : R < w.heap.size) (j : Nat) (v : Value) : Gone R dv w (w'.setCell ⟨k, j, none⟩ v) off ok := by
  refine ⟨?_, ⟨h.grown.os, h.grown.tape, h.grown.output, by simpa [World.setCell] using h.grown.size, fun i hi hne => ?_⟩⟩
  · unfold It
    rw [heap_setCell_other w' ⟨k, j, none⟩ R v (by simp; omega)]
    exact h.it
  · rw [heap_setCell_other w' ⟨k, j, none⟩ i v (by simp; omega)]
    exact h.grown.block i hi hne
end

/-- The bytes that the reader reads. -/
def Seg (pa : Option Addr) (n : Nat) (D : Nat → Nat) (w : World) : Prop := 0 < n → ∃ b o, pa = some ⟨b, o, none⟩ ∧ ∀ i, i < n → w.cell? ⟨b, o + i, none⟩ = some (.int .u8 (D i))

theorem Seg.kept {pa : Option Addr} {n cap : Nat} {D : Nat → Nat} {w w' : World} {R : Nat} {off : Int} {ok : Bool} (h : Seg pa n D w) (hi : It R (.slice pa n cap) w off ok) (hg : w.grownBy w' (some R)) : Seg pa n D w' := by
  intro hn
  obtain ⟨b, o, e, hc⟩ := h hn
  refine ⟨b, o, e, fun i hi' => ?_⟩
  refine hg.cell (hc i hi') (fun e' => ?_)
  simp at e'
  subst e'
  have := hc i hi'
  unfold It at hi
  simp only [World.cell?, hi] at this
  match h3 : o + i with
  | 0 => simp [h3] at this
  | 1 => simp [h3] at this
  | 2 => simp [h3] at this
  | k + 3 => simp [h3] at this

section
variable (R : Nat) (dv : Value) (w : World) (off : Int)

theorem adv_none (a : Int) (h : It R dv w off false) :
    Calls Try.prog 30 #[.pointer (some ⟨R, 0, none⟩), .int .u64 a] w fun e w' => e = .returned (.tuple #[]) ∧ Gone R dv w w' off false := by
  have c0 := h.c0
  have c1 := h.c1
  have c2 := h.c2
  have z0 := h.fz 0
  have z1 := h.fz 1
  have z2 := h.fz 2
  go_enter Try.func30, Try.ntmps30
  go_wp2
  go_quiet (fail)
  go_wp2
  refine bodyPost_ret (results_none rfl _ _ _) rfl ?_
  exact ⟨rfl, ((Gone.start h).drewN _).set2 false⟩

theorem adv_yes (pa : Option Addr) (n cap : Nat) (a : Int) (h : It R (.slice pa n cap) w off true) (h0 : 0 ≤ off) (h1 : off ≤ n) (hn : n ≤ 1048576) (ha0 : 0 ≤ a) (ha : a ≤ n - off) :
    Calls Try.prog 30 #[.pointer (some ⟨R, 0, none⟩), .int .u64 a] w fun e w' => e = .returned (.tuple #[]) ∧ Gone R (.slice pa n cap) w w' (off + a) true := by
  have c0 := h.c0
  have c1 := h.c1
  have c2 := h.c2
  have z0 := h.fz 0
  have z1 := h.fz 1
  have z2 := h.fz 2
  go_enter Try.func30, Try.ntmps30
  go_wp2
  go_quiet (fail)
  go_wp2
  go_end0
  exact ⟨rfl, ((Gone.start h).drewN _).set1 _⟩

theorem adv_no (pa : Option Addr) (n cap : Nat) (a : Int) (h : It R (.slice pa n cap) w off true) (h0 : 0 ≤ off) (h1 : off ≤ n) (hn : n ≤ 1048576) (ha : n - off < a) :
    Calls Try.prog 30 #[.pointer (some ⟨R, 0, none⟩), .int .u64 a] w fun e w' => e = .returned (.tuple #[]) ∧ Gone R (.slice pa n cap) w w' off false := by
  have c0 := h.c0
  have c1 := h.c1
  have c2 := h.c2
  have z0 := h.fz 0
  have z1 := h.fz 1
  have z2 := h.fz 2
  go_enter Try.func30, Try.ntmps30
  go_wp2
  go_quiet (fail)
  go_wp2
  refine bodyPost_ret (results_none rfl _ _ _) rfl ?_
  exact ⟨rfl, ((Gone.start h).drewN _).set2 false⟩

theorem more_none (m a i : Int) (t : Bool) (h : It R dv w off false) :
    Calls Try.prog 31 #[.pointer (some ⟨R, 0, none⟩), .agg #[.int .u8 m, .int .u64 a, .bool t], .int .u64 i] w fun e w' => e = .returned (.bool false) ∧ Gone R dv w w' off false := by
  have c0 := h.c0
  have c1 := h.c1
  have c2 := h.c2
  have hR := h.lt
  go_enter Try.func31, Try.ntmps31
  go_wp2
  go_ret
  exact ⟨rfl, (Gone.start h).alloc _⟩

theorem more_def (m a i : Int) (h : It R dv w off true) :
    Calls Try.prog 31 #[.pointer (some ⟨R, 0, none⟩), .agg #[.int .u8 m, .int .u64 a, .bool false], .int .u64 i] w fun e w' => e = .returned (.bool (decide (i < a))) ∧ Gone R dv w w' off true := by
  have c0 := h.c0
  have c1 := h.c1
  have c2 := h.c2
  have hR := h.lt
  go_enter Try.func31, Try.ntmps31
  go_wp2
  go_ret
  exact ⟨rfl, (Gone.start h).alloc _⟩

/-- Of indefinite length, at the data's end: more. -/
theorem more_end (pa : Option Addr) (n cap : Nat) (m a i : Int) (h : It R (.slice pa n cap) w off true) (h1 : n ≤ off) :
    Calls Try.prog 31 #[.pointer (some ⟨R, 0, none⟩), .agg #[.int .u8 m, .int .u64 a, .bool true], .int .u64 i] w fun e w' => e = .returned (.bool true) ∧ Gone R (.slice pa n cap) w w' off true := by
  have c0 := h.c0
  have c1 := h.c1
  have c2 := h.c2
  have hR := h.lt
  have hd : decide (off < (n : Int)) = false := decide_eq_false (by omega)
  go_enter Try.func31, Try.ntmps31
  go_wp2
  go_quiet (fail)
  go_wp2
  go_ret
  exact ⟨rfl, ((Gone.start h).alloc _).drewN _⟩

end

/-- .. at a byte that is not the stop code: more. -/
theorem more_go (R : Nat) (w : World) (off : Nat) (b o n cap : Nat) (x : Nat) (m a i : Int) (h : It R (.slice (some ⟨b, o, none⟩) n cap) w off true) (h1 : (off : Int) < (n : Int)) (hc : w.cell? ⟨b, o + off, none⟩ = some (.int .u8 x)) (hx : (x : Int) ≠ 255) :
    Calls Try.prog 31 #[.pointer (some ⟨R, 0, none⟩), .agg #[.int .u8 m, .int .u64 a, .bool true], .int .u64 i] w fun e w' => e = .returned (.bool true) ∧ Gone R (.slice (some ⟨b, o, none⟩) n cap) w w' off true := by
  have c0 := h.c0
  have c1 := h.c1
  have c2 := h.c2
  have hR := h.lt
  have hb := World.block_lt_of_cell? w _ hc
  have h0 : (0 : Int) ≤ (off : Int) := by omega
  have hd : ((x : Int) == 255) = false := beq_eq_false_iff_ne.2 hx
  go_enter Try.func31, Try.ntmps31
  go_wp2
  go_quiet (fail)
  go_wp2
  go_ret
  exact ⟨rfl, ((Gone.start h).alloc _).drewN _⟩

/-- .. at the stop code: it is read, and that was all. -/
theorem more_stop (R : Nat) (w : World) (off : Nat) (b o n cap : Nat) (m a i : Int) (h : It R (.slice (some ⟨b, o, none⟩) n cap) w off true) (hn : n ≤ 1048576) (h1 : (off : Int) < (n : Int)) (hc : w.cell? ⟨b, o + off, none⟩ = some (.int .u8 255)) :
    Calls Try.prog 31 #[.pointer (some ⟨R, 0, none⟩), .agg #[.int .u8 m, .int .u64 a, .bool true], .int .u64 i] w fun e w' => e = .returned (.bool false) ∧ Gone R (.slice (some ⟨b, o, none⟩) n cap) w w' (off + 1) true := by
  have c0 := h.c0
  have c1 := h.c1
  have c2 := h.c2
  have z1 := h.fz 1
  have hR := h.lt
  have hb := World.block_lt_of_cell? w _ hc
  have h0 : (0 : Int) ≤ (off : Int) := by omega
  go_enter Try.func31, Try.ntmps31
  go_wp2
  go_quiet (fail)
  go_wp2
  go_ret
  first
    | exact ⟨rfl, (((Gone.start h).alloc _).drewN _).set1 _⟩
    | exact ⟨rfl, (((Gone.start h).set1 _).alloc _).drewN _⟩
    | exact ⟨rfl, (((Gone.start h).drewN _).set1 _).alloc _⟩

end Go.Proofs.Qxb6000697a
