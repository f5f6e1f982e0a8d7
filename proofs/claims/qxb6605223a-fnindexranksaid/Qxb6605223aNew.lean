/-
  ZZNewForced (14).
-/
import Derived.Test.Qxb6605223aBase3
namespace Go.Proofs.Qxb6605223a
open Go.RowKit

theorem ok126 : (Try.prog.info? 126).map (fun i => i.zero.isSome && decide (i.bytes ≤ 1000)) = some true := by kernel_rfl
theorem info75 : (Try.prog.info? 75).map (fun i => (i.zero, i.size, i.bytes)) = some (some (.slice none 0 0), 1, 24) := by kernel_rfl

theorem some126 : ∃ i z, Try.prog.info? 126 = some i ∧ i.zero = some z ∧ i.bytes ≤ 1000 := by
  have h := ok126
  cases hi : Try.prog.info? 126 with
  | none => rw [hi] at h; cases h
  | some i =>
    rw [hi] at h
    simp at h
    obtain ⟨h1, h2⟩ := h
    obtain ⟨z, hz⟩ := Option.isSome_iff_exists.1 h1
    exact ⟨i, z, rfl, hz, h2⟩

/-- The cells of the struct. -/
def fcells (G : Nat) (rd ret keys idx : Value) (ixd : Bool) (runs ro ent wa fs due used : Value) : Array Value :=
  #[.pointer (some ⟨G, 0, none⟩), rd, .slice none 0 0, .slice none 0 0, ret, keys, idx, .bool ixd, runs, ro, ent, .slice none 0 0, wa, fs, due, .slice none 0 0, .int .i64 0, .int .i64 0, .int .i64 0, used]

def FIs (F G : Nat) (rd ret keys idx : Value) (ixd : Bool) (runs ro ent wa fs due used : Value) (w : World) : Prop :=
  w.heap[F]? = some (.cells (fcells G rd ret keys idx ixd runs ro ent wa fs due used) 60 (0, 0))

section
variable {F G : Nat} {rd ret keys idx : Value} {ixd : Bool} {runs ro ent wa fs due used : Value} {w : World}

theorem FIs.fz (h : FIs F G rd ret keys idx ixd runs ro ent wa fs due used w) (j : Nat) : w.frozen? ⟨F, j, none⟩ = false := frozen_of_row w F j _ 60 h
theorem FIs.lt (h : FIs F G rd ret keys idx ixd runs ro ent wa fs due used w) : F < w.heap.size := lt_of_block h
theorem FIs.c (h : FIs F G rd ret keys idx ixd runs ro ent wa fs due used w) (j : Nat) : w.cell? ⟨F, j, none⟩ = (fcells G rd ret keys idx ixd runs ro ent wa fs due used)[j]? := cell_of_row _ _ _ _ _ _ h
theorem FIs.block {w' : World} (h : FIs F G rd ret keys idx ixd runs ro ent wa fs due used w) (e : w'.heap[F]? = w.heap[F]?) : FIs F G rd ret keys idx ixd runs ro ent wa fs due used w' := e.trans h
theorem FIs.set1 (h : FIs F G rd ret keys idx ixd runs ro ent wa fs due used w) (v : Value) : FIs F G v ret keys idx ixd runs ro ent wa fs due used (w.setCell ⟨F, 1, none⟩ v) := heap_setCell_same w F 1 _ 60 v h
theorem FIs.set4 (h : FIs F G rd ret keys idx ixd runs ro ent wa fs due used w) (v : Value) : FIs F G rd v keys idx ixd runs ro ent wa fs due used (w.setCell ⟨F, 4, none⟩ v) := heap_setCell_same w F 4 _ 60 v h
theorem FIs.set5 (h : FIs F G rd ret keys idx ixd runs ro ent wa fs due used w) (v : Value) : FIs F G rd ret v idx ixd runs ro ent wa fs due used (w.setCell ⟨F, 5, none⟩ v) := heap_setCell_same w F 5 _ 60 v h
theorem FIs.set6 (h : FIs F G rd ret keys idx ixd runs ro ent wa fs due used w) (v : Value) : FIs F G rd ret keys v ixd runs ro ent wa fs due used (w.setCell ⟨F, 6, none⟩ v) := heap_setCell_same w F 6 _ 60 v h
theorem FIs.set7 (h : FIs F G rd ret keys idx ixd runs ro ent wa fs due used w) (b : Bool) : FIs F G rd ret keys idx b runs ro ent wa fs due used (w.setCell ⟨F, 7, none⟩ (.bool b)) := heap_setCell_same w F 7 _ 60 _ h
theorem FIs.set8 (h : FIs F G rd ret keys idx ixd runs ro ent wa fs due used w) (v : Value) : FIs F G rd ret keys idx ixd v ro ent wa fs due used (w.setCell ⟨F, 8, none⟩ v) := heap_setCell_same w F 8 _ 60 v h
theorem FIs.set13 (h : FIs F G rd ret keys idx ixd runs ro ent wa fs due used w) (v : Value) : FIs F G rd ret keys idx ixd runs ro ent wa v due used (w.setCell ⟨F, 13, none⟩ v) := heap_setCell_same w F 13 _ 60 v h
theorem FIs.set14 (h : FIs F G rd ret keys idx ixd runs ro ent wa fs due used w) (v : Value) : FIs F G rd ret keys idx ixd runs ro ent wa fs v used (w.setCell ⟨F, 14, none⟩ v) := heap_setCell_same w F 14 _ 60 v h
theorem FIs.set19 (h : FIs F G rd ret keys idx ixd runs ro ent wa fs due used w) (v : Value) : FIs F G rd ret keys idx ixd runs ro ent wa fs due v (w.setCell ⟨F, 19, none⟩ v) := heap_setCell_same w F 19 _ 60 v h
theorem FIs.alloc (h : FIs F G rd ret keys idx ixd runs ro ent wa fs due used w) (o : Obj) : FIs F G rd ret keys idx ixd runs ro ent wa fs due used (w.alloc o) := h.block (Below.heap_alloc w o F h.lt)
theorem FIs.other (h : FIs F G rd ret keys idx ixd runs ro ent wa fs due used w) {p : Addr} (hp : p.block ≠ F) (u : Value) : FIs F G rd ret keys idx ixd runs ro ent wa fs due used (w.setCell p u) := h.block (heap_setCell_other w p F u (fun e => hp e.symm))
end

/-- The graph's cells. -/
def GIs (G n : Nat) (ops pr ps bp fr : Value) (w : World) : Prop :=
  w.heap[G]? = some (.cells #[ops, pr, ps, bp, fr, .map none, .slice none 0 0, .slice none 0 0] 53 (0, 0)) ∧ ∃ a, ops = .slice a n n

theorem GIs.c {G n : Nat} {ops pr ps bp fr : Value} {w : World} (h : GIs G n ops pr ps bp fr w) (j : Nat) : w.cell? ⟨G, j, none⟩ = (#[ops, pr, ps, bp, fr, .map none, .slice none 0 0, .slice none 0 0] : Array Value)[j]? := cell_of_row _ _ _ _ _ _ h.1
theorem GIs.block {G n : Nat} {ops pr ps bp fr : Value} {w w' : World} (h : GIs G n ops pr ps bp fr w) (e : w'.heap[G]? = w.heap[G]?) : GIs G n ops pr ps bp fr w' := ⟨e.trans h.1, h.2⟩
theorem GIs.lt {G n : Nat} {ops pr ps bp fr : Value} {w : World} (h : GIs G n ops pr ps bp fr w) : G < w.heap.size := lt_of_block h.1

abbrev nilV : Value := .slice none 0 0

/-- What ZZNewForced leaves. -/
def Newed (n n4 : Nat) (pr ps bp fr ro wa : Value) (w : World) (e : Ending) (w' : World) : Prop :=
  ∃ F G ops ent, e = .returned (.pointer (some ⟨F, 0, none⟩)) ∧ FIs F G nilV nilV nilV nilV false nilV ro ent wa nilV nilV nilV w' ∧ (∃ E, E < F ∧ w.heap.size ≤ E ∧ ent = .slice (some ⟨E, 0, none⟩) n4 n4 ∧ Row 75 E n4 (fun _ => nilV) w') ∧ GIs G n ops pr ps bp fr w' ∧ Below w.heap.size w w' ∧ w.heap.size ≤ G ∧ G < F

set_option maxHeartbeats 1000000 in
set_option maxRecDepth 100000 in
theorem new14 (n n1 P n3 n4 n5 c0 c1 c2 c3 c4 c5 : Nat) (pa0 pa1 pa2 pa3 pa4 pa5 : Option Addr) (w : World) (hn : n ≤ 4096) (h4 : n4 ≤ 4096) :
    Calls Try.prog 14 #[.slice pa0 n c0, .slice pa1 n1 c1, .slice pa2 P c2, .slice pa3 n3 c3, .slice pa4 n4 c4, .slice pa5 n5 c5] w fun e w' => Newed n n4 (.slice pa0 n c0) (.slice pa1 n1 c1) (.slice pa2 P c2) (.slice pa3 n3 c3) (.slice pa4 n4 c4) (.slice pa5 n5 c5) w e w' := by
  obtain ⟨i0, z0, hi, hz0, hz2⟩ := some126
  obtain ⟨i1, hj, hy0, hy1, hy2⟩ := info_parts info75
  have hb : i0.bytes * n ≤ 281474976710656 := by
    have : i0.bytes * n ≤ 1000 * 4096 := Nat.mul_le_mul hz2 hn
    omega
  go_enter Try.func14, Try.ntmps14
  go_wp2_with (first
    | (at_make; refine wpList_make_full _ rfl _ _ 49 rfl w.heap.size 126 i0 z0 i0.size Try.underlying49 hi hz0 rfl .i64 .i64 _ _ n rfl rfl rfl rfl hb (by unfold maxLen; omega) (Nat.le_refl _) ?_; intro w1 hown1 hgrow1)
    | (at_make; refine wpList_make_full _ rfl _ _ 54 rfl 0 75 i1 (.slice none 0 0) 1 Try.underlying54 hj hy0 hy1 .i64 .i64 _ _ n4 rfl rfl rfl rfl (by rw [hy2]; omega) (by unfold maxLen; omega) (Nat.zero_le _) ?_; intro w2 hown2 hgrow2))
  go_ret
  have s1 := hgrow1.size
  have s2 := hgrow2.size
  have e1 : (w1.alloc (.cells #[.slice (some ⟨w.heap.size, 0, none⟩) n n, .slice pa0 n c0, .slice pa1 n1 c1, .slice pa2 P c2, .slice pa3 n3 c3, .map none, .slice none 0 0, .slice none 0 0] 53)).heap.size = w1.heap.size + 1 := by simp
  rw [e1] at s2
  have hrow := Row.made hown2
  rw [e1] at hrow
  refine ⟨w2.heap.size, w1.heap.size, .slice (some ⟨w.heap.size, 0, none⟩) n n, .slice (some ⟨w1.heap.size + 1, 0, none⟩) n4 n4, rfl, heap_alloc_new w2 _, ⟨w1.heap.size + 1, ?_, by omega, rfl, ?_⟩, ⟨?_, _, rfl⟩, ?_, s1, by omega⟩
  · exact hrow.lt
  · exact hrow.block (Below.heap_alloc w2 _ _ hrow.lt)
  · rw [Below.heap_alloc w2 _ _ (by omega), hgrow2.block _ (by rw [e1]; omega) (by simp)]
    exact heap_alloc_new w1 _
  · exact ((((Below.refl _ _).grown hgrow1 (Nat.le_refl _) (fun k e => by cases e)).alloc s1 _).grown hgrow2 (by rw [e1]; omega) (fun k e => by cases e)).alloc (by omega) _
end Go.Proofs.Qxb6605223a
