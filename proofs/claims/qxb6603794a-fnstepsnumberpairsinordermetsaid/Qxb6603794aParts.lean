/-
  WHAT THE WORLD HOLDS OF A 'steps': its struct's block, its row of first pairs, its map; the frame of a call that works on it.
-/
import Derived.Test.Qxb6603794aPlain
import Derived.Test.Qxb6603794aProg
import Derived.Maps.OwnSet
import Derived.Maps.OwnOps
import Derived.WideKeyPair
import Derived.DeepKeys4
namespace Go.Proofs.Qxb6603794a
open Go.RowKit Go.Maps

theorem laidOut : laidOutB Try.prog = true := by kernel_rfl
theorem row35 : (35 : TypeId) < Try.prog.types.size := of_decide_eq_true (by kernel_rfl)
theorem cells35 : Try.prog.cellsOf 35 = 2 := by kernel_rfl
theorem wide35 : (match Try.prog.underlying 35 with | some (.array _ _) | some (.struct _) => true | _ => false) = true := by rw [Try.underlying35]
theorem arr35 : WideMaps.ArrKey Try.prog 35 21 2 := ⟨Try.underlying35, by kernel_rfl, by kernel_rfl, cells35⟩
theorem klaw : WideMaps.KeyLaw Try.prog 35 := deep_law_laid laidOut (m := 2) (by omega) row35 (by kernel_rfl) wide35
theorem law : Keyed Try.prog 35 := Keyed.of_law klaw
theorem typesPos : ∃ m, Try.prog.types.size = m + 1 := ⟨78, by kernel_rfl⟩

/-- What a pair reads as, as a key. -/
def kp (a b : Int) : Lit := .string (keyBytes [.int .i32 a, .int .i32 b])

theorem key_pair {a b : Int} (wa : (Lit.int .i32 a).wf = true) (wb : (Lit.int .i32 b).wf = true) : keyOf Try.prog 35 (.agg #[.int .i32 a, .int .i32 b]) = some (kp a b) :=
  WideMaps.keyOf_pair arr35 Try.underlying21 typesPos wa wb

theorem kp_key (a b : Int) : WideAt.IsKeyLit (kp a b) := trivial

theorem kp_inj {a b c d : Int} (wa : (Lit.int .i32 a).wf = true) (wb : (Lit.int .i32 b).wf = true) (wc : (Lit.int .i32 c).wf = true) (wd : (Lit.int .i32 d).wf = true) (h : kp a b = kp c d) : a = c ∧ b = d := by
  have h1 := key_pair wa wb
  have h2 := key_pair wc wd
  rw [h] at h1
  have h3 := law.inj h1 h2
  simp at h3
  exact h3

theorem zero21 (w : World) : (zeroValue 21).run Try.prog w = .ok (.int .i32 0) w := by kernel_rfl
theorem info56 : (Try.prog.info? 56).map (fun i => (i.zero, i.size, i.bytes)) = some (some (.agg #[.int .i32 0, .int .i32 0]), 2, 8) := by kernel_rfl

/-- WHAT A CALL ON THE STEPS AT BLOCK S LEAVES ALONE: what lies below S; block S + 1; every box and row of pairs (type 35). -/
structure Fr (S : Nat) (w w' : World) : Prop where
  os : w'.os = w.os
  tape : w'.tape = w.tape
  output : w'.output = w.output
  size : w.heap.size ≤ w'.heap.size
  low : ∀ k, k < w.heap.size → k ≤ S + 1 → k ≠ S → w'.heap[k]? = w.heap[k]?
  box : ∀ (k : Nat) (cs : Array Value) (fr : Nat × Nat), w.heap[k]? = some (Obj.cells cs 35 fr) → w'.heap[k]? = some (Obj.cells cs 35 fr)

theorem Fr.refl (S : Nat) (w : World) : Fr S w w := ⟨rfl, rfl, rfl, Nat.le_refl _, fun _ _ _ _ => rfl, fun _ _ _ h => h⟩

theorem Fr.trans {S : Nat} {a b c : World} (h : Fr S a b) (k : Fr S b c) : Fr S a c :=
  ⟨k.os.trans h.os, k.tape.trans h.tape, k.output.trans h.output, Nat.le_trans h.size k.size,
    fun i hi h1 h2 => (k.low i (Nat.lt_of_lt_of_le hi h.size) h1 h2).trans (h.low i hi h1 h2), fun i cs fr hi => k.box i cs fr (h.box i cs fr hi)⟩

theorem Fr.alloc (S : Nat) (w : World) (o : Obj) : Fr S w (w.alloc o) :=
  ⟨rfl, rfl, rfl, by simp, fun k hk _ _ => Below.heap_alloc w o k hk, fun k cs fr h => by rw [Below.heap_alloc w o k (lt_of_block h)]; exact h⟩

/-- A row of first pairs was written, or new blocks were made. -/
theorem Fr.grown {S : Nat} {w w' : World} {row : Option Nat} (hg : w.grownBy w' row) (hr : ∀ g, row = some g → S + 2 ≤ g ∧ ∃ o, w.heap[g]? = some o ∧ ∀ cs fr, o ≠ .cells cs 35 fr) : Fr S w w' :=
  ⟨hg.os, hg.tape, hg.output, hg.size, fun k hk h1 _ => hg.block k hk (fun e => by have := (hr k e.symm).1; omega),
    fun k cs fr h => (hg.block k (lt_of_block h) (fun e => by
      obtain ⟨_, o, ho, hne⟩ := hr k e.symm
      rw [h] at ho
      exact hne cs fr (Option.some.inj ho).symm)).trans h⟩

theorem Fr.setCell {S : Nat} {w : World} {g j : Nat} (u : Value) (hr : g = S ∨ S + 2 ≤ g) (h35 : ∀ cs fr, w.heap[g]? ≠ some (.cells cs 35 fr)) : Fr S w (w.setCell ⟨g, j, none⟩ u) :=
  ⟨rfl, rfl, rfl, by simp [World.setCell], fun k _ h1 h2 => heap_setCell_other w ⟨g, j, none⟩ k u (fun e => by simp at e; omega),
    fun k cs fr h => (heap_setCell_other w ⟨g, j, none⟩ k u (fun e => by simp at e; subst e; exact h35 cs fr h)).trans h⟩

theorem Fr.drew {S : Nat} {w w' : World} (h : Fr S w w') : Fr S w w'.drew := ⟨h.os, h.tape, h.output, h.size, h.low, h.box⟩

/-- THE STRUCT AND ITS ROW: 'nf' first pairs, the j-th 'F0 j', 'F1 j'. -/
structure Stp (S : Nat) (w : World) (nf : Nat) (F0 F1 : Nat → Int) (fv mv : Value) (n : Int) : Prop where
  blk : w.heap[S]? = some (.cells #[fv, mv, .int .i32 n] 51 (0, 0))
  row : w.ownsRow (S + 2) 56 2 fv nf (prs nf F0 F1)
  two : S + 2 ≤ w.heap.size

section
variable {S : Nat} {w : World} {nf : Nat} {F0 F1 : Nat → Int} {fv mv : Value} {n : Int}

theorem Stp.c0 (h : Stp S w nf F0 F1 fv mv n) : w.cell? ⟨S, 0, none⟩ = some fv := by simp [World.cell?, h.blk]
theorem Stp.c1 (h : Stp S w nf F0 F1 fv mv n) : w.cell? ⟨S, 1, none⟩ = some mv := by simp [World.cell?, h.blk]
theorem Stp.c2 (h : Stp S w nf F0 F1 fv mv n) : w.cell? ⟨S, 2, none⟩ = some (.int .i32 n) := by simp [World.cell?, h.blk]
theorem Stp.fz (h : Stp S w nf F0 F1 fv mv n) (j : Nat) : w.frozen? ⟨S, j, none⟩ = false := frozen_of_row w S j _ 51 h.blk

/-- The row's block is none of S's. -/
theorem Stp.own_ne (h : Stp S w nf F0 F1 fv mv n) : fv.ownBlock ≠ some S := by
  intro e
  have := (h.row.lt S e).1
  omega

/-- The value's shape. -/
theorem Stp.shape (h : Stp S w nf F0 F1 fv mv n) (hn : 0 < nf) : ∃ g cap cur, fv = .slice (some ⟨g, 0, none⟩) nf cap ∧ S + 2 ≤ g ∧ w.heap[g]? = some (.cells cur 56 (0, 0)) := by
  rcases h.row.2 with ⟨_, h0⟩ | ⟨g, cap, cur, hv, hb, hg, _⟩
  · omega
  · exact ⟨g, cap, cur, hv, hb, hg⟩

/-- THE MAP: nil, or a block that reads as D. -/
def Mp (S : Nat) (w : World) (mv : Value) (cnt : Nat) (D : DataW Unit) : Prop :=
  (mv = .map none ∧ D = .map []) ∨ ∃ bm, mv = .map (some bm) ∧ S + 2 ≤ bm ∧ w.ownsMap Try.prog 35 (plainElem Try.prog 21) bm cnt D

theorem Mp.setCell {cnt : Nat} {D : DataW Unit} (h : Mp S w mv cnt D) {g j : Nat} {cs : Array Value} {t : TypeId} {fr : Nat × Nat} (hg : w.heap[g]? = some (.cells cs t fr)) (u : Value) : Mp S (w.setCell ⟨g, j, none⟩ u) mv cnt D := by
  rcases h with h | ⟨bm, hv, hb, hm⟩
  · exact .inl h
  · refine .inr ⟨bm, hv, hb, hm.setCell (fun e => ?_) u⟩
    obtain ⟨es, cl, hes, _⟩ := hm
    simp at e
    subst e
    rw [hes] at hg
    cases hg

theorem Mp.grown {cnt : Nat} {D : DataW Unit} {w' : World} {row : Option Nat} (h : Mp S w mv cnt D) (hg : w.grownBy w' row) (hr : ∀ g, row = some g → ∃ cs t fr, w.heap[g]? = some (.cells cs t fr)) : Mp S w' mv cnt D := by
  rcases h with h | ⟨bm, hv, hb, hm⟩
  · exact .inl h
  · refine .inr ⟨bm, hv, hb, hm.kept hg (fun e => ?_)⟩
    obtain ⟨cs, t, fr, hc⟩ := hr bm e.symm
    obtain ⟨es, cl, hes, _⟩ := hm
    rw [hes] at hc
    cases hc

theorem Mp.alloc {cnt : Nat} {D : DataW Unit} (h : Mp S w mv cnt D) (o : Obj) : Mp S (w.alloc o) mv cnt D :=
  h.grown (World.grownBy_alloc w o none) (fun g e => by cases e)

/-- One more first pair: (0, 0): appended, and stored back into the struct. -/
theorem Stp.more (h : Stp S w nf F0 F1 fv mv n) (hz : F0 nf = 0 ∧ F1 nf = 0) {o : Obj} {fv' : Value} {w1 : World}
    (hown : w1.ownsRow (S + 2) 56 2 fv' (nf + 1) (prs nf F0 F1 ++ [.int .i32 0, .int .i32 0])) (hg : (w.alloc o).grownBy w1 fv.ownBlock) :
    Stp S (w1.setCell ⟨S, 0, none⟩ fv') (nf + 1) F0 F1 fv' mv n ∧ Fr S w (w1.setCell ⟨S, 0, none⟩ fv') ∧ ∀ cnt D, Mp S w mv cnt D → Mp S (w1.setCell ⟨S, 0, none⟩ fv') mv cnt D := by
  have hS : S < w.heap.size := lt_of_block h.blk
  have b0 : (w.alloc o).heap[S]? = some (.cells #[fv, mv, .int .i32 n] 51 (0, 0)) := by rw [Below.heap_alloc w o S hS]; exact h.blk
  have b1 : w1.heap[S]? = some (.cells #[fv, mv, .int .i32 n] 51 (0, 0)) := by
    rw [hg.block S (lt_of_block b0) (fun e => h.own_ne e.symm)]; exact b0
  have hrow : ∀ g, fv.ownBlock = some g → S + 2 ≤ g ∧ ∃ cur, (w.alloc o).heap[g]? = some (.cells cur 56 (0, 0)) := by
    intro g e
    rcases (h.row.alloc o).2 with ⟨hv, _⟩ | ⟨g', cap, cur, hv, hb, hgg, _⟩
    · rw [hv] at e; simp [Value.ownBlock] at e
    · rw [hv] at e
      simp [Value.ownBlock] at e
      subst e
      exact ⟨hb, cur, hgg⟩
  refine ⟨⟨?_, ?_, ?_⟩, ?_, ?_⟩
  · rw [heap_setCell_same w1 S 0 _ 51 fv' b1]
    rfl
  · refine ownsRow_setCell_below ?_ (by simp) _
    rw [prs, hz.1, hz.2]
    exact hown
  · have := hg.size
    have := h.two
    simp [World.setCell]
    simp at *
    omega
  · refine ((Fr.alloc S w o).trans (Fr.grown hg ?_)).trans (Fr.setCell _ (.inl rfl) (fun cs fr e => by rw [b1] at e; cases e))
    intro g e
    obtain ⟨hb, cur, hc⟩ := hrow g e
    exact ⟨hb, _, hc, fun cs fr e' => by cases e'⟩
  · intro cnt D hm
    refine Mp.setCell ((hm.alloc o).grown hg ?_) b1 _
    intro g e
    obtain ⟨_, cur, hc⟩ := hrow g e
    exact ⟨cur, 56, (0, 0), hc⟩

theorem Stp.after (h : Stp S w nf F0 F1 fv mv n) {o : Obj} {w1 : World} (hg : (w.alloc o).grownBy w1 fv.ownBlock) : w1.cell? ⟨S, 0, none⟩ = some fv ∧ w1.frozen? ⟨S, 0, none⟩ = false := by
  have b0 : (w.alloc o).heap[S]? = some (.cells #[fv, mv, .int .i32 n] 51 (0, 0)) := by rw [Below.heap_alloc w o S (lt_of_block h.blk)]; exact h.blk
  have b1 : w1.heap[S]? = some (.cells #[fv, mv, .int .i32 n] 51 (0, 0)) := by
    rw [hg.block S (lt_of_block b0) (fun e => h.own_ne e.symm)]; exact b0
  exact ⟨by simp [World.cell?, b1], frozen_of_row w1 S 0 _ 51 b1⟩

theorem Stp.alloc (h : Stp S w nf F0 F1 fv mv n) (o : Obj) : Stp S (w.alloc o) nf F0 F1 fv mv n :=
  ⟨by rw [Below.heap_alloc w o S (lt_of_block h.blk)]; exact h.blk, h.row.alloc o, by have := h.two; simp; omega⟩

theorem Stp.not35 (h : Stp S w nf F0 F1 fv mv n) (cs : Array Value) (fr : Nat × Nat) : w.heap[S]? ≠ some (.cells cs 35 fr) := fun e => by rw [h.blk] at e; cases e

/-- The count is stored. -/
theorem Stp.setN (h : Stp S w nf F0 F1 fv mv n) (m : Int) : Stp S (w.setCell ⟨S, 2, none⟩ (.int .i32 m)) nf F0 F1 fv mv m ∧ Fr S w (w.setCell ⟨S, 2, none⟩ (.int .i32 m)) ∧ ∀ cnt D mv', Mp S w mv' cnt D → Mp S (w.setCell ⟨S, 2, none⟩ (.int .i32 m)) mv' cnt D := by
  refine ⟨⟨?_, ownsRow_setCell_below h.row (by simp) _, by simpa [World.setCell] using h.two⟩, Fr.setCell _ (.inl rfl) h.not35, fun cnt D mv' hm => hm.setCell h.blk _⟩
  rw [heap_setCell_same w S 2 _ 51 _ h.blk]
  rfl

/-- The map is stored. -/
theorem Stp.setM (h : Stp S w nf F0 F1 fv mv n) (mv' : Value) : Stp S (w.setCell ⟨S, 1, none⟩ mv') nf F0 F1 fv mv' n ∧ Fr S w (w.setCell ⟨S, 1, none⟩ mv') := by
  refine ⟨⟨?_, ownsRow_setCell_below h.row (by simp) _, by simpa [World.setCell] using h.two⟩, Fr.setCell _ (.inl rfl) h.not35⟩
  rw [heap_setCell_same w S 1 _ 51 _ h.blk]
  rfl

/-- A first pair is stored. -/
theorem Stp.setF {g cap : Nat} (h : Stp S w nf F0 F1 (.slice (some ⟨g, 0, none⟩) nf cap) mv n) (v : Nat) (hv : v < nf) (x y : Int) :
    Stp S ((w.setCell ⟨g, v * 2, none⟩ (.int .i32 x)).setCell ⟨g, v * 2 + 1, none⟩ (.int .i32 y)) nf (fun j => if j = v then x else F0 j) (fun j => if j = v then y else F1 j) (.slice (some ⟨g, 0, none⟩) nf cap) mv n ∧
    Fr S w ((w.setCell ⟨g, v * 2, none⟩ (.int .i32 x)).setCell ⟨g, v * 2 + 1, none⟩ (.int .i32 y)) ∧
    ∀ cnt D, Mp S w mv cnt D → Mp S ((w.setCell ⟨g, v * 2, none⟩ (.int .i32 x)).setCell ⟨g, v * 2 + 1, none⟩ (.int .i32 y)) mv cnt D := by
  obtain ⟨g', cap', cur, e, hg, hgg⟩ := h.shape (by omega)
  simp only [Value.slice.injEq, Option.some.injEq, Addr.mk.injEq, and_true, true_and] at e
  obtain ⟨rfl, rfl⟩ := e
  have hne : S ≠ g := by omega
  obtain ⟨r1, _⟩ := h.row.stored (v * 2) (.int .i32 x)
  obtain ⟨r2, _⟩ := r1.stored (v * 2 + 1) (.int .i32 y)
  have hg1 := heap_setCell_same w g (v * 2) _ 56 (.int .i32 x) hgg
  refine ⟨⟨?_, ?_, by simpa [World.setCell] using h.two⟩, (Fr.setCell _ (.inr hg) (fun cs fr e => by rw [hgg] at e; cases e)).trans (Fr.setCell _ (.inr hg) (fun cs fr e => by rw [hg1] at e; cases e)), fun cnt D hm => (hm.setCell hgg _).setCell hg1 _⟩
  · rw [heap_setCell_other _ _ S _ hne, heap_setCell_other _ _ S _ hne]
    exact h.blk
  · rw [prs_set nf F0 F1 v hv x y] at r2
    exact r2

/-- A map of the call's own was written. -/
theorem Stp.kept (h : Stp S w nf F0 F1 fv mv n) {w' : World} {bm : Nat} {es : Array MapEntry} {cl : Nat} (hb : S + 2 ≤ bm) (he : w.heap[bm]? = some (.map es cl)) (hg : w.grownBy w' (some bm)) : Stp S w' nf F0 F1 fv mv n ∧ Fr S w w' := by
  refine ⟨⟨?_, h.row.kept hg ?_, Nat.le_trans h.two hg.size⟩, Fr.grown hg (fun g e => ?_)⟩
  · rw [hg.block S (lt_of_block h.blk) (fun e => by simp at e; omega)]
    exact h.blk
  · rcases h.row.2 with ⟨hv, _⟩ | ⟨g', cap', cur, hv, _, hgg, _⟩
    · exact .inl (by rw [hv]; rfl)
    · refine .inr (fun e => ?_)
      rw [hv] at e
      simp [Value.ownBlock] at e
      subst e
      rw [hgg] at he
      cases he
  · simp at e
    subst e
    exact ⟨hb, _, he, fun cs fr e' => by cases e'⟩

end

/-- WHAT 'of' LEAVES. -/
def OfPost (S nf v : Nat) (F0 F1 : Nat → Int) (mv : Value) (n a : Int) (cnt : Nat) (D : DataW Unit) (w : World) (e : Ending) (w' : World) : Prop :=
  ∃ nf' fv' mv', nf ≤ nf' ∧ v < nf' ∧ nf' ≤ 65537 ∧ Fr S w w' ∧
   ((F0 v = wrap32 (a + 1) ∧ e = .returned (.int .i32 (F1 v)) ∧ Stp S w' nf' F0 F1 fv' mv n ∧ Mp S w' mv cnt D) ∨
    (F0 v ≠ wrap32 (a + 1) ∧ F0 v = 0 ∧ e = .returned (.int .i32 n) ∧ Stp S w' nf' (fun j => if j = v then wrap32 (a + 1) else F0 j) (fun j => if j = v then n else F1 j) fv' mv (n + 1) ∧ Mp S w' mv cnt D) ∨
    (F0 v ≠ wrap32 (a + 1) ∧ F0 v ≠ 0 ∧ Maps.has D (kp a v) = true ∧ (∃ c, e = .returned (.int .i32 c) ∧ D.atKey (kp a v) (.lit (.int .i32 0)) = .lit (.int .i32 c)) ∧ Stp S w' nf' F0 F1 fv' mv' n ∧ Mp S w' mv' cnt D) ∨
    (F0 v ≠ wrap32 (a + 1) ∧ F0 v ≠ 0 ∧ Maps.has D (kp a v) = false ∧ e = .returned (.int .i32 n) ∧ Stp S w' nf' F0 F1 fv' mv' (n + 1) ∧ Mp S w' mv' (cnt + 1) (D.put (kp a v) (.lit (.int .i32 n)))))

end Go.Proofs.Qxb6603794a
