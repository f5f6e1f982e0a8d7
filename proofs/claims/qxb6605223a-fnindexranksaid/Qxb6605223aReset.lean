/-
  reset (22).
-/
import Derived.Test.Qxb6605223aResetDef
import Derived.Test.Qxb6605223aSrt
import Derived.Test.Qxb6605223aCompact
import Derived.Test.Qxb6605223aKeys
import Derived.Lib.OwnKind
import Derived.Test.Qxb6605223aGrow
import Derived.Deep.AppendLies
import Derived.Deep.QuietTactic
import Derived.BigQuiet
import Derived.BigRegion
import Derived.Laws.Bits64b
import Derived.Deep.CutRange
namespace Go.Proofs.Qxb6605223a
open Go.RowKit
attribute [local go_sem ↓] Go.wp_at_zero Go.wp_at_succ

/-- append under a name of its own. -/
def apK (ats : Array TypeId) (ty : TypeId) (args : Array Value) : Sem Value := Builtin.append_ ats ty args
theorem fold_ap (ats : Array TypeId) (ty : TypeId) (cs : Array Bool) (args : Array Value) : builtin .append ats ty cs args = (do pure (.value (← apK ats ty args))) := rfl
attribute [local go_sem ↓ high] fold_ap

/-- The keys so far. -/
structure S3 (R F G : Nat) (rd ro ent wa : Value) (w0 : World) (ks : List Int) (w : World) : Prop where
  ex : ∃ kv, FIs F G rd nilV kv nilV false nilV ro ent wa nilV nilV nilV w ∧ w.ownsRow (F + 1) 64 1 kv ks.length (ks.map (Value.int .u64))
  kp : Kp R F w0 w

section
variable {F G : Nat} {rd ret keys idx : Value} {ixd : Bool} {runs ro ent wa fs due used : Value} {w : World}
theorem FIs.set2 (h : FIs F G rd ret keys idx ixd runs ro ent wa fs due used w) : FIs F G rd ret keys idx ixd runs ro ent wa fs due used (w.setCell ⟨F, 2, none⟩ nilV) := heap_setCell_same w F 2 _ 60 nilV h
theorem FIs.set15 (h : FIs F G rd ret keys idx ixd runs ro ent wa fs due used w) : FIs F G rd ret keys idx ixd runs ro ent wa fs due used (w.setCell ⟨F, 15, none⟩ nilV) := heap_setCell_same w F 15 _ 60 nilV h
theorem FIs.set11 (h : FIs F G rd ret keys idx ixd runs ro ent wa fs due used w) : FIs F G rd ret keys idx ixd runs ro ent wa fs due used (w.setCell ⟨F, 11, none⟩ nilV) := heap_setCell_same w F 11 _ 60 nilV h
theorem FIs.set16 (h : FIs F G rd ret keys idx ixd runs ro ent wa fs due used w) : FIs F G rd ret keys idx ixd runs ro ent wa fs due used (w.setCell ⟨F, 16, none⟩ (.int .i64 0)) := heap_setCell_same w F 16 _ 60 _ h
theorem FIs.set17 (h : FIs F G rd ret keys idx ixd runs ro ent wa fs due used w) : FIs F G rd ret keys idx ixd runs ro ent wa fs due used (w.setCell ⟨F, 17, none⟩ (.int .i64 0)) := heap_setCell_same w F 17 _ 60 _ h
theorem FIs.set18 (h : FIs F G rd ret keys idx ixd runs ro ent wa fs due used w) : FIs F G rd ret keys idx ixd runs ro ent wa fs due used (w.setCell ⟨F, 18, none⟩ (.int .i64 0)) := heap_setCell_same w F 18 _ 60 _ h
end

theorem start3 {R F G : Nat} {ro ent wa : Value} {w : World} (hF : FIs F G nilV nilV nilV nilV false nilV ro ent wa nilV nilV nilV w) (rd : Value) : S3 R F G rd ro ent wa w [] (((((((((w.setCell ⟨F, 19, none⟩ nilV).setCell ⟨F, 1, none⟩ rd).setCell ⟨F, 2, none⟩ nilV).setCell ⟨F, 15, none⟩ nilV).setCell ⟨F, 11, none⟩ nilV).setCell ⟨F, 16, none⟩ (.int .i64 0)).setCell ⟨F, 17, none⟩ (.int .i64 0)).setCell ⟨F, 18, none⟩ (.int .i64 0)).setCell ⟨F, 5, none⟩ nilV) :=
  ⟨⟨nilV, ((((((((hF.set19 nilV).set1 rd).set2).set15).set11).set16).set17).set18).set5 nilV, rfl, .inl ⟨rfl, rfl⟩⟩, ((((((((((Kp.refl R F w).setCell (p := ⟨F, 19, none⟩) (.inl (Nat.le_refl _)) nilV).setCell (p := ⟨F, 1, none⟩) (.inl (Nat.le_refl _)) rd).setCell (p := ⟨F, 2, none⟩) (.inl (Nat.le_refl _)) nilV).setCell (p := ⟨F, 15, none⟩) (.inl (Nat.le_refl _)) nilV).setCell (p := ⟨F, 11, none⟩) (.inl (Nat.le_refl _)) nilV).setCell (p := ⟨F, 16, none⟩) (.inl (Nat.le_refl _)) (.int .i64 0)).setCell (p := ⟨F, 17, none⟩) (.inl (Nat.le_refl _)) (.int .i64 0)).setCell (p := ⟨F, 18, none⟩) (.inl (Nat.le_refl _)) (.int .i64 0)).setCell (p := ⟨F, 5, none⟩) (.inl (Nat.le_refl _)) nilV)⟩

theorem ksOf_neg {PR PS FR RD : Nat → Int} {k : Nat} (h : FR (RD k).toNat < 0) : ksOf PR PS FR RD (k + 1) = ksOf PR PS FR RD k := if_pos h
theorem ksOf_pos {PR PS FR RD : Nat → Int} {k : Nat} (h : ¬ FR (RD k).toNat < 0) : ksOf PR PS FR RD (k + 1) = ksOf PR PS FR RD k ++ [keyOf2 PR PS (FR (RD k).toNat).toNat] := if_neg h

theorem key_bits (q p : Nat) (hq : q < 4096) (hp : p < 4294967296) : bits .or .u64 ((q : Int) * 4294967296) (p : Int) = (q : Int) * 4294967296 + (p : Int) := by
  have h : (q : Int) * 4294967296 = ((q * 4294967296 : Nat) : Int) := by simp
  rw [h, bits_or_u64_nat _ _ (by omega) (by omega)]
  have h2 := Nat.shiftLeft_add_eq_or_of_lt (i := 32) (show p < 2 ^ 32 by omega) q
  rw [Nat.shiftLeft_eq] at h2
  have h3 : q * 4294967296 ||| p = q * 4294967296 + p := by
    rw [show (4294967296 : Nat) = 2 ^ 32 by rfl]
    exact h2.symm
  rw [h3]
  simp

theorem after_cell {wr w1 : World} {o : Obj} {row : Option Nat} {a : Addr} {u : Value} (hg : (wr.alloc o).drew.grownBy w1 row) (hne : row ≠ some a.block) (h : wr.cell? a = some u) : w1.cell? a = some u := by
  have hl := World.block_lt_of_cell? wr a h
  rw [hg.cell_far a (by show a.block < (wr.alloc o).heap.size; simp; omega) (Ne.symm hne)]
  exact Lib.cell?_alloc_some o h
theorem after_block {wr w1 : World} {o : Obj} {row : Option Nat} {k : Nat} (hg : (wr.alloc o).drew.grownBy w1 row) (hne : row ≠ some k) (hl : k < wr.heap.size) : w1.heap[k]? = wr.heap[k]? := by
  rw [hg.block k (by show k < (wr.alloc o).heap.size; simp; omega) (Ne.symm hne)]
  exact Below.heap_alloc wr o k hl
theorem after_fz {wr w1 : World} {o : Obj} {row : Option Nat} {a : Addr} (hg : (wr.alloc o).drew.grownBy w1 row) (hne : row ≠ some a.block) (hl : a.block < wr.heap.size) (h : wr.frozen? a = false) : w1.frozen? a = false := by
  rw [World.frozen?_of_block (w := wr) (w' := w1) (a := a) (after_block hg hne hl)]
  exact h
theorem own_ne {F e size n k : Nat} {v : Value} {xs : List Value} {w : World} (h : w.ownsRow (F + 1) e size v n xs) (hk : k ≤ F) : v.ownBlock ≠ some k := fun e1 => by
  have := (h.lt k e1).1
  omega

theorem Kp.after {R F : Nat} {w0 wr w1 : World} {o : Obj} {e size n : Nat} {v : Value} {xs : List Value} (h : Kp R F w0 wr) (hF : F ≤ wr.heap.size) (hown : wr.ownsRow (F + 1) e size v n xs) (hg : (wr.alloc o).drew.grownBy w1 v.ownBlock) : Kp R F w0 w1 := by
  refine h.trans ⟨hg.os, hg.tape, hg.output, ?_, fun k h1 _ => after_block hg (own_ne hown (by omega)) (by omega)⟩
  have h1 := hg.size
  have h2 : (wr.alloc o).drew.heap.size = wr.heap.size + 1 := by
    show (wr.alloc o).heap.size = _
    simp
  omega

/-- One key more. -/
theorem S3.more {R F G : Nat} {rd ro ent wa : Value} {w0 wr w1 : World} {ks : List Int} {kv v' : Value} {o : Obj} {y : Int} (h : Kp R F w0 wr) (hF : FIs F G rd nilV kv nilV false nilV ro ent wa nilV nilV nilV wr) (hown : wr.ownsRow (F + 1) 64 1 kv ks.length (ks.map (Value.int .u64)))
    (hg : (wr.alloc o).drew.grownBy w1 kv.ownBlock) (hown1 : w1.ownsRow (F + 1) 64 1 v' (ks.length + 1) (ks.map (Value.int .u64) ++ [.int .u64 y])) : S3 R F G rd ro ent wa w0 (ks ++ [y]) (w1.setCell ⟨F, 5, none⟩ v') := by
  refine ⟨⟨v', (hF.block (after_block hg (own_ne hown (Nat.le_refl _)) hF.lt)).set5 v', ?_⟩, (h.after (Nat.le_of_lt hF.lt) hown hg).setCell (p := ⟨F, 5, none⟩) (.inl (Nat.le_refl _)) _⟩
  have := ownsRow_setCell_below hown1 (a := ⟨F, 5, none⟩) (by simp) v'
  simpa using this

/-- l returned writes laid of the keys zs. -/
structure S4 (R F G : Nat) (rd ro ent wa : Value) (w0 : World) (zs : List Int) (kv : Value) (l : Nat) (w : World) : Prop where
  ex : ∃ rv, FIs F G rd rv kv nilV false nilV ro ent wa nilV nilV nilV w ∧ w.ownsRow (F + 1) 73 10 rv l (rcs (hiOf zs) (loOf zs) l)
  key : w.ownsRow (F + 1) 64 1 kv zs.length (zs.map (Value.int .u64))
  kp : Kp R F w0 w

theorem Kp.own {R F : Nat} {w0 w w1 : World} {e size n : Nat} {v : Value} {xs : List Value} (h : Kp R F w0 w) (hF : F ≤ w.heap.size) (hown : w.ownsRow (F + 1) e size v n xs) (hg : w.grownBy w1 v.ownBlock) : Kp R F w0 w1 :=
  h.trans ⟨hg.os, hg.tape, hg.output, hg.size, fun k h1 _ => hg.block k (by omega) (Ne.symm (own_ne hown (by omega)))⟩

theorem start4 {R F G : Nat} {rd ro ent wa : Value} {w0 w w1 w2 : World} {ks : List Int} {kv kv' : Value} (h : Kp R F w0 w) (hF : FIs F G rd nilV kv nilV false nilV ro ent wa nilV nilV nilV w) (hown : w.ownsRow (F + 1) 64 1 kv ks.length (ks.map (Value.int .u64)))
    (hg1 : w.grownBy w1 kv.ownBlock) (hown1 : w1.ownsRow (F + 1) 64 1 kv ks.length ((sorted ks).map encK)) (hg2 : w1.grownBy w2 kv.ownBlock) {zs : List Int} (hown2 : w2.ownsRow (F + 1) 64 1 kv' zs.length (zs.map encK)) :
    S4 R F G rd ro ent wa w0 zs kv' 0 ((w2.setCell ⟨F, 5, none⟩ kv').setCell ⟨F, 4, none⟩ nilV) := by
  have hs1 := hg1.size
  have hlt := hF.lt
  have k2 : Kp R F w0 w2 := (h.own (by omega) hown hg1).own (by omega) hown1 hg2
  have hF2 := (hF.block (hg1.block F hlt (Ne.symm (own_ne hown (by omega))))).block (hg2.block F (by omega) (Ne.symm (own_ne hown1 (by omega))))
  refine ⟨⟨nilV, (hF2.set5 kv').set4 nilV, rfl, .inl ⟨rfl, rfl⟩⟩, ?_, (k2.setCell (p := ⟨F, 5, none⟩) (.inl (Nat.le_refl _)) _).setCell (p := ⟨F, 4, none⟩) (.inl (Nat.le_refl _)) _⟩
  exact ownsRow_setCell_below (ownsRow_setCell_below hown2 (a := ⟨F, 5, none⟩) (by simp) _) (a := ⟨F, 4, none⟩) (by simp) _

theorem info73 : (Try.prog.info? 73).map (fun i => (i.zero, i.size, i.bytes)) = some (some (.agg #[.int .i32 0, .int .i32 0, .bool false, .bool false, .int .i32 0, .int .i32 0, .int .i32 0, .int .i32 0, .int .i32 0, .int .i32 0]), 10, 36) := by kernel_rfl

/-- An append in a plain region: the block before it. -/
theorem after_cell' {wr w1 : World} {o : Obj} {row : Option Nat} {a : Addr} {u : Value} (hg : (wr.alloc o).grownBy w1 row) (hne : row ≠ some a.block) (h : wr.cell? a = some u) : w1.cell? a = some u := by
  have hl := World.block_lt_of_cell? wr a h
  rw [hg.cell_far a (by simp; omega) (Ne.symm hne)]
  exact Lib.cell?_alloc_some o h
theorem after_block' {wr w1 : World} {o : Obj} {row : Option Nat} {k : Nat} (hg : (wr.alloc o).grownBy w1 row) (hne : row ≠ some k) (hl : k < wr.heap.size) : w1.heap[k]? = wr.heap[k]? := by
  rw [hg.block k (by simp; omega) (Ne.symm hne)]
  exact Below.heap_alloc wr o k hl
theorem after_fz' {wr w1 : World} {o : Obj} {row : Option Nat} {a : Addr} (hg : (wr.alloc o).grownBy w1 row) (hne : row ≠ some a.block) (hl : a.block < wr.heap.size) (h : wr.frozen? a = false) : w1.frozen? a = false := by
  rw [World.frozen?_of_block (w := wr) (w' := w1) (a := a) (after_block' hg hne hl)]
  exact h
theorem Kp.after' {R F : Nat} {w0 wr w1 : World} {o : Obj} {e size n : Nat} {v : Value} {xs : List Value} (h : Kp R F w0 wr) (hF : F ≤ wr.heap.size) (hown : wr.ownsRow (F + 1) e size v n xs) (hg : (wr.alloc o).grownBy w1 v.ownBlock) : Kp R F w0 w1 := by
  refine h.trans ⟨hg.os, hg.tape, hg.output, ?_, fun k h1 _ => after_block' hg (own_ne hown (by omega)) (by omega)⟩
  have h1 := hg.size
  simp at h1
  omega

/-- Rows of other types are not the row appended to. -/
theorem own_apart {F e e2 size size2 n n2 : Nat} {v v2 : Value} {xs xs2 : List Value} {w : World} (h : w.ownsRow (F + 1) e size v n xs) (h2 : w.ownsRow (F + 1) e2 size2 v2 n2 xs2) (hne : e ≠ e2) : v.ownBlock = none ∨ v.ownBlock ≠ v2.ownBlock := by
  cases hv : v.ownBlock with
  | none => exact .inl rfl
  | some g =>
    refine .inr (fun e1 => ?_)
    obtain ⟨c, fz, hc⟩ := Lib.ownsRow_kind h g hv
    obtain ⟨c2, fz2, hc2⟩ := Lib.ownsRow_kind h2 g e1.symm
    rw [hc] at hc2
    simp at hc2
    exact hne hc2.2.1

theorem own_later {F e e2 size size2 n n2 : Nat} {v v2 : Value} {xs xs2 : List Value} {w w1 : World} {o : Obj} (h : w.ownsRow (F + 1) e size v n xs) (h2 : w.ownsRow (F + 1) e2 size2 v2 n2 xs2) (hne : e ≠ e2) (hg : (w.alloc o).grownBy w1 v2.ownBlock) : w1.ownsRow (F + 1) e size v n xs :=
  (h.alloc o).kept hg (own_apart h h2 hne)

theorem S4.more {R F G : Nat} {rd ro ent wa : Value} {w0 wr w1 : World} {zs : List Int} {kv rv v' : Value} {l : Nat} {o : Obj} (h : Kp R F w0 wr) (hF : FIs F G rd rv kv nilV false nilV ro ent wa nilV nilV nilV wr) (hk : wr.ownsRow (F + 1) 64 1 kv zs.length (zs.map (Value.int .u64)))
    (hown : wr.ownsRow (F + 1) 73 10 rv l (rcs (hiOf zs) (loOf zs) l)) (hg : (wr.alloc o).grownBy w1 rv.ownBlock) (hown1 : w1.ownsRow (F + 1) 73 10 v' (l + 1) (rcs (hiOf zs) (loOf zs) l ++ rc (hiOf zs l) (loOf zs l))) : S4 R F G rd ro ent wa w0 zs kv (l + 1) (w1.setCell ⟨F, 4, none⟩ v') := by
  refine ⟨⟨v', (hF.block (after_block' hg (own_ne hown (Nat.le_refl _)) hF.lt)).set4 v', ownsRow_setCell_below hown1 (a := ⟨F, 4, none⟩) (by simp) v'⟩, ownsRow_setCell_below (own_later hk hown (by decide) hg) (a := ⟨F, 4, none⟩) (by simp) v', (h.after' (Nat.le_of_lt hF.lt) hown hg).setCell (p := ⟨F, 4, none⟩) (.inl (Nat.le_refl _)) _⟩

theorem info79 : (Try.prog.info? 79).map (fun i => (i.zero, i.size, i.bytes)) = some (some (.agg #[.int .i32 0, .int .i32 0, .int .i32 0, .int .i32 0, .int .i32 0]), 5, 20) := by kernel_rfl

/-- i returned writes put into runs. -/
structure S5 (R F G P : Nat) (rd ro ent wa : Value) (w0 : World) (zs : List Int) (kv rv : Value) (i nr nu : Nat) (uv ru : Value) (xs us : List Value) (w : World) : Prop where
  fis : FIs F G rd rv kv nilV false ru ro ent wa nilV nilV uv w
  ret : w.ownsRow (F + 1) 73 10 rv zs.length (rcs (hiOf zs) (loOf zs) zs.length)
  runs : w.ownsRow (F + 1) 79 5 ru nr xs
  ints : ∀ v ∈ xs, ∃ x, v = .int .i32 x
  used : w.ownsRow (F + 1) 3 1 uv nu us
  low : 0 < i → 0 < nr
  top : nr ≤ i ∧ nu ≤ i
  run : 0 < P → ∃ cur, w.heap[R]? = some (.cells cur 21 (0, 0)) ∧ cur.size = P
  kp : Kp R F w0 w

theorem start5 {R F G P : Nat} {rd ro ent wa : Value} {w0 w : World} {zs : List Int} {kv rv : Value} (hF : FIs F G rd rv kv nilV false nilV ro ent wa nilV nilV nilV w) (hr : w.ownsRow (F + 1) 73 10 rv zs.length (rcs (hiOf zs) (loOf zs) zs.length)) (hk : Kp R F w0 w)
    (hro : 0 < P → ∃ cur, w.heap[R]? = some (.cells cur 21 (0, 0)) ∧ cur.size = P) (hRF : R ≠ F) : S5 R F G P rd ro ent wa w0 zs kv rv 0 0 0 nilV nilV [] [] (w.setCell ⟨F, 8, none⟩ nilV) := by
  refine ⟨hF.set8 nilV, ownsRow_setCell_below hr (a := ⟨F, 8, none⟩) (by simp) _, ⟨rfl, .inl ⟨rfl, rfl⟩⟩, ?_, ⟨rfl, .inl ⟨rfl, rfl⟩⟩, ?_, ⟨Nat.le_refl _, Nat.le_refl _⟩, ?_, hk.setCell (p := ⟨F, 8, none⟩) (.inl (Nat.le_refl _)) _⟩
  · intro v h
    cases h
  · intro h
    omega
  · intro h
    obtain ⟨cur, hc, hs⟩ := hro h
    exact ⟨cur, (heap_setCell_other w ⟨F, 8, none⟩ R nilV hRF).trans hc, hs⟩

section
variable {R F G P : Nat} {rd ro ent wa : Value} {w0 : World} {zs : List Int} {kv rv : Value} {i nr nu : Nat} {uv ru : Value} {xs us : List Value} {w : World}
theorem S5.alloc (h : S5 R F G P rd ro ent wa w0 zs kv rv i nr nu uv ru xs us w) (o : Obj) : S5 R F G P rd ro ent wa w0 zs kv rv i nr nu uv ru xs us (w.alloc o) := by
  refine ⟨h.fis.alloc o, h.ret.alloc o, h.runs.alloc o, h.ints, h.used.alloc o, h.low, h.top, ?_, h.kp.alloc (Nat.le_of_lt h.fis.lt) o⟩
  intro hp
  obtain ⟨cur, hc, hs⟩ := h.run hp
  exact ⟨cur, (Below.heap_alloc w o R (lt_of_block hc)).trans hc, hs⟩
theorem S5.drewN (h : S5 R F G P rd ro ent wa w0 zs kv rv i nr nu uv ru xs us w) (d : Nat) : S5 R F G P rd ro ent wa w0 zs kv rv i nr nu uv ru xs us (w.drewN d) :=
  ⟨h.fis, h.ret, h.runs, h.ints, h.used, h.low, h.top, h.run, ⟨h.kp.os, h.kp.tape, h.kp.output, h.kp.size, h.kp.block⟩⟩
theorem S5.drew (h : S5 R F G P rd ro ent wa w0 zs kv rv i nr nu uv ru xs us w) : S5 R F G P rd ro ent wa w0 zs kv rv i nr nu uv ru xs us w.drew := h.drewN 1
end

section
variable {R F G P : Nat} {rd ro ent wa : Value} {w0 : World} {zs : List Int} {kv rv : Value} {i nr nu : Nat} {uv ru : Value} {xs us : List Value} {w : World}
theorem S5.next (h : S5 R F G P rd ro ent wa w0 zs kv rv i nr nu uv ru xs us w) (hn : 0 < nr) : S5 R F G P rd ro ent wa w0 zs kv rv (i + 1) nr nu uv ru xs us w :=
  ⟨h.fis, h.ret, h.runs, h.ints, h.used, fun _ => hn, ⟨Nat.le_succ_of_le h.top.1, Nat.le_succ_of_le h.top.2⟩, h.run, h.kp⟩
/-- runOf is written. -/
theorem S5.setRun (h : S5 R F G P rd ro ent wa w0 zs kv rv i nr nu uv ru xs us w) (hR : R < F) (q : Nat) (v : Value) : S5 R F G P rd ro ent wa w0 zs kv rv i nr nu uv ru xs us (w.setCell ⟨R, q, none⟩ v) := by
  refine ⟨h.fis.other (p := ⟨R, q, none⟩) (by simp; omega) v, ownsRow_setCell_below h.ret (a := ⟨R, q, none⟩) (by simp; omega) v, ownsRow_setCell_below h.runs (a := ⟨R, q, none⟩) (by simp; omega) v, h.ints, ownsRow_setCell_below h.used (a := ⟨R, q, none⟩) (by simp; omega) v, h.low, h.top, ?_, h.kp.setCell (p := ⟨R, q, none⟩) (.inr rfl) v⟩
  intro hp
  obtain ⟨cur, hc, hs⟩ := h.run hp
  exact ⟨_, heap_setCell_same w R q cur 21 v hc, by simpa using hs⟩
/-- One process more in use. -/
theorem S5.moreUsed (h : S5 R F G P rd ro ent wa w0 zs kv rv i nr nu uv ru xs us w) (hR : R < F) {w1 : World} {o : Obj} {v' x : Value} (hg : (w.alloc o).drew.grownBy w1 uv.ownBlock) (hown1 : w1.ownsRow (F + 1) 3 1 v' (nu + 1) (us ++ [x])):
    FIs F G rd rv kv nilV false ru ro ent wa nilV nilV v' (w1.setCell ⟨F, 19, none⟩ v') ∧ (w1.setCell ⟨F, 19, none⟩ v').ownsRow (F + 1) 73 10 rv zs.length (rcs (hiOf zs) (loOf zs) zs.length) ∧ (w1.setCell ⟨F, 19, none⟩ v').ownsRow (F + 1) 79 5 ru nr xs ∧ (w1.setCell ⟨F, 19, none⟩ v').ownsRow (F + 1) 3 1 v' (nu + 1) (us ++ [x]) ∧
      (0 < P → ∃ cur, (w1.setCell ⟨F, 19, none⟩ v').heap[R]? = some (.cells cur 21 (0, 0)) ∧ cur.size = P) ∧ Kp R F w0 (w1.setCell ⟨F, 19, none⟩ v') := by
  have hret : w1.ownsRow (F + 1) 73 10 rv zs.length (rcs (hiOf zs) (loOf zs) zs.length) := ((h.ret.alloc o).drew).kept hg (own_apart h.ret h.used (by decide))
  have hruns : w1.ownsRow (F + 1) 79 5 ru nr xs := ((h.runs.alloc o).drew).kept hg (own_apart h.runs h.used (by decide))
  refine ⟨(h.fis.block (after_block hg (own_ne h.used (Nat.le_refl _)) h.fis.lt)).set19 v', ownsRow_setCell_below hret (a := ⟨F, 19, none⟩) (by simp) v', ownsRow_setCell_below hruns (a := ⟨F, 19, none⟩) (by simp) v', ownsRow_setCell_below hown1 (a := ⟨F, 19, none⟩) (by simp) v', ?_, (h.kp.after (Nat.le_of_lt h.fis.lt) h.used hg).setCell (p := ⟨F, 19, none⟩) (.inl (Nat.le_refl _)) _⟩
  intro hp
  obtain ⟨cur, hc, hs⟩ := h.run hp
  exact ⟨cur, (heap_setCell_other w1 ⟨F, 19, none⟩ R v' (by simp; omega)).trans ((after_block hg (own_ne h.used (by omega)) (lt_of_block hc)).trans hc), hs⟩
end

theorem S5.newRun {R F G P : Nat} {rd ro ent wa : Value} {w0 : World} {zs : List Int} {kv rv : Value} {i nr nu : Nat} {uv ru v' : Value} {xs us : List Value} {w w1 : World} {o : Obj} {a : Int} (hR : R < F) (hF : FIs F G rd rv kv nilV false ru ro ent wa nilV nilV uv w) (hret : w.ownsRow (F + 1) 73 10 rv zs.length (rcs (hiOf zs) (loOf zs) zs.length)) (hruns : w.ownsRow (F + 1) 79 5 ru nr xs) (hints : ∀ v ∈ xs, ∃ x, v = .int .i32 x)
    (hused : w.ownsRow (F + 1) 3 1 uv nu us) (hrun : 0 < P → ∃ cur, w.heap[R]? = some (.cells cur 21 (0, 0)) ∧ cur.size = P) (hkp : Kp R F w0 w) (htop : nr ≤ i ∧ nu ≤ i + 1)
    (hg : (w.alloc o).grownBy w1 ru.ownBlock) (hown1 : w1.ownsRow (F + 1) 79 5 v' (nr + 1) (xs ++ [.int .i32 a, .int .i32 0, .int .i32 0, .int .i32 0, .int .i32 0])) :
    S5 R F G P rd ro ent wa w0 zs kv rv (i + 1) (nr + 1) nu uv v' (xs ++ [.int .i32 a, .int .i32 0, .int .i32 0, .int .i32 0, .int .i32 0]) us (w1.setCell ⟨F, 8, none⟩ v') := by
  have hret1 := own_later hret hruns (by decide) hg
  have hused1 := own_later hused hruns (by decide) hg
  refine ⟨(hF.block (after_block' hg (own_ne hruns (Nat.le_refl _)) hF.lt)).set8 v', ownsRow_setCell_below hret1 (a := ⟨F, 8, none⟩) (by simp) v', ownsRow_setCell_below hown1 (a := ⟨F, 8, none⟩) (by simp) v', ?_, ownsRow_setCell_below hused1 (a := ⟨F, 8, none⟩) (by simp) v', fun _ => by omega, ⟨by omega, htop.2⟩, ?_, (hkp.after' (Nat.le_of_lt hF.lt) hruns hg).setCell (p := ⟨F, 8, none⟩) (.inl (Nat.le_refl _)) _⟩
  · intro v hv
    rcases List.mem_append.1 hv with hv | hv
    · exact hints v hv
    · simp at hv
      rcases hv with rfl | rfl
      · exact ⟨_, rfl⟩
      · exact ⟨_, rfl⟩
  · intro hp
    obtain ⟨cur, hc, hs⟩ := hrun hp
    exact ⟨cur, (heap_setCell_other w1 ⟨F, 8, none⟩ R v' (by simp; omega)).trans ((after_block' hg (own_ne hruns (by omega)) (lt_of_block hc)).trans hc), hs⟩

/-- A count of a run is written. -/
theorem S5.bump {R F G P : Nat} {rd ro ent wa : Value} {w0 : World} {zs : List Int} {kv rv : Value} {i nr nu gr c : Nat} {uv : Value} {xs us : List Value} {w : World} (h : S5 R F G P rd ro ent wa w0 zs kv rv i nr nu uv (.slice (some ⟨gr, 0, none⟩) nr c) xs us w) (hgr : F < gr) (hR : R < F ∨ P = 0) (j : Nat) (x : Int) :
    S5 R F G P rd ro ent wa w0 zs kv rv i nr nu uv (.slice (some ⟨gr, 0, none⟩) nr c) (xs.set j (.int .i32 x)) us (w.setCell ⟨gr, j, none⟩ (.int .i32 x)) := by
  have a1 : rv.ownBlock ≠ some gr := by
    rcases own_apart h.ret h.runs (by decide) with e | e
    · rw [e]; simp
    · exact e
  have a2 : uv.ownBlock ≠ some gr := by
    rcases own_apart h.used h.runs (by decide) with e | e
    · rw [e]; simp
    · exact e
  refine ⟨h.fis.other (p := ⟨gr, j, none⟩) (by simp; omega) _, ownsRow_setCell_other h.ret (a := ⟨gr, j, none⟩) a1 _, (h.runs.stored j _).1, ?_, ownsRow_setCell_other h.used (a := ⟨gr, j, none⟩) a2 _, h.low, h.top, ?_, h.kp.setCell (p := ⟨gr, j, none⟩) (.inl (Nat.le_of_lt hgr)) _⟩
  · intro v hv
    rcases List.mem_or_eq_of_mem_set hv with hv | rfl
    · exact h.ints v hv
    · exact ⟨_, rfl⟩
  · intro hp
    obtain ⟨cur, hc, hs⟩ := h.run hp
    exact ⟨cur, (heap_setCell_other w ⟨gr, j, none⟩ R _ (by simp; omega)).trans hc, hs⟩

/-- The runs are laid; fs and due as they are. -/
structure S6 (R F G : Nat) (rd ro ent wa : Value) (w0 : World) (zs : List Int) (kv rv fs due : Value) (w : World) : Prop where
  fis : ∃ ru uv, FIs F G rd rv kv nilV false ru ro ent wa fs due uv w ∧ (∃ a n c, uv = .slice a n c)
  ret : w.ownsRow (F + 1) 73 10 rv zs.length (rcs (hiOf zs) (loOf zs) zs.length)
  kp : Kp R F w0 w

/-- The row that Grow made, of wd elements. -/
def Fresh (F t wd : Nat) (fa : Option Addr) (w : World) : Prop := 0 < wd → ∃ X cur, fa = some ⟨X, 0, none⟩ ∧ F < X ∧ w.heap[X]? = some (.cells cur t (0, 0)) ∧ wd ≤ cur.size

theorem start6 {R F G P : Nat} {rd ro ent wa : Value} {w0 : World} {zs : List Int} {kv rv : Value} {i nr nu : Nat} {uv ru : Value} {xs us : List Value} {w : World} (h : S5 R F G P rd ro ent wa w0 zs kv rv i nr nu uv ru xs us w) : S6 R F G rd ro ent wa w0 zs kv rv nilV nilV w :=
  ⟨⟨ru, uv, h.fis, by
    rcases h.used.2 with ⟨e, e0⟩ | ⟨g, cap, cur, e, _⟩
    · exact ⟨none, 0, 0, e⟩
    · exact ⟨_, _, _, e⟩⟩, h.ret, h.kp⟩

theorem S6.set13 {R F G : Nat} {rd ro ent wa : Value} {w0 : World} {zs : List Int} {kv rv fs due : Value} {w : World} (h : S6 R F G rd ro ent wa w0 zs kv rv fs due w) (v : Value) : S6 R F G rd ro ent wa w0 zs kv rv v due (w.setCell ⟨F, 13, none⟩ v) := by
  obtain ⟨⟨ru, uv, hf, hu⟩, hr, hk⟩ := h
  exact ⟨⟨ru, uv, hf.set13 v, hu⟩, ownsRow_setCell_below hr (a := ⟨F, 13, none⟩) (by simp) _, hk.setCell (p := ⟨F, 13, none⟩) (.inl (Nat.le_refl _)) _⟩
theorem S6.set14 {R F G : Nat} {rd ro ent wa : Value} {w0 : World} {zs : List Int} {kv rv fs due : Value} {w : World} (h : S6 R F G rd ro ent wa w0 zs kv rv fs due w) (v : Value) : S6 R F G rd ro ent wa w0 zs kv rv fs v (w.setCell ⟨F, 14, none⟩ v) := by
  obtain ⟨⟨ru, uv, hf, hu⟩, hr, hk⟩ := h
  exact ⟨⟨ru, uv, hf.set14 v, hu⟩, ownsRow_setCell_below hr (a := ⟨F, 14, none⟩) (by simp) _, hk.setCell (p := ⟨F, 14, none⟩) (.inl (Nat.le_refl _)) _⟩
theorem S6.lt {R F G : Nat} {rd ro ent wa : Value} {w0 : World} {zs : List Int} {kv rv fs due : Value} {w : World} (h : S6 R F G rd ro ent wa w0 zs kv rv fs due w) : F < w.heap.size := by
  obtain ⟨⟨ru, uv, hf, hu⟩, hr, hk⟩ := h
  exact hf.lt
theorem S6.alloc {R F G : Nat} {rd ro ent wa : Value} {w0 : World} {zs : List Int} {kv rv fs due : Value} {w : World} (h : S6 R F G rd ro ent wa w0 zs kv rv fs due w) (o : Obj) : S6 R F G rd ro ent wa w0 zs kv rv fs due (w.drew.alloc o) := by
  obtain ⟨⟨ru, uv, hf, hu⟩, hr, hk⟩ := h
  exact ⟨⟨ru, uv, FIs.alloc (w := w.drew) hf o, hu⟩, World.ownsRow.alloc (w := w.drew) hr o, Kp.alloc (w := w.drew) hk.drew (Nat.le_of_lt hf.lt) o⟩
theorem fresh_grown {F t n cap : Nat} {z : Value} {w : World} (hF : F < w.heap.size) : Fresh F t n (some ⟨w.heap.size, 0, none⟩) (w.drew.alloc (.cells (#[] ++ Builtin.zeroCells #[z] n ++ Builtin.zeroCells #[z] (cap - n)) t)) :=
  fun _ => ⟨w.heap.size, _, rfl, hF, heap_alloc_new w.drew _, by simp [Builtin.zeroCells]⟩
theorem Fresh.set {F t wd : Nat} {fa : Option Addr} {w : World} (h : Fresh F t wd fa w) (k : Nat) (u : Value) : Fresh F t wd fa (w.setCell ⟨F, k, none⟩ u) := fun hp => by
  obtain ⟨X, cur, h1, h2, h3, h4⟩ := h hp
  exact ⟨X, cur, h1, h2, (heap_setCell_other w ⟨F, k, none⟩ X u (by simp; omega)).trans h3, h4⟩

theorem setCells_other {b k : Nat} (hk : k ≠ b) : ∀ (vs : List Value) (o : Nat) (w : World), (w.setCells b o vs).heap[k]? = w.heap[k]? ∧ (w.setCells b o vs).heap.size = w.heap.size ∧ (w.setCells b o vs).os = w.os ∧ (w.setCells b o vs).tape = w.tape ∧ (w.setCells b o vs).output = w.output
  | [], _, _ => ⟨rfl, rfl, rfl, rfl, rfl⟩
  | v :: vs, o, w => by
    obtain ⟨h1, h2, h3, h4, h5⟩ := setCells_other hk vs (o + 1) (w.setCell ⟨b, o, none⟩ v)
    exact ⟨h1.trans (heap_setCell_other w ⟨b, o, none⟩ k v hk), h2.trans (by simp [World.setCell]), h3, h4, h5⟩

theorem S6.cells {R F G : Nat} {rd ro ent wa : Value} {w0 : World} {zs : List Int} {kv rv fs due : Value} {w : World} (h : S6 R F G rd ro ent wa w0 zs kv rv fs due w) {X t : Nat} {cur : Array Value} (hX : F < X) (hb : w.heap[X]? = some (.cells cur t (0, 0))) (ht : t ≠ 73) (vs : List Value) : S6 R F G rd ro ent wa w0 zs kv rv fs due (w.setCells X 0 vs) := by
  obtain ⟨⟨ru, uv, hf, hu⟩, hr, hk⟩ := h
  refine ⟨⟨ru, uv, hf.block (setCells_other (by omega) vs 0 w).1, hu⟩, ⟨hr.1, ?_⟩, hk.trans ?_⟩
  · rcases hr.2 with h1 | ⟨g, cap, cur2, e, hg, hh, h3⟩
    · exact .inl h1
    · refine .inr ⟨g, cap, cur2, e, hg, (setCells_other (fun e1 => ?_) vs 0 w).1.trans hh, h3⟩
      subst e1
      rw [hh] at hb
      simp at hb
      exact ht hb.2.symm
  · obtain ⟨_, h2, h3, h4, h5⟩ := setCells_other (b := X) (k := F) (by omega) vs 0 w
    exact ⟨h3, h4, h5, by omega, fun k h1 _ => (setCells_other (by omega) vs 0 w).1⟩

theorem S6.setX {R F G : Nat} {rd ro ent wa : Value} {w0 : World} {zs : List Int} {kv rv fs due : Value} {w : World} (h : S6 R F G rd ro ent wa w0 zs kv rv fs due w) {X t : Nat} {cur : Array Value} (hX : F < X) (hb : w.heap[X]? = some (.cells cur t (0, 0))) (ht : t ≠ 73) (k : Nat) (v : Value) : S6 R F G rd ro ent wa w0 zs kv rv fs due (w.setCell ⟨X, k, none⟩ v) := by
  obtain ⟨⟨ru, uv, hf, hu⟩, hr, hk⟩ := h
  refine ⟨⟨ru, uv, hf.other (p := ⟨X, k, none⟩) (by simp; omega) v, hu⟩, ⟨hr.1, ?_⟩, hk.setCell (p := ⟨X, k, none⟩) (.inl (Nat.le_of_lt hX)) v⟩
  rcases hr.2 with h1 | ⟨g, cap, cur2, e, hg, hh, h3⟩
  · exact .inl h1
  · refine .inr ⟨g, cap, cur2, e, hg, (heap_setCell_other w ⟨X, k, none⟩ g v (fun e1 => ?_)).trans hh, h3⟩
    simp at e1
    subst e1
    rw [hh] at hb
    simp at hb
    exact ht hb.2.symm

theorem Fresh.setX {F t wd X : Nat} {fa : Option Addr} {w : World} {cur : Array Value} (hX : F < X) (hb : w.heap[X]? = some (.cells cur t (0, 0))) (hs : wd ≤ cur.size) (hfa : fa = some ⟨X, 0, none⟩) (k : Nat) (v : Value) : Fresh F t wd fa (w.setCell ⟨X, k, none⟩ v) :=
  fun _ => ⟨X, _, hfa, hX, heap_setCell_same w X k cur t v hb, by simpa using hs⟩

theorem reseted {R F G : Nat} {rd ro ent wa : Value} {w0 : World} {zs : List Int} {ka : Option Addr} {kn kc : Nat} {rv fs due : Value} {w : World} (h : S6 R F G rd ro ent wa w0 zs (.slice ka kn kc) rv fs due w) (hfs : IsS fs) (hdue : IsS due) : Reseted R F G rd ro ent wa zs w0 (.returned (.tuple #[])) w := by
  obtain ⟨⟨ru, uv, hf, hu⟩, hr, hk⟩ := h
  exact ⟨rfl, ⟨_, _, _, _, _, _, hf, ⟨_, _, _, rfl⟩, hfs, hdue, hu, ⟨hr⟩⟩, hk⟩

theorem clear_none (fa : Option Addr) (fc : Nat) (ty : TypeId) (w : World) : (Builtin.clear_ #[44] ty #[.slice fa 0 fc]).run Try.prog w = .ok (.tuple #[]) w := by
  cases fa <;> simp [Builtin.clear_, run_underlying Try.underlying44]

set_option maxHeartbeats 8000000 in
set_option maxRecDepth 100000 in
theorem reset22 (R B0 F G n P m c0 c1 c3 c6 roc : Nat) (pa0 pa1 pa3 pa6 roa : Option Addr) (PR PS FR RD : Nat → Int) (ops bp ent wa : Value) (w : World)
    (hn : n ≤ 4096) (hP : P ≤ 4096) (hm : m ≤ 4096) (hB0 : B0 ≤ G) (hGF : G < F) (_hRG : R ≠ G) (hRF : R ≠ F)
    (hF : FIs F G nilV nilV nilV nilV false nilV (.slice roa P roc) ent wa nilV nilV nilV w) (hG : GIs G n ops (.slice pa0 n c0) (.slice pa1 n c1) bp (.slice pa3 n c3) w)
    (h0 : Sg R B0 pa0 n (fun i => .int .i64 (PR i)) w) (h1 : Sg R B0 pa1 n (fun i => .int .i32 (PS i)) w) (h3 : Sg R B0 pa3 n (fun i => .int .i64 (FR i)) w) (h6 : Sg R B0 pa6 m (fun i => .int .i64 (RD i)) w)
    (hRD : ∀ k, k < m → 0 ≤ RD k ∧ RD k < n) (hFR : ∀ i, i < n → -1 ≤ FR i ∧ FR i < n) (hPR : ∀ i, i < n → 0 ≤ PR i ∧ PR i < P) (hPS : ∀ i, i < n → 1 ≤ PS i ∧ PS i ≤ 1048576)
    (hro : 0 < P → roa = some ⟨R, 0, none⟩ ∧ R < B0 ∧ ∃ cur, w.heap[R]? = some (.cells cur 21 (0, 0)) ∧ cur.size = P) :
    Calls Try.prog 22 #[.pointer (some ⟨F, 0, none⟩), .slice pa6 m c6] w fun e w' => Reseted R F G (.slice pa6 m c6) (.slice roa P roc) ent wa (zsOf PR PS FR RD m) w e w' := by
  obtain ⟨i64, hi64, hz64, hs64, hb64⟩ := info_parts info64
  have HF := hid hF
  have HG := hid hG
  have H0 := hid h0
  have H1 := hid h1
  have H3 := hid h3
  have H6 := hid h6
  have HRD := hid hRD
  have HFR := hid hFR
  have HPR := hid hPR
  have HPS := hid hPS
  have HRO := hid hro
  have f0 : w.cell? ⟨F, 0, none⟩ = some (.pointer (some ⟨G, 0, none⟩)) := hF.c 0
  have f1 : w.cell? ⟨F, 1, none⟩ = some (.slice none 0 0) := hF.c 1
  have f2 : w.cell? ⟨F, 2, none⟩ = some (.slice none 0 0) := hF.c 2
  have f3 : w.cell? ⟨F, 3, none⟩ = some (.slice none 0 0) := hF.c 3
  have f4 : w.cell? ⟨F, 4, none⟩ = some (.slice none 0 0) := hF.c 4
  have f5 : w.cell? ⟨F, 5, none⟩ = some (.slice none 0 0) := hF.c 5
  have f7 : w.cell? ⟨F, 7, none⟩ = some (.bool false) := hF.c 7
  have f11 : w.cell? ⟨F, 11, none⟩ = some (.slice none 0 0) := hF.c 11
  have f15 : w.cell? ⟨F, 15, none⟩ = some (.slice none 0 0) := hF.c 15
  have f16 : w.cell? ⟨F, 16, none⟩ = some (.int .i64 0) := hF.c 16
  have f17 : w.cell? ⟨F, 17, none⟩ = some (.int .i64 0) := hF.c 17
  have f18 : w.cell? ⟨F, 18, none⟩ = some (.int .i64 0) := hF.c 18
  have f19 : w.cell? ⟨F, 19, none⟩ = some (.slice none 0 0) := hF.c 19
  have z1 := hF.fz 1
  have z2 := hF.fz 2
  have z5 := hF.fz 5
  have z11 := hF.fz 11
  have z15 := hF.fz 15
  have z16 := hF.fz 16
  have z17 := hF.fz 17
  have z18 := hF.fz 18
  have z19 := hF.fz 19
  have lF := hF.lt
  have lG := hG.lt
  clear hF hG h0 h1 h3 h6 hRD hFR hPR hPS hro
  go_enter Try.func22, Try.ntmps22
  go_wp2_with fail
  refine wp_loop_rounds 1 ?_
  rw [rounds_succ]
  go_wp2_with fail
  have hS0 := start3 (R := F) HF.out (.slice pa6 m c6)
  clear f0 f1 f2 f3 f4 f5 f7 f11 f15 f16 f17 f18 f19 z1 z2 z5 z11 z15 z16 z17 z18 z19
  go_loopg [148] m (fun k i wr => ∃ j : Nat, j + k = m ∧ i = .int .i64 j ∧ S3 F F G (.slice pa6 m c6) (.slice roa P roc) ent wa w (ksOf PR PS FR RD j) wr)
  case atStart => exact ⟨0, by omega, rfl, hS0⟩
  case round =>
    obtain ⟨j, hj, rfl, hSj⟩ := hrel
    clear hS0
    by_cases hlt : j < m
    · have hkp := hSj.kp
      have hGr := HG.out.block (hkp.block G hGF (by omega))
      have g1 : wr.cell? ⟨G, 1, none⟩ = some (.slice pa0 n c0) := hGr.c 1
      have g2 : wr.cell? ⟨G, 2, none⟩ = some (.slice pa1 n c1) := hGr.c 2
      have g4 : wr.cell? ⟨G, 4, none⟩ = some (.slice pa3 n c3) := hGr.c 4
      have hkb : Kp R B0 w wr := ⟨hkp.os, hkp.tape, hkp.output, hkp.size, fun k h1 h2 => hkp.block k (by omega) (by omega)⟩
      obtain ⟨hd0, hd1⟩ := HRD.out j hlt
      obtain ⟨b6, o6, rfl, _, _, hc6⟩ := (H6.out.kept hkb) (by omega)
      have k6 : wr.cell? ⟨b6, o6 + j, none⟩ = some (.int .i64 (RD j)) := hc6 j hlt
      obtain ⟨r, hr⟩ : ∃ r : Nat, RD j = r := ⟨(RD j).toNat, by omega⟩
      have hrn : r < n := by omega
      obtain ⟨b3, o3, rfl, _, _, hc3⟩ := (H3.out.kept hkb) (by omega)
      have k3 : wr.cell? ⟨b3, o3 + r, none⟩ = some (.int .i64 (FR r)) := hc3 r hrn
      obtain ⟨hf0, hf1⟩ := HFR.out r hrn
      rw [hr] at k6
      have er : (RD j).toNat = r := by omega
      clear hc6 hc3 hGr
      by_cases hneg : FR r < 0
      · have HS := hid hSj
        clear hSj hkp hkb
        go_wp2_with fail
        go_roundg (m - (j + 1))
        case measure => omega
        case rel => exact ⟨j + 1, by omega, by go_num, by rw [ksOf_neg (by rw [er]; exact hneg)]; exact HS.out⟩
      · obtain ⟨x, hx⟩ : ∃ x : Nat, FR r = x := ⟨(FR r).toNat, by omega⟩
        have hxn : x < n := by omega
        obtain ⟨b0, o0, rfl, hbR0, hbB0, hc0⟩ := (H0.out.kept hkb) (by omega)
        obtain ⟨b1, o1, rfl, hbR1, hbB1, hc1⟩ := (H1.out.kept hkb) (by omega)
        have k0 : wr.cell? ⟨b0, o0 + x, none⟩ = some (.int .i64 (PR x)) := hc0 x hxn
        have k1 : wr.cell? ⟨b1, o1 + x, none⟩ = some (.int .i32 (PS x)) := hc1 x hxn
        obtain ⟨hp0, hp1⟩ := HPR.out x hxn
        obtain ⟨hs0, hs1⟩ := HPS.out x hxn
        obtain ⟨q, hq⟩ : ∃ q : Nat, PR x = q := ⟨(PR x).toNat, by omega⟩
        obtain ⟨p, hp⟩ : ∃ p : Nat, PS x = p := ⟨(PS x).toNat, by omega⟩
        rw [hx] at k3
        rw [hq] at k0
        rw [hp] at k1
        obtain ⟨kv, hFk, hown⟩ := hSj.ex
        obtain ⟨ka, kc, rfl⟩ : ∃ ka kc, kv = .slice ka (ksOf PR PS FR RD j).length kc := by
          rcases hown.2 with ⟨e, e0⟩ | ⟨g, cap, cur, e, _⟩
          · exact ⟨none, 0, by rw [e, e0]⟩
          · exact ⟨_, cap, e⟩
        have f5 : wr.cell? ⟨F, 5, none⟩ = some (.slice ka (ksOf PR PS FR RD j).length kc) := hFk.c 5
        have z5 := hFk.fz 5
        have lFr := hFk.lt
        have HS := hid hSj
        have HFk := hid hFk
        have Hown := hid hown
        clear hSj hkp hkb hc0 hc1 hFk hown
        go_wp2_with fail
        have i1 : (0 : Int) ≤ (x : Int) := by omega
        have i2 : (x : Int) < (n : Int) := by omega
        have s1 : IntKind.u64.wrap (q : Int) = (q : Int) := by rw [IntKind.wrap_u64]; omega
        have s2 : IntKind.u64.wrap (p : Int) = (p : Int) := by rw [IntKind.wrap_u64]; omega
        have dG : F ≠ G := by omega
        have dG' := dG.symm
        have db0 : F ≠ b0 := by omega
        have db1 : F ≠ b1 := by omega
        have db0' := db0.symm
        have db1' := db1.symm
        have s3 : IntKind.u64.wrap ((q : Int) * 4294967296) = (q : Int) * 4294967296 := by rw [IntKind.wrap_u64]; omega
        obtain ⟨y, hy⟩ : ∃ y, y = (q : Int) * 4294967296 + (p : Int) := ⟨_, rfl⟩
        have s4 : bits .or .u64 ((q : Int) * 4294967296) (p : Int) = y := by rw [hy]; exact key_bits q p (by omega) (by omega)
        have HY := hid hy
        clear hy
        obtain ⟨K, hK⟩ : ∃ K, K = (ksOf PR PS FR RD j).length := ⟨_, rfl⟩
        have hKl : K ≤ 4096 := by have := ksOf_length PR PS FR RD j; omega
        rw [← hK] at f5
        have aG : Value.ownBlock (.slice ka (ksOf PR PS FR RD j).length kc) ≠ some G := own_ne Hown.out (by omega)
        have aF : Value.ownBlock (.slice ka (ksOf PR PS FR RD j).length kc) ≠ some F := own_ne Hown.out (by omega)
        have ab0 : Value.ownBlock (.slice ka (ksOf PR PS FR RD j).length kc) ≠ some b0 := own_ne Hown.out (by omega)
        have ab1 : Value.ownBlock (.slice ka (ksOf PR PS FR RD j).length kc) ≠ some b1 := own_ne Hown.out (by omega)
        rw [← hK] at aG aF ab0 ab1
        have Hown2 : Hid (wr.ownsRow (F + 1) 64 1 (.slice ka K kc) K ((ksOf PR PS FR RD j).map (Value.int .u64))) := by rw [hK]; exact Hown
        have HFk2 : Hid (FIs F G (.slice (some ⟨b6, o6, none⟩) m c6) nilV (.slice ka K kc) nilV false nilV (.slice roa P roc) ent wa nilV nilV nilV wr) := by rw [hK]; exact HFk
        clear HFk Hown
        have HK := hid hK
        have AG := hid aG
        have AF := hid aF
        have AB0 := hid ab0
        have AB1 := hid ab1
        clear hK aG aF ab0 ab1
        obtain ⟨gg, cap, w1, hap, hown1, hgrow, _, _⟩ := run_append_lies (P := Try.prog) ((wr.alloc (.cells #[.int .u64 y] 64)).drew) 44 44 (F + 1) 64 i64 _ 1 8 Try.underlying44 hi64 hz64 hs64 hb64 rfl (by omega) (.slice ka K kc) K ((ksOf PR PS FR RD j).map (Value.int .u64)) ((Hown2.out.alloc _).drew)
              ⟨wr.heap.size, 0, none⟩ 1 1 [.int .u64 y] (by rfl) (World.news_of_block (cs := #[.int .u64 y]) (t := 64) (fr := (0, 0)) (heap_alloc_new wr _)) (by simp [Value.oneCell'])
              (by omega) (by unfold maxLen; omega) (by omega) (by show F + 1 ≤ (wr.alloc _).heap.size; simp; omega) _ rfl
        have hap' : (apK #[44, 44] 44 #[.slice ka K kc, .slice (some ⟨wr.heap.size, 0, none⟩) 1 1]).run Try.prog (wr.alloc (.cells #[.int .u64 y] 64)).drew = .ok (.slice (some ⟨gg, 0, none⟩) (K + 1) cap) w1 := hap
        have q5 := after_cell hgrow AF.out f5
        have qz := after_fz hgrow AF.out lFr z5
        have HO1 := hid hown1
        have HG1 := hid hgrow
        clear hap hown1 hgrow
        go_region
        all_goals
          go_wp2_with fail
          go_roundg (m - (j + 1))
          case measure => omega
          case rel =>
            refine ⟨j + 1, by omega, by go_num, ?_⟩
            have hpos : ¬ FR (RD j).toNat < 0 := by rw [er]; omega
            have e1 : keyOf2 PR PS (FR (RD j).toNat).toNat = y := by rw [er, hx, Int.toNat_natCast, keyOf2, hq, hp, HY.out]
            rw [ksOf_pos hpos, e1]
            have hk := HK.out
            subst hk
            exact S3.more HS.out.kp HFk2.out Hown2.out HG1.out HO1.out
    · obtain rfl : j = m := by omega
      obtain ⟨kv, hFk, hown⟩ := hSj.ex
      have hks : (ksOf PR PS FR RD j).length ≤ 4096 := Nat.le_trans (ksOf_length PR PS FR RD j) hm
      obtain ⟨ka, kc, rfl⟩ : ∃ ka kc, kv = .slice ka (ksOf PR PS FR RD j).length kc := by
        rcases hown.2 with ⟨e, e0⟩ | ⟨g, cap, cur, e, _⟩
        · exact ⟨none, 0, by rw [e, e0]⟩
        · exact ⟨_, cap, e⟩
      have f5 : wr.cell? ⟨F, 5, none⟩ = some (.slice ka (ksOf PR PS FR RD j).length kc) := hFk.c 5
      have z5 := hFk.fz 5
      have f4 : wr.cell? ⟨F, 4, none⟩ = some (.slice none 0 0) := hFk.c 4
      have z4 := hFk.fz 4
      have lFr := hFk.lt
      have HS := hid hSj
      have HFk := hid hFk
      have Hown := hid hown
      have HC := hid (sort_own (F + 1) _ _ wr hks hown)
      have aF : Value.ownBlock (.slice ka (ksOf PR PS FR RD j).length kc) ≠ some F := own_ne hown (by omega)
      have AF := hid aF
      clear hSj hFk hown aF
      go_wp2_with fail
      refine HC.out.mono ?_
      rintro e w1 ⟨rfl, ho1, hg1⟩
      have p5 : w1.cell? ⟨F, 5, none⟩ = some (.slice ka (ksOf PR PS FR RD j).length kc) := (World.cell?_of_block (w := wr) (w' := w1) (a := ⟨F, 5, none⟩) (hg1.block F lFr (Ne.symm AF.out))).trans f5
      have hsl : (sorted (ksOf PR PS FR RD j)).length = (ksOf PR PS FR RD j).length := by simp [sorted]
      have ho1' : w1.ownsRow (F + 1) 64 1 (.slice ka (ksOf PR PS FR RD j).length kc) (sorted (ksOf PR PS FR RD j)).length ((sorted (ksOf PR PS FR RD j)).map encK) := by rw [hsl]; exact ho1
      have hZl0 : (Lib.compact (sorted (ksOf PR PS FR RD j))).length ≤ 4096 := by
        have := compact_length (sorted (ksOf PR PS FR RD j))
        omega
      obtain ⟨zs, hzs⟩ : ∃ zs, zs = Lib.compact (sorted (ksOf PR PS FR RD j)) := ⟨_, rfl⟩
      have hZl : zs.length ≤ 4096 := by rw [hzs]; exact hZl0
      clear hZl0
      have HC2 := hid (compact_own' (F + 1) _ _ zs w1 (by omega) ho1' hzs)
      have HZS := hid hzs
      clear hzs
      have HO1 := hid ho1
      have HG1 := hid hg1
      clear ho1 ho1' hg1 hsl
      go_wp2_with fail
      refine HC2.out.mono ?_
      rintro e w2 ⟨kv', rfl, ho2, hg2⟩
      obtain ⟨ka2, kc2, rfl⟩ : ∃ ka kc, kv' = .slice ka zs.length kc := by
        rcases ho2.2 with ⟨e, e0⟩ | ⟨g, cap, cur, e, _⟩
        · exact ⟨none, 0, by rw [e, e0]⟩
        · exact ⟨_, cap, e⟩
      have lF1 : F < w1.heap.size := Nat.lt_of_lt_of_le lFr HG1.out.size
      have e2 : w2.heap[F]? = wr.heap[F]? := (hg2.block F lF1 (Ne.symm AF.out)).trans (HG1.out.block F lFr (Ne.symm AF.out))
      have r5 : w2.cell? ⟨F, 5, none⟩ = some (.slice ka (ksOf PR PS FR RD j).length kc) := (World.cell?_of_block (w := wr) (w' := w2) (a := ⟨F, 5, none⟩) e2).trans f5
      have rz5 : w2.frozen? ⟨F, 5, none⟩ = false := (World.frozen?_of_block (w := wr) (w' := w2) (a := ⟨F, 5, none⟩) e2).trans z5
      have r4 : w2.cell? ⟨F, 4, none⟩ = some (.slice none 0 0) := (World.cell?_of_block (w := wr) (w' := w2) (a := ⟨F, 4, none⟩) e2).trans f4
      have rz4 : w2.frozen? ⟨F, 4, none⟩ = false := (World.frozen?_of_block (w := wr) (w' := w2) (a := ⟨F, 4, none⟩) e2).trans z4
      have hS4 := start4 HS.out.kp HFk.out Hown.out HG1.out HO1.out hg2 ho2
      have HS4 := hid hS4
      clear hS4 ho2 hg2 e2 HO1 HG1 HC HC2 HS HFk Hown p5 f5 z5 f4 z4
      obtain ⟨i73, hi73, hz73, hs73, hb73⟩ := info_parts info73
      have hzk : ∀ z ∈ zs, 0 ≤ z ∧ z / 4294967296 < P ∧ z % 4294967296 ≤ 1048576 ∧ 1 ≤ z % 4294967296 := by
        intro z hz
        rw [HZS.out] at hz
        obtain ⟨_, x, _, hx, _, rfl⟩ := ksOf_mem HRD.out HFR.out j (Nat.le_refl _) z (mem_sorted (mem_compact hz))
        obtain ⟨p0, p1⟩ := HPR.out x hx
        obtain ⟨q0, q1⟩ := HPS.out x hx
        unfold keyOf2
        omega
      have HZK := hid hzk
      clear hzk
      go_wp2_with fail
      go_loopg [215] zs.length (fun k i wr => ∃ l : Nat, l + k = zs.length ∧ i = .int .i64 l ∧ S4 F F G (.slice pa6 j c6) (.slice roa P roc) ent wa w zs (.slice ka2 zs.length kc2) l wr)
      case atStart => exact ⟨0, by omega, rfl, HS4.out⟩
      case round =>
        obtain ⟨l, hl, rfl, hS⟩ := hrel
        clear HS4
        by_cases hlt : l < zs.length
        · obtain ⟨rv, hF4, hown⟩ := hS.ex
          have hkp := hS.kp
          have hkey := hS.key
          obtain ⟨ra, rcp, rfl⟩ : ∃ ra rcp, rv = .slice ra l rcp := by
            rcases hown.2 with ⟨e, e0⟩ | ⟨g, cap, cur, e, _⟩
            · exact ⟨none, 0, by rw [e, e0]⟩
            · exact ⟨_, cap, e⟩
          obtain ⟨gk, rfl⟩ : ∃ gk, ka2 = some ⟨gk, 0, none⟩ := by
            rcases hkey.2 with ⟨e, e0⟩ | ⟨g, cap, cur, e, _⟩
            · omega
            · exact ⟨g, by simp at e; exact e.1⟩
          have k0 : wr.cell? ⟨gk, l, none⟩ = some (.int .u64 (zs.getD l 0)) := by
            rw [hkey.cellAt l (by omega)]
            simp [List.getD, hlt]
          obtain ⟨hz0, hz1, hz2, hz3⟩ := HZK.out (zs.getD l 0) (by rw [List.getD, List.getElem?_eq_getElem hlt]; exact List.getElem_mem hlt)
          have f4 : wr.cell? ⟨F, 4, none⟩ = some (.slice ra l rcp) := hF4.c 4
          have z4 := hF4.fz 4
          have lFr := hF4.lt
          obtain ⟨z, hz⟩ : ∃ z, z = zs.getD l 0 := ⟨_, rfl⟩
          obtain ⟨a1, ha1⟩ : ∃ a1, a1 = hiOf zs l := ⟨_, rfl⟩
          obtain ⟨b1, hb1⟩ : ∃ b1, b1 = loOf zs l := ⟨_, rfl⟩
          rw [← hz] at k0 hz0 hz1 hz2 hz3
          have s1 : IntKind.i32.wrap (z / 4294967296) = a1 := by rw [IntKind.wrap_i32, ha1, hiOf, ← hz]; omega
          have s2 : IntKind.i32.wrap z = b1 := by rw [IntKind.wrap_i32, hb1, loOf, ← hz]; omega
          have HE := hid (And.intro ha1 hb1)
          have Hown := hid hown
          have HF4 := hid hF4
          have Hkp := hid hkp
          have Hkey := hid hkey
          have AF := hid (own_ne hown (Nat.le_refl F))
          clear hz ha1 hb1 hS hown hF4 hkp hkey
          go_wp2_with (at_builtin; refine wpList_append_lies _ rfl _ _ 56 rfl (F + 1) 73 i73 _ 10 36 Try.underlying56 hi73 hz73 hs73 hb73 rfl (by omega) (.slice ra l rcp) l (rcs (hiOf zs) (loOf zs) l) rfl (Hown.out.alloc _) ⟨wr.heap.size, 0, none⟩ 1 1 (rc a1 b1) rfl rfl (World.news_of_block (cs := (rc a1 b1).toArray) (t := 73) (fr := (0, 0)) (heap_alloc_new wr _)) (by simp [rc, Value.oneCell']) (by omega) (by unfold maxLen; omega) (by omega) (by simp; omega) (wr.heap.size + 1) (by simp) ?_; intro gg cap w1 hown1 hgrow hat hlt1; have q4 := after_cell' hgrow AF.out f4; have qz := after_fz' hgrow AF.out lFr z4)
          go_roundg (zs.length - (l + 1))
          case measure => omega
          case rel =>
            refine ⟨l + 1, by omega, by go_num, ?_⟩
            have he := HE.out
            rw [he.1, he.2] at hown1
            exact S4.more Hkp.out HF4.out Hkey.out Hown.out hgrow hown1
        · obtain rfl : l = zs.length := by omega
          obtain ⟨rv, hF4, hown⟩ := hS.ex
          have hkp := hS.kp
          obtain ⟨ra, rcp, rfl⟩ : ∃ ra rcp, rv = .slice ra zs.length rcp := by
            rcases hown.2 with ⟨e, e0⟩ | ⟨g, cap, cur, e, _⟩
            · exact ⟨none, 0, by rw [e, e0]⟩
            · exact ⟨_, cap, e⟩
          have f4 : wr.cell? ⟨F, 4, none⟩ = some (.slice ra zs.length rcp) := hF4.c 4
          have f8 : wr.cell? ⟨F, 8, none⟩ = some (.slice none 0 0) := hF4.c 8
          have z8 := hF4.fz 8
          have hk5 : Kp R F w wr := ⟨hkp.os, hkp.tape, hkp.output, hkp.size, fun k h1 _ => hkp.block k h1 (by omega)⟩
          have hS5 : S5 R F G P (.slice pa6 j c6) (.slice roa P roc) ent wa w zs (.slice ka2 zs.length kc2) (.slice ra zs.length rcp) 0 0 0 nilV nilV [] [] (wr.setCell ⟨F, 8, none⟩ nilV) := start5 hF4 hown hk5 (fun h => by
            obtain ⟨_, hRB, cur, hc, hs⟩ := HRO.out h
            exact ⟨cur, (hkp.block R (by omega) (by omega)).trans hc, hs⟩) hRF
          have HS5 := hid hS5
          clear hS hF4 hown hkp hk5 hS5
          go_wp2_with fail
          go_loopg [248] zs.length (fun k i wr => ∃ (l nr nu : Nat) (uv ru : Value) (xs us : List Value), l + k = zs.length ∧ i = .int .i64 l ∧ S5 R F G P (.slice pa6 j c6) (.slice roa P roc) ent wa w zs (.slice ka2 zs.length kc2) (.slice ra zs.length rcp) l nr nu uv ru xs us wr)
          case atStart => exact ⟨0, 0, 0, nilV, nilV, [], [], by omega, rfl, HS5.out⟩
          case round =>
            obtain ⟨i, nr, nu, uv, ru, xs, us, hi, rfl, hS⟩ := hrel
            clear HS5 f4 f8 z8
            by_cases hlt : i < zs.length
            · obtain ⟨ra', rcp', e0, hsh⟩ := (Ret.mk hS.ret).shape
              cases e0
              obtain ⟨g, hFg, hgw, rfl, hcs⟩ := hsh (by omega)
              have k0 : wr.cell? ⟨g, i * 10, none⟩ = some (.int .i32 (hiOf zs i)) := hcs i 0 hlt (by omega)
              have k1 : wr.cell? ⟨g, i * 10 + 1, none⟩ = some (.int .i32 (loOf zs i)) := hcs i 1 hlt (by omega)
              have k2 : wr.cell? ⟨g, i * 10 + 2, none⟩ = some (.bool false) := hcs i 2 hlt (by omega)
              have k3 : wr.cell? ⟨g, i * 10 + 3, none⟩ = some (.bool false) := hcs i 3 hlt (by omega)
              have k4 : wr.cell? ⟨g, i * 10 + 4, none⟩ = some (.int .i32 0) := hcs i 4 hlt (by omega)
              have k5 : wr.cell? ⟨g, i * 10 + 5, none⟩ = some (.int .i32 0) := hcs i 5 hlt (by omega)
              have k6 : wr.cell? ⟨g, i * 10 + 6, none⟩ = some (.int .i32 0) := hcs i 6 hlt (by omega)
              have k7 : wr.cell? ⟨g, i * 10 + 7, none⟩ = some (.int .i32 0) := hcs i 7 hlt (by omega)
              have k8 : wr.cell? ⟨g, i * 10 + 8, none⟩ = some (.int .i32 0) := hcs i 8 hlt (by omega)
              have k9 : wr.cell? ⟨g, i * 10 + 9, none⟩ = some (.int .i32 (-1)) := hcs i 9 hlt (by omega)
              have kp0 : 0 < i → wr.cell? ⟨g, (i - 1) * 10, none⟩ = some (.int .i32 (hiOf zs (i - 1))) := fun h => hcs (i - 1) 0 (by omega) (by omega)
              have HKP := hid kp0
              have HS := hid hS
              obtain ⟨q, hq⟩ : ∃ q : Nat, hiOf zs i = q := by
                obtain ⟨y0, y1, _⟩ := HZK.out (zs.getD i 0) (by rw [List.getD, List.getElem?_eq_getElem hlt]; exact List.getElem_mem hlt)
                exact ⟨(hiOf zs i).toNat, by unfold hiOf; omega⟩
              have hqP : q < P := by
                obtain ⟨y0, y1, _⟩ := HZK.out (zs.getD i 0) (by rw [List.getD, List.getElem?_eq_getElem hlt]; exact List.getElem_mem hlt)
                unfold hiOf at hq
                omega
              rw [hq] at k0
              have lFr := hS.fis.lt
              clear hcs hsh kp0 hS
              go_wp2_with fail
              obtain ⟨w3, hw3⟩ : ∃ w3, wr.alloc (.cells #[.int .i32 q, .int .i32 (loOf zs i), .bool false, .bool false, .int .i32 0, .int .i32 0, .int .i32 0, .int .i32 0, .int .i32 0, .int .i32 (-1)] 73) = w3 := ⟨_, rfl⟩
              have hS3 := HS.out.alloc (.cells #[.int .i32 q, .int .i32 (loOf zs i), .bool false, .bool false, .int .i32 0, .int .i32 0, .int .i32 0, .int .i32 0, .int .i32 0, .int .i32 (-1)] 73)
              have n0 : (wr.alloc (.cells #[.int .i32 q, .int .i32 (loOf zs i), .bool false, .bool false, .int .i32 0, .int .i32 0, .int .i32 0, .int .i32 0, .int .i32 0, .int .i32 (-1)] 73)).cell? ⟨wr.heap.size, 0, none⟩ = some (.int .i32 q) := cell_of_row _ _ _ _ _ _ (heap_alloc_new wr _)
              have nz : (wr.alloc (.cells #[.int .i32 q, .int .i32 (loOf zs i), .bool false, .bool false, .int .i32 0, .int .i32 0, .int .i32 0, .int .i32 0, .int .i32 0, .int .i32 (-1)] 73)).frozen? ⟨wr.heap.size, 0, none⟩ = false := frozen_of_row _ _ _ _ 73 (heap_alloc_new wr _)
              have HKP3 : Hid (0 < i → (wr.alloc (.cells #[.int .i32 q, .int .i32 (loOf zs i), .bool false, .bool false, .int .i32 0, .int .i32 0, .int .i32 0, .int .i32 0, .int .i32 0, .int .i32 (-1)] 73)).cell? ⟨g, (i - 1) * 10, none⟩ = some (.int .i32 (hiOf zs (i - 1)))) := fun h => Lib.cell?_alloc_some (.cells #[.int .i32 q, .int .i32 (loOf zs i), .bool false, .bool false, .int .i32 0, .int .i32 0, .int .i32 0, .int .i32 0, .int .i32 0, .int .i32 (-1)] 73) (HKP.out h)
              have lw3 : (wr.alloc (.cells #[.int .i32 q, .int .i32 (loOf zs i), .bool false, .bool false, .int .i32 0, .int .i32 0, .int .i32 0, .int .i32 0, .int .i32 0, .int .i32 (-1)] 73)).heap.size = wr.heap.size + 1 := by simp
              rw [hw3] at hS3 n0 nz HKP3 lw3 ⊢
              obtain ⟨lb, hlb⟩ : ∃ lb, wr.heap.size = lb := ⟨_, rfl⟩
              rw [hlb] at n0 nz lw3 ⊢
              have hFlb : F < lb := by omega
              clear k0 k1 k2 k3 k4 k5 k6 k7 k8 k9 HKP hw3 HS hlb
              have f4 : w3.cell? ⟨F, 4, none⟩ = some (.slice (some ⟨g, 0, none⟩) zs.length rcp) := hS3.fis.c 4
              have HS3 := hid hS3
              clear hS3
              obtain ⟨nb, hnb⟩ : ∃ nb : Bool, nb = (decide (i = 0) || !((q : Int) == hiOf zs (i - 1))) := ⟨_, rfl⟩
              have HNB := hid hnb
              clear hnb
              go_cut [268] from 249 to 331 (fun s wx => s = .bool nb ∧ ∃ d, wx = w3.drewN d)
              case first =>
                by_cases h0 : i = 0
                · subst h0
                  go_quiet (fail)
                  go_wp2_with fail
                  go_meet
                  case rel => exact ⟨by rw [HNB.out]; rfl, _, rfl⟩
                · have hp := HKP3.out (by omega)
                  have e0 : ((i : Int) == 0) = false := by simp; omega
                  have e1 : decide ((i : Int) = 0) = false := by simp; omega
                  have i1 : (0 : Int) ≤ (i : Int) - 1 := by omega
                  have i2 : (i : Int) - 1 < (zs.length : Int) := by omega
                  have i3 : (i : Int) - 1 = ((i - 1 : Nat) : Int) := by omega
                  go_quiet (fail)
                  go_wp2_with fail
                  go_meet
                  case rel => exact ⟨by rw [HNB.out]; simp [h0]; rfl, _, rfl⟩
              case rest =>
                obtain ⟨rfl, d, rfl⟩ := hcut
                obtain ⟨w4, hw4⟩ : ∃ w4, w3.drewN d = w4 := ⟨_, rfl⟩
                have hS4 := HS3.out.drewN d
                have m0 : (w3.drewN d).cell? ⟨lb, 0, none⟩ = some (.int .i32 q) := n0
                have lw4 : (w3.drewN d).heap.size = lb + 1 := lw3
                rw [hw4] at hS4 m0 lw4 ⊢
                clear n0 nz f4 HKP3 HS3 lw3 hw4
                have HS4 := hid hS4
                clear hS4
                go_upto_if 268 with fail
                go_cut [] from 249 to 331 (fun wx => ∃ (nr nu : Nat) (uv ru : Value) (xs us : List Value), 0 < nr ∧ S5 R F G P (.slice pa6 j c6) (.slice roa P roc) ent wa w zs (.slice ka2 zs.length kc2) (.slice (some ⟨g, 0, none⟩) zs.length rcp) (i + 1) nr nu uv ru xs us wx)
                case first =>
                  cases nb with
                  | false =>
                    have hi0 : i ≠ 0 := fun e => by have := HNB.out; simp [e] at this
                    go_wp2_with fail
                    go_meet
                    case rel => exact ⟨nr, nu, uv, ru, xs, us, HS4.out.low (by omega), HS4.out.next (HS4.out.low (by omega))⟩
                  | true =>
                    obtain ⟨hroa, hRB, _⟩ := HRO.out (by omega)
                    subst hroa
                    obtain ⟨cur, hc, hs⟩ := HS4.out.run (by omega)
                    obtain ⟨u0, y0⟩ : ∃ u, w4.cell? ⟨R, q, none⟩ = some u := ⟨cur[q]'(by omega), by rw [cell_of_row _ _ _ _ _ _ hc]; simp [hs, hqP]⟩
                    have yz := frozen_of_row w4 R q _ 21 hc
                    obtain ⟨rua, ruc, rfl⟩ : ∃ a c, ru = .slice a nr c := by
                      rcases HS4.out.runs.2 with ⟨e, e0⟩ | ⟨g, cap, cur, e, _⟩
                      · exact ⟨none, 0, by rw [e, e0]⟩
                      · exact ⟨_, cap, e⟩
                    have f9 : w4.cell? ⟨F, 9, none⟩ = some (.slice (some ⟨R, 0, none⟩) P roc) := HS4.out.fis.c 9
                    have f8 : w4.cell? ⟨F, 8, none⟩ = some (.slice rua nr ruc) := HS4.out.fis.c 8
                    have htop := HS4.out.top
                    have s1 : IntKind.i32.wrap (nr : Int) = (nr : Int) := by rw [IntKind.wrap_i32]; omega
                    have i1 : (0 : Int) ≤ (q : Int) := by omega
                    have i2 : (q : Int) < (P : Int) := by omega
                    clear hc hs
                    go_wp2_with fail
                    go_region
                    go_wp2_with fail
                    have hRF2 : R < F := by omega
                    obtain ⟨w5, hw5⟩ : ∃ w5, (w4.setCell ⟨R, q, none⟩ (.int .i32 (nr : Int))).drew = w5 := ⟨_, rfl⟩
                    have hS5 := (HS4.out.setRun hRF2 q (.int .i32 (nr : Int))).drew
                    have m5 : ((w4.setCell ⟨R, q, none⟩ (.int .i32 (nr : Int))).drew).cell? ⟨lb, 0, none⟩ = some (.int .i32 q) := (World.cell?_of_block (w := w4) (a := ⟨lb, 0, none⟩) (heap_setCell_other w4 ⟨R, q, none⟩ lb _ (by simp; omega))).trans m0
                    rw [hw5] at hS5 m5 ⊢
                    clear m0 y0 yz f9 f8 hw5 HS4
                    obtain ⟨ua, uc, rfl⟩ : ∃ a c, uv = .slice a nu c := by
                      rcases hS5.used.2 with ⟨e, e0⟩ | ⟨g, cap, cur, e, _⟩
                      · exact ⟨none, 0, by rw [e, e0]⟩
                      · exact ⟨_, cap, e⟩
                    have u19 : w5.cell? ⟨F, 19, none⟩ = some (.slice ua nu uc) := hS5.fis.c 19
                    have v19 := hS5.fis.fz 19
                    have lF5 := hS5.fis.lt
                    obtain ⟨i3, hi3, hz3', hs3', hb3'⟩ := info_parts info3
                    obtain ⟨gg, cap, w6, hap, hown6, hgrow6, _, _⟩ := run_append_lies (P := Try.prog) ((w5.alloc (.cells #[.int .i64 (q : Int)] 3)).drew) 22 22 (F + 1) 3 i3 _ 1 8 Try.underlying22 hi3 hz3' hs3' hb3' rfl (by omega) (.slice ua nu uc) nu us ((hS5.used.alloc _).drew)
                      ⟨w5.heap.size, 0, none⟩ 1 1 [.int .i64 (q : Int)] (by rfl) (World.news_of_block (cs := #[.int .i64 (q : Int)]) (t := 3) (fr := (0, 0)) (heap_alloc_new w5 _)) (by simp [Value.oneCell'])
                      (by omega) (by unfold maxLen; omega) (by omega) (by show F + 1 ≤ (w5.alloc _).heap.size; simp; omega) _ rfl
                    have hap' : (apK #[22, 22] 22 #[.slice ua nu uc, .slice (some ⟨w5.heap.size, 0, none⟩) 1 1]).run Try.prog (w5.alloc (.cells #[.int .i64 (q : Int)] 3)).drew = .ok (.slice (some ⟨gg, 0, none⟩) (nu + 1) cap) w6 := hap
                    have aF : Value.ownBlock (.slice ua nu uc) ≠ some F := own_ne hS5.used (by omega)
                    have q19 := after_cell hgrow6 aF u19
                    have qz19 := after_fz hgrow6 aF lF5 v19
                    have hM := hS5.moreUsed hRF2 hgrow6 hown6
                    have HM := hid hM
                    have HI := hid hS5.ints
                    clear hap hown6 hgrow6 hM hS5 aF
                    have s5 : IntKind.i64.wrap (q : Int) = (q : Int) := by rw [IntKind.wrap_i64]; omega
                    go_region
                    obtain ⟨w7, hw7⟩ : ∃ w7, w6.setCell ⟨F, 19, none⟩ (.slice (some ⟨gg, 0, none⟩) (nu + 1) cap) = w7 := ⟨_, rfl⟩
                    have hM := HM.out
                    rw [hw7] at hM ⊢
                    clear HM hw7 q19 qz19 hap' u19 v19 m5
                    obtain ⟨hF7, hret7, hruns7, hused7, hrun7, hkp7⟩ := hM
                    obtain ⟨i79, hi79, hz79, hs79, hb79⟩ := info_parts info79
                    have f8 : w7.cell? ⟨F, 8, none⟩ = some (.slice rua nr ruc) := hF7.c 8
                    have z8 := hF7.fz 8
                    have lF7 := hF7.lt
                    have AF := hid (own_ne hruns7 (Nat.le_refl F))
                    have H7 := hid (And.intro hF7 (And.intro hret7 (And.intro hruns7 (And.intro hused7 (And.intro hrun7 hkp7)))))
                    have s7 : IntKind.i32.wrap (i : Int) = (i : Int) := by rw [IntKind.wrap_i32]; omega
                    clear hF7 hret7 hruns7 hused7 hrun7 hkp7
                    go_wp2_with (at_builtin; refine wpList_append_lies _ rfl _ _ 57 rfl (F + 1) 79 i79 _ 5 20 Try.underlying57 hi79 hz79 hs79 hb79 rfl (by omega) (.slice rua nr ruc) nr xs rfl (H7.out.2.2.1.alloc _) ⟨w7.heap.size, 0, none⟩ 1 1 [.int .i32 (i : Int), .int .i32 0, .int .i32 0, .int .i32 0, .int .i32 0] rfl rfl (World.news_of_block (cs := #[.int .i32 (i : Int), .int .i32 0, .int .i32 0, .int .i32 0, .int .i32 0]) (t := 79) (fr := (0, 0)) (heap_alloc_new w7 _)) (by simp [Value.oneCell']) (by omega) (by unfold maxLen; omega) (by omega) (by simp; omega) (w7.heap.size + 1) (by simp) ?_; intro g8 cap8 w8 hown8 hgrow8 hat8 hlt8; have q8 := after_cell' hgrow8 AF.out f8; have qz8 := after_fz' hgrow8 AF.out lF7 z8)
                    go_meet
                    case rel =>
                      have h7 := H7.out
                      exact ⟨nr + 1, nu + 1, _, _, _, _, by omega, S5.newRun hRF2 h7.1 h7.2.1 h7.2.2.1 HI.out h7.2.2.2.1 h7.2.2.2.2.1 h7.2.2.2.2.2 ⟨htop.1, by omega⟩ hgrow8 hown8⟩
                case rest =>
                  obtain ⟨nr', nu', uv', ru', xs', us', hnr, hS⟩ := hcut
                  obtain ⟨gr, capr, rfl, hgr⟩ : ∃ g c, ru' = .slice (some ⟨g, 0, none⟩) nr' c ∧ F < g := by
                    rcases hS.runs.2 with ⟨e, e0⟩ | ⟨g, cap, cur, e, hb, _⟩
                    · omega
                    · exact ⟨g, cap, e, by omega⟩
                  have f8 : wc.cell? ⟨F, 8, none⟩ = some (.slice (some ⟨gr, 0, none⟩) nr' capr) := hS.fis.c 8
                  have hxl : xs'.length = nr' * 5 := hS.runs.1
                  obtain ⟨x1, e1⟩ : ∃ x, wc.cell? ⟨gr, (nr' - 1) * 5 + 1, none⟩ = some (.int .i32 x) := by
                    obtain ⟨x, hx⟩ := hS.ints _ (List.getElem_mem (show (nr' - 1) * 5 + 1 < xs'.length by omega))
                    exact ⟨x, by rw [hS.runs.cellAt _ (by omega), List.getElem?_eq_getElem (by omega), hx]⟩
                  obtain ⟨x2, e2⟩ : ∃ x, wc.cell? ⟨gr, (nr' - 1) * 5 + 2, none⟩ = some (.int .i32 x) := by
                    obtain ⟨x, hx⟩ := hS.ints _ (List.getElem_mem (show (nr' - 1) * 5 + 2 < xs'.length by omega))
                    exact ⟨x, by rw [hS.runs.cellAt _ (by omega), List.getElem?_eq_getElem (by omega), hx]⟩
                  have y1 := hS.runs.frozenAt ((nr' - 1) * 5 + 1)
                  have y2 := hS.runs.frozenAt ((nr' - 1) * 5 + 2)
                  have htop := hS.top
                  obtain ⟨k, rfl⟩ : ∃ k, nr' = k + 1 := ⟨nr' - 1, by omega⟩
                  rw [Nat.add_sub_cancel] at e1 e2 y1 y2
                  have i1 : (0 : Int) ≤ (k : Int) := by omega
                  have i2 : (k : Int) < ((k + 1 : Nat) : Int) := by omega
                  have HS := hid hS
                  clear hS m0 HNB
                  go_wp2_with fail
                  go_quiet (fail)
                  go_wp2_with fail
                  go_roundg (zs.length - (i + 1))
                  case measure => omega
                  case rel =>
                    have hRP : R < F ∨ P = 0 := by
                      by_cases hp : 0 < P
                      · have := (HRO.out hp).2.1
                        omega
                      · omega
                    exact ⟨i + 1, k + 1, nu', uv', _, _, us', by omega, by go_num, ((HS.out.drewN nq).bump hgr hRP (k * 5 + 1) _).bump hgr hRP (k * 5 + 2) _⟩
            · obtain rfl : i = zs.length := by omega
              have f4 : wr.cell? ⟨F, 4, none⟩ = some (.slice ra zs.length rcp) := hS.fis.c 4
              have f13 : wr.cell? ⟨F, 13, none⟩ = some (.slice none 0 0) := hS.fis.c 13
              have z13 := hS.fis.fz 13
              have f14 : wr.cell? ⟨F, 14, none⟩ = some (.slice none 0 0) := hS.fis.c 14
              have z14 := hS.fis.fz 14
              have lFr := hS.fis.lt
              have HS := hid (start6 hS)
              obtain ⟨wd, hwd⟩ : ∃ wd : Nat, ((zs.length : Int) + 63) / 64 = (wd : Int) := ⟨(zs.length + 63) / 64, by omega⟩
              have hwd2 : wd ≤ 4096 := by omega
              have hG27 := hid (grow27 wd wr hwd2)
              clear hS
              go_upto_region 52 with fail
              go_cut [17] from 332 to 383 (fun s17 wx => s17 = .int .i64 (wd : Int) ∧ ∃ fa fc, S6 R F G (.slice pa6 j c6) (.slice roa P roc) ent wa w zs (.slice ka2 zs.length kc2) (.slice ra zs.length rcp) (.slice fa wd fc) nilV wx ∧ Fresh F 64 wd fa wx)
              case first =>
                go_wp2_with fail
                refine hG27.out.mono ?_
                intro e w1 h27
                rcases h27 with ⟨h0, rfl, rfl⟩ | ⟨hpos, cap, hcap, rfl, rfl⟩
                · subst h0
                  go_wp2_with fail
                  go_meet
                  case rel => exact ⟨by first | rfl | simp [*], none, 0, HS.out.set13 _, fun h => absurd h (Nat.lt_irrefl _)⟩
                · have hS7 := HS.out.alloc (.cells (#[] ++ Builtin.zeroCells #[.int .u64 0] wd ++ Builtin.zeroCells #[.int .u64 0] (cap - wd)) 64)
                  have hFr := fresh_grown (n := wd) (cap := cap) (t := 64) (z := .int .u64 0) (w := wr) lFr
                  have c1 : (wd : Int) ≤ (cap : Int) := by omega
                  obtain ⟨w2, hw2⟩ : ∃ w2, wr.drew.alloc (.cells (#[] ++ Builtin.zeroCells #[.int .u64 0] wd ++ Builtin.zeroCells #[.int .u64 0] (cap - wd)) 64) = w2 := ⟨_, rfl⟩
                  rw [hw2] at hS7 hFr ⊢
                  obtain ⟨ru2, uv2, hf2, _⟩ := hS7.fis
                  have p13 : w2.cell? ⟨F, 13, none⟩ = some (.slice none 0 0) := hf2.c 13
                  have pz := hf2.fz 13
                  have HS7 := hid hS7
                  have HFr := hid hFr
                  clear hS7 hFr hf2 hw2
                  go_wp2_with fail
                  go_meet
                  case rel => exact ⟨by first | rfl | simp [*], _, cap, HS7.out.set13 _, HFr.out.set 13 _⟩
              case rest =>
                obtain ⟨rfl, fa, fc, hS7, hFr⟩ := hcut
                obtain ⟨ru7, uv7, hf7, hu7⟩ := hS7.fis
                have g13 : wc.cell? ⟨F, 13, none⟩ = some (.slice fa wd fc) := hf7.c 13
                have HS7 := hid hS7
                have HFr := hid hFr
                clear hS7 hf7 hFr f4 f13 z13 f14 z14 HS hG27
                go_upto_region 53 with fail
                go_cut [] from 332 to 383 (fun wx => S6 R F G (.slice pa6 j c6) (.slice roa P roc) ent wa w zs (.slice ka2 zs.length kc2) (.slice ra zs.length rcp) (.slice fa wd fc) nilV wx)
                case first =>
                  by_cases h0 : wd = 0
                  · subst h0
                    have hcl : ∀ ty, (Builtin.clear_ #[44] ty #[.slice fa 0 fc]).run Try.prog wc = .ok (.tuple #[]) wc := fun ty => clear_none fa fc ty wc
                    go_wp2_with fail
                    go_meet
                    case rel => exact HS7.out
                  · obtain ⟨X, cur, rfl, hX, hb, hsz⟩ := HFr.out (by omega)
                    have hcl : ∀ ty, (Builtin.clear_ #[44] ty #[.slice (some ⟨X, 0, none⟩) wd fc]).run Try.prog wc = .ok (.tuple #[]) (wc.setCells X 0 (List.replicate wd (.int .u64 0))) := fun ty => Lib.run_clear_slice wc _ _ ty _ Try.underlying44 zero64 rfl rfl X 0 _ _ (by omega) (fun k hk => by rw [cell_of_row _ _ _ _ _ _ hb]; simp; omega) (fun k _ => frozen_of_row wc X _ _ 64 hb)
                    have HB := hid hb
                    clear hb
                    go_wp2_with fail
                    go_meet
                    case rel => exact HS7.out.cells hX HB.out (by decide) _
                case rest =>
                  obtain ⟨ru8, uv8, hf8, hu8⟩ := hcut.fis
                  have lF8 := hf8.lt
                  have g14 : wc.cell? ⟨F, 14, none⟩ = some (.slice none 0 0) := hf8.c 14
                  have y14 := hf8.fz 14
                  have HS8 := hid hcut
                  have hG28 := hid (grow28 j wc (by omega))
                  clear hcut hf8 g13 HS7 HFr
                  go_upto_region 54 with fail
                  go_cut [] from 332 to 383 (fun wx => ∃ da dc, S6 R F G (.slice pa6 j c6) (.slice roa P roc) ent wa w zs (.slice ka2 zs.length kc2) (.slice ra zs.length rcp) (.slice fa wd fc) (.slice da j dc) wx ∧ Fresh F 21 j da wx)
                  case first =>
                    go_wp2_with fail
                    refine hG28.out.mono ?_
                    intro e w1 h28
                    rcases h28 with ⟨h0, rfl, rfl⟩ | ⟨hpos, cap, hcap, rfl, rfl⟩
                    · subst h0
                      go_wp2_with fail
                      go_meet
                      case rel => exact ⟨none, 0, HS8.out.set14 _, fun h => absurd h (Nat.lt_irrefl _)⟩
                    · have hS9 := HS8.out.alloc (.cells (#[] ++ Builtin.zeroCells #[.int .i32 0] j ++ Builtin.zeroCells #[.int .i32 0] (cap - j)) 21)
                      have hFr := fresh_grown (n := j) (cap := cap) (t := 21) (z := .int .i32 0) (w := wc) lF8
                      have c1 : (j : Int) ≤ (cap : Int) := by omega
                      obtain ⟨w2, hw2⟩ : ∃ w2, wc.drew.alloc (.cells (#[] ++ Builtin.zeroCells #[.int .i32 0] j ++ Builtin.zeroCells #[.int .i32 0] (cap - j)) 21) = w2 := ⟨_, rfl⟩
                      rw [hw2] at hS9 hFr ⊢
                      obtain ⟨ru2, uv2, hf2, _⟩ := hS9.fis
                      have p14 : w2.cell? ⟨F, 14, none⟩ = some (.slice none 0 0) := hf2.c 14
                      have pz := hf2.fz 14
                      have HS9 := hid hS9
                      have HFr := hid hFr
                      clear hS9 hFr hf2 hw2
                      go_wp2_with fail
                      go_meet
                      case rel => exact ⟨_, cap, HS9.out.set14 _, HFr.out.set 14 _⟩
                  case rest =>
                    obtain ⟨da, dc, hS10, hFr10⟩ := hcut
                    clear HS8 hG28 g14 y14
                    obtain ⟨ru10, uv10, hf10, _⟩ := hS10.fis
                    have g14 : wc.cell? ⟨F, 14, none⟩ = some (.slice da j dc) := hf10.c 14
                    have HS10 := hid hS10
                    have HFr10 := hid hFr10
                    clear hS10 hFr10 hf10
                    go_wp2_with fail
                    go_loopg [374] j (fun k i wr => ∃ l : Nat, l + k = j ∧ i = .int .i64 l ∧ S6 R F G (.slice pa6 j c6) (.slice roa P roc) ent wa w zs (.slice ka2 zs.length kc2) (.slice ra zs.length rcp) (.slice fa wd fc) (.slice da j dc) wr ∧ Fresh F 21 j da wr)
                    case atStart => exact ⟨0, by omega, rfl, HS10.out, HFr10.out⟩
                    case round =>
                      obtain ⟨l, hl, rfl, hS, hFr⟩ := hrel
                      clear HS10 HFr10 g14
                      by_cases hlt : l < j
                      · obtain ⟨ru11, uv11, hf11, _⟩ := hS.fis
                        have f14 : wr.cell? ⟨F, 14, none⟩ = some (.slice da j dc) := hf11.c 14
                        obtain ⟨X, cur, rfl, hX, hb, hsz⟩ := hFr (by omega)
                        obtain ⟨u0, y0⟩ : ∃ u, wr.cell? ⟨X, l, none⟩ = some u := ⟨cur[l]'(by omega), by rw [cell_of_row _ _ _ _ _ _ hb]; exact Array.getElem?_eq_getElem (by omega)⟩
                        have yz := frozen_of_row wr X l _ 21 hb
                        have HS := hid hS
                        have HB := hid hb
                        clear hS hFr hf11 hb
                        go_wp2_with fail
                        go_roundg (j - (l + 1))
                        case measure => omega
                        case rel => exact ⟨l + 1, by omega, by go_num, HS.out.setX hX HB.out (by decide) l _, Fresh.setX hX HB.out hsz rfl l _⟩
                      · have HS := hid hS
                        clear hS hFr
                        go_wp2_with fail
                        go_end0
                        have hz := HZS.out
                        subst hz
                        exact reseted HS.out ⟨_, _, _, rfl⟩ ⟨_, _, _, rfl⟩
end Go.Proofs.Qxb6605223a
