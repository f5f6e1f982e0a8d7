/-
  THE WALK OF THE LAW (5): 'FnStepsNumberPairsInOrderMet'.
-/
import Derived.Test.Qxb6603794aSmall
import Derived.Test.Qxb6603794aNum
namespace Go.Proofs.Qxb6603794a
open Go.RowKit Go.Maps

theorem Inv.alloc {S : Nat} {w : World} {ps : List (Int × Int)} (h : Inv S w ps) (o : Obj) : Inv S (w.alloc o) ps := by
  obtain ⟨nf, fv, mv, cnt, D, hst, hmp, r⟩ := h
  exact ⟨nf, fv, mv, cnt, D, hst.alloc o, hmp.alloc o, r⟩

theorem Inv.kept {S : Nat} {w w' : World} {ps : List (Int × Int)} (h : Inv S w ps) (hg : w.grownBy w' (some (S + 1))) : Inv S w' ps := by
  obtain ⟨nf, fv, mv, cnt, D, hst, hmp, r⟩ := h
  refine ⟨nf, fv, mv, cnt, D, ⟨?_, hst.row.kept hg ?_, Nat.le_trans hst.two hg.size⟩, ?_, r⟩
  · rw [hg.block S (lt_of_block hst.blk) (by simp)]
    exact hst.blk
  · refine .inr (fun e => ?_)
    have := (hst.row.lt _ e).1
    omega
  · rcases hmp with h | ⟨bm, hv, hb, hm⟩
    · exact .inl h
    · exact .inr ⟨bm, hv, hb, hm.kept hg (by simp; omega)⟩

theorem Inv.c2 {S : Nat} {w : World} {ps : List (Int × Int)} (h : Inv S w ps) : w.cell? ⟨S, 2, none⟩ = some (.int .i32 (ps.length : Int)) := by
  obtain ⟨nf, fv, mv, cnt, D, hst, r⟩ := h
  exact hst.c2

theorem Inv.two {S : Nat} {w : World} {ps : List (Int × Int)} (h : Inv S w ps) : S + 2 ≤ w.heap.size := by
  obtain ⟨nf, fv, mv, cnt, D, hst, r⟩ := h
  exact hst.two

/-- A fresh steps, with the law's own map behind it. -/
theorem Inv.fresh (w : World) (o : Obj) : Inv w.heap.size ((w.alloc (.cells #[.slice none 0 0, .map none, .int .i32 0] 51)).alloc o) [] := by
  have hb : (w.alloc (.cells #[.slice none 0 0, .map none, .int .i32 0] 51)).heap[w.heap.size]? = some (.cells #[.slice none 0 0, .map none, .int .i32 0] 51 (0, 0)) := Go.heap_alloc_new w _
  refine ⟨0, .slice none 0 0, .map none, 0, .map [], ⟨?_, World.ownsRow_nil _ _ _ _, by simp⟩, .inl ⟨rfl, rfl⟩, MapIs.empty (fun x => by simp [fM]), Nat.le_refl _, by omega, fun p hp => by simp at hp⟩
  rw [Below.heap_alloc _ o _ (lt_of_block hb)]
  exact hb

theorem Fr.below {S N : Nat} {w w1 w2 : World} (hb : Below N w w1) (h : Fr S w1 w2) (hN : N ≤ S) (hs : S ≤ w1.heap.size) : Below N w w2 :=
  hb.trans ⟨h.os, h.tape, h.output, h.size, fun k hk => h.low k (by omega) (by omega) (by omega)⟩

theorem Fr.owns {S cnt : Nat} {D : DataW Unit} {w w' : World} (h : Fr S w w') (hm : w.ownsMap Try.prog 35 (plainElem Try.prog 21) (S + 1) cnt D) : w'.ownsMap Try.prog 35 (plainElem Try.prog 21) (S + 1) cnt D := by
  have hl := hm.lt
  obtain ⟨es, cl, he, r⟩ := hm
  exact ⟨es, cl, by rw [h.low _ hl (Nat.le_refl _) (by omega)]; exact he, r⟩

/-- 'v, ok := m[k]' WHERE WHAT IT GIVES IS KNOWN. -/
theorem wpList_lookup_known {H : Type} {P : Program} (w : World) {ops : Array Oper} {rest : List Oper} {o : Oper} {a : Act} {Q : Exit → Act → World → Prop} (hg : o.guard = none) (m x : Operand) (t : TypeId) (hop : o.op = Op.lookup t m x true)
    (k e : TypeId) (q : IntKind) (K : Keyed P k) (ht : P.underlying t = some (.map k e)) (he : P.underlying e = some (.int q)) (hz : (zeroValue e).run P w = .ok (.int q 0) w) (b n : Nat) (D : DataW H)
    (hm : a.eval m = .map (some b)) (hown : w.ownsMap P k (plainElem P e) b n D) (key : Value) (kl : Lit) (hx : a.eval x = key) (hkey : keyOf P k key = some kl)
    (c : Int) (t' : Bool) (hc : D.atKey kl (.lit (.int q 0)) = .lit (.int q c)) (hh : Maps.has D kl = t')
    (hK : wpList P ops Q rest (a.put o.dst (.tuple #[.int q c, .bool t'])) w) :
    wpList P ops Q (o :: rest) a w :=
  wpList_lookup_own_ok_int w hg m x t hop k e q K ht he hz b n D hm hown key kl hx hkey (fun c' hc' _ => by
    rw [hc] at hc'
    simp at hc'
    subst hc'
    rw [hh]
    exact hK)

theorem of_old (S : Nat) (ps : List (Int × Int)) (a : Int) (v : Nat) (w : World) (h : Inv S w ps) (hok : Ok ps) (hl : ps.length < 65536) (wa : wf32 a) (ha : a ≠ -1) (hv : v ≤ 65536) (hp : (a, (v : Int)) ∈ ps) :
    Calls Try.prog 18 #[.pointer (some ⟨S, 0, none⟩), .int .i32 a, .int .i32 v] w fun e w' => e = .returned (.int .i32 (ps.idxOf (a, (v : Int)) : Int)) ∧ Inv S w' ps ∧ Fr S w w' := by
  have hm : met ps (a, (v : Int)) = ps := by simp [met, hp]
  refine stepsOf a v S w _ ((of_inv S ps a v w h hok hl wa ha hv).mono ?_)
  rintro e w' ⟨rfl, h2, h3⟩
  rw [hm] at h2 ⊢
  exact ⟨⟨_, rfl⟩, rfl, h2, h3⟩

theorem of_fresh (S : Nat) (ps : List (Int × Int)) (a : Int) (v : Nat) (w : World) (h : Inv S w ps) (hok : Ok ps) (hl : ps.length < 65536) (wa : wf32 a) (ha : a ≠ -1) (hv : v ≤ 65536) (hp : (a, (v : Int)) ∉ ps) :
    Calls Try.prog 18 #[.pointer (some ⟨S, 0, none⟩), .int .i32 a, .int .i32 v] w fun e w' => e = .returned (.int .i32 (ps.length : Int)) ∧ Inv S w' (ps ++ [(a, (v : Int))]) ∧ Fr S w w' := by
  have hm : met ps (a, (v : Int)) = ps ++ [(a, (v : Int))] := by simp [met, hp]
  refine stepsOf a v S w _ ((of_inv S ps a v w h hok hl wa ha hv).mono ?_)
  rintro e w' ⟨rfl, h2, h3⟩
  rw [hm] at h2 ⊢
  rw [idx_new hp]
  exact ⟨⟨_, rfl⟩, rfl, h2, h3⟩

/-- THE LOOP's RELATION. -/
structure Rel (S N len : Nat) (A V : Nat → Int) (w wr : World) (k : Nat) (ps : List (Int × Int)) : Prop where
  le : ps.length ≤ k
  ok : Ok ps
  inv : Inv S wr ps
  seen : ∃ D cnt, wr.ownsMap Try.prog 35 (plainElem Try.prog 21) (S + 1) cnt D ∧ MapIs D (fS ps) ∧ cnt ≤ k
  row : 0 < len → wr.heap[N]? = some (.cells (prs len A V).toArray 35 (0, 0))
  below : Below w.heap.size w wr

end Go.Proofs.Qxb6603794a
