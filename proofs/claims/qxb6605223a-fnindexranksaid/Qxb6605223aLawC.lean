/-
  What the law (5) has after its clones.
-/
import Derived.Test.Qxb6605223aLawA
import Derived.Deep.Slices
namespace Go.Proofs.Qxb6605223a
open Go.RowKit

theorem cloned_sg {t : TypeId} {n : Nat} {V : Nat → Value} {w w' w2 : World} {q : Option Addr} {R B : Nat} (hq : 0 < n → q = some ⟨w.heap.size, 0, none⟩ ∧ Row t w.heap.size n V w') (hb : Below w'.heap.size w' w2) (hR : w'.heap.size ≤ R ∨ R < w.heap.size) (hB : w'.heap.size ≤ B) : Sg R B q n V w2 := by
  intro hn
  obtain ⟨rfl, hr⟩ := hq hn
  have hl := hr.lt
  exact (hr.block (hb.block _ hl)).sg (by omega) (by omega) hn

theorem cloned2_sg {P : Nat} {RL : Nat → Nat} {BP : Nat → Nat → Int} {w w' w2 : World} {q : Option Addr} {R B : Nat} (hq : 0 < P → q = some ⟨w.heap.size, 0, none⟩ ∧ PartS w.heap.size P P RL BP w') (hb : Below w'.heap.size w' w2) (hR : w'.heap.size ≤ R) (hB : w'.heap.size ≤ B) :
    ∃ (RA : Nat → Option Addr) (RC : Nat → Nat), Sg R B q P (fun q => .slice (RA q) (RL q) (RC q)) w2 ∧ ∀ q, q < P → Sg R B (RA q) (RL q) (fun i => .int .i64 (BP q i)) w2 := by
  by_cases hp : 0 < P
  · obtain ⟨rfl, hP⟩ := hq hp
    have hl := hP.lt
    obtain ⟨cur, hg, hs, hc⟩ := hP
    have hc2 : ∀ q, q < P → ∃ x : Option Addr × Nat, cur[q]? = some (.slice x.1 (RL q) x.2) ∧ Sg w.heap.size w'.heap.size x.1 (RL q) (fun i => .int .i64 (BP q i)) w' := fun q hq => by
      obtain ⟨pa, c, h1, h2⟩ := hc q hq
      exact ⟨(pa, c), h1, h2⟩
    obtain ⟨f, hf⟩ := Deep.choose_lt hc2
    refine ⟨fun q => (f q).1, fun q => (f q).2, ?_, fun q hq => ((hf q hq).2.below hb).other hR hB⟩
    intro _
    refine ⟨w.heap.size, 0, rfl, by omega, by omega, fun i hi => ?_⟩
    rw [World.cell?_of_block (w := w') (w' := w2) (hb.block _ hl), cell_of_row _ _ _ _ _ _ hg, Nat.zero_add]
    exact (hf i hi).1
  · exact ⟨fun _ => none, fun _ => 0, fun h => absurd h hp, fun q hq => absurd (Nat.lt_of_le_of_lt (Nat.zero_le _) hq) hp⟩

theorem sg_none {R B : Nat} {pa : Option Addr} {n : Nat} {V : Nat → Value} {w : World} (h : n = 0) : Sg R B pa n V w := fun h1 => by omega

/-- What lies ahead of reset. -/
structure Ins (R B n P m : Nat) (q0 q1 q2 q3 q4 q6 : Option Addr) (RA : Nat → Option Addr) (RL RC : Nat → Nat) (PR PS FR RD : Nat → Int) (BP : Nat → Nat → Int) (w : World) : Prop where
  h0 : Sg R B q0 n (fun i => .int .i64 (PR i)) w
  h1 : Sg R B q1 n (fun i => .int .i32 (PS i)) w
  h2 : Sg R B q2 P (fun q => .slice (RA q) (RL q) (RC q)) w
  hr : ∀ q, q < P → Sg R B (RA q) (RL q) (fun i => .int .i64 (BP q i)) w
  h3 : Sg R B q3 n (fun i => .int .i64 (FR i)) w
  h6 : Sg R B q6 m (fun i => .int .i64 (RD i)) w
  ro : 0 < P → q4 = some ⟨R, 0, none⟩ ∧ R < B ∧ ∃ cur, w.heap[R]? = some (.cells cur 21 (0, 0)) ∧ cur.size = P

theorem Ops.none {n m : Nat} {PR PS FR RD : Nat → Int} {RL : Nat → Nat} {BP : Nat → Nat → Int} (h : Ops n 0 m PR PS FR RD RL BP) : n = 0 ∧ m = 0 := by
  have hn : n = 0 := by
    rcases Nat.eq_zero_or_pos n with e | e
    · exact e
    · have h0 := h.wf 0 e
      have h1 := h0.pr0
      have h2 := h0.pr
      omega
  refine ⟨hn, ?_⟩
  rcases Nat.eq_zero_or_pos m with e | e
  · exact e
  · have h0 := h.rd 0 e
    omega

theorem ins_of {n P m : Nat} {q0 q1 q2 q3 q4 q6 : Option Addr} {RL : Nat → Nat} {PR PS FR RD RO : Nat → Int} {BP : Nat → Nat → Int} {w w1 w2 w3 w4 w5 w6 w7 w8 w9 : World} {G F : Nat} (hO : Ops n P m PR PS FR RD RL BP)
    (k0 : 0 < n → q0 = some ⟨w.heap.size, 0, none⟩ ∧ Row 3 w.heap.size n (fun i => .int .i64 (PR i)) w1) (b1 : Below w.heap.size w w1)
    (k1 : 0 < n → q1 = some ⟨w1.heap.size, 0, none⟩ ∧ Row 21 w1.heap.size n (fun i => .int .i32 (PS i)) w2) (b2 : Below w1.heap.size w1 w2)
    (k2 : 0 < P → q2 = some ⟨w2.heap.size, 0, none⟩ ∧ PartS w2.heap.size P P RL BP w3) (b3 : Below w2.heap.size w2 w3)
    (k3 : 0 < n → q3 = some ⟨w3.heap.size, 0, none⟩ ∧ Row 3 w3.heap.size n (fun i => .int .i64 (FR i)) w4) (b4 : Below w3.heap.size w3 w4)
    (k4 : 0 < P → q4 = some ⟨w4.heap.size, 0, none⟩ ∧ Row 21 w4.heap.size P (fun i => .int .i32 (RO i)) w5) (b5 : Below w4.heap.size w4 w5) (b6 : Below w5.heap.size w5 w6)
    (k6 : 0 < m → q6 = some ⟨w6.heap.size, 0, none⟩ ∧ Row 3 w6.heap.size m (fun i => .int .i64 (RD i)) w7) (b7 : Below w6.heap.size w6 w7) (b8 : Below w7.heap.size w7 w8) (h78 : w7.heap.size < w8.heap.size) (b9 : Below w8.heap.size w8 w9) (hG : w8.heap.size ≤ G) (hGF : G < F) :
    ∃ (R : Nat) (RA : Nat → Option Addr) (RC : Nat → Nat), Ins R w8.heap.size n P m q0 q1 q2 q3 q4 q6 RA RL RC PR PS FR RD BP w9 ∧ R ≠ G ∧ R ≠ F ∧ R ≠ w7.heap.size ∧ w.heap.size ≤ R ∧ (R < w8.heap.size ∨ F < R) := by
  have s1 := b1.size
  have s2 := b2.size
  have s3 := b3.size
  have s4 := b4.size
  have s5 := b5.size
  have s6 := b6.size
  have s7 := b7.size
  have c8 : Below w7.heap.size w7 w9 := below_two b8 b9
  have c7 : Below w6.heap.size w6 w9 := below_two b7 c8
  have c6 : Below w5.heap.size w5 w9 := below_two b6 c7
  have c5 : Below w4.heap.size w4 w9 := below_two b5 c6
  have c4 : Below w3.heap.size w3 w9 := below_two b4 c5
  have c3 : Below w2.heap.size w2 w9 := below_two b3 c4
  have c2 : Below w1.heap.size w1 w9 := below_two b2 c3
  by_cases hp : 0 < P
  · obtain ⟨rfl, hr4⟩ := k4 hp
    have l4 := hr4.lt
    obtain ⟨RA, RC, e2, er⟩ := cloned2_sg (R := w4.heap.size) (B := w8.heap.size) k2 c4 (by omega) (by omega)
    refine ⟨w4.heap.size, RA, RC, ⟨cloned_sg k0 c2 (.inl (by omega)) (by omega), cloned_sg k1 c3 (.inl (by omega)) (by omega), e2, er, cloned_sg k3 c5 (.inl (by omega)) (by omega), cloned_sg k6 c8 (.inr (by omega)) (by omega), ?_⟩, by omega, by omega, by omega, by omega, by omega⟩
    intro _
    obtain ⟨cur, hc, hs, _⟩ := hr4
    exact ⟨rfl, by omega, cur, (c6.block _ l4).trans hc, hs⟩
  · obtain rfl : P = 0 := by omega
    obtain ⟨rfl, rfl⟩ := hO.none
    exact ⟨F + 1, fun _ => none, fun _ => 0, ⟨sg_none rfl, sg_none rfl, sg_none rfl, fun q hq => absurd hq (Nat.not_lt_zero _), sg_none rfl, sg_none rfl, fun h => absurd h (Nat.lt_irrefl _)⟩, by omega, by omega, by omega, by omega, by omega⟩

theorem Ins.kept {R B n P m : Nat} {q0 q1 q2 q3 q4 q6 : Option Addr} {RA : Nat → Option Addr} {RL RC : Nat → Nat} {PR PS FR RD : Nat → Int} {BP : Nat → Nat → Int} {w w' : World} (h : Ins R B n P m q0 q1 q2 q3 q4 q6 RA RL RC PR PS FR RD BP w) (hk : Kp R B w w') {F : Nat} (hF : B ≤ F) :
    Sg F B q0 n (fun i => .int .i64 (PR i)) w' ∧ Sg F B q1 n (fun i => .int .i32 (PS i)) w' ∧ Sg F B q2 P (fun q => .slice (RA q) (RL q) (RC q)) w' ∧ ∀ q, q < P → Sg F B (RA q) (RL q) (fun i => .int .i64 (BP q i)) w' :=
  ⟨(h.h0.kept hk).other hF (Nat.le_refl _), (h.h1.kept hk).other hF (Nat.le_refl _), (h.h2.kept hk).other hF (Nat.le_refl _), fun q hq => ((h.hr q hq).kept hk).other hF (Nat.le_refl _)⟩

theorem zsOf_length (PR PS FR RD : Nat → Int) (m : Nat) : (zsOf PR PS FR RD m).length ≤ m := by
  have h1 : (zsOf PR PS FR RD m).length ≤ (sorted (ksOf PR PS FR RD m)).length := by
    unfold zsOf Lib.compact Lib.compactUpTo
    rw [List.length_map]
    refine Nat.le_trans (List.length_filter_le _ _) ?_
    simp
  have h2 : (sorted (ksOf PR PS FR RD m)).length = (ksOf PR PS FR RD m).length := by simp [sorted]
  have h3 := ksOf_length PR PS FR RD m
  omega

theorem Part.cell {t : TypeId} {g n k : Nat} {V : Nat → Value} {w : World} (h : Part t g n k V w) (i : Nat) (hi : i < k) : w.cell? ⟨g, i, none⟩ = some (V i) := by
  obtain ⟨cur, hg, _, hc⟩ := h
  rw [cell_of_row _ _ _ _ _ _ hg]
  exact hc i hi

theorem PartC.cell {g L : Nat} {A B : Nat → Int} {w : World} (h : PartC g L L (rcs A B L) w) (j c : Nat) (hj : j < L) (hc : c < 10) : w.cell? ⟨g, j * 10 + c, none⟩ = (rc (A j) (B j))[c]? := by
  obtain ⟨cur, hg, _, hx⟩ := h
  rw [cell_of_row _ _ _ _ _ _ hg, hx _ (by omega)]
  exact rcs_get A B j c hc L hj

/-- The first world of the loops. -/
theorem J.start {F G n g : Nat} {V : Nat → Int} {rd rv kv ru ro ent wa fs due uv : Value} {w0 w : World} {base : Nat} {xs : List Value} (hF : FIs F G rd rv kv nilV false ru ro ent wa fs due uv w0) (hg : g = w0.heap.size) (hgr : w0.grownBy w none) (hown : w.ownsRow base 21 1 (.slice (some ⟨g, 0, none⟩) n n) n xs) : J F G n g V rd rv kv ru ro ent wa fs due uv w0 0 w := by
  refine ⟨.inl ⟨rfl, hF.block (hgr.block F hF.lt (by simp))⟩, Part.made hown, (Kp.refl F g w0).grown hgr (by omega) (fun k h => by cases h)⟩
end Go.Proofs.Qxb6605223a
