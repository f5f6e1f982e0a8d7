/-
  index (24): the first call lays the row, later ones read it.
-/
import Derived.Test.Qxb6605223aNew
import Derived.Test.Qxb6605223aBase3
import Derived.Deep.RegionHeld3
import Derived.Lib.SliceRun
import Derived.Deep.DrawnRows
namespace Go.Proofs.Qxb6605223a
open Go.RowKit
attribute [local go_sem ↓] Go.wp_at_zero Go.wp_at_succ

/-- The cells of a returned write. -/
def rc (a b : Int) : List Value := [.int .i32 a, .int .i32 b, .bool false, .bool false, .int .i32 0, .int .i32 0, .int .i32 0, .int .i32 0, .int .i32 0, .int .i32 (-1)]
def rcs (A B : Nat → Int) : Nat → List Value
  | 0 => []
  | k + 1 => rcs A B k ++ rc (A k) (B k)

theorem rcs_length (A B : Nat → Int) : ∀ k, (rcs A B k).length = k * 10
  | 0 => rfl
  | k + 1 => by simp [rcs, rcs_length A B k, rc]; omega
theorem rcs_get (A B : Nat → Int) (j c : Nat) (hc : c < 10) : ∀ k, j < k → (rcs A B k)[j * 10 + c]? = (rc (A j) (B j))[c]?
  | 0, h => absurd h (Nat.not_lt_zero _)
  | k + 1, h => by
    rw [rcs]
    rcases Nat.lt_succ_iff_lt_or_eq.1 h with h | rfl
    · rw [List.getElem?_append_left (by rw [rcs_length]; omega), rcs_get A B j c hc k h]
    · rw [List.getElem?_append_right (by rw [rcs_length]; omega), rcs_length]
      congr 1
      omega

/-- The returned writes as they lie. -/
structure Ret (F : Nat) (ret : Value) (L : Nat) (A B : Nat → Int) (w : World) : Prop where
  own : w.ownsRow (F + 1) 73 10 ret L (rcs A B L)

theorem Ret.shape {F : Nat} {ret : Value} {L : Nat} {A B : Nat → Int} {w : World} (h : Ret F ret L A B w) : ∃ a c, ret = .slice a L c ∧ (0 < L → ∃ g, F < g ∧ g < w.heap.size ∧ a = some ⟨g, 0, none⟩ ∧ ∀ j c, j < L → c < 10 → w.cell? ⟨g, j * 10 + c, none⟩ = (rc (A j) (B j))[c]?) := by
  have h0 := h.own
  rcases h0.2 with ⟨e, e0⟩ | ⟨g, cap, cur, e, hb, hg, _⟩
  · exact ⟨none, 0, by rw [e, e0], fun h => by omega⟩
  · subst e
    exact ⟨_, cap, rfl, fun _ => ⟨g, by omega, lt_of_block hg, rfl, fun j c hj hc => by rw [h0.cellAt (j * 10 + c) (by omega)]; exact rcs_get A B j c hc L hj⟩⟩

theorem Ret.kept {F : Nat} {ret : Value} {L : Nat} {A B : Nat → Int} {w w' : World} (h : Ret F ret L A B w) (hb : ∀ k, k < w.heap.size → k ≠ F → w'.heap[k]? = w.heap[k]?) : Ret F ret L A B w' := by
  have h0 := h.own
  refine ⟨h0.1, ?_⟩
  rcases h0.2 with h1 | ⟨g, cap, cur, e, hg, hh, h3⟩
  · exact .inl h1
  · exact .inr ⟨g, cap, cur, e, hg, (hb g (lt_of_block hh) (by omega)).trans hh, h3⟩

/-- Where each returned write stands. -/
structure At2 (n P L : Nat) (A B : Nat → Int) (RL : Nat → Nat) (BP : Nat → Nat → Int) (T : Nat → Nat) : Prop where
  a0 : ∀ j, j < L → 0 ≤ A j
  a1 : ∀ j, j < L → A j < P
  b0 : ∀ j, j < L → 1 ≤ B j
  b1 : ∀ j, j < L → B j ≤ RL (A j).toNat
  t : ∀ j, j < L → BP (A j).toNat ((B j).toNat - 1) = T j
  tn : ∀ j, j < L → T j < n

/-- The index laid by the first j writes. -/
def ixOf (T : Nat → Nat) : Nat → Nat → Int
  | 0, _ => -1
  | j + 1, i => if i = T j then (j : Int) else ixOf T j i

theorem grown_cell {w w1 : World} (hg : w.grownBy w1 none) {a : Addr} {v : Value} (h : w.cell? a = some v) : w1.cell? a = some v := hg.cell h (by simp)
theorem grown_fz {w w1 : World} (hg : w.grownBy w1 none) {a : Addr} (hl : a.block < w.heap.size) (h : w.frozen? a = false) : w1.frozen? a = false := by
  rw [World.frozen?_of_block (w := w) (w' := w1) (a := a) (hg.block a.block hl (by simp))]
  exact h

theorem Kp.weak {R B0 F X : Nat} {w w' : World} (h : Kp F X w w') (h1 : B0 ≤ F) (h2 : B0 ≤ X) : Kp R B0 w w' := ⟨h.os, h.tape, h.output, h.size, fun k hk _ => h.block k (by omega) (by omega)⟩
theorem Part.other {t : TypeId} {g n k : Nat} {V : Nat → Value} {w : World} (h : Part t g n k V w) {p : Addr} (hp : p.block ≠ g) (u : Value) : Part t g n k V (w.setCell p u) := by
  obtain ⟨cur, hg, hs⟩ := h
  exact ⟨cur, (heap_setCell_other w p g u (fun e => hp e.symm)).trans hg, hs⟩
theorem Row.other {t : TypeId} {g n : Nat} {V : Nat → Value} {w : World} (h : Row t g n V w) {p : Addr} (hp : p.block ≠ g) (u : Value) : Row t g n V (w.setCell p u) := h.block (heap_setCell_other w p g u (fun e => hp e.symm))
theorem Row.alloc {t : TypeId} {g n : Nat} {V : Nat → Value} {w : World} (h : Row t g n V w) (o : Obj) : Row t g n V (w.alloc o) := h.block (Below.heap_alloc w o g h.lt)

set_option maxHeartbeats 4000000 in
set_option maxRecDepth 100000 in
theorem index_first (R B0 F G n P c2 L : Nat) (pa2 : Option Addr) (RA : Nat → Option Addr) (RL RC : Nat → Nat) (BP : Nat → Nat → Int) (A B : Nat → Int) (T : Nat → Nat) (ops pr ps fr : Value) (rd ret keys runs ro ent wa fs due used : Value) (w : World) (i : Nat)
    (hn : n ≤ 4096) (hP : P ≤ 4096) (hL : L ≤ 4096) (hi : i < n) (hRL : ∀ q, q < P → RL q ≤ 1048576) (hB0 : B0 ≤ G) (hGF : G < F)
    (hF : FIs F G rd ret keys nilV false runs ro ent wa fs due used w) (hG : GIs G n ops pr ps (.slice pa2 P c2) fr w) (hRet : Ret F ret L A B w) (hA : At2 n P L A B RL BP T)
    (h2 : Sg R B0 pa2 P (fun q => .slice (RA q) (RL q) (RC q)) w) (hr : ∀ q, q < P → Sg R B0 (RA q) (RL q) (fun i => .int .i64 (BP q i)) w) :
    Calls Try.prog 24 #[.pointer (some ⟨F, 0, none⟩), .int .i64 i] w fun e w' => e = .returned (.int .i32 (ixOf T L i)) ∧ FIs F G rd ret keys (.slice (some ⟨w.heap.size, 0, none⟩) n n) true runs ro ent wa fs due used w' ∧
      Row 21 w.heap.size n (fun i => .int .i32 (ixOf T L i)) w' ∧ Kp F w.heap.size w w' := by
  obtain ⟨i0, hi0, hz0, hz1, hz2⟩ := info_parts info21
  have q23 : ∀ (w : World) (a : Option Addr) (n c n' c' : Nat), (binOp .eql 23 (.slice a n c) (.slice none n' c')).run Try.prog w = .ok (.bool a.isNone) w := fun w a n c n' c' => Lib.run_eql_slice_nil w _ _ a n c n' c' Try.underlying23
  obtain ⟨ao, rfl⟩ := hG.2
  obtain ⟨ra, rcp, rfl, hsh⟩ := hRet.shape
  have HRet := hid hRet
  have HSH := hid hsh
  have HF := hid hF
  have HG := hid hG
  have HA := hid hA
  have H2 := hid h2
  have HR := hid hr
  have HL := hid hRL
  have f0 : w.cell? ⟨F, 0, none⟩ = some (.pointer (some ⟨G, 0, none⟩)) := hF.c 0
  have f6 : w.cell? ⟨F, 6, none⟩ = some (.slice none 0 0) := hF.c 6
  have f7 : w.cell? ⟨F, 7, none⟩ = some (.bool false) := hF.c 7
  have z6 := hF.fz 6
  have g0 : w.cell? ⟨G, 0, none⟩ = some (.slice ao n n) := hG.c 0
  have lF := hF.lt
  have lG := hG.lt
  have hFG : F ≠ G := by omega
  have hGF' : G ≠ F := by omega
  clear hF hG hRet hsh hA h2 hr hRL
  go_enter Try.func24, Try.ntmps24
  go_wp2_with (first
    | (at_make; refine wpList_make_full _ rfl _ _ 23 rfl 0 21 i0 (.int .i32 0) 1 Try.underlying23 hi0 hz0 hz1 .i64 .i64 _ _ n rfl rfl rfl rfl (by rw [hz2]; omega) (by unfold maxLen; omega) (Nat.zero_le _) ?_; intro w1 hown1 hgrow1; have f6' := grown_cell hgrow1 f6; have z6' := grown_fz hgrow1 lF z6))
  have hF1 : FIs F G rd (.slice ra L rcp) keys (.slice (some ⟨w.heap.size, 0, none⟩) n n) false runs ro ent wa fs due used (w1.setCell ⟨F, 6, none⟩ (.slice (some ⟨w.heap.size, 0, none⟩) n n)) := (HF.out.block (hgrow1.block F lF (by simp))).set6 _
  have hP1 : Part 21 w.heap.size n 0 (fun _ => .int .i32 (-1)) (w1.setCell ⟨F, 6, none⟩ (.slice (some ⟨w.heap.size, 0, none⟩) n n)) := (Part.made hown1).other (by simp; omega) _
  have hK1 : Kp F w.heap.size w (w1.setCell ⟨F, 6, none⟩ (.slice (some ⟨w.heap.size, 0, none⟩) n n)) := ((Kp.refl _ _ _).grown hgrow1 (Nat.le_refl _) (fun k e => by cases e)).setCell (p := ⟨F, 6, none⟩) (.inr rfl) _
  clear f0 f6 f7 z6 g0 f6' z6' hown1 hgrow1
  go_loopg [37] n (fun k i wr => ∃ j : Nat, j + k = n ∧ i = .int .i64 j ∧ FIs F G rd (.slice ra L rcp) keys (.slice (some ⟨w.heap.size, 0, none⟩) n n) false runs ro ent wa fs due used wr ∧ Part 21 w.heap.size n j (fun _ => .int .i32 (-1)) wr ∧ Kp F w.heap.size w wr)
  case atStart => exact ⟨0, by omega, rfl, hF1, hP1, hK1⟩
  case round =>
    obtain ⟨j, hj, rfl, hFj, hPj, hKj⟩ := hrel
    clear hF1 hP1 hK1
    by_cases hlt : j < n
    · have f6 : wr.cell? ⟨F, 6, none⟩ = some (.slice (some ⟨w.heap.size, 0, none⟩) n n) := hFj.c 6
      obtain ⟨u, hu⟩ := hPj.old j hlt
      have hfz := hPj.fz j
      go_wp2
      go_roundg (n - (j + 1))
      case measure => omega
      case rel => exact ⟨j + 1, by omega, by go_num, hFj.other (by simp; omega) _, hPj.set hlt, hKj.setCell (p := ⟨w.heap.size, j, none⟩) (.inl (Nat.le_refl _)) _⟩
    · have f4 : wr.cell? ⟨F, 4, none⟩ = some (.slice ra L rcp) := hFj.c 4
      obtain rfl : j = n := by omega
      go_wp2
      have hR0 : Row 21 w.heap.size j (fun i => .int .i32 (ixOf T 0 i)) wr := hPj
      clear hPj f4
      go_loopg [52] L (fun k i w2 => ∃ l : Nat, l + k = L ∧ i = .int .i64 l ∧ FIs F G rd (.slice ra L rcp) keys (.slice (some ⟨w.heap.size, 0, none⟩) j j) false runs ro ent wa fs due used w2 ∧ Row 21 w.heap.size j (fun i => .int .i32 (ixOf T l i)) w2 ∧ Kp F w.heap.size w w2)
      case atStart => exact ⟨0, by omega, rfl, hFj, hR0, hKj⟩
      case round =>
        obtain ⟨l, hl, rfl, hF2, hR2, hK2⟩ := hrel
        clear hFj hR0 hKj
        by_cases hlL : l < L
        · obtain ⟨_, _, e0, hsh2⟩ := (HRet.out.kept (fun k h1 h2 => hK2.block k h1 h2)).shape
          cases e0
          obtain ⟨g, hFg, hgw, rfl, hcs⟩ := hsh2 (by omega)
          have k0 : wr.cell? ⟨g, l * 10, none⟩ = some (.int .i32 (A l)) := hcs l 0 hlL (by omega)
          have k1 : wr.cell? ⟨g, l * 10 + 1, none⟩ = some (.int .i32 (B l)) := hcs l 1 hlL (by omega)
          have k2 : wr.cell? ⟨g, l * 10 + 2, none⟩ = some (.bool false) := hcs l 2 hlL (by omega)
          have k3 : wr.cell? ⟨g, l * 10 + 3, none⟩ = some (.bool false) := hcs l 3 hlL (by omega)
          have k4 : wr.cell? ⟨g, l * 10 + 4, none⟩ = some (.int .i32 0) := hcs l 4 hlL (by omega)
          have k5 : wr.cell? ⟨g, l * 10 + 5, none⟩ = some (.int .i32 0) := hcs l 5 hlL (by omega)
          have k6 : wr.cell? ⟨g, l * 10 + 6, none⟩ = some (.int .i32 0) := hcs l 6 hlL (by omega)
          have k7 : wr.cell? ⟨g, l * 10 + 7, none⟩ = some (.int .i32 0) := hcs l 7 hlL (by omega)
          have k8 : wr.cell? ⟨g, l * 10 + 8, none⟩ = some (.int .i32 0) := hcs l 8 hlL (by omega)
          have k9 : wr.cell? ⟨g, l * 10 + 9, none⟩ = some (.int .i32 (-1)) := hcs l 9 hlL (by omega)
          have ha0 := HA.out.a0 l hlL
          have ha1 := HA.out.a1 l hlL
          have hb0 := HA.out.b0 l hlL
          have hb1 := HA.out.b1 l hlL
          have ht := HA.out.t l hlL
          have htn := HA.out.tn l hlL
          obtain ⟨q, hq⟩ : ∃ q : Nat, A l = q := ⟨(A l).toNat, by omega⟩
          obtain ⟨p, hp⟩ : ∃ p : Nat, B l = (p : Int) + 1 := ⟨(B l - 1).toNat, by omega⟩
          have hqP : q < P := by omega
          have eq1 : (A l).toNat = q := by omega
          have ep1 : (B l).toNat - 1 = p := by omega
          rw [eq1, ep1] at ht
          rw [eq1] at hb1
          have hpR : p < RL q := by omega
          have hrl := HL.out q hqP
          obtain ⟨b2, o2, rfl, _, hb2, hc2⟩ := (H2.out.kept (hK2.weak (by omega) (by omega))) (by omega)
          obtain ⟨br, or, er, _, hbr, hcr⟩ := ((HR.out q hqP).kept (hK2.weak (by omega) (by omega))) (by omega)
          have kb : wr.cell? ⟨b2, o2 + q, none⟩ = some (.slice (RA q) (RL q) (RC q)) := hc2 q hqP
          have kr : wr.cell? ⟨br, or + p, none⟩ = some (.int .i64 (BP q p)) := hcr p hpR
          rw [er] at kb
          rw [ht] at kr
          rw [hq] at k0
          rw [hp] at k1
          have f6 : wr.cell? ⟨F, 6, none⟩ = some (.slice (some ⟨w.heap.size, 0, none⟩) j j) := hF2.c 6
          have g3 : wr.cell? ⟨G, 3, none⟩ = some (.slice (some ⟨b2, o2, none⟩) P c2) := (HG.out.block (hK2.block G lG hGF')).c 3
          have rx := hR2.cell (T l) htn
          have rz := hR2.fz (T l)
          have lX : w.heap.size < wr.heap.size := hR2.lt
          have lb2 : b2 < wr.heap.size := by omega
          have lbr : br < wr.heap.size := by omega
          clear hcs hc2 hcr hsh2 HSH
          go_wp2_with fail
          obtain ⟨w3, hw3⟩ : ∃ w3, wr.alloc (.cells #[.int .i32 q, .int .i32 ((p : Int) + 1), .bool false, .bool false, .int .i32 0, .int .i32 0, .int .i32 0, .int .i32 0, .int .i32 0, .int .i32 (-1)] 73) = w3 := ⟨_, rfl⟩
          have m6 := Lib.cell?_alloc_some (.cells #[.int .i32 q, .int .i32 ((p : Int) + 1), .bool false, .bool false, .int .i32 0, .int .i32 0, .int .i32 0, .int .i32 0, .int .i32 0, .int .i32 (-1)] 73) f6
          have m3 := Lib.cell?_alloc_some (.cells #[.int .i32 q, .int .i32 ((p : Int) + 1), .bool false, .bool false, .int .i32 0, .int .i32 0, .int .i32 0, .int .i32 0, .int .i32 0, .int .i32 (-1)] 73) g3
          have mb := Lib.cell?_alloc_some (.cells #[.int .i32 q, .int .i32 ((p : Int) + 1), .bool false, .bool false, .int .i32 0, .int .i32 0, .int .i32 0, .int .i32 0, .int .i32 0, .int .i32 (-1)] 73) kb
          have mr := Lib.cell?_alloc_some (.cells #[.int .i32 q, .int .i32 ((p : Int) + 1), .bool false, .bool false, .int .i32 0, .int .i32 0, .int .i32 0, .int .i32 0, .int .i32 0, .int .i32 (-1)] 73) kr
          have n0 : (wr.alloc (.cells #[.int .i32 q, .int .i32 ((p : Int) + 1), .bool false, .bool false, .int .i32 0, .int .i32 0, .int .i32 0, .int .i32 0, .int .i32 0, .int .i32 (-1)] 73)).cell? ⟨wr.heap.size, 0, none⟩ = some (.int .i32 q) := cell_of_row _ _ _ _ _ _ (heap_alloc_new wr _)
          have n1 : (wr.alloc (.cells #[.int .i32 q, .int .i32 ((p : Int) + 1), .bool false, .bool false, .int .i32 0, .int .i32 0, .int .i32 0, .int .i32 0, .int .i32 0, .int .i32 (-1)] 73)).cell? ⟨wr.heap.size, 1, none⟩ = some (.int .i32 ((p : Int) + 1)) := cell_of_row _ _ _ _ _ _ (heap_alloc_new wr _)
          have hF3 := hF2.alloc (.cells #[.int .i32 q, .int .i32 ((p : Int) + 1), .bool false, .bool false, .int .i32 0, .int .i32 0, .int .i32 0, .int .i32 0, .int .i32 0, .int .i32 (-1)] 73)
          have hR3 := hR2.alloc (.cells #[.int .i32 q, .int .i32 ((p : Int) + 1), .bool false, .bool false, .int .i32 0, .int .i32 0, .int .i32 0, .int .i32 0, .int .i32 0, .int .i32 (-1)] 73)
          have hK3 := hK2.alloc (by omega) (.cells #[.int .i32 q, .int .i32 ((p : Int) + 1), .bool false, .bool false, .int .i32 0, .int .i32 0, .int .i32 0, .int .i32 0, .int .i32 0, .int .i32 (-1)] 73)
          have mx := hR3.cell (T l) htn
          have mz := hR3.fz (T l)
          rw [hw3] at m6 m3 mb mr n0 n1 hF3 hR3 hK3 mx mz ⊢
          clear k0 k1 k2 k3 k4 k5 k6 k7 k8 k9 f6 g3 kb kr rx rz hw3
          have HF3 := hid hF3
          have HR3 := hid hR3
          have HK3 := hid hK3
          clear hF2 hR2 hK2 hF3 hR3 hK3
          have i1 : (0 : Int) ≤ (q : Int) := by omega
          have i2 : (q : Int) < (P : Int) := by omega
          have i3 : (0 : Int) ≤ (p : Int) := by omega
          have i4 : (p : Int) < (RL q : Int) := by omega
          have i5 : (0 : Int) ≤ (T l : Int) := by omega
          have i6 : (T l : Int) < (j : Int) := by omega
          have d1 : w.heap.size ≠ F := by omega
          have d2 : w.heap.size ≠ G := by omega
          have d3 : w.heap.size ≠ wr.heap.size := by omega
          have d4 : w.heap.size ≠ b2 := by omega
          have d5 : w.heap.size ≠ br := by omega
          have d1' := d1.symm
          have d2' := d2.symm
          have d3' := d3.symm
          have d4' := d4.symm
          have d5' := d5.symm
          have s1 : IntKind.i32.wrap ((p : Int) + 1 - 1) = (p : Int) := by rw [IntKind.wrap_i32]; omega
          have s2 : IntKind.i32.wrap (p : Int) = (p : Int) := by rw [IntKind.wrap_i32]; omega
          have s3 : IntKind.i32.wrap (l : Int) = (l : Int) := by rw [IntKind.wrap_i32]; omega
          go_region_held3 (fun w' => w'.cell? ⟨F, 6, none⟩ = some (.slice (some ⟨w.heap.size, 0, none⟩) j j) ∧ w'.cell? ⟨G, 3, none⟩ = some (.slice (some ⟨b2, o2, none⟩) P c2) ∧ w'.cell? ⟨wr.heap.size, 0, none⟩ = some (.int .i32 q) ∧ w'.cell? ⟨wr.heap.size, 1, none⟩ = some (.int .i32 ((p : Int) + 1)) ∧ w'.cell? ⟨b2, o2 + q, none⟩ = some (.slice (some ⟨br, or, none⟩) (RL q) (RC q)) ∧ w'.cell? ⟨br, or + p, none⟩ = some (.int .i64 (T l))) (go_keep) (fail)
          go_wp2
          go_roundg (L - (l + 1))
          case measure => omega
          case rel => exact ⟨l + 1, by omega, by go_num, HF3.out.other (p := ⟨w.heap.size, T l, none⟩) d1 _, (HR3.out.set (T l) (.int .i32 l)).congr (fun x _ => by
            show Value.int .i32 (if x = T l then (l : Int) else ixOf T l x) = if x = T l then Value.int .i32 l else Value.int .i32 (ixOf T l x)
            split <;> rfl), (HK3.out.setCell (p := ⟨w.heap.size, T l, none⟩) (.inl (Nat.le_refl _)) _).drew⟩
        · obtain rfl : l = L := by omega
          have f6 : wr.cell? ⟨F, 6, none⟩ = some (.slice (some ⟨w.heap.size, 0, none⟩) j j) := hF2.c 6
          have f7 : wr.cell? ⟨F, 7, none⟩ = some (.bool false) := hF2.c 7
          have z7 := hF2.fz 7
          have rx := hR2.cell i hi
          have d1 : w.heap.size ≠ F := by omega
          have d1' := d1.symm
          go_wp2
          go_ret
          exact ⟨rfl, hF2.set7 true, hR2.other (p := ⟨F, 7, none⟩) d1' _, hK2.setCell (p := ⟨F, 7, none⟩) (.inr rfl) _⟩

theorem index_again (F G n : Nat) (X : Nat) (V : Nat → Int) (rd ret keys runs ro ent wa fs due used : Value) (w : World) (i : Nat) (hi : i < n)
    (hF : FIs F G rd ret keys (.slice (some ⟨X, 0, none⟩) n n) true runs ro ent wa fs due used w) (hR : Row 21 X n (fun i => .int .i32 (V i)) w) :
    Calls Try.prog 24 #[.pointer (some ⟨F, 0, none⟩), .int .i64 i] w fun e w' => e = .returned (.int .i32 (V i)) ∧ w = w' := by
  have f0 : w.cell? ⟨F, 0, none⟩ = some (.pointer (some ⟨G, 0, none⟩)) := hF.c 0
  have f6 : w.cell? ⟨F, 6, none⟩ = some (.slice (some ⟨X, 0, none⟩) n n) := hF.c 6
  have f7 : w.cell? ⟨F, 7, none⟩ = some (.bool true) := hF.c 7
  have rx := hR.cell i hi
  clear hF hR
  go_enter Try.func24, Try.ntmps24
  go_wp2
  go_ret
  exact ⟨rfl, rfl⟩

/-- ZZIndex hands on. -/
theorem zzIndex (F i : Nat) (w : World) (v : Int) (Q : Ending → World → Prop) (h : Calls Try.prog 24 #[.pointer (some ⟨F, 0, none⟩), .int .i64 i] w fun e w' => e = .returned (.int .i32 v) ∧ Q e w') :
    Calls Try.prog 18 #[.pointer (some ⟨F, 0, none⟩), .int .i64 i] w Q := by
  have H := hid h
  clear h
  go_enter Try.func18, Try.ntmps18
  go_wp2_with (go_at_call 24; refine H.out.mono ?_; rintro e w' ⟨rfl, hq⟩)
  exact hq
end Go.Proofs.Qxb6605223a
