/-
  zzCloneInt2 (12), zzReturnedBy (13), zzBytes (7), zzBytes_FnIndexRank (19).
-/
import Derived.Test.Qxb6605223aBase
namespace Go.Proofs.Qxb6605223a
open Go.RowKit

theorem Row.set {t : TypeId} {g n : Nat} {V : Nat → Value} {w : World} (h : Row t g n V w) (i : Nat) (u : Value) : Row t g n (fun k => if k = i then u else V k) (w.setCell ⟨g, i, none⟩ u) := by
  obtain ⟨cur, hg, hs, hc⟩ := h
  refine ⟨cur.setIfInBounds i u, heap_setCell_same w g i _ t _ hg, by simpa using hs, fun k hk => ?_⟩
  by_cases e : k = i
  · subst e
    simp [hs, hk]
  · show (cur.setIfInBounds i u)[k]? = some (if k = i then u else V k)
    rw [Array.getElem?_setIfInBounds_ne (by omega), if_neg e]
    exact hc k hk
theorem Row.congr {t : TypeId} {g n : Nat} {V V' : Nat → Value} {w : World} (h : Row t g n V w) (he : ∀ i, i < n → V' i = V i) : Row t g n V' w := by
  obtain ⟨cur, hg, hs, hc⟩ := h
  exact ⟨cur, hg, hs, fun i hi => by rw [he i hi]; exact hc i hi⟩
theorem Row.cell {t : TypeId} {g n : Nat} {V : Nat → Value} {w : World} (h : Row t g n V w) (i : Nat) (hi : i < n) : w.cell? ⟨g, i, none⟩ = some (V i) := by
  obtain ⟨cur, hg, hs, hc⟩ := h
  rw [cell_of_row _ _ _ _ _ _ hg]
  exact hc i hi
theorem Row.fz {t : TypeId} {g n : Nat} {V : Nat → Value} {w : World} (h : Row t g n V w) (j : Nat) : w.frozen? ⟨g, j, none⟩ = false := by
  obtain ⟨cur, hg, _⟩ := h
  exact frozen_of_row w g j _ t hg
theorem Row.lt {t : TypeId} {g n : Nat} {V : Nat → Value} {w : World} (h : Row t g n V w) : g < w.heap.size := by
  obtain ⟨cur, hg, _⟩ := h
  exact lt_of_block hg
theorem Row.block {t : TypeId} {g n : Nat} {V : Nat → Value} {w w' : World} (h : Row t g n V w) (e : w'.heap[g]? = w.heap[g]?) : Row t g n V w' := by
  obtain ⟨cur, hg, hs⟩ := h
  exact ⟨cur, e.trans hg, hs⟩

theorem Row.made {t : TypeId} {g n base : Nat} {z : Value} {w : World} (h : w.ownsRow base t 1 (.slice (some ⟨g, 0, none⟩) n n) n (madeCells #[z] (n * 1)).toList) : Row t g n (fun _ => z) w := by
  rcases h.2 with ⟨e, _⟩ | ⟨g', cap, cur, e, _, hg, _, _, hs, ht⟩
  · cases e
  · simp only [Value.slice.injEq, Option.some.injEq, Addr.mk.injEq, and_true, true_and] at e
    obtain ⟨rfl, rfl⟩ := e
    refine ⟨cur, hg, by omega, fun i hi => ?_⟩
    have h1 : (cur.toList.take (n * 1))[i]? = (madeCells #[z] (n * 1)).toList[i]? := by rw [ht]
    rw [List.getElem?_take_of_lt (by omega), Array.getElem?_toList] at h1
    rw [h1]
    simp [madeCells, hi, Nat.mod_one]

/-- The rows so far. -/
def PartS (g P j : Nat) (RL : Nat → Nat) (BP : Nat → Nat → Int) (w : World) : Prop :=
  ∃ cur, w.heap[g]? = some (.cells cur 22 (0, 0)) ∧ cur.size = P ∧ ∀ q, q < j → ∃ pa c, cur[q]? = some (.slice pa (RL q) c) ∧ Sg g w.heap.size pa (RL q) (fun i => .int .i64 (BP q i)) w

theorem PartS.fz {g P j : Nat} {RL : Nat → Nat} {BP : Nat → Nat → Int} {w : World} (h : PartS g P j RL BP w) (i : Nat) : w.frozen? ⟨g, i, none⟩ = false := by
  obtain ⟨cur, hg, _⟩ := h
  exact frozen_of_row w g i _ 22 hg
theorem PartS.old {g P j : Nat} {RL : Nat → Nat} {BP : Nat → Nat → Int} {w : World} (h : PartS g P j RL BP w) (i : Nat) (hj : i < P) : ∃ u, w.cell? ⟨g, i, none⟩ = some u := by
  obtain ⟨cur, hg, hs, _⟩ := h
  rw [cell_of_row _ _ _ _ _ _ hg]
  exact ⟨cur[i]'(by omega), by simp [hs, hj]⟩
theorem PartS.lt {g P j : Nat} {RL : Nat → Nat} {BP : Nat → Nat → Int} {w : World} (h : PartS g P j RL BP w) : g < w.heap.size := by
  obtain ⟨cur, hg, _⟩ := h
  exact lt_of_block hg

theorem PartS.later {g P j : Nat} {RL : Nat → Nat} {BP : Nat → Nat → Int} {w w2 : World} (h : PartS g P j RL BP w) (hb : Below w.heap.size w w2) : PartS g P j RL BP w2 := by
  have hl := h.lt
  obtain ⟨cur, hg, hs, hc⟩ := h
  refine ⟨cur, (hb.block g hl).trans hg, hs, fun q hq => ?_⟩
  obtain ⟨pa, c, h1, h2⟩ := hc q hq
  exact ⟨pa, c, h1, (h2.below hb).mono hb.size⟩

theorem PartS.set {g P j : Nat} {RL : Nat → Nat} {BP : Nat → Nat → Int} {w w2 : World} (h : PartS g P j RL BP w) (hb : Below w.heap.size w w2) (hj : j < P) {pa' : Option Addr} {c' : Nat}
    (hr : 0 < RL j → pa' = some ⟨w.heap.size, 0, none⟩ ∧ Row 3 w.heap.size (RL j) (fun i => .int .i64 (BP j i)) w2) : PartS g P (j + 1) RL BP (w2.setCell ⟨g, j, none⟩ (.slice pa' (RL j) c')) := by
  have hl := h.lt
  obtain ⟨cur, hg, hs, hc⟩ := h.later hb
  have hk : Kp g w2.heap.size w2 (w2.setCell ⟨g, j, none⟩ (.slice pa' (RL j) c')) := (Kp.refl _ _ _).setCell (p := ⟨g, j, none⟩) (.inr rfl) _
  have hz : (w2.setCell ⟨g, j, none⟩ (.slice pa' (RL j) c')).heap.size = w2.heap.size := by simp [World.setCell]
  refine ⟨cur.setIfInBounds j _, heap_setCell_same w2 g j _ 22 _ hg, by simpa using hs, fun q hq => ?_⟩
  rw [hz]
  by_cases e : q = j
  · subst e
    refine ⟨pa', c', by simp [hs, hj], ?_⟩
    refine Sg.kept (w := w2) ?_ hk
    intro h0
    obtain ⟨rfl, hrow⟩ := hr h0
    exact hrow.sg (by omega) hrow.lt h0
  · obtain ⟨pa, c, h1, h2⟩ := hc q (by omega)
    refine ⟨pa, c, ?_, h2.kept hk⟩
    rw [Array.getElem?_setIfInBounds_ne (by omega)]
    exact h1

def Cloned2 (P : Nat) (RL : Nat → Nat) (BP : Nat → Nat → Int) (w : World) (e : Ending) (w' : World) : Prop :=
  ∃ pa' cap', e = .returned (.slice pa' P cap') ∧ (0 < P → pa' = some ⟨w.heap.size, 0, none⟩ ∧ PartS w.heap.size P P RL BP w') ∧ Below w.heap.size w w'

theorem part0 {t : TypeId} {g n base : Nat} {w : World} {xs : List Value} (h : w.ownsRow base t 1 (.slice (some ⟨g, 0, none⟩) n n) n xs) : ∃ cur, w.heap[g]? = some (.cells cur t (0, 0)) ∧ cur.size = n := by
  rcases h.2 with ⟨e, _⟩ | ⟨g', cap, cur, e, _, hg, _, _, hs, _⟩
  · cases e
  · simp only [Value.slice.injEq, Option.some.injEq, Addr.mk.injEq, and_true, true_and] at e
    obtain ⟨rfl, rfl⟩ := e
    exact ⟨cur, hg, by omega⟩

set_option maxHeartbeats 1000000 in
set_option maxRecDepth 100000 in
theorem cloneInt2 (R B P cap : Nat) (pa : Option Addr) (RA : Nat → Option Addr) (RL RC : Nat → Nat) (BP : Nat → Nat → Int) (w : World) (hP : P ≤ 1048576) (hB : B ≤ w.heap.size) (hRL : ∀ q, q < P → RL q ≤ 1048576)
    (hS : Sg R B pa P (fun q => .slice (RA q) (RL q) (RC q)) w) (hr : ∀ q, q < P → Sg R B (RA q) (RL q) (fun i => .int .i64 (BP q i)) w) :
    Calls Try.prog 12 #[.slice pa P cap] w fun e w' => Cloned2 P RL BP w e w' := by
  obtain ⟨i0, hi, hz0, hz1, hz2⟩ := info_parts info22
  have q22 : ∀ (w : World) (a : Option Addr) (n c n' c' : Nat), (binOp .eql 24 (.slice a n c) (.slice none n' c')).run Try.prog w = .ok (.bool a.isNone) w := fun w a n c n' c' => Lib.run_eql_slice_nil w _ _ a n c n' c' Try.underlying24
  have HS := hid hS
  have HR := hid hr
  have HL := hid hRL
  clear hS hr hRL
  cases pa with
  | none =>
    have h0 : ¬ 0 < P := fun h => by obtain ⟨b, o, e, _⟩ := HS.out h; cases e
    go_enter Try.func12, Try.ntmps12
    go_wp2
    go_ret
    obtain rfl : P = 0 := by omega
    exact ⟨none, 0, rfl, fun h => absurd h h0, Below.refl _ _⟩
  | some ad =>
    go_enter Try.func12, Try.ntmps12
    go_wp2_with (first
      | (at_make; refine wpList_make_full _ rfl _ _ 24 rfl w.heap.size 22 i0 (.slice none 0 0) 1 Try.underlying24 hi hz0 hz1 .i64 .i64 _ _ P rfl rfl rfl rfl (by rw [hz2]; omega) (by unfold maxLen; omega) (Nat.le_refl _) ?_; intro w1 hown1 hgrow1))
    have hP0 : PartS w.heap.size P 0 RL BP w1 := by
      obtain ⟨cur, hg, hs⟩ := part0 hown1
      exact ⟨cur, hg, hs, fun q hq => absurd hq (Nat.not_lt_zero _)⟩
    have hb1 : Below w.heap.size w w1 := (Below.refl _ _).grown hgrow1 (Nat.le_refl _) (fun k e => by cases e)
    clear hown1 hgrow1
    go_loopg [4] P (fun k i wr => ∃ j : Nat, j + k = P ∧ i = .int .i64 j ∧ PartS w.heap.size P j RL BP wr ∧ Below w.heap.size w wr)
    case atStart => exact ⟨0, by omega, rfl, hP0, hb1⟩
    case round =>
      obtain ⟨j, hj, rfl, hPj, hbj⟩ := hrel
      clear hP0 hb1
      by_cases hlt : j < P
      · obtain ⟨b, o, e0, hbR, hbB, hc⟩ := (HS.out.below (hbj.mono hB)) (by omega)
        cases e0
        have h0 : wr.cell? ⟨b, o + j, none⟩ = some (.slice (RA j) (RL j) (RC j)) := hc j hlt
        have hcl := hid (cloneInt R B (RL j) (RC j) (RA j) (BP j) wr (HL.out j hlt) (Nat.le_trans hB hbj.size) ((HR.out j hlt).below (hbj.mono hB)))
        clear hc
        go_wp2_with (go_at_call 10; refine hcl.out.mono ?_; rintro e w2 ⟨pa', c', rfl, hrow, hb2⟩; obtain ⟨u, hu⟩ := (hPj.later hb2).old j hlt; have hfz := (hPj.later hb2).fz j)
        go_roundg (P - (j + 1))
        case measure => omega
        case rel => exact ⟨j + 1, by omega, by go_num, hPj.set hb2 hlt hrow, (hbj.trans (hb2.mono hbj.size)).setCell (p := ⟨w.heap.size, j, none⟩) (Nat.le_refl _) _⟩
      · go_wp2
        go_ret
        obtain rfl : j = P := by omega
        exact ⟨_, _, rfl, fun _ => ⟨rfl, hPj⟩, hbj⟩

/-- Some read returns i. -/
def retOf (F RD : Nat → Int) (m i : Nat) : Bool := (List.range m).any fun k => F (RD k).toNat == (i : Int)

theorem retOf_succ (F RD : Nat → Int) (m i : Nat) : retOf F RD (m + 1) i = (retOf F RD m i || F (RD m).toNat == (i : Int)) := by
  simp [retOf, List.range_succ]

set_option maxHeartbeats 1000000 in
set_option maxRecDepth 100000 in
theorem returnedBy (R B n m c1 c2 : Nat) (pa1 pa2 : Option Addr) (F RD : Nat → Int) (w : World) (hn : n ≤ 1048576) (hm : m ≤ 1048576) (hB : B ≤ w.heap.size) (h1 : Sg R B pa1 n (fun i => .int .i64 (F i)) w) (h2 : Sg R B pa2 m (fun i => .int .i64 (RD i)) w)
    (hF : ∀ i, i < n → -1 ≤ F i ∧ F i < n) (hRD : ∀ k, k < m → 0 ≤ RD k ∧ RD k < n) :
    Calls Try.prog 13 #[.int .i64 n, .slice pa1 n c1, .slice pa2 m c2] w fun e w' => e = .returned (.slice (some ⟨w.heap.size, 0, none⟩) n n) ∧ Row 4 w.heap.size n (fun i => .bool (retOf F RD m i)) w' ∧ Below w.heap.size w w' := by
  obtain ⟨i0, hi, hz0, hz1, hz2⟩ := info_parts info4
  have H1 := hid h1
  have H2 := hid h2
  have HF := hid hF
  have HD := hid hRD
  clear h1 h2 hF hRD
  go_enter Try.func13, Try.ntmps13
  go_wp2_with (first
    | (at_make; refine wpList_make_full _ rfl _ _ 32 rfl w.heap.size 4 i0 (.bool false) 1 Try.underlying32 hi hz0 hz1 .i64 .i64 _ _ n rfl rfl rfl rfl (by rw [hz2]; omega) (by unfold maxLen; omega) (Nat.le_refl _) ?_; intro w1 hown1 hgrow1))
  have hR0 : Row 4 w.heap.size n (fun i => .bool (retOf F RD 0 i)) w1 := Row.made hown1
  have hb1 : Below w.heap.size w w1 := (Below.refl _ _).grown hgrow1 (Nat.le_refl _) (fun k e => by cases e)
  clear hown1 hgrow1
  go_loopg [8] m (fun k i wr => ∃ j : Nat, j + k = m ∧ i = .int .i64 j ∧ Row 4 w.heap.size n (fun i => .bool (retOf F RD j i)) wr ∧ Below w.heap.size w wr)
  case atStart => exact ⟨0, by omega, rfl, hR0, hb1⟩
  case round =>
    obtain ⟨j, hj, rfl, hRj, hbj⟩ := hrel
    clear hR0 hb1
    by_cases hlt : j < m
    · obtain ⟨b2, o2, rfl, _, _, hc2⟩ := (H2.out.below (hbj.mono hB)) (by omega)
      have k2 : wr.cell? ⟨b2, o2 + j, none⟩ = some (.int .i64 (RD j)) := hc2 j hlt
      obtain ⟨hd0, hd1⟩ := HD.out j hlt
      obtain ⟨r, hr⟩ : ∃ r : Nat, RD j = r := ⟨(RD j).toNat, by omega⟩
      have hrn : r < n := by omega
      obtain ⟨b1, o1, rfl, _, _, hc1⟩ := (H1.out.below (hbj.mono hB)) (by omega)
      have k1 : wr.cell? ⟨b1, o1 + r, none⟩ = some (.int .i64 (F r)) := hc1 r hrn
      obtain ⟨hf0, hf1⟩ := HF.out r hrn
      rw [hr] at k2
      clear hc1 hc2
      have er : (RD j).toNat = r := by omega
      by_cases hneg : F r < 0
      · go_wp2
        go_roundg (m - (j + 1))
        case measure => omega
        case rel => exact ⟨j + 1, by omega, by go_num, hRj.congr (fun i _ => by
          rw [retOf_succ, er]
          have : (F r == (i : Int)) = false := by simp; omega
          rw [this, Bool.or_false]), hbj⟩
      · obtain ⟨x, hx⟩ : ∃ x : Nat, F r = x := ⟨(F r).toNat, by omega⟩
        have hxn : x < n := by omega
        have kx := hRj.cell x hxn
        have kz := hRj.fz x
        rw [hx] at k1
        go_wp2
        go_roundg (m - (j + 1))
        case measure => omega
        case rel => exact ⟨j + 1, by omega, by go_num, (hRj.set x (.bool true)).congr (fun i _ => by
          rw [retOf_succ, er, hx]
          by_cases e : i = x
          · subst e
            simp
          · have : ((x : Int) == (i : Int)) = false := by simp; omega
            simp [e, this]), hbj.setCell (p := ⟨w.heap.size, x, none⟩) (Nat.le_refl _) _⟩
    · go_wp2
      go_ret
      obtain rfl : j = m := by omega
      exact ⟨rfl, hRj, hbj⟩
end Go.Proofs.Qxb6605223a
