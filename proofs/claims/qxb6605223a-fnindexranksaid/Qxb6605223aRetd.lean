/-
  ZZReturned (20).
-/
import Derived.Test.Qxb6605223aIndex
namespace Go.Proofs.Qxb6605223a
open Go.RowKit

theorem info43 : (Try.prog.info? 43).map (fun i => (i.zero, i.size, i.bytes)) = some (some (.agg #[.int .i32 0, .int .i32 0, .bool false, .bool false, .int .i32 0, .int .i32 0, .int .i32 0, .int .i32 0, .int .i32 0, .int .i32 0]), 10, 36) := by kernel_rfl

/-- The first k returned writes copied out. -/
def PartC (g L k : Nat) (xs : List Value) (w : World) : Prop :=
  ∃ cur, w.heap[g]? = some (.cells cur 43 (0, 0)) ∧ cur.size = L * 10 ∧ ∀ i, i < k * 10 → cur[i]? = xs[i]?

theorem PartC.fz {g L k : Nat} {xs : List Value} {w : World} (h : PartC g L k xs w) (j : Nat) : w.frozen? ⟨g, j, none⟩ = false := by
  obtain ⟨cur, hg, _⟩ := h
  exact frozen_of_row w g j _ 43 hg
theorem PartC.old {g L k : Nat} {xs : List Value} {w : World} (h : PartC g L k xs w) (j : Nat) (hj : j < L * 10) : ∃ u, w.cell? ⟨g, j, none⟩ = some u := by
  obtain ⟨cur, hg, hs, _⟩ := h
  rw [cell_of_row _ _ _ _ _ _ hg]
  exact ⟨cur[j]'(by omega), by simp [hs, hj]⟩
theorem PartC.lt {g L k : Nat} {xs : List Value} {w : World} (h : PartC g L k xs w) : g < w.heap.size := by
  obtain ⟨cur, hg, _⟩ := h
  exact lt_of_block hg
theorem PartC.block {g L k : Nat} {xs : List Value} {w w' : World} (h : PartC g L k xs w) (e : w'.heap[g]? = w.heap[g]?) : PartC g L k xs w' := by
  obtain ⟨cur, hg, hs⟩ := h
  exact ⟨cur, e.trans hg, hs⟩

theorem PartC.set10 {g L k : Nat} {xs : List Value} {w : World} (h : PartC g L k xs w) (hk : k < L) (v0 v1 v2 v3 v4 v5 v6 v7 v8 v9 : Value) (hx : ∀ c, c < 10 → xs[k * 10 + c]? = [v0, v1, v2, v3, v4, v5, v6, v7, v8, v9][c]?) :
    PartC g L (k + 1) xs ((((((((((w.setCell ⟨g, k * 10, none⟩ v0).setCell ⟨g, k * 10 + 1, none⟩ v1).setCell ⟨g, k * 10 + 2, none⟩ v2).setCell ⟨g, k * 10 + 3, none⟩ v3).setCell ⟨g, k * 10 + 4, none⟩ v4).setCell ⟨g, k * 10 + 5, none⟩ v5).setCell ⟨g, k * 10 + 6, none⟩ v6).setCell ⟨g, k * 10 + 7, none⟩ v7).setCell ⟨g, k * 10 + 8, none⟩ v8).setCell ⟨g, k * 10 + 9, none⟩ v9) := by
  obtain ⟨cur, hg, hs, hc⟩ := h
  have e0 := heap_setCell_same w g (k * 10) cur 43 v0 hg
  have e1 := heap_setCell_same _ g (k * 10 + 1) _ 43 v1 e0
  have e2 := heap_setCell_same _ g (k * 10 + 2) _ 43 v2 e1
  have e3 := heap_setCell_same _ g (k * 10 + 3) _ 43 v3 e2
  have e4 := heap_setCell_same _ g (k * 10 + 4) _ 43 v4 e3
  have e5 := heap_setCell_same _ g (k * 10 + 5) _ 43 v5 e4
  have e6 := heap_setCell_same _ g (k * 10 + 6) _ 43 v6 e5
  have e7 := heap_setCell_same _ g (k * 10 + 7) _ 43 v7 e6
  have e8 := heap_setCell_same _ g (k * 10 + 8) _ 43 v8 e7
  have e9 := heap_setCell_same _ g (k * 10 + 9) _ 43 v9 e8
  refine ⟨_, e9, by simpa using hs, fun i hi => ?_⟩
  simp only [Array.getElem?_setIfInBounds, Array.size_setIfInBounds, hs]
  by_cases hlt : i < k * 10
  · rw [if_neg (by omega), if_neg (by omega), if_neg (by omega), if_neg (by omega), if_neg (by omega), if_neg (by omega), if_neg (by omega), if_neg (by omega), if_neg (by omega), if_neg (by omega)]
    exact hc i hlt
  · obtain ⟨c, rfl⟩ : ∃ c, i = k * 10 + c := ⟨i - k * 10, by omega⟩
    have hc10 : c < 10 := by omega
    rw [hx c hc10]
    have hin : ∀ d, d < 10 → k * 10 + d < L * 10 := fun d hd => by omega
    match c, hc10 with
    | 0, _ => simp [hk]
    | 1, _ => simp [hin 1]
    | 2, _ => simp [hin 2]
    | 3, _ => simp [hin 3]
    | 4, _ => simp [hin 4]
    | 5, _ => simp [hin 5]
    | 6, _ => simp [hin 6]
    | 7, _ => simp [hin 7]
    | 8, _ => simp [hin 8]
    | 9, _ => simp [hin 9]

theorem below10 {g k : Nat} {w0 w : World} (h : Below g w0 w) (v0 v1 v2 v3 v4 v5 v6 v7 v8 v9 : Value) : Below g w0 ((((((((((w.setCell ⟨g, k * 10, none⟩ v0).setCell ⟨g, k * 10 + 1, none⟩ v1).setCell ⟨g, k * 10 + 2, none⟩ v2).setCell ⟨g, k * 10 + 3, none⟩ v3).setCell ⟨g, k * 10 + 4, none⟩ v4).setCell ⟨g, k * 10 + 5, none⟩ v5).setCell ⟨g, k * 10 + 6, none⟩ v6).setCell ⟨g, k * 10 + 7, none⟩ v7).setCell ⟨g, k * 10 + 8, none⟩ v8).setCell ⟨g, k * 10 + 9, none⟩ v9) :=
  ((((((((((h.setCell (p := ⟨g, k * 10, none⟩) (Nat.le_refl _) v0).setCell (p := ⟨g, k * 10 + 1, none⟩) (Nat.le_refl _) v1).setCell (p := ⟨g, k * 10 + 2, none⟩) (Nat.le_refl _) v2).setCell (p := ⟨g, k * 10 + 3, none⟩) (Nat.le_refl _) v3).setCell (p := ⟨g, k * 10 + 4, none⟩) (Nat.le_refl _) v4).setCell (p := ⟨g, k * 10 + 5, none⟩) (Nat.le_refl _) v5).setCell (p := ⟨g, k * 10 + 6, none⟩) (Nat.le_refl _) v6).setCell (p := ⟨g, k * 10 + 7, none⟩) (Nat.le_refl _) v7).setCell (p := ⟨g, k * 10 + 8, none⟩) (Nat.le_refl _) v8).setCell (p := ⟨g, k * 10 + 9, none⟩) (Nat.le_refl _) v9)

set_option maxHeartbeats 4000000 in
set_option maxRecDepth 100000 in
theorem returned20 (F G L : Nat) (A B : Nat → Int) (rd ret keys idx : Value) (ixd : Bool) (runs ro ent wa fs due used : Value) (w : World) (hL : L ≤ 4096)
    (hF : FIs F G rd ret keys idx ixd runs ro ent wa fs due used w) (hRet : Ret F ret L A B w) :
    Calls Try.prog 20 #[.pointer (some ⟨F, 0, none⟩)] w fun e w' => e = .returned (.slice (some ⟨w.heap.size, 0, none⟩) L L) ∧ PartC w.heap.size L L (rcs A B L) w' ∧ Below w.heap.size w w' := by
  obtain ⟨i0, hi0, hz0, hz1, hz2⟩ := info_parts info43
  obtain ⟨ra, rcp, rfl, hsh⟩ := hRet.shape
  have HRet := hid hRet
  have HF := hid hF
  have f4 : w.cell? ⟨F, 4, none⟩ = some (.slice ra L rcp) := hF.c 4
  have lF := hF.lt
  clear hF hRet hsh
  go_enter Try.func20, Try.ntmps20
  go_wp2_with (first
    | (at_make; refine wpList_make_full _ rfl _ _ 40 rfl 0 43 i0 _ 10 Try.underlying40 hi0 hz0 hz1 .i64 .i64 _ _ L rfl rfl rfl rfl (by rw [hz2]; omega) (by unfold maxLen; omega) (Nat.zero_le _) ?_; intro w1 hown1 hgrow1))
  have hP1 : PartC w.heap.size L 0 (rcs A B L) w1 := by
    rcases hown1.2 with ⟨e, _⟩ | ⟨g', cap, cur, e, _, hg, _, _, hs, _⟩
    · cases e
    · simp only [Value.slice.injEq, Option.some.injEq, Addr.mk.injEq, and_true, true_and] at e
      obtain ⟨rfl, rfl⟩ := e
      exact ⟨cur, hg, hs, fun i hi => by omega⟩
  have hb1 : Below w.heap.size w w1 := (Below.refl _ _).grown hgrow1 (Nat.le_refl _) (fun k e => by cases e)
  clear hown1 hgrow1 f4
  go_loopg [4] L (fun k i wr => ∃ j : Nat, j + k = L ∧ i = .int .i64 j ∧ PartC w.heap.size L j (rcs A B L) wr ∧ Below w.heap.size w wr)
  case atStart => exact ⟨0, by omega, rfl, hP1, hb1⟩
  case round =>
    obtain ⟨j, hj, rfl, hPj, hbj⟩ := hrel
    clear hP1 hb1
    have f4 : wr.cell? ⟨F, 4, none⟩ = some (.slice ra L rcp) := (HF.out.block (hbj.block F lF)).c 4
    by_cases hlt : j < L
    · obtain ⟨_, _, e0, hsh⟩ := (HRet.out.kept (fun k h1 _ => hbj.block k h1)).shape
      cases e0
      obtain ⟨g, hFg, hgw, rfl, hcs⟩ := hsh (by omega)
      have k0 : wr.cell? ⟨g, j * 10, none⟩ = some (.int .i32 (A j)) := hcs j 0 hlt (by omega)
      have k1 : wr.cell? ⟨g, j * 10 + 1, none⟩ = some (.int .i32 (B j)) := hcs j 1 hlt (by omega)
      have k2 : wr.cell? ⟨g, j * 10 + 2, none⟩ = some (.bool false) := hcs j 2 hlt (by omega)
      have k3 : wr.cell? ⟨g, j * 10 + 3, none⟩ = some (.bool false) := hcs j 3 hlt (by omega)
      have k4 : wr.cell? ⟨g, j * 10 + 4, none⟩ = some (.int .i32 0) := hcs j 4 hlt (by omega)
      have k5 : wr.cell? ⟨g, j * 10 + 5, none⟩ = some (.int .i32 0) := hcs j 5 hlt (by omega)
      have k6 : wr.cell? ⟨g, j * 10 + 6, none⟩ = some (.int .i32 0) := hcs j 6 hlt (by omega)
      have k7 : wr.cell? ⟨g, j * 10 + 7, none⟩ = some (.int .i32 0) := hcs j 7 hlt (by omega)
      have k8 : wr.cell? ⟨g, j * 10 + 8, none⟩ = some (.int .i32 0) := hcs j 8 hlt (by omega)
      have k9 : wr.cell? ⟨g, j * 10 + 9, none⟩ = some (.int .i32 (-1)) := hcs j 9 hlt (by omega)
      obtain ⟨v0, y0⟩ := hPj.old (j * 10) (by omega)
      obtain ⟨v1, y1⟩ := hPj.old (j * 10 + 1) (by omega)
      obtain ⟨v2, y2⟩ := hPj.old (j * 10 + 2) (by omega)
      obtain ⟨v3, y3⟩ := hPj.old (j * 10 + 3) (by omega)
      obtain ⟨v4, y4⟩ := hPj.old (j * 10 + 4) (by omega)
      obtain ⟨v5, y5⟩ := hPj.old (j * 10 + 5) (by omega)
      obtain ⟨v6, y6⟩ := hPj.old (j * 10 + 6) (by omega)
      obtain ⟨v7, y7⟩ := hPj.old (j * 10 + 7) (by omega)
      obtain ⟨v8, y8⟩ := hPj.old (j * 10 + 8) (by omega)
      obtain ⟨v9, y9⟩ := hPj.old (j * 10 + 9) (by omega)
      have z0 := hPj.fz (j * 10)
      have z1 := hPj.fz (j * 10 + 1)
      have z2 := hPj.fz (j * 10 + 2)
      have z3 := hPj.fz (j * 10 + 3)
      have z4 := hPj.fz (j * 10 + 4)
      have z5 := hPj.fz (j * 10 + 5)
      have z6 := hPj.fz (j * 10 + 6)
      have z7 := hPj.fz (j * 10 + 7)
      have z8 := hPj.fz (j * 10 + 8)
      have z9 := hPj.fz (j * 10 + 9)
      have lX := hPj.lt
      clear hcs hsh
      go_wp2
      go_roundg (L - (j + 1))
      case measure => omega
      case rel =>
        have hP2 := hPj.set10 hlt (.int .i32 (A j)) (.int .i32 (B j)) (.bool false) (.bool false) (.int .i32 0) (.int .i32 0) (.int .i32 0) (.int .i32 0) (.int .i32 0) (.int .i32 (-1)) (fun c hc => rcs_get A B j c hc L hlt)
        have hB2 := below10 (k := j) hbj (.int .i32 (A j)) (.int .i32 (B j)) (.bool false) (.bool false) (.int .i32 0) (.int .i32 0) (.int .i32 0) (.int .i32 0) (.int .i32 0) (.int .i32 (-1))
        exact ⟨j + 1, by omega, by go_num, hP2.block (Below.heap_alloc _ _ _ hP2.lt), hB2.alloc (Nat.le_of_lt hP2.lt) _⟩
    · go_wp2
      go_ret
      obtain rfl : j = L := by omega
      exact ⟨rfl, hPj, hbj⟩
end Go.Proofs.Qxb6605223a
