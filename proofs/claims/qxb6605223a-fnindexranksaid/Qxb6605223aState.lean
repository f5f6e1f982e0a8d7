/-
  ZZStateOf (21).
-/
import Derived.Test.Qxb6605223aNew
import Derived.StillTailTactics
import Derived.Deep.DrawnRows
namespace Go.Proofs.Qxb6605223a
open Go.RowKit
attribute [local go_sem ↓] Go.wp_at_zero Go.wp_at_succ

theorem mixed : Try.prog.follows .mixedOrders = true := by kernel_rfl

theorem Part.alloc' {t : TypeId} {g n k : Nat} {V : Nat → Value} {w : World} (h : Part t g n k V w) (o : Obj) : Part t g n k V (w.alloc o) := by
  obtain ⟨cur, hg, hs⟩ := h
  exact ⟨cur, (Below.heap_alloc w o g (lt_of_block hg)).trans hg, hs⟩

set_option maxHeartbeats 8000000 in
set_option maxRecDepth 100000 in
theorem state21 (F G E n4 : Nat) (ret runs : Value) (a1 a5 ia a9 a12 a13 a14 a19 : Option Addr) (n1 n5 il n9 n12 n13 n14 n19 m1 m5 ic m9 m12 m13 m14 m19 : Nat) (ixd : Bool) (w : World) (hn4 : n4 ≤ 4096) (hEF : E < F)
    (hF : FIs F G (.slice a1 n1 m1) ret (.slice a5 n5 m5) (.slice ia il ic) ixd runs (.slice a9 n9 m9) (.slice (some ⟨E, 0, none⟩) n4 n4) (.slice a12 n12 m12) (.slice a13 n13 m13) (.slice a14 n14 m14) (.slice a19 n19 m19) w) (hE : Row 75 E n4 (fun _ => nilV) w) :
    Calls Try.prog 21 #[.pointer (some ⟨F, 0, none⟩)] w fun e w' => (∃ la ln lc, e = .returned (.agg #[(.slice a1 n1 m1), nilV, (.slice a5 n5 m5), .slice ia il ic, .bool ixd, (.slice a9 n9 m9), (.slice a12 n12 m12), .slice la ln lc, .int .i64 0, (.slice a13 n13 m13), (.slice a14 n14 m14), nilV, .int .i64 0, .int .i64 0, .int .i64 0, (.slice a19 n19 m19)])) ∧ Below w.heap.size w w' := by
  obtain ⟨i0, hi0, hz0, hz1, hz2⟩ := info_parts info3
  have HF := hid hF
  have HE := hid hE
  have f10 : w.cell? ⟨F, 10, none⟩ = some (.slice (some ⟨E, 0, none⟩) n4 n4) := hF.c 10
  have lF := hF.lt
  clear hF hE
  go_enter Try.func21, Try.ntmps21
  go_wp2_with (first
    | (at_make; refine wpList_make_full _ rfl _ _ 22 rfl 0 3 i0 (.int .i64 0) 1 Try.underlying22 hi0 hz0 hz1 .i64 .i64 _ _ n4 rfl rfl rfl rfl (by rw [hz2]; omega) (by unfold maxLen; omega) (Nat.zero_le _) ?_; intro w1 hown1 hgrow1))
  have e1 : (w.alloc (.cells #[.slice none 0 0, .slice none 0 0, .slice none 0 0, .slice none 0 0, .bool false, .slice none 0 0, .slice none 0 0, .slice none 0 0, .int .i64 0, .slice none 0 0, .slice none 0 0, .slice none 0 0, .int .i64 0, .int .i64 0, .int .i64 0, .slice none 0 0] 46)).heap.size = w.heap.size + 1 := by simp
  have hP1 : Part 3 (w.heap.size + 1) n4 0 (fun _ => .int .i64 0) w1 := by
    rw [← e1]
    exact Part.made hown1
  have hl1 : w1.heap[w.heap.size]? = some (.cells #[.slice none 0 0, .slice none 0 0, .slice none 0 0, .slice none 0 0, .bool false, .slice none 0 0, .slice none 0 0, .slice none 0 0, .int .i64 0, .slice none 0 0, .slice none 0 0, .slice none 0 0, .int .i64 0, .int .i64 0, .int .i64 0, .slice none 0 0] 46 (0, 0)) := by
    rw [hgrow1.block _ (by rw [e1]; omega) (by simp)]
    exact heap_alloc_new w _
  have hb1 : Below w.heap.size w w1 := ((Below.refl _ _).alloc (Nat.le_refl _) _).grown hgrow1 (by rw [e1]; omega) (fun k e => by cases e)
  clear hown1 hgrow1 e1 f10
  go_loopg [4] n4 (fun k i wr => ∃ j : Nat, j + k = n4 ∧ i = .int .i64 j ∧ Part 3 (w.heap.size + 1) n4 j (fun _ => .int .i64 0) wr ∧ wr.heap[w.heap.size]? = some (.cells #[.slice none 0 0, .slice none 0 0, .slice none 0 0, .slice none 0 0, .bool false, .slice none 0 0, .slice none 0 0, .slice none 0 0, .int .i64 0, .slice none 0 0, .slice none 0 0, .slice none 0 0, .int .i64 0, .int .i64 0, .int .i64 0, .slice none 0 0] 46 (0, 0)) ∧ Below w.heap.size w wr)
  case atStart => exact ⟨0, by omega, rfl, hP1, hl1, hb1⟩
  case round =>
    obtain ⟨j, hj, rfl, hPj, hlj, hbj⟩ := hrel
    clear hP1 hl1 hb1
    have f10 : wr.cell? ⟨F, 10, none⟩ = some (.slice (some ⟨E, 0, none⟩) n4 n4) := (HF.out.block (hbj.block F lF)).c 10
    by_cases hlt : j < n4
    · have k0 : wr.cell? ⟨E, j, none⟩ = some (.slice none 0 0) := (HE.out.block (hbj.block E (by omega))).cell j hlt
      obtain ⟨u, hu⟩ := hPj.old j hlt
      have hfz := hPj.fz j
      have HPj := hid hPj
      have Hlj := hid hlj
      have Hbj := hid hbj
      clear hPj hlj hbj
      go_wp2
      go_roundg (n4 - (j + 1))
      case measure => omega
      case rel => exact ⟨j + 1, by omega, by go_num, HPj.out.set hlt, (heap_setCell_other wr ⟨w.heap.size + 1, j, none⟩ w.heap.size _ (by simp)).trans Hlj.out, Hbj.out.setCell (p := ⟨w.heap.size + 1, j, none⟩) (by simp) _⟩
    · have f1 : wr.cell? ⟨F, 1, none⟩ = some (.slice a1 n1 m1) := (HF.out.block (hbj.block F lF)).c 1
      have f2 : wr.cell? ⟨F, 2, none⟩ = some (.slice none 0 0) := (HF.out.block (hbj.block F lF)).c 2
      have f5 : wr.cell? ⟨F, 5, none⟩ = some (.slice a5 n5 m5) := (HF.out.block (hbj.block F lF)).c 5
      have f6 : wr.cell? ⟨F, 6, none⟩ = some (.slice ia il ic) := (HF.out.block (hbj.block F lF)).c 6
      have f7 : wr.cell? ⟨F, 7, none⟩ = some (.bool ixd) := (HF.out.block (hbj.block F lF)).c 7
      have f9 : wr.cell? ⟨F, 9, none⟩ = some (.slice a9 n9 m9) := (HF.out.block (hbj.block F lF)).c 9
      have f12 : wr.cell? ⟨F, 12, none⟩ = some (.slice a12 n12 m12) := (HF.out.block (hbj.block F lF)).c 12
      have f11 : wr.cell? ⟨F, 11, none⟩ = some (.slice none 0 0) := (HF.out.block (hbj.block F lF)).c 11
      have f13 : wr.cell? ⟨F, 13, none⟩ = some (.slice a13 n13 m13) := (HF.out.block (hbj.block F lF)).c 13
      have f14 : wr.cell? ⟨F, 14, none⟩ = some (.slice a14 n14 m14) := (HF.out.block (hbj.block F lF)).c 14
      have f15 : wr.cell? ⟨F, 15, none⟩ = some (.slice none 0 0) := (HF.out.block (hbj.block F lF)).c 15
      have f16 : wr.cell? ⟨F, 16, none⟩ = some (.int .i64 0) := (HF.out.block (hbj.block F lF)).c 16
      have f17 : wr.cell? ⟨F, 17, none⟩ = some (.int .i64 0) := (HF.out.block (hbj.block F lF)).c 17
      have f18 : wr.cell? ⟨F, 18, none⟩ = some (.int .i64 0) := (HF.out.block (hbj.block F lF)).c 18
      have f19 : wr.cell? ⟨F, 19, none⟩ = some (.slice a19 n19 m19) := (HF.out.block (hbj.block F lF)).c 19
      have y0 : wr.cell? ⟨w.heap.size, 0, none⟩ = some (.slice none 0 0) := cell_of_row _ _ _ _ _ _ hlj
      have x0 := frozen_of_row wr w.heap.size 0 _ 46 hlj
      have y1 : wr.cell? ⟨w.heap.size, 1, none⟩ = some (.slice none 0 0) := cell_of_row _ _ _ _ _ _ hlj
      have x1 := frozen_of_row wr w.heap.size 1 _ 46 hlj
      have y2 : wr.cell? ⟨w.heap.size, 2, none⟩ = some (.slice none 0 0) := cell_of_row _ _ _ _ _ _ hlj
      have x2 := frozen_of_row wr w.heap.size 2 _ 46 hlj
      have y3 : wr.cell? ⟨w.heap.size, 3, none⟩ = some (.slice none 0 0) := cell_of_row _ _ _ _ _ _ hlj
      have x3 := frozen_of_row wr w.heap.size 3 _ 46 hlj
      have y4 : wr.cell? ⟨w.heap.size, 4, none⟩ = some (.bool false) := cell_of_row _ _ _ _ _ _ hlj
      have x4 := frozen_of_row wr w.heap.size 4 _ 46 hlj
      have y5 : wr.cell? ⟨w.heap.size, 5, none⟩ = some (.slice none 0 0) := cell_of_row _ _ _ _ _ _ hlj
      have x5 := frozen_of_row wr w.heap.size 5 _ 46 hlj
      have y6 : wr.cell? ⟨w.heap.size, 6, none⟩ = some (.slice none 0 0) := cell_of_row _ _ _ _ _ _ hlj
      have x6 := frozen_of_row wr w.heap.size 6 _ 46 hlj
      have y7 : wr.cell? ⟨w.heap.size, 7, none⟩ = some (.slice none 0 0) := cell_of_row _ _ _ _ _ _ hlj
      have x7 := frozen_of_row wr w.heap.size 7 _ 46 hlj
      have y8 : wr.cell? ⟨w.heap.size, 8, none⟩ = some (.int .i64 0) := cell_of_row _ _ _ _ _ _ hlj
      have x8 := frozen_of_row wr w.heap.size 8 _ 46 hlj
      have y9 : wr.cell? ⟨w.heap.size, 9, none⟩ = some (.slice none 0 0) := cell_of_row _ _ _ _ _ _ hlj
      have x9 := frozen_of_row wr w.heap.size 9 _ 46 hlj
      have y10 : wr.cell? ⟨w.heap.size, 10, none⟩ = some (.slice none 0 0) := cell_of_row _ _ _ _ _ _ hlj
      have x10 := frozen_of_row wr w.heap.size 10 _ 46 hlj
      have y11 : wr.cell? ⟨w.heap.size, 11, none⟩ = some (.slice none 0 0) := cell_of_row _ _ _ _ _ _ hlj
      have x11 := frozen_of_row wr w.heap.size 11 _ 46 hlj
      have y12 : wr.cell? ⟨w.heap.size, 12, none⟩ = some (.int .i64 0) := cell_of_row _ _ _ _ _ _ hlj
      have x12 := frozen_of_row wr w.heap.size 12 _ 46 hlj
      have y13 : wr.cell? ⟨w.heap.size, 13, none⟩ = some (.int .i64 0) := cell_of_row _ _ _ _ _ _ hlj
      have x13 := frozen_of_row wr w.heap.size 13 _ 46 hlj
      have y14 : wr.cell? ⟨w.heap.size, 14, none⟩ = some (.int .i64 0) := cell_of_row _ _ _ _ _ _ hlj
      have x14 := frozen_of_row wr w.heap.size 14 _ 46 hlj
      have y15 : wr.cell? ⟨w.heap.size, 15, none⟩ = some (.slice none 0 0) := cell_of_row _ _ _ _ _ _ hlj
      have x15 := frozen_of_row wr w.heap.size 15 _ 46 hlj
      have HPj := hid hPj
      have Hlj := hid hlj
      have Hbj := hid hbj
      have dF : w.heap.size ≠ F := by omega
      have dF' := dF.symm
      clear hPj hlj hbj
      go_wp2_with fail
      go_still_tail 63, mixed
      change wpList Try.prog _ _ _ _ wr.drew
      go_wp2
      refine bodyPost_ret (v := .agg #[.slice a1 n1 m1, nilV, .slice a5 n5 m5, .slice ia il ic, .bool ixd, .slice a9 n9 m9, .slice a12 n12 m12, .slice (some ⟨w.heap.size + 1, 0, none⟩) n4 n4, .int .i64 0, .slice a13 n13 m13, .slice a14 n14 m14, nilV, .int .i64 0, .int .i64 0, .int .i64 0, .slice a19 n19 m19]) (by simp [results, Try.results21, go_sem, y0, y1, y2, y3, y4, y5, y6, y7, y8, y9, y10, y11, y12, y13, y14, y15]) rfl ⟨⟨_, _, _, rfl⟩, ?_⟩
      refine Below.drew ?_
      refine Below.setCell (p := ⟨w.heap.size, 15, none⟩) ?_ (Nat.le_refl _) _
      refine Below.setCell (p := ⟨w.heap.size, 14, none⟩) ?_ (Nat.le_refl _) _
      refine Below.setCell (p := ⟨w.heap.size, 13, none⟩) ?_ (Nat.le_refl _) _
      refine Below.setCell (p := ⟨w.heap.size, 12, none⟩) ?_ (Nat.le_refl _) _
      refine Below.setCell (p := ⟨w.heap.size, 11, none⟩) ?_ (Nat.le_refl _) _
      refine Below.setCell (p := ⟨w.heap.size, 10, none⟩) ?_ (Nat.le_refl _) _
      refine Below.setCell (p := ⟨w.heap.size, 9, none⟩) ?_ (Nat.le_refl _) _
      refine Below.setCell (p := ⟨w.heap.size, 8, none⟩) ?_ (Nat.le_refl _) _
      refine Below.setCell (p := ⟨w.heap.size, 7, none⟩) ?_ (Nat.le_refl _) _
      refine Below.setCell (p := ⟨w.heap.size, 6, none⟩) ?_ (Nat.le_refl _) _
      refine Below.setCell (p := ⟨w.heap.size, 5, none⟩) ?_ (Nat.le_refl _) _
      refine Below.setCell (p := ⟨w.heap.size, 4, none⟩) ?_ (Nat.le_refl _) _
      refine Below.setCell (p := ⟨w.heap.size, 3, none⟩) ?_ (Nat.le_refl _) _
      refine Below.setCell (p := ⟨w.heap.size, 2, none⟩) ?_ (Nat.le_refl _) _
      refine Below.setCell (p := ⟨w.heap.size, 1, none⟩) ?_ (Nat.le_refl _) _
      refine Below.setCell (p := ⟨w.heap.size, 0, none⟩) ?_ (Nat.le_refl _) _
      exact Hbj.out
end Go.Proofs.Qxb6605223a
