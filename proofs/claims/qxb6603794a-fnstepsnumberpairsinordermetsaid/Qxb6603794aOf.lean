/-
  THE WALK OF '(*steps).of' (28).
-/
import Derived.Test.Qxb6603794aParts
import Derived.WalkSpells
import Derived.WalkLawsBesides
import Derived.Deep.LoopGhost
namespace Go.Proofs.Qxb6603794a
open Go.RowKit Go.Maps

theorem new_two (w : World) (x y : Value) (t : TypeId) : ∀ j u, [x, y][j]? = some u → (w.alloc (.cells #[x, y] t)).cell? ((⟨w.heap.size, 0, none⟩ : Addr).add j) = some u := by
  intro j u h
  rw [Addr.add_lit, Nat.zero_add, cell_of_row _ _ _ _ _ _ (Go.heap_alloc_new w _)]
  simpa using h

theorem of_hit {S nf v nf' : Nat} {F0 F1 : Nat → Int} {fv' mv : Value} {n a : Int} {cnt : Nat} {D : DataW Unit} {w wr : World} (hle : nf ≤ nf') (hlt : ¬ nf' ≤ v) (hnf : nf' ≤ 65537) (hfr : Fr S w wr) (hst : Stp S wr nf' F0 F1 fv' mv n) (hmp : Mp S wr mv cnt D)
    (h : (F0 v == wrap32 (a + 1)) = true) : OfPost S nf v F0 F1 mv n a cnt D w (.returned (.int .i32 (F1 v))) wr :=
  ⟨nf', fv', mv, hle, by omega, hnf, hfr, .inl ⟨by simpa using h, rfl, hst, hmp⟩⟩

theorem of_new {S nf v nf' g cap : Nat} {F0 F1 : Nat → Int} {mv : Value} {n a : Int} {cnt : Nat} {D : DataW Unit} {w wr : World} (hle : nf ≤ nf') (hlt : ¬ nf' ≤ v) (hnf : nf' ≤ 65537) (hfr : Fr S w wr) (hst : Stp S wr nf' F0 F1 (.slice (some ⟨g, 0, none⟩) nf' cap) mv n) (hmp : Mp S wr mv cnt D)
    (h : (F0 v == wrap32 (a + 1)) = false) (h0 : (F0 v == 0) = true) :
    OfPost S nf v F0 F1 mv n a cnt D w (.returned (.int .i32 n)) (((wr.setCell ⟨g, v * 2, none⟩ (.int .i32 (wrap32 (a + 1)))).setCell ⟨g, v * 2 + 1, none⟩ (.int .i32 n)).setCell ⟨S, 2, none⟩ (.int .i32 (n + 1))) := by
  obtain ⟨s1, r1, m1⟩ := hst.setF v (by omega) (wrap32 (a + 1)) n
  obtain ⟨s2, r2, m2⟩ := s1.setN (n + 1)
  exact ⟨nf', _, mv, hle, by omega, hnf, (hfr.trans r1).trans r2, .inr (.inl ⟨by simpa using h, by simpa using h0, rfl, s2, m2 _ _ _ (m1 _ _ hmp)⟩)⟩

theorem of_more {S nf v nf' : Nat} {F0 F1 : Nat → Int} {fv' mv : Value} {n a c : Int} {cnt bm : Nat} {D : DataW Unit} {w wr : World} (hle : nf ≤ nf') (hlt : ¬ nf' ≤ v) (hnf : nf' ≤ 65537) (hfr : Fr S w wr) (hst : Stp S wr nf' F0 F1 fv' (.map (some bm)) n)
    (hbm : S + 2 ≤ bm) (hown : wr.ownsMap Try.prog 35 (plainElem Try.prog 21) bm cnt D)
    (h : (F0 v == wrap32 (a + 1)) = false) (h0 : (F0 v == 0) = false) (hh : Maps.has D (kp a v) = true) (hc : D.atKey (kp a v) (.lit (.int .i32 0)) = .lit (.int .i32 c)) :
    OfPost S nf v F0 F1 mv n a cnt D w (.returned (.int .i32 c)) wr :=
  ⟨nf', fv', _, hle, by omega, hnf, hfr, .inr (.inr (.inl ⟨by simpa using h, by simpa using h0, hh, ⟨c, rfl, hc⟩, hst, .inr ⟨bm, rfl, hbm, hown⟩⟩))⟩

theorem of_put {S nf v nf' : Nat} {F0 F1 : Nat → Int} {fv' mv : Value} {n a : Int} {cnt bm : Nat} {D : DataW Unit} {w wr w1 : World} (hle : nf ≤ nf') (hlt : ¬ nf' ≤ v) (hnf : nf' ≤ 65537) (hfr : Fr S w wr) (hst : Stp S wr nf' F0 F1 fv' (.map (some bm)) n)
    (hbm : S + 2 ≤ bm) (hown : wr.ownsMap Try.prog 35 (plainElem Try.prog 21) bm cnt D)
    (h : (F0 v == wrap32 (a + 1)) = false) (h0 : (F0 v == 0) = false) (hh : Maps.has D (kp a v) = false)
    (hown1 : w1.ownsMap Try.prog 35 (plainElem Try.prog 21) bm (cnt + 1) (D.put (kp a v) (.lit (.int .i32 n)))) (hg : wr.grownBy w1 (some bm)) :
    OfPost S nf v F0 F1 mv n a cnt D w (.returned (.int .i32 n)) (w1.setCell ⟨S, 2, none⟩ (.int .i32 (n + 1))) := by
  obtain ⟨es, cl, he, _⟩ := hown
  obtain ⟨s1, r1⟩ := hst.kept hbm he hg
  obtain ⟨s2, r2, m2⟩ := s1.setN (n + 1)
  exact ⟨nf', _, _, hle, by omega, hnf, (hfr.trans r1).trans r2, .inr (.inr (.inr ⟨by simpa using h, by simpa using h0, hh, rfl, s2, m2 _ _ _ (.inr ⟨bm, rfl, hbm, hown1⟩)⟩))⟩

theorem c2_of {S nf : Nat} {F0 F1 : Nat → Int} {fv mv : Value} {n : Int} {w w1 : World} {bm cnt : Nat} {D : DataW Unit} (h : Stp S w nf F0 F1 fv mv n) (hbm : S + 2 ≤ bm) (hown : w.ownsMap Try.prog 35 (plainElem Try.prog 21) bm cnt D) (hg : w.grownBy w1 (some bm)) :
    w1.cell? ⟨S, 2, none⟩ = some (.int .i32 n) ∧ w1.frozen? ⟨S, 2, none⟩ = false := by
  obtain ⟨es, cl, he, _⟩ := hown
  exact ⟨(h.kept hbm he hg).1.c2, (h.kept hbm he hg).1.fz 2⟩

set_option maxHeartbeats 2000000 in
theorem of_any (S nf v : Nat) (F0 F1 : Nat → Int) (fv mv : Value) (n a : Int) (cnt : Nat) (D : DataW Unit) (w : World) (h : Stp S w nf F0 F1 fv mv n) (hm : Mp S w mv cnt D)
    (hz : ∀ j, nf ≤ j → F0 j = 0 ∧ F1 j = 0) (hv : v ≤ 65536) (hnf : nf ≤ 65537) (hn0 : 0 ≤ n) (hn1 : n ≤ 65536) (ha0 : -2147483648 ≤ a) (ha1 : a ≤ 2147483647) (hcnt : cnt ≤ 65536) :
    Calls Try.prog 28 #[.pointer (some ⟨S, 0, none⟩), .int .i32 a, .int .i32 v] w fun e w' => OfPost S nf v F0 F1 mv n a cnt D w e w' := by
  obtain ⟨i0, hi, hz0, hz1, hz2⟩ := info_parts info56
  have HZ : Hid (∀ j, nf ≤ j → F0 j = 0 ∧ F1 j = 0) := hz
  clear hz
  have hmm := @run_makeMap Try.prog
  have heq : ∀ (w : World) (r : Option Nat), (binOp .eql 34 (.map r) (.map none)).run Try.prog w = .ok (.bool r.isNone) w := fun w r => run_eql_map_nil w 34 35 21 r Try.underlying34
  have hkey : keyOf Try.prog 35 (.agg #[.int .i32 a, .int .i32 (v : Int)]) = some (kp a v) := key_pair (WalkArith.wf_i32 (by omega)) (WalkArith.wf_i32 (by omega))
  have HK : Hid (keyOf Try.prog 35 (.agg #[.int .i32 a, .int .i32 (v : Int)]) = some (kp a v)) := hkey
  clear hkey
  go_enter Try.func28, Try.ntmps28
  go_wp2
  go_loopg [17] (v + 1) (fun k _ wr => ∃ nf' fv', nf ≤ nf' ∧ v + 1 ≤ nf' + k ∧ nf' ≤ 65537 ∧ Stp S wr nf' F0 F1 fv' mv n ∧ Mp S wr mv cnt D ∧ Fr S w wr)
  case atStart => exact ⟨nf, fv, Nat.le_refl _, by omega, hnf, h, hm, Fr.refl _ _⟩
  case round =>
    obtain ⟨nf', fv', hle, hk, hnf', hst, hmp, hfr⟩ := hrel
    clear h hm
    have c0 := hst.c0
    have c1 := hst.c1
    have c2 := hst.c2
    have z0 := hst.fz 0
    have z1 := hst.fz 1
    have z2 := hst.fz 2
    have hS : S < wr.heap.size := lt_of_block hst.blk
    by_cases hlt : nf' ≤ v
    · have hrow := hst.row
      obtain ⟨ao, cap, rfl⟩ : ∃ ao cap, fv' = .slice ao nf' cap := by
        rcases hrow.2 with ⟨e, e0⟩ | ⟨g, cap, cur, e, _⟩
        · exact ⟨none, 0, by rw [e, e0]⟩
        · exact ⟨_, cap, e⟩
      have hsz : S + 2 ≤ wr.heap.size + 1 := by have := hst.two; omega
      have hne := hst.own_ne
      go_wp2_with (at_builtin; refine wpList_append_own _ rfl _ _ 49 rfl (S + 2) 56 i0 (.agg #[.int .i32 0, .int .i32 0]) 2 8 Try.underlying49 hi hz0 hz1 hz2 rfl (by decide) _ _ _ rfl (hrow.alloc _) ⟨wr.heap.size, 0, none⟩ 1 1 [.int .i32 0, .int .i32 0] rfl rfl ?c1 ?c2 ?c3 ?c4 ?c5 ?_)
      case c1 => exact new_two wr _ _ 56
      case c2 => intro u hu; simp at hu; subst hu; rfl
      case c3 => unfold maxLen; omega
      case c4 => omega
      case c5 => simp; omega
      · intro v' w1 hown' hgrow hnil
        obtain ⟨q0, qz⟩ := hst.after hgrow
        obtain ⟨g', cap', rfl⟩ : ∃ g' cap', v' = .slice (some ⟨g', 0, none⟩) (nf' + 1) cap' := by
          rcases hown'.2 with ⟨e, _⟩ | ⟨g, cap, cur, e, _⟩
          · exact absurd e hnil
          · exact ⟨g, cap, e⟩
        have R := hst.more (HZ.out nf' hle) hown' hgrow
        clear hown' hgrow hnil hrow hst c0 c1 c2
        go_wp2
        go_roundg (v - nf')
        case measure => omega
        case rel => exact ⟨nf' + 1, _, by omega, by omega, by omega, R.1, R.2.2 _ _ hmp, hfr.trans R.2.1⟩
    · obtain ⟨g, cap, cur, rfl, hg2, hgg⟩ := hst.shape (by omega)
      have hrow := hst.row
      have f0 : wr.cell? ⟨g, v * 2, none⟩ = some (.int .i32 (F0 v)) := by rw [hrow.cellAt (v * 2) (by omega)]; exact prs_get0 _ _ _ _ (by omega)
      have f1 : wr.cell? ⟨g, v * 2 + 1, none⟩ = some (.int .i32 (F1 v)) := by rw [hrow.cellAt (v * 2 + 1) (by omega)]; exact prs_get1 _ _ _ _ (by omega)
      have y0 := hrow.frozenAt (v * 2)
      have y1 := hrow.frozenAt (v * 2 + 1)
      clear hrow
      have hmp' := hmp
      rcases hmp with ⟨rfl, rfl⟩ | ⟨bm, rfl, hbm, hown⟩
      · have ca1 : ∀ o, (wr.alloc o).cell? ⟨S, 1, none⟩ = some (.map none) := fun o => (World.cell?_of_block (w := wr) (w' := wr.alloc o) (a := ⟨S, 1, none⟩) (Below.heap_alloc wr o S hS)).trans c1
        have za1 : ∀ o, (wr.alloc o).frozen? ⟨S, 1, none⟩ = false := fun o => (World.frozen?_of_block (w := wr) (w' := wr.alloc o) (a := ⟨S, 1, none⟩) (Below.heap_alloc wr o S hS)).trans z1
        have hsz : (wr.setCell ⟨S, 1, none⟩ (.map (some wr.heap.size))).heap.size = wr.heap.size := by simp [World.setCell]
        have hown2 : ((wr.setCell ⟨S, 1, none⟩ (.map (some wr.heap.size))).alloc (.map #[] 0)).ownsMap Try.prog 35 (plainElem (H := Unit) Try.prog 21) wr.heap.size 0 (.map []) := by
          have := World.ownsMap_made (H := Unit) (wr.setCell ⟨S, 1, none⟩ (.map (some wr.heap.size))) Try.prog 35 (plainElem Try.prog 21)
          rw [hsz] at this
          exact this
        clear hsz
        have hst2 := (hst.setM (.map (some wr.heap.size))).1.alloc (.map #[] 0)
        have hfr2 := (hfr.trans (hst.setM (.map (some wr.heap.size))).2).trans (Fr.alloc S _ (.map #[] 0))
        have htwo := hst.two
        have hno : Maps.has (H := Unit) (.map []) (kp a v) = false := rfl
        go_wp2_with (first
          | (at_lookup; refine wpList_lookup_own_ok_int _ rfl _ _ 34 rfl 35 21 .i32 law Try.underlying34 Try.underlying21 (zero21 _) wr.heap.size 0 (.map []) rfl hown2 _ _ rfl HK.out ?_; intro c hat hwc)
          | (at_mapUpdate; refine wpList_mapUpdate_own _ rfl _ _ _ 34 rfl 35 21 law Try.underlying34 _ wr.heap.size 0 _ rfl hown2 (by unfold maxLen; omega) _ _ _ rfl rfl HK.out _ [] (plainElem_int Try.underlying21 (WalkArith.wf_i32 (by omega))) ?_; intro w1 hown1 hgrow1; obtain ⟨c2', z2'⟩ := c2_of hst2 htwo hown2 hgrow1))
        · go_ret
          exact of_hit hle hlt hnf' hfr hst hmp' (by assumption)
        · go_ret
          exact of_new hle hlt hnf' hfr hst hmp' (by assumption) (by assumption)
        · go_ret
          exact of_put hle hlt hnf' hfr2 hst2 htwo (hown2.mono (Nat.zero_le cnt)) (by assumption) (by assumption) hno (hown1.mono (by omega)) hgrow1
      · by_cases hh : Maps.has D (kp a v) = true
        · go_wp2_with (first
            | (at_lookup; refine wpList_lookup_own_ok_int _ rfl _ _ 34 rfl 35 21 .i32 law Try.underlying34 Try.underlying21 (zero21 _) bm cnt D rfl hown _ _ rfl HK.out ?_; intro c hat hwc))
          · go_ret
            exact of_hit hle hlt hnf' hfr hst hmp' (by assumption)
          · go_ret
            exact of_new hle hlt hnf' hfr hst hmp' (by assumption) (by assumption)
          · go_ret
            exact of_more hle hlt hnf' hfr hst hbm hown (by assumption) (by assumption) hh hat
        · have hno : Maps.has D (kp a v) = false := by simpa using hh
          clear hh
          go_wp2_with (first
            | (at_lookup; refine wpList_lookup_own_ok_int _ rfl _ _ 34 rfl 35 21 .i32 law Try.underlying34 Try.underlying21 (zero21 _) bm cnt D rfl hown _ _ rfl HK.out ?_; intro c hat hwc)
            | (at_mapUpdate; refine wpList_mapUpdate_own _ rfl _ _ _ 34 rfl 35 21 law Try.underlying34 _ bm cnt _ rfl hown (by unfold maxLen; omega) _ _ _ rfl rfl HK.out _ [] (plainElem_int Try.underlying21 (WalkArith.wf_i32 (by omega))) ?_; intro w1 hown1 hgrow1; obtain ⟨c2', z2'⟩ := c2_of hst hbm hown hgrow1))
          · go_ret
            exact of_hit hle hlt hnf' hfr hst hmp' (by assumption)
          · go_ret
            exact of_new hle hlt hnf' hfr hst hmp' (by assumption) (by assumption)
          · go_ret
            exact of_put hle hlt hnf' hfr hst hbm hown (by assumption) (by assumption) hno hown1 hgrow1

end Go.Proofs.Qxb6603794a
