/-
  THE WALK OF THE LAW (5): 'FnStepsNumberPairsInOrderMet'.
-/
import Derived.Test.Qxb6603794aLaw
namespace Go.Proofs.Qxb6603794a
open Go.RowKit Go.Maps

theorem rel_start {N len : Nat} {A V : Nat → Int} {w w1 : World} (hrow : 0 < len → w1.heap[N]? = some (.cells (prs len A V).toArray 35 (0, 0))) (hb : Below w.heap.size w w1) :
    Rel w1.heap.size N len A V w ((w1.alloc (.cells #[.slice none 0 0, .map none, .int .i32 0] 51)).alloc (.map #[] 0)) 0 [] := by
  refine ⟨Nat.le_refl _, fun p hp => by simp at hp, Inv.fresh w1 _, ⟨.map [], 0, ?_, MapIs.empty (fun x => by simp [fS]), Nat.le_refl _⟩, fun hl => ?_, (hb.alloc hb.size _).alloc (by have := hb.size; simp; omega) _⟩
  · have := World.ownsMap_made (H := Unit) (w1.alloc (.cells #[.slice none 0 0, .map none, .int .i32 0] 51)) Try.prog 35 (plainElem Try.prog 21)
    have e : (w1.alloc (.cells #[.slice none 0 0, .map none, .int .i32 0] 51)).heap.size = w1.heap.size + 1 := by simp
    rw [e] at this
    exact this
  · have h := lt_of_block (hrow hl)
    rw [Below.heap_alloc _ _ _ (by simp; omega), Below.heap_alloc _ _ _ h]
    exact hrow hl

theorem Rel.cell0 {S N len : Nat} {A V : Nat → Int} {w wr : World} {k : Nat} {ps : List (Int × Int)} (h : Rel S N len A V w wr k ps) (hk : k < len) : wr.cell? ⟨N, k * 2, none⟩ = some (.int .i32 (A k)) := by
  rw [cell_of_row wr N (k * 2) _ 35 _ (h.row (by omega))]
  simpa using prs_get0 len A V k hk
theorem Rel.cell1 {S N len : Nat} {A V : Nat → Int} {w wr : World} {k : Nat} {ps : List (Int × Int)} (h : Rel S N len A V w wr k ps) (hk : k < len) : wr.cell? ⟨N, k * 2 + 1, none⟩ = some (.int .i32 (V k)) := by
  rw [cell_of_row wr N (k * 2 + 1) _ 35 _ (h.row (by omega))]
  simpa using prs_get1 len A V k hk

/-- The box of the round's pair is as it was. -/
theorem box_of {S : Nat} {wr w2 : World} {x y : Value} (h : Fr S (wr.alloc (.cells #[x, y] 35)) w2) : w2.cell? ⟨wr.heap.size, 0, none⟩ = some x ∧ w2.cell? ⟨wr.heap.size, 1, none⟩ = some y := by
  have hb := h.box _ _ _ (Go.heap_alloc_new wr (.cells #[x, y] 35))
  exact ⟨by simp [World.cell?, hb], by simp [World.cell?, hb]⟩

theorem rel_old {S N len : Nat} {A V : Nat → Int} {w wr w2 : World} {k : Nat} {ps : List (Int × Int)} {x y : Value} {D : DataW Unit} {cnt : Nat} (h : Rel S N len A V w wr k ps) (hS : w.heap.size ≤ S)
    (hown : w2.ownsMap Try.prog 35 (plainElem Try.prog 21) (S + 1) cnt D) (hmi : MapIs D (fS ps)) (hcnt : cnt ≤ k) (hinv : Inv S w2 ps) (hfr : Fr S (wr.alloc (.cells #[x, y] 35)) w2) : Rel S N len A V w w2 (k + 1) ps := by
  have h2 := h.inv.two
  have hb := h.below
  refine ⟨Nat.le_succ_of_le h.le, h.ok, hinv, ⟨D, cnt, hown, hmi, by omega⟩, fun hl => ?_, Fr.below (hb.alloc hb.size _) hfr hS (by simp; omega)⟩
  have hr := h.row hl
  exact hfr.box _ _ _ (by rw [Below.heap_alloc _ _ _ (lt_of_block hr)]; exact hr)

theorem rel_new {S N len : Nat} {A V : Nat → Int} {w wr w2 w3 : World} {k : Nat} {ps : List (Int × Int)} {x y : Value} {D : DataW Unit} {cnt : Nat} {a : Int} {v : Nat} (h : Rel S N len A V w wr k ps) (hS : w.heap.size ≤ S)
    (wa : wf32 a) (ha : a ≠ -1) (hv : v ≤ 65536) (hp : (a, (v : Int)) ∉ ps)
    (hown : w3.ownsMap Try.prog 35 (plainElem Try.prog 21) (S + 1) (cnt + 1) (D.put (kp a v) (.lit (.int .i32 (ps.length : Int))))) (hD : IsMap D) (hmi : MapIs D (fS ps)) (hcnt : cnt ≤ k) (hinv : Inv S w2 (ps ++ [(a, (v : Int))]))
    (hfr : Fr S (wr.alloc (.cells #[x, y] 35)) w2) (hg : w2.grownBy w3 (some (S + 1))) : Rel S N len A V w w3 (k + 1) (ps ++ [(a, (v : Int))]) := by
  have h2 := h.inv.two
  have hb := h.below
  have hb2 := Fr.below (hb.alloc hb.size (.cells #[x, y] 35)) hfr hS (by simp; omega)
  refine ⟨by have := h.le; simp; omega, fun p hpp => ?_, hinv.kept hg, ⟨_, cnt + 1, hown, hmi.put hD wa ⟨by omega, by omega⟩ (fun x hx => fS_other hx) (fS_new hp), by omega⟩, fun hl => ?_,
    hb2.grown hg hb2.size (fun k e => by simp at e; omega)⟩
  · rcases List.mem_append.1 hpp with hpp | hpp
    · exact h.ok p hpp
    · simp at hpp
      subst hpp
      exact ⟨wa, ha, by omega, by omega⟩
  · have hr := h.row hl
    have hr2 := hfr.box _ _ _ (show (wr.alloc (.cells #[x, y] 35)).heap[N]? = some (.cells (prs len A V).toArray 35 (0, 0)) by rw [Below.heap_alloc _ _ _ (lt_of_block hr)]; exact hr)
    rw [hg.block N (lt_of_block hr2) (by
      have hN : N ≠ S + 1 := fun e => by
        obtain ⟨D', c', ⟨es, cl, he, _⟩, _⟩ := h.seen
        rw [← e, hr] at he
        cases he
      simpa using hN)]
    exact hr2

theorem hid {p : Prop} (h : p) : Hid p := h

set_option maxHeartbeats 1000000 in
theorem law_main (ao : Option Addr) (len cap : Nat) (A V : Nat → Int) (w : World) (hl : len ≤ 65536)
    (hbytes : Calls Try.prog 14 #[.slice ao len cap] w fun e w' => e = .returned (.bool true) ∧ w = w')
    (hfit : Calls Try.prog 15 #[.slice ao len cap] w fun e w' => e = .returned (.bool true) ∧ w = w')
    (pa : Option Addr) (N : Nat) (hpa : 0 < len → pa = some ⟨N, 0, none⟩)
    (hclone : Calls Try.prog 16 #[.slice ao len cap] w fun e w' => e = .returned (.slice pa len len) ∧ (0 < len → w'.heap[N]? = some (.cells (prs len A V).toArray 35 (0, 0))) ∧ Below w.heap.size w w')
    (hf : ∀ i, i < len → fitB (A i) (V i) = true) (hwf : ∀ i, i < len → wf32 (A i) ∧ wf32 (V i)) :
    Calls Try.prog 5 #[.slice ao len cap] w fun e w' => e = .returned (.bool true) ∧ Below w.heap.size w w' := by
  have H1 := hid hbytes
  have H2 := hid hfit
  have H3 := hid hclone
  have HF := hid hf
  have HW := hid hwf
  have HP := hid hpa
  clear hbytes hfit hclone hf hwf hpa
  have hd : decide ((65536 : Int) < (len : Int)) = false := decide_eq_false (by omega)
  have hmm := @run_makeMap Try.prog
  go_enter Try.func5, Try.ntmps5
  go_wp2_with (first
    | (go_at_call 14; refine H1.out.mono ?_; rintro e w' ⟨rfl, rfl⟩)
    | (go_at_call 15; refine H2.out.mono ?_; rintro e w' ⟨rfl, rfl⟩)
    | (go_at_call 16; refine H3.out.mono ?_; rintro e w1 ⟨rfl, hrow1, hb1⟩)
    | (go_at_call 17; refine (new_any _).mono ?_; rintro e w' ⟨rfl, rfl⟩))
  have hS : w.heap.size ≤ w1.heap.size := hb1.size
  have hstart : Rel w1.heap.size N len A V w ((w1.alloc (.cells #[.slice none 0 0, .map none, .int .i32 0] 51)).alloc (.map #[] 0)) 0 [] := rel_start hrow1 hb1
  go_loopw [5, 6] (fun nx i wr => ∃ (k : Nat) (ps : List (Int × Int)), k ≤ len ∧ i = .int .i64 k ∧ nx = .int .i32 (ps.length : Int) ∧ Rel w1.heap.size N len A V w wr k ps) (fun _ i _ => len - (intOf i).toNat)
  case atStart => exact ⟨0, [], Nat.zero_le _, rfl, rfl, hstart⟩
  case round =>
    obtain ⟨k, ps, hk, rfl, rfl, hr⟩ := hrel
    clear hstart hrow1 hb1
    by_cases hlt : k < len
    · obtain rfl := HP.out (by omega)
      have x0 : wr.cell? ⟨N, k * 2, none⟩ = some (.int .i32 (A k)) := hr.cell0 hlt
      have x1 : wr.cell? ⟨N, k * 2 + 1, none⟩ = some (.int .i32 (V k)) := hr.cell1 hlt
      obtain ⟨wa, wv⟩ := HW.out k hlt
      obtain ⟨v, hva⟩ : ∃ v : Nat, V k = (v : Int) := by
        have := HF.out k hlt
        simp [fitB] at this
        exact ⟨(V k).toNat, by omega⟩
      have hfit : A k ≠ -1 ∧ v ≤ 65536 := by
        have := HF.out k hlt
        simp [fitB] at this
        exact ⟨by omega, by omega⟩
      rw [hva] at x1 wv
      have HV := hid hva
      clear hva
      have hkey := hid (key_pair (wf32_lit wa) (wf32_lit wv))
      obtain ⟨D, cnt, hown, hmi, hcnt⟩ := hr.seen
      have hle := hr.le
      have hmis := hmi (A k) v wa wv
      by_cases hp : (A k, (v : Int)) ∈ ps
      · have hs : fS ps (A k, (v : Int)) = some (ps.idxOf (A k, (v : Int)) : Int) := by simp [fS, hp]
        have Q1 := hid (hmis.2 _ hs)
        have Q2 : Hid (Maps.has D (kp (A k) v) = true) := by rw [hs] at hmis; exact hmis.1
        have QF := hid hfit
        have Q3 := hid hp
        have QM := hid hmi
        clear hmis hs hmi hfit hp
        go_wp2_with (first
          | (go_at_call 18; refine (of_old _ ps (A k) v _ (hr.inv.alloc _) hr.ok (by omega) wa QF.out.1 QF.out.2 Q3.out).mono ?_; rintro e w2 ⟨rfl, hinv2, hfr2⟩; obtain ⟨b0, b1⟩ := box_of hfr2; have hown2 := hfr2.owns (hown.alloc _))
          | (at_lookup; refine wpList_lookup_known _ rfl _ _ 34 rfl 35 21 .i32 law Try.underlying34 Try.underlying21 (zero21 _) _ cnt D rfl hown2 _ _ rfl hkey.out _ true Q1.out Q2.out ?_))
        have R := rel_old hr hS hown2 QM.out hcnt hinv2 hfr2
        go_roundw
        case rel => exact ⟨k + 1, ps, by omega, by go_num, rfl, R⟩
        case measure => simp [intOf]; omega
      · have hs : fS ps (A k, (v : Int)) = none := by simp [fS, hp]
        have Q2 : Hid (Maps.has D (kp (A k) v) = false) := by rw [hs] at hmis; exact hmis.1
        have Q1 := hid (atKey_of_not_has Q2.out (.lit (.int .i32 0)))
        have QF := hid hfit
        have Q3 := hid hp
        have QM := hid hmi
        clear hmis hs hmi hfit hp
        go_wp2_with (first
          | (go_at_call 18; refine (of_fresh _ ps (A k) v _ (hr.inv.alloc _) hr.ok (by omega) wa QF.out.1 QF.out.2 Q3.out).mono ?_; rintro e w2 ⟨rfl, hinv2, hfr2⟩; obtain ⟨b0, b1⟩ := box_of hfr2; have hown2 := hfr2.owns (hown.alloc _))
          | (at_lookup; refine wpList_lookup_known _ rfl _ _ 34 rfl 35 21 .i32 law Try.underlying34 Try.underlying21 (zero21 _) _ cnt D rfl hown2 _ _ rfl hkey.out 0 false Q1.out Q2.out ?_)
          | (at_mapUpdate; refine wpList_mapUpdate_own _ rfl _ _ _ 34 rfl 35 21 law Try.underlying34 _ _ cnt _ rfl hown2 (by unfold maxLen; omega) _ _ _ rfl rfl hkey.out _ [] (plainElem_int Try.underlying21 (WalkArith.wf_i32 (by omega))) ?_; intro w3 hown3 hgrow3))
        have R := rel_new hr hS wa QF.out.1 QF.out.2 Q3.out hown3 hown.isMap QM.out hcnt hinv2 hfr2 hgrow3
        go_roundw
        case rel => exact ⟨k + 1, ps ++ [(A k, (v : Int))], by omega, by go_num, by simp, R⟩
        case measure => simp [intOf]; omega
    · have c2 := hr.inv.c2
      go_wp2_with (first
        | (go_at_call 19; refine (n_any _ _ _ c2).mono ?_; rintro e w' ⟨rfl, hw⟩; obtain rfl := hw.symm))
      go_ret
      exact ⟨rfl, hr.below⟩

end Go.Proofs.Qxb6603794a
