/-
  'skip' (25): a string of indefinite length.
-/
import Derived.Test.Qxb6000697aMap
namespace Go.Proofs.Qxb6000697a
open Go.RowKit

theorem chunk_end {R : Nat} {dv : Value} {w w3 : World} {off : Int} {ok : Bool} (h : Gone R dv w w3 off ok) (ob : Obj) : Fin R dv w ((w3.setCell ⟨R, 2, none⟩ (.bool false)).alloc ob) none :=
  ⟨_, (h.set2 false).alloc ob⟩

section
variable {R : Nat} {pa : Option Addr} {n cap : Nat} {D : Nat → Nat}

set_option maxHeartbeats 1000000 in
/-- A string of indefinite length, of type 2. -/
theorem skip_chunks2 (F : Fit n cap D) (a : Int) (o1 : Nat) (w : World) (o0 : Nat) (h : It R (.slice pa n cap) w o0 true) (hS : Seg pa n D w) (ho : o1 ≤ n)
    (hh : Calls Try.prog 28 #[.pointer (some ⟨R, 0, none⟩)] w fun e w' => e = .returned (.agg #[.int .u8 2, .int .u64 a, .bool true]) ∧ Gone R (.slice pa n cap) w w' o1 true) :
    Calls Try.prog 25 #[.pointer (some ⟨R, 0, none⟩)] w fun e w' => e = .returned (.tuple #[]) ∧ Fin R (.slice pa n cap) w w' (Pl.lp D n (Pl.chunkF D (be D) n 2) ⟨2, a, true⟩ (n + 1) 0 o1) := by
  have hA := Pl.chunkF_ahead (D := D) (arg := be D) n 2
  generalize hg : Pl.chunkF D (be D) n 2 = g at hA ⊢
  have HG1 := hid hg
  clear hg
  have H := hid hh
  have HF := hid F
  have HS := hid hS
  have H0 := hid h
  have HA := hid hA
  have hn := F.small
  clear hh F hS h hA
  go_enter Try.func25, Try.ntmps25
  go_wp2_with (go_at_call 28; refine H.out.mono ?_; rintro e w1 ⟨rfl, hg⟩)
  have L := LRel.start (g := g) (hd := ⟨2, a, true⟩) hg H0.out HS.out ho
  have hR1 := hg.it.lt
  generalize hT : Pl.lp D n g ⟨2, a, true⟩ (n + 1) 0 o1 = T at L
  have HT := hid hT
  clear hT
  go_loopg [3] (left n (some o1)) (fun gk i wr => ∃ (k : Nat) (s : Option Nat), i = .int .u64 (k : Int) ∧ gk = left n s ∧ (∀ o, s = some o → o1 ≤ o) ∧ LRel R pa n cap D g ⟨2, a, true⟩ w1.heap.size T w wr k s)
  case atStart => exact ⟨0, some o1, rfl, rfl, fun o e => by cases e; exact Nat.le_refl _, L⟩
  case round =>
    obtain ⟨k, s, rfl, hgk, hs1, L⟩ := hrel
    have HG := hid hgk
    have HS1 := hid hs1
    clear hgk hs1
    have q0 : wr.cell? ⟨w1.heap.size, 0, none⟩ = some (.int .u8 2) := by rw [cell_of_row _ _ _ _ _ _ L.box]; rfl
    have q1 : wr.cell? ⟨w1.heap.size, 1, none⟩ = some (.int .u64 a) := by rw [cell_of_row _ _ _ _ _ _ L.box]; rfl
    have q2 : wr.cell? ⟨w1.heap.size, 2, none⟩ = some (.bool true) := by rw [cell_of_row _ _ _ _ _ _ L.box]; rfl
    have hbk := L.bound
    cases s with
    | none =>
      obtain ⟨off, hgw⟩ := L.fin
      go_wp2_with (go_at_call 31; refine (more_none R _ wr off 2 a k true hgw.it).mono ?_; rintro e w2 ⟨rfl, hg2⟩)
      go_end0
      refine ⟨rfl, ?_⟩
      rw [HT.out, L.failed rfl]
      exact ⟨off, hgw.trans hg2⟩
    | some o =>
      obtain ⟨ho', hko, _⟩ := L.here o rfl
      have hgw : Gone R (.slice pa n cap) w wr (o : Int) true := L.fin
      cases hst : Pl.stopF D n ⟨2, a, true⟩ k o with
      | some o' =>
        have HST := hid hst
        clear hst
        go_wp2_with (go_at_call 31; refine (more_no HF.out hgw.it L.seg 2 HST.out).mono ?_; rintro e w2 ⟨rfl, hg2⟩)
        go_end0
        refine ⟨rfl, ?_⟩
        rw [HT.out, L.stop HST.out]
        exact hgw.trans hg2
      | none =>
        have HST := hid hst
        clear hst
        have Lc := L.cont HST.out
        have HLC := hid Lc
        clear Lc
        have hlt1 : w1.heap.size < wr.heap.size := lt_of_block L.box
        cases h1 : Pl.headF D (be D) n o with
        | none =>
          have E1 := hid h1
          clear h1
          have hgo : g o = none := by rw [← HG1.out]; simp [Pl.chunkF, E1.out]
          have HGO := hid hgo
          clear hgo
          go_wp2_with fail
          refine (more_yes hgw.it L.seg 2 HST.out).mono ?_
          rintro e w2 ⟨rfl, hg2⟩
          go_wp2_with fail
          refine (head_no HF.out hg2.it (L.seg.kept hgw.it hg2.grown) E1.out).mono ?_
          rintro e w3 ⟨rfl, off3, hg3⟩
          have hb3 := hg3.other (show w1.heap.size ≠ R by omega) (hg2.other (show w1.heap.size ≠ R by omega) L.box)
          have hlt3 := lt_of_block hb3
          have p0 : w3.cell? ⟨w1.heap.size, 0, none⟩ = some (.int .u8 2) := by rw [cell_of_row _ _ _ _ _ _ hb3]; rfl
          have u2 := hg3.it.c2
          have v2 := hg3.it.fz 2
          have hR3 := hg3.it.lt
          clear q0 q1 q2
          go_wp2_with fail
          refine bodyPost_ret (results_none rfl _ _ _) rfl ?_
          refine ⟨rfl, ?_⟩
          rw [HT.out, HLC.out.2 HGO.out]
          exact chunk_end (hgw.trans (hg2.trans hg3)) _
        | some p =>
          obtain ⟨hc, o2⟩ := p
          have E1 := hid h1
          have hof := Pl.headF_lt h1
          have hfc := head_facts HF.out h1
          clear h1
          have HFC := hid hfc
          clear hfc
          by_cases hok : hc.major = 2 ∧ hc.ind = false
          · obtain ⟨mm, ca, ci⟩ := hc
            obtain ⟨e1, e2⟩ := hok
            simp only at e1 e2
            subst e1 e2
            have hgo : g o = Pl.advF n o2 ca := by rw [← HG1.out]; simp [Pl.chunkF, E1.out]
            have HGO := hid hgo
            clear hgo
            go_wp2_with fail
            refine (more_yes hgw.it L.seg 2 HST.out).mono ?_
            rintro e w2 ⟨rfl, hg2⟩
            go_wp2_with fail
            refine (head_yes HF.out hg2.it (L.seg.kept hgw.it hg2.grown) E1.out).mono ?_
            rintro e w3 ⟨rfl, hg3⟩
            have hb3 := hg3.other (show w1.heap.size ≠ R by omega) (hg2.other (show w1.heap.size ≠ R by omega) L.box)
            have hlt3 := lt_of_block hb3
            have p0 : w3.cell? ⟨w1.heap.size, 0, none⟩ = some (.int .u8 2) := by rw [cell_of_row _ _ _ _ _ _ hb3]; rfl
            clear q0 q1 q2
            go_wp2_with fail
            cases ea : Pl.advF n o2 ca with
            | none =>
              refine (adv_fail HF.out (hg3.alloc _).it hof.2 ea).mono ?_
              rintro e w4 ⟨rfl, off4, hg4⟩
              have HGN := hid (HGO.out.trans ea)
              clear ea
              go_wp2_with fail
              have L' := L.next HST.out HA.out (by omega) hg2 (w3 := w4) (by rw [HGN.out]; exact ⟨off4, (hg3.alloc _).trans hg4⟩)
              go_roundg (left n (g o))
              case measure => rw [HG.out]; exact left_next HA.out ho'
              case rel => exact ⟨k + 1, g o, by go_num, rfl, fun o' e => (by rw [HGN.out] at e; cases e), L'⟩
            | some o3 =>
              refine (adv_some HF.out (hg3.alloc _).it hof.2 HFC.out.2.1 ea).mono ?_
              rintro e w4 ⟨rfl, hg4⟩
              have HGN := hid (HGO.out.trans ea)
              clear ea
              go_wp2_with fail
              have L' := L.next HST.out HA.out (by omega) hg2 (w3 := w4) (by rw [HGN.out]; exact (hg3.alloc _).trans hg4)
              go_roundg (left n (g o))
              case measure => rw [HG.out]; exact left_next HA.out ho'
              case rel => exact ⟨k + 1, g o, by go_num, rfl, fun o' e => by have := HA.out o o' e; have := HS1.out o rfl; omega, L'⟩
          · have hgo : g o = none := by rw [← HG1.out]; simp only [Pl.chunkF, E1.out]; rw [if_neg hok]
            have HGO := hid hgo
            clear hgo
            obtain ⟨mm, ca, ci⟩ := hc
            by_cases hmm : mm = 2
            · subst hmm
              have hci : ci = true := by
                cases ci
                · exact absurd ⟨rfl, rfl⟩ hok
                · rfl
              subst hci
              clear hok
              go_wp2_with fail
              refine (more_yes hgw.it L.seg 2 HST.out).mono ?_
              rintro e w2 ⟨rfl, hg2⟩
              go_wp2_with fail
              refine (head_yes HF.out hg2.it (L.seg.kept hgw.it hg2.grown) E1.out).mono ?_
              rintro e w3 ⟨rfl, hg3⟩
              have hb3 := hg3.other (show w1.heap.size ≠ R by omega) (hg2.other (show w1.heap.size ≠ R by omega) L.box)
              have hlt3 := lt_of_block hb3
              have p0 : w3.cell? ⟨w1.heap.size, 0, none⟩ = some (.int .u8 2) := by rw [cell_of_row _ _ _ _ _ _ hb3]; rfl
              have u2 := hg3.it.c2
              have v2 := hg3.it.fz 2
              have hR3 := hg3.it.lt
              clear q0 q1 q2
              go_wp2_with fail
              refine bodyPost_ret (results_none rfl _ _ _) rfl ?_
              refine ⟨rfl, ?_⟩
              rw [HT.out, HLC.out.2 HGO.out]
              exact chunk_end (hgw.trans (hg2.trans hg3)) _
            · have hne2 : ((mm : Int) != 2) = true := by rw [bne_iff_ne]; omega
              have HOK := hid hok
              clear hok hmm
              go_wp2_with fail
              refine (more_yes hgw.it L.seg 2 HST.out).mono ?_
              rintro e w2 ⟨rfl, hg2⟩
              go_wp2_with fail
              refine (head_yes HF.out hg2.it (L.seg.kept hgw.it hg2.grown) E1.out).mono ?_
              rintro e w3 ⟨rfl, hg3⟩
              have hb3 := hg3.other (show w1.heap.size ≠ R by omega) (hg2.other (show w1.heap.size ≠ R by omega) L.box)
              have hlt3 := lt_of_block hb3
              have p0 : w3.cell? ⟨w1.heap.size, 0, none⟩ = some (.int .u8 2) := by rw [cell_of_row _ _ _ _ _ _ hb3]; rfl
              have u2 := hg3.it.c2
              have v2 := hg3.it.fz 2
              have hR3 := hg3.it.lt
              clear q0 q1 q2
              go_wp2_with fail
              refine bodyPost_ret (results_none rfl _ _ _) rfl ?_
              refine ⟨rfl, ?_⟩
              rw [HT.out, HLC.out.2 HGO.out]
              exact chunk_end (hgw.trans (hg2.trans hg3)) _

set_option maxHeartbeats 1000000 in
/-- A string of indefinite length, of type 3. -/
theorem skip_chunks3 (F : Fit n cap D) (a : Int) (o1 : Nat) (w : World) (o0 : Nat) (h : It R (.slice pa n cap) w o0 true) (hS : Seg pa n D w) (ho : o1 ≤ n)
    (hh : Calls Try.prog 28 #[.pointer (some ⟨R, 0, none⟩)] w fun e w' => e = .returned (.agg #[.int .u8 3, .int .u64 a, .bool true]) ∧ Gone R (.slice pa n cap) w w' o1 true) :
    Calls Try.prog 25 #[.pointer (some ⟨R, 0, none⟩)] w fun e w' => e = .returned (.tuple #[]) ∧ Fin R (.slice pa n cap) w w' (Pl.lp D n (Pl.chunkF D (be D) n 3) ⟨3, a, true⟩ (n + 1) 0 o1) := by
  have hA := Pl.chunkF_ahead (D := D) (arg := be D) n 3
  generalize hg : Pl.chunkF D (be D) n 3 = g at hA ⊢
  have HG1 := hid hg
  clear hg
  have H := hid hh
  have HF := hid F
  have HS := hid hS
  have H0 := hid h
  have HA := hid hA
  have hn := F.small
  clear hh F hS h hA
  go_enter Try.func25, Try.ntmps25
  go_wp2_with (go_at_call 28; refine H.out.mono ?_; rintro e w1 ⟨rfl, hg⟩)
  have L := LRel.start (g := g) (hd := ⟨3, a, true⟩) hg H0.out HS.out ho
  have hR1 := hg.it.lt
  generalize hT : Pl.lp D n g ⟨3, a, true⟩ (n + 1) 0 o1 = T at L
  have HT := hid hT
  clear hT
  go_loopg [3] (left n (some o1)) (fun gk i wr => ∃ (k : Nat) (s : Option Nat), i = .int .u64 (k : Int) ∧ gk = left n s ∧ (∀ o, s = some o → o1 ≤ o) ∧ LRel R pa n cap D g ⟨3, a, true⟩ w1.heap.size T w wr k s)
  case atStart => exact ⟨0, some o1, rfl, rfl, fun o e => by cases e; exact Nat.le_refl _, L⟩
  case round =>
    obtain ⟨k, s, rfl, hgk, hs1, L⟩ := hrel
    have HG := hid hgk
    have HS1 := hid hs1
    clear hgk hs1
    have q0 : wr.cell? ⟨w1.heap.size, 0, none⟩ = some (.int .u8 3) := by rw [cell_of_row _ _ _ _ _ _ L.box]; rfl
    have q1 : wr.cell? ⟨w1.heap.size, 1, none⟩ = some (.int .u64 a) := by rw [cell_of_row _ _ _ _ _ _ L.box]; rfl
    have q2 : wr.cell? ⟨w1.heap.size, 2, none⟩ = some (.bool true) := by rw [cell_of_row _ _ _ _ _ _ L.box]; rfl
    have hbk := L.bound
    cases s with
    | none =>
      obtain ⟨off, hgw⟩ := L.fin
      go_wp2_with (go_at_call 31; refine (more_none R _ wr off 3 a k true hgw.it).mono ?_; rintro e w2 ⟨rfl, hg2⟩)
      go_end0
      refine ⟨rfl, ?_⟩
      rw [HT.out, L.failed rfl]
      exact ⟨off, hgw.trans hg2⟩
    | some o =>
      obtain ⟨ho', hko, _⟩ := L.here o rfl
      have hgw : Gone R (.slice pa n cap) w wr (o : Int) true := L.fin
      cases hst : Pl.stopF D n ⟨3, a, true⟩ k o with
      | some o' =>
        have HST := hid hst
        clear hst
        go_wp2_with (go_at_call 31; refine (more_no HF.out hgw.it L.seg 3 HST.out).mono ?_; rintro e w2 ⟨rfl, hg2⟩)
        go_end0
        refine ⟨rfl, ?_⟩
        rw [HT.out, L.stop HST.out]
        exact hgw.trans hg2
      | none =>
        have HST := hid hst
        clear hst
        have Lc := L.cont HST.out
        have HLC := hid Lc
        clear Lc
        have hlt1 : w1.heap.size < wr.heap.size := lt_of_block L.box
        cases h1 : Pl.headF D (be D) n o with
        | none =>
          have E1 := hid h1
          clear h1
          have hgo : g o = none := by rw [← HG1.out]; simp [Pl.chunkF, E1.out]
          have HGO := hid hgo
          clear hgo
          go_wp2_with fail
          refine (more_yes hgw.it L.seg 3 HST.out).mono ?_
          rintro e w2 ⟨rfl, hg2⟩
          go_wp2_with fail
          refine (head_no HF.out hg2.it (L.seg.kept hgw.it hg2.grown) E1.out).mono ?_
          rintro e w3 ⟨rfl, off3, hg3⟩
          have hb3 := hg3.other (show w1.heap.size ≠ R by omega) (hg2.other (show w1.heap.size ≠ R by omega) L.box)
          have hlt3 := lt_of_block hb3
          have p0 : w3.cell? ⟨w1.heap.size, 0, none⟩ = some (.int .u8 3) := by rw [cell_of_row _ _ _ _ _ _ hb3]; rfl
          have u2 := hg3.it.c2
          have v2 := hg3.it.fz 2
          have hR3 := hg3.it.lt
          clear q0 q1 q2
          go_wp2_with fail
          refine bodyPost_ret (results_none rfl _ _ _) rfl ?_
          refine ⟨rfl, ?_⟩
          rw [HT.out, HLC.out.2 HGO.out]
          exact chunk_end (hgw.trans (hg2.trans hg3)) _
        | some p =>
          obtain ⟨hc, o2⟩ := p
          have E1 := hid h1
          have hof := Pl.headF_lt h1
          have hfc := head_facts HF.out h1
          clear h1
          have HFC := hid hfc
          clear hfc
          by_cases hok : hc.major = 3 ∧ hc.ind = false
          · obtain ⟨mm, ca, ci⟩ := hc
            obtain ⟨e1, e2⟩ := hok
            simp only at e1 e2
            subst e1 e2
            have hgo : g o = Pl.advF n o2 ca := by rw [← HG1.out]; simp [Pl.chunkF, E1.out]
            have HGO := hid hgo
            clear hgo
            go_wp2_with fail
            refine (more_yes hgw.it L.seg 3 HST.out).mono ?_
            rintro e w2 ⟨rfl, hg2⟩
            go_wp2_with fail
            refine (head_yes HF.out hg2.it (L.seg.kept hgw.it hg2.grown) E1.out).mono ?_
            rintro e w3 ⟨rfl, hg3⟩
            have hb3 := hg3.other (show w1.heap.size ≠ R by omega) (hg2.other (show w1.heap.size ≠ R by omega) L.box)
            have hlt3 := lt_of_block hb3
            have p0 : w3.cell? ⟨w1.heap.size, 0, none⟩ = some (.int .u8 3) := by rw [cell_of_row _ _ _ _ _ _ hb3]; rfl
            clear q0 q1 q2
            go_wp2_with fail
            cases ea : Pl.advF n o2 ca with
            | none =>
              refine (adv_fail HF.out (hg3.alloc _).it hof.2 ea).mono ?_
              rintro e w4 ⟨rfl, off4, hg4⟩
              have HGN := hid (HGO.out.trans ea)
              clear ea
              go_wp2_with fail
              have L' := L.next HST.out HA.out (by omega) hg2 (w3 := w4) (by rw [HGN.out]; exact ⟨off4, (hg3.alloc _).trans hg4⟩)
              go_roundg (left n (g o))
              case measure => rw [HG.out]; exact left_next HA.out ho'
              case rel => exact ⟨k + 1, g o, by go_num, rfl, fun o' e => (by rw [HGN.out] at e; cases e), L'⟩
            | some o3 =>
              refine (adv_some HF.out (hg3.alloc _).it hof.2 HFC.out.2.1 ea).mono ?_
              rintro e w4 ⟨rfl, hg4⟩
              have HGN := hid (HGO.out.trans ea)
              clear ea
              go_wp2_with fail
              have L' := L.next HST.out HA.out (by omega) hg2 (w3 := w4) (by rw [HGN.out]; exact (hg3.alloc _).trans hg4)
              go_roundg (left n (g o))
              case measure => rw [HG.out]; exact left_next HA.out ho'
              case rel => exact ⟨k + 1, g o, by go_num, rfl, fun o' e => by have := HA.out o o' e; have := HS1.out o rfl; omega, L'⟩
          · have hgo : g o = none := by rw [← HG1.out]; simp only [Pl.chunkF, E1.out]; rw [if_neg hok]
            have HGO := hid hgo
            clear hgo
            obtain ⟨mm, ca, ci⟩ := hc
            by_cases hmm : mm = 3
            · subst hmm
              have hci : ci = true := by
                cases ci
                · exact absurd ⟨rfl, rfl⟩ hok
                · rfl
              subst hci
              clear hok
              go_wp2_with fail
              refine (more_yes hgw.it L.seg 3 HST.out).mono ?_
              rintro e w2 ⟨rfl, hg2⟩
              go_wp2_with fail
              refine (head_yes HF.out hg2.it (L.seg.kept hgw.it hg2.grown) E1.out).mono ?_
              rintro e w3 ⟨rfl, hg3⟩
              have hb3 := hg3.other (show w1.heap.size ≠ R by omega) (hg2.other (show w1.heap.size ≠ R by omega) L.box)
              have hlt3 := lt_of_block hb3
              have p0 : w3.cell? ⟨w1.heap.size, 0, none⟩ = some (.int .u8 3) := by rw [cell_of_row _ _ _ _ _ _ hb3]; rfl
              have u2 := hg3.it.c2
              have v2 := hg3.it.fz 2
              have hR3 := hg3.it.lt
              clear q0 q1 q2
              go_wp2_with fail
              refine bodyPost_ret (results_none rfl _ _ _) rfl ?_
              refine ⟨rfl, ?_⟩
              rw [HT.out, HLC.out.2 HGO.out]
              exact chunk_end (hgw.trans (hg2.trans hg3)) _
            · have hne2 : ((mm : Int) != 3) = true := by rw [bne_iff_ne]; omega
              have HOK := hid hok
              clear hok hmm
              go_wp2_with fail
              refine (more_yes hgw.it L.seg 3 HST.out).mono ?_
              rintro e w2 ⟨rfl, hg2⟩
              go_wp2_with fail
              refine (head_yes HF.out hg2.it (L.seg.kept hgw.it hg2.grown) E1.out).mono ?_
              rintro e w3 ⟨rfl, hg3⟩
              have hb3 := hg3.other (show w1.heap.size ≠ R by omega) (hg2.other (show w1.heap.size ≠ R by omega) L.box)
              have hlt3 := lt_of_block hb3
              have p0 : w3.cell? ⟨w1.heap.size, 0, none⟩ = some (.int .u8 3) := by rw [cell_of_row _ _ _ _ _ _ hb3]; rfl
              have u2 := hg3.it.c2
              have v2 := hg3.it.fz 2
              have hR3 := hg3.it.lt
              clear q0 q1 q2
              go_wp2_with fail
              refine bodyPost_ret (results_none rfl _ _ _) rfl ?_
              refine ⟨rfl, ?_⟩
              rw [HT.out, HLC.out.2 HGO.out]
              exact chunk_end (hgw.trans (hg2.trans hg3)) _

end
end Go.Proofs.Qxb6000697a
