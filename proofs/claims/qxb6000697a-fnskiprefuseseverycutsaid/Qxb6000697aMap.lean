/-
  'skip' (25): a map; a string of indefinite length; a tag; and all of it.
-/
import Derived.Test.Qxb6000697aLoops
namespace Go.Proofs.Qxb6000697a
open Go.RowKit

section
variable {R : Nat} {pa : Option Addr} {n cap : Nat} {D : Nat → Nat}

/-- A tag. -/
theorem skip_tag (a : Int) (t : Bool) (o1 : Nat) (w : World) (o0 : Nat) (h : It R (.slice pa n cap) w o0 true) (hS : Seg pa n D w) (g : Nat → Option Nat)
    (ih : ∀ (w : World), It R (.slice pa n cap) w o1 true → Seg pa n D w → Calls Try.prog 25 #[.pointer (some ⟨R, 0, none⟩)] w fun e w' => e = .returned (.tuple #[]) ∧ Fin R (.slice pa n cap) w w' (g o1))
    (hh : Calls Try.prog 28 #[.pointer (some ⟨R, 0, none⟩)] w fun e w' => e = .returned (.agg #[.int .u8 6, .int .u64 a, .bool t]) ∧ Gone R (.slice pa n cap) w w' o1 true) :
    Calls Try.prog 25 #[.pointer (some ⟨R, 0, none⟩)] w fun e w' => e = .returned (.tuple #[]) ∧ Fin R (.slice pa n cap) w w' (g o1) := by
  have H := hid hh
  have HI := hid ih
  have HS := hid hS
  have H0 := hid h
  clear hh ih hS h
  go_enter Try.func25, Try.ntmps25
  go_wp2_with (first
    | (go_at_call 28; refine H.out.mono ?_; rintro e w1 ⟨rfl, hg⟩)
    | (go_at_call 25; refine (HI.out _ (hg.alloc _).it ((HS.out.kept H0.out hg.grown).alloc _)).mono ?_; rintro e w3 ⟨rfl, hf3⟩))
  go_end0
  exact ⟨rfl, Fin.trans (hg.alloc _) hf3⟩

set_option maxHeartbeats 1000000 in
/-- A map. -/
theorem skip_map (F : Fit n cap D) (g1 : Nat → Option Nat) (hA1 : Pl.Ahead n g1) (a : Int) (t : Bool) (o1 : Nat) (w : World) (o0 : Nat) (h : It R (.slice pa n cap) w o0 true) (hS : Seg pa n D w) (ho : o1 ≤ n)
    (ih : ∀ (w : World) (o : Nat), It R (.slice pa n cap) w o true → Seg pa n D w → o1 ≤ o → o ≤ n → Calls Try.prog 25 #[.pointer (some ⟨R, 0, none⟩)] w fun e w' => e = .returned (.tuple #[]) ∧ Fin R (.slice pa n cap) w w' (g1 o))
    (hh : Calls Try.prog 28 #[.pointer (some ⟨R, 0, none⟩)] w fun e w' => e = .returned (.agg #[.int .u8 5, .int .u64 a, .bool t]) ∧ Gone R (.slice pa n cap) w w' o1 true) :
    Calls Try.prog 25 #[.pointer (some ⟨R, 0, none⟩)] w fun e w' => e = .returned (.tuple #[]) ∧ Fin R (.slice pa n cap) w w' (Pl.lp D n (Pl.two g1) ⟨5, a, t⟩ (n + 1) 0 o1) := by
  have hA := Pl.two_ahead hA1
  generalize hg : Pl.two g1 = g at hA ⊢
  have HG1 := hid hg
  have HA1 := hid hA1
  clear hg hA1
  have H := hid hh
  have HI := hid ih
  have HF := hid F
  have HS := hid hS
  have H0 := hid h
  have HA := hid hA
  have hn := F.small
  clear hh ih F hS h hA
  go_enter Try.func25, Try.ntmps25
  go_wp2_with (go_at_call 28; refine H.out.mono ?_; rintro e w1 ⟨rfl, hg⟩)
  have L := LRel.start (g := g) (hd := ⟨5, a, t⟩) hg H0.out HS.out ho
  have hR1 := hg.it.lt
  generalize hT : Pl.lp D n g ⟨5, a, t⟩ (n + 1) 0 o1 = T at L
  have HT := hid hT
  clear hT
  go_loopg [6] (left n (some o1)) (fun gk i wr => ∃ (k : Nat) (s : Option Nat), i = .int .u64 (k : Int) ∧ gk = left n s ∧ (∀ o, s = some o → o1 ≤ o) ∧ LRel R pa n cap D g ⟨5, a, t⟩ w1.heap.size T w wr k s)
  case atStart => exact ⟨0, some o1, rfl, rfl, fun o e => by cases e; exact Nat.le_refl _, L⟩
  case round =>
    obtain ⟨k, s, rfl, hgk, hs1, L⟩ := hrel
    have HG := hid hgk
    have HS1 := hid hs1
    clear hgk hs1
    have q0 : wr.cell? ⟨w1.heap.size, 0, none⟩ = some (.int .u8 5) := by rw [cell_of_row _ _ _ _ _ _ L.box]; rfl
    have q1 : wr.cell? ⟨w1.heap.size, 1, none⟩ = some (.int .u64 a) := by rw [cell_of_row _ _ _ _ _ _ L.box]; rfl
    have q2 : wr.cell? ⟨w1.heap.size, 2, none⟩ = some (.bool t) := by rw [cell_of_row _ _ _ _ _ _ L.box]; rfl
    have hbk := L.bound
    cases s with
    | none =>
      obtain ⟨off, hgw⟩ := L.fin
      go_wp2_with (go_at_call 31; refine (more_none R _ wr off 5 a k t hgw.it).mono ?_; rintro e w2 ⟨rfl, hg2⟩)
      go_end0
      refine ⟨rfl, ?_⟩
      rw [HT.out, L.failed rfl]
      exact ⟨off, hgw.trans hg2⟩
    | some o =>
      obtain ⟨ho', hko, _⟩ := L.here o rfl
      have hgw : Gone R (.slice pa n cap) w wr (o : Int) true := L.fin
      cases hst : Pl.stopF D n ⟨5, a, t⟩ k o with
      | some o' =>
        have HST := hid hst
        clear hst
        go_wp2_with (go_at_call 31; refine (more_no HF.out hgw.it L.seg 5 HST.out).mono ?_; rintro e w2 ⟨rfl, hg2⟩)
        go_end0
        refine ⟨rfl, ?_⟩
        rw [HT.out, L.stop HST.out]
        exact hgw.trans hg2
      | none =>
        have HST := hid hst
        clear hst
        cases h1 : g1 o with
        | none =>
          have E1 := hid h1
          clear h1
          have hgo : g o = none := by rw [← HG1.out]; simp [Pl.two, E1.out]
          have HGO := hid hgo
          clear hgo
          go_wp2_with fail
          refine (more_yes hgw.it L.seg 5 HST.out).mono ?_
          rintro e w2 ⟨rfl, hg2⟩
          go_wp2_with fail
          have I1 := HI.out w2 o hg2.it (L.seg.kept hgw.it hg2.grown) (HS1.out o rfl) ho'
          rw [E1.out] at I1
          refine I1.mono ?_
          clear I1
          rintro e w3 ⟨rfl, off3, hg3⟩
          go_wp2_with fail
          refine (skip_fail R _ w3 off3 hg3.it).mono ?_
          rintro e w4 ⟨rfl, off4, hg4⟩
          go_wp2_with fail
          have L' := L.next HST.out HA.out (by omega) hg2 (w3 := w4) (by rw [HGO.out]; exact ⟨off4, hg3.trans hg4⟩)
          go_roundg (left n (g o))
          case measure => rw [HG.out]; exact left_next HA.out ho'
          case rel => exact ⟨k + 1, g o, by go_num, rfl, fun o' e => (by rw [HGO.out] at e; cases e), L'⟩
        | some o2 =>
          have E1 := hid h1
          clear h1
          have hgo : g o = g1 o2 := by rw [← HG1.out]; simp [Pl.two, E1.out]
          have HGO := hid hgo
          clear hgo
          have ha2 := HA1.out o o2 E1.out
          go_wp2_with fail
          refine (more_yes hgw.it L.seg 5 HST.out).mono ?_
          rintro e w2 ⟨rfl, hg2⟩
          go_wp2_with fail
          have I1 := HI.out w2 o hg2.it (L.seg.kept hgw.it hg2.grown) (HS1.out o rfl) ho'
          rw [E1.out] at I1
          refine I1.mono ?_
          clear I1
          rintro e w3 ⟨rfl, hf3⟩
          have hg3 : Gone R (.slice pa n cap) w2 w3 (o2 : Int) true := hf3
          clear hf3
          go_wp2_with fail
          refine (HI.out w3 o2 hg3.it ((L.seg.kept hgw.it hg2.grown).kept hg2.it hg3.grown) (by have := HS1.out o rfl; omega) ha2.2).mono ?_
          rintro e w4 ⟨rfl, hf4⟩
          go_wp2_with fail
          have L' := L.next HST.out HA.out (by omega) hg2 (w3 := w4) (by rw [HGO.out]; exact Fin.trans hg3 hf4)
          go_roundg (left n (g o))
          case measure => rw [HG.out]; exact left_next HA.out ho'
          case rel => exact ⟨k + 1, g o, by go_num, rfl, fun o' e => by have := HA.out o o' e; have := HS1.out o rfl; omega, L'⟩

end
end Go.Proofs.Qxb6000697a
