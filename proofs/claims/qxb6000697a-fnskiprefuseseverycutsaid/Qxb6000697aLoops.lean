/-
  'skip' (25): the loops over a container's items.
-/
import Derived.Test.Qxb6000697aSkip
namespace Go.Proofs.Qxb6000697a
open Go.RowKit

/-- THE LOOP's RELATION: the reader stands at s behind i items; the whole loop comes to T. -/
structure LRel (R : Nat) (pa : Option Addr) (n cap : Nat) (D : Nat → Nat) (g : Nat → Option Nat) (hd : Pl.Hd) (hb : Nat) (T : Option Nat) (w wr : World) (i : Nat) (s : Option Nat) : Prop where
  fin : Fin R (.slice pa n cap) w wr s
  box : wr.heap[hb]? = some (.cells #[.int .u8 (hd.major : Int), .int .u64 hd.arg, .bool hd.ind] 51 (0, 0))
  seg : Seg pa n D wr
  here : ∀ o, s = some o → o ≤ n ∧ i ≤ o ∧ ∃ k, n - o < k ∧ Pl.lp D n g hd k i o = T
  failed : s = none → T = none
  bound : i ≤ n + 1

section
variable {R : Nat} {pa : Option Addr} {n cap : Nat} {D : Nat → Nat} {g : Nat → Option Nat} {hd : Pl.Hd} {hb : Nat} {T : Option Nat} {w wr w2 w3 : World} {i o : Nat}

theorem LRel.start {o1 : Nat} {w1 : World} {off : Int} {ok : Bool} (hg : Gone R (.slice pa n cap) w w1 (o1 : Int) true) (h : It R (.slice pa n cap) w off ok) (hS : Seg pa n D w) (ho : o1 ≤ n) :
    LRel R pa n cap D g hd w1.heap.size (Pl.lp D n g hd (n + 1) 0 o1) w (w1.alloc (.cells #[.int .u8 (hd.major : Int), .int .u64 hd.arg, .bool hd.ind] 51)) 0 (some o1) :=
  ⟨hg.alloc _, Go.heap_alloc_new w1 _, (hS.kept h hg.grown).alloc _, fun o e => by cases e; exact ⟨ho, Nat.zero_le _, n + 1, by omega, rfl⟩, fun e => (by cases e), by omega⟩

theorem LRel.it (h : LRel R pa n cap D g hd hb T w wr i (some o)) : It R (.slice pa n cap) wr o true := Gone.it h.fin

/-- The step's outcome, where no stop was met. -/
theorem LRel.cont (h : LRel R pa n cap D g hd hb T w wr i (some o)) (hs : Pl.stopF D n hd i o = none) :
    (∀ o', g o = some o' → o < o' → o' ≤ n → ∃ k, n - o' < k ∧ Pl.lp D n g hd k (i + 1) o' = T) ∧ (g o = none → T = none) := by
  obtain ⟨ho, hio, k, hk, hT⟩ := h.here o rfl
  obtain ⟨k', rfl⟩ : ∃ k', k = k' + 1 := ⟨k - 1, by omega⟩
  unfold Pl.lp at hT
  simp only [hs] at hT
  refine ⟨fun o' e hlt hle => ⟨k', by omega, ?_⟩, fun e => ?_⟩
  · simp only [e] at hT
    exact hT
  · simp only [e] at hT
    exact hT.symm

theorem LRel.stop (h : LRel R pa n cap D g hd hb T w wr i (some o)) {o' : Nat} (hs : Pl.stopF D n hd i o = some o') : T = some o' := by
  obtain ⟨ho, hio, k, hk, hT⟩ := h.here o rfl
  obtain ⟨k', rfl⟩ : ∃ k', k = k' + 1 := ⟨k - 1, by omega⟩
  unfold Pl.lp at hT
  simp only [hs] at hT
  exact hT.symm

/-- One round on: from wr over w2 (behind 'more') to w3 (behind the items). -/
theorem LRel.next (h : LRel R pa n cap D g hd hb T w wr i (some o)) (hs : Pl.stopF D n hd i o = none) (hA : Pl.Ahead n g) (hne : hb ≠ R) (hg2 : Gone R (.slice pa n cap) wr w2 (o : Int) true) (hf : Fin R (.slice pa n cap) w2 w3 (g o)) :
    LRel R pa n cap D g hd hb T w w3 (i + 1) (g o) := by
  obtain ⟨ho, hio, _⟩ := h.here o rfl
  obtain ⟨c1, c2⟩ := h.cont hs
  have hfin : Fin R (.slice pa n cap) w w3 (g o) := Fin.trans (Gone.trans (w' := wr) h.fin hg2) hf
  refine ⟨hfin, hf.other hne (hg2.other hne h.box), hf.seg hg2.it (h.seg.kept h.it hg2.grown), fun o' e => ?_, c2, by omega⟩
  have := hA o o' e
  exact ⟨this.2, by omega, c1 o' e this.1 this.2⟩

end

/-- How many rounds may still come. -/
def left (n : Nat) : Option Nat → Nat
  | some o => n - o + 1
  | none => 0

theorem left_next {n : Nat} {g : Nat → Option Nat} (hA : Pl.Ahead n g) {o : Nat} (ho : o ≤ n) : left n (g o) < left n (some o) := by
  cases h : g o with
  | none => simp [left]
  | some o' =>
    have := hA o o' h
    simp [left]
    omega

section
variable {R : Nat} {pa : Option Addr} {n cap : Nat} {D : Nat → Nat}

set_option maxHeartbeats 1000000 in
/-- An array. -/
theorem skip_arr (F : Fit n cap D) (g : Nat → Option Nat) (hA : Pl.Ahead n g) (a : Int) (t : Bool) (o1 : Nat) (w : World) (o0 : Nat) (h : It R (.slice pa n cap) w o0 true) (hS : Seg pa n D w) (ho : o1 ≤ n)
    (ih : ∀ (w : World) (o : Nat), It R (.slice pa n cap) w o true → Seg pa n D w → o1 ≤ o → o ≤ n → Calls Try.prog 25 #[.pointer (some ⟨R, 0, none⟩)] w fun e w' => e = .returned (.tuple #[]) ∧ Fin R (.slice pa n cap) w w' (g o))
    (hh : Calls Try.prog 28 #[.pointer (some ⟨R, 0, none⟩)] w fun e w' => e = .returned (.agg #[.int .u8 4, .int .u64 a, .bool t]) ∧ Gone R (.slice pa n cap) w w' o1 true) :
    Calls Try.prog 25 #[.pointer (some ⟨R, 0, none⟩)] w fun e w' => e = .returned (.tuple #[]) ∧ Fin R (.slice pa n cap) w w' (Pl.lp D n g ⟨4, a, t⟩ (n + 1) 0 o1) := by
  have H := hid hh
  have HI := hid ih
  have HF := hid F
  have HS := hid hS
  have H0 := hid h
  have HA := hid hA
  have hn := F.small
  clear hh ih F hS h hA
  go_enter Try.func25, Try.ntmps25
  go_wp2_with (go_at_call 28; refine H.out.mono ?_; rintro e w1 ⟨rfl, hg⟩)
  have L := LRel.start (g := g) (hd := ⟨4, a, t⟩) hg H0.out HS.out ho
  have hR1 := hg.it.lt
  generalize hT : Pl.lp D n g ⟨4, a, t⟩ (n + 1) 0 o1 = T at L
  have HT := hid hT
  clear hT
  go_loopg [5] (left n (some o1)) (fun gk i wr => ∃ (k : Nat) (s : Option Nat), i = .int .u64 (k : Int) ∧ gk = left n s ∧ (∀ o, s = some o → o1 ≤ o) ∧ LRel R pa n cap D g ⟨4, a, t⟩ w1.heap.size T w wr k s)
  case atStart => exact ⟨0, some o1, rfl, rfl, fun o e => by cases e; exact Nat.le_refl _, L⟩
  case round =>
    obtain ⟨k, s, rfl, hgk, hs1, L⟩ := hrel
    have HG := hid hgk
    have HS1 := hid hs1
    clear hgk hs1
    have q0 : wr.cell? ⟨w1.heap.size, 0, none⟩ = some (.int .u8 4) := by rw [cell_of_row _ _ _ _ _ _ L.box]; rfl
    have q1 : wr.cell? ⟨w1.heap.size, 1, none⟩ = some (.int .u64 a) := by rw [cell_of_row _ _ _ _ _ _ L.box]; rfl
    have q2 : wr.cell? ⟨w1.heap.size, 2, none⟩ = some (.bool t) := by rw [cell_of_row _ _ _ _ _ _ L.box]; rfl
    have hbk := L.bound
    cases s with
    | none =>
      obtain ⟨off, hgw⟩ := L.fin
      go_wp2_with (go_at_call 31; refine (more_none R _ wr off 4 a k t hgw.it).mono ?_; rintro e w2 ⟨rfl, hg2⟩)
      go_end0
      refine ⟨rfl, ?_⟩
      rw [HT.out, L.failed rfl]
      exact ⟨off, hgw.trans hg2⟩
    | some o =>
      obtain ⟨ho', hko, _⟩ := L.here o rfl
      have hgw : Gone R (.slice pa n cap) w wr (o : Int) true := L.fin
      cases hst : Pl.stopF D n ⟨4, a, t⟩ k o with
      | some o' =>
        have HST := hid hst
        clear hst
        go_wp2_with (go_at_call 31; refine (more_no HF.out hgw.it L.seg 4 HST.out).mono ?_; rintro e w2 ⟨rfl, hg2⟩)
        go_end0
        refine ⟨rfl, ?_⟩
        rw [HT.out, L.stop HST.out]
        exact hgw.trans hg2
      | none =>
        have HST := hid hst
        clear hst
        go_wp2_with (first
          | (go_at_call 31; refine (more_yes hgw.it L.seg 4 HST.out).mono ?_; rintro e w2 ⟨rfl, hg2⟩)
          | (go_at_call 25; refine (HI.out w2 o hg2.it (L.seg.kept hgw.it hg2.grown) (HS1.out o rfl) ho').mono ?_; rintro e w3 ⟨rfl, hf3⟩))
        have L' := L.next HST.out HA.out (by omega) hg2 hf3
        go_roundg (left n (g o))
        case measure => rw [HG.out]; exact left_next HA.out ho'
        case rel => exact ⟨k + 1, g o, by go_num, rfl, fun o' e => by have := HA.out o o' e; have := HS1.out o rfl; omega, L'⟩

end
end Go.Proofs.Qxb6000697a
