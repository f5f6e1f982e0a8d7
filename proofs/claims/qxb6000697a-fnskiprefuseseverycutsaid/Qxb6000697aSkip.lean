/-
  'skip' (25).
-/
import Derived.Test.Qxb6000697aTell
import Derived.Deep.LoopGhost
namespace Go.Proofs.Qxb6000697a
open Go.RowKit

/-- Where the reader has come to: a place, or it has failed. -/
def Fin (R : Nat) (dv : Value) (w w' : World) (s : Option Nat) : Prop := match s with
  | some o => Gone R dv w w' (o : Int) true
  | none => ∃ off, Gone R dv w w' off false

theorem Fin.trans {R : Nat} {dv : Value} {w w' w'' : World} {off : Int} {ok : Bool} {s : Option Nat} (h : Gone R dv w w' off ok) (k : Fin R dv w' w'' s) : Fin R dv w w'' s := by
  cases s with
  | some o => exact Gone.trans h k
  | none =>
    obtain ⟨x, k⟩ := k
    exact ⟨x, h.trans k⟩

/-- Some other block is as it was. -/
theorem Gone.other {R : Nat} {dv : Value} {w w' : World} {off : Int} {ok : Bool} (h : Gone R dv w w' off ok) {b : Nat} {ob : Obj} (hb : b ≠ R) (e : w.heap[b]? = some ob) : w'.heap[b]? = some ob := by
  rw [h.grown.block b (lt_of_block e) (by simpa using hb)]
  exact e

theorem Fin.other {R : Nat} {dv : Value} {w w' : World} {s : Option Nat} (h : Fin R dv w w' s) {b : Nat} {ob : Obj} (hb : b ≠ R) (e : w.heap[b]? = some ob) : w'.heap[b]? = some ob := by
  cases s with
  | some o => exact Gone.other h hb e
  | none =>
    obtain ⟨x, h⟩ := h
    exact h.other hb e

theorem Fin.seg {R : Nat} {pa : Option Addr} {n cap : Nat} {D : Nat → Nat} {w w' : World} {off : Int} {ok : Bool} {s : Option Nat} (h : Fin R (.slice pa n cap) w w' s) (hi : It R (.slice pa n cap) w off ok) (hS : Seg pa n D w) : Seg pa n D w' := by
  cases s with
  | some o => exact hS.kept hi (Gone.grown h)
  | none =>
    obtain ⟨x, h⟩ := h
    exact hS.kept hi h.grown

theorem Seg.alloc {pa : Option Addr} {n : Nat} {D : Nat → Nat} {w : World} (h : Seg pa n D w) (ob : Obj) : Seg pa n D (w.alloc ob) := by
  intro hn
  obtain ⟨b, o, e, hc⟩ := h hn
  exact ⟨b, o, e, fun i hi => (World.grownBy_alloc w ob none).cell (hc i hi) (by simp)⟩

/-- A failed reader's skip. -/
theorem skip_fail (R : Nat) (dv : Value) (w : World) (off : Int) (h : It R dv w off false) :
    Calls Try.prog 25 #[.pointer (some ⟨R, 0, none⟩)] w fun e w' => e = .returned (.tuple #[]) ∧ Fin R dv w w' none := by
  have H := hid h
  clear h
  go_enter Try.func25, Try.ntmps25
  go_wp2_with (go_at_call 28; refine (head_none R dv w off H.out).mono ?_; rintro e w1 ⟨rfl, hg⟩)
  go_end0
  exact ⟨rfl, _, hg.alloc _⟩

section
variable {R : Nat} {pa : Option Addr} {n cap : Nat} {D : Nat → Nat} {w : World} {o : Nat}

/-- The head is refused. -/
theorem skip_no (F : Fit n cap D) (h : It R (.slice pa n cap) w o true) (hS : Seg pa n D w) (e : Pl.headF D (be D) n o = none) :
    Calls Try.prog 25 #[.pointer (some ⟨R, 0, none⟩)] w fun e w' => e = .returned (.tuple #[]) ∧ Fin R (.slice pa n cap) w w' none := by
  have H := hid (head_no F h hS e)
  clear h hS e F
  go_enter Try.func25, Try.ntmps25
  go_wp2_with (go_at_call 28; refine H.out.mono ?_; rintro e w1 ⟨rfl, off', hg⟩)
  go_end0
  exact ⟨rfl, off', hg.alloc _⟩

/-- A head that stands for itself. -/
theorem skip_self (m : Int) (a : Int) (t : Bool) (o1 : Nat) (hm : m = 0 ∨ m = 1 ∨ m = 7)
    (hh : Calls Try.prog 28 #[.pointer (some ⟨R, 0, none⟩)] w fun e w' => e = .returned (.agg #[.int .u8 m, .int .u64 a, .bool t]) ∧ Gone R (.slice pa n cap) w w' o1 true) :
    Calls Try.prog 25 #[.pointer (some ⟨R, 0, none⟩)] w fun e w' => e = .returned (.tuple #[]) ∧ Fin R (.slice pa n cap) w w' (some o1) := by
  have H := hid hh
  clear hh
  rcases hm with rfl | rfl | rfl
  all_goals
    go_enter Try.func25, Try.ntmps25
    go_wp2_with (go_at_call 28; refine H.out.mono ?_; rintro e w1 ⟨rfl, hg⟩)
    go_end0
    exact ⟨rfl, hg.alloc _⟩

/-- A string of definite length. -/
theorem skip_str (F : Fit n cap D) (m : Int) (a : Int) (o1 : Nat) (hm : m = 2 ∨ m = 3) (ha : 0 ≤ a) (ho : o1 ≤ n)
    (hh : Calls Try.prog 28 #[.pointer (some ⟨R, 0, none⟩)] w fun e w' => e = .returned (.agg #[.int .u8 m, .int .u64 a, .bool false]) ∧ Gone R (.slice pa n cap) w w' o1 true) :
    Calls Try.prog 25 #[.pointer (some ⟨R, 0, none⟩)] w fun e w' => e = .returned (.tuple #[]) ∧ Fin R (.slice pa n cap) w w' (Pl.advF n o1 a) := by
  have H := hid hh
  clear hh
  have HF := hid F
  clear F
  cases ea : Pl.advF n o1 a with
  | none =>
    have EA := hid ea
    clear ea
    rcases hm with rfl | rfl
    all_goals
      go_enter Try.func25, Try.ntmps25
      go_wp2_with (first
        | (go_at_call 28; refine H.out.mono ?_; rintro e w1 ⟨rfl, hg⟩)
        | (go_at_call 30; refine (adv_fail HF.out (hg.alloc _).it ho EA.out).mono ?_; rintro e w2 ⟨rfl, off2, hg2⟩))
      refine bodyPost_ret (results_none rfl _ _ _) rfl ?_
      exact ⟨rfl, off2, (hg.alloc _).trans hg2⟩
  | some o' =>
    have EA := hid ea
    clear ea
    rcases hm with rfl | rfl
    all_goals
      go_enter Try.func25, Try.ntmps25
      go_wp2_with (first
        | (go_at_call 28; refine H.out.mono ?_; rintro e w1 ⟨rfl, hg⟩)
        | (go_at_call 30; refine (adv_some HF.out (hg.alloc _).it ho ha EA.out).mono ?_; rintro e w2 ⟨rfl, hg2⟩))
      refine bodyPost_ret (results_none rfl _ _ _) rfl ?_
      exact ⟨rfl, (hg.alloc _).trans hg2⟩

end
end Go.Proofs.Qxb6000697a
