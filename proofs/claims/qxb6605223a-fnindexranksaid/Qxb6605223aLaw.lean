/-
  THE LAW (5).
-/
import Derived.Test.Qxb6605223aLawA
import Derived.Test.Qxb6605223aBytes
import Derived.Deep.QuietTactic
import Derived.BigQuiet
import Derived.Deep.CutRange
namespace Go.Proofs.Qxb6605223a
open Go.RowKit

/-- What the law says of a call. -/
def Lawful (w : World) (e : Ending) (w' : World) : Prop := e = .returned (.bool true) ∧ Below w.heap.size w w'

theorem lawful_here (w : World) : Lawful w (.returned (.bool true)) w := ⟨rfl, Below.refl _ _⟩

set_option maxHeartbeats 2000000 in
set_option maxRecDepth 100000 in
/-- A slice too long. -/
theorem law_long (n n1 P n3 n4 n5 m c0 c1 c2 c3 c4 c5 c6 : Nat) (pa0 pa1 pa2 pa3 pa4 pa5 pa6 : Option Addr) (RA : Nat → Option Addr) (RL RC : Nat → Nat) (w : World)
    (h2 : Sg w.heap.size w.heap.size pa2 P (fun q => .slice (RA q) (RL q) (RC q)) w) (h : ¬ (n ≤ 4096 ∧ n1 ≤ 4096 ∧ P ≤ 4096 ∧ n3 ≤ 4096 ∧ n4 ≤ 4096 ∧ n5 ≤ 4096 ∧ m ≤ 4096)) :
    Calls Try.prog 5 #[.slice pa0 n c0, .slice pa1 n1 c1, .slice pa2 P c2, .slice pa3 n3 c3, .slice pa4 n4 c4, .slice pa5 n5 c5, .slice pa6 m c6] w fun e w' => Lawful w e w' := by
  have HC := hid (bytes19 _ _ n n1 P n3 n4 n5 m c0 c1 c2 c3 c4 c5 c6 pa0 pa1 pa2 pa3 pa4 pa5 pa6 RA RL RC w h2)
  have hh : (4096 : Int) < (n : Int) ∨ ((n : Int) ≤ 4096 ∧ (4096 : Int) < (n1 : Int)) ∨ ((n : Int) ≤ 4096 ∧ (n1 : Int) ≤ 4096 ∧ (4096 : Int) < (P : Int)) ∨ ((n : Int) ≤ 4096 ∧ (n1 : Int) ≤ 4096 ∧ (P : Int) ≤ 4096 ∧ (4096 : Int) < (n3 : Int)) ∨ ((n : Int) ≤ 4096 ∧ (n1 : Int) ≤ 4096 ∧ (P : Int) ≤ 4096 ∧ (n3 : Int) ≤ 4096 ∧ (4096 : Int) < (n4 : Int)) ∨ ((n : Int) ≤ 4096 ∧ (n1 : Int) ≤ 4096 ∧ (P : Int) ≤ 4096 ∧ (n3 : Int) ≤ 4096 ∧ (n4 : Int) ≤ 4096 ∧ (4096 : Int) < (n5 : Int)) ∨
      ((n : Int) ≤ 4096 ∧ (n1 : Int) ≤ 4096 ∧ (P : Int) ≤ 4096 ∧ (n3 : Int) ≤ 4096 ∧ (n4 : Int) ≤ 4096 ∧ (n5 : Int) ≤ 4096 ∧ (4096 : Int) < (m : Int)) := by omega
  clear h h2
  rcases hh with h | ⟨h0, h⟩ | ⟨h0, h1, h⟩ | ⟨h0, h1, h2, h⟩ | ⟨h0, h1, h2, h3, h⟩ | ⟨h0, h1, h2, h3, h4, h⟩ | ⟨h0, h1, h2, h3, h4, h5, h⟩
  all_goals
    go_enter Try.func5, Try.ntmps5
    go_wp2_with fail
    refine HC.out.mono ?_
    rintro e w' ⟨⟨b, rfl, _⟩, rfl⟩
    cases b
    · go_wp2_with fail
      go_ret
      exact lawful_here w
    · go_wp2_with fail
      go_ret
      exact lawful_here w

set_option maxHeartbeats 2000000 in
set_option maxRecDepth 100000 in
/-- Lengths that do not fit. -/
theorem law_unfit (n n1 P n3 n4 n5 m c0 c1 c2 c3 c4 c5 c6 : Nat) (pa0 pa1 pa2 pa3 pa4 pa5 pa6 : Option Addr) (RA : Nat → Option Addr) (RL RC : Nat → Nat) (w : World)
    (h2 : Sg w.heap.size w.heap.size pa2 P (fun q => .slice (RA q) (RL q) (RC q)) w) (l0 : n ≤ 4096) (l1 : n1 ≤ 4096) (l2 : P ≤ 4096) (l3 : n3 ≤ 4096) (l4 : n4 ≤ 4096) (l5 : n5 ≤ 4096) (l6 : m ≤ 4096) (hf : ¬ Fits n n1 n3 n4 n5 P) :
    Calls Try.prog 5 #[.slice pa0 n c0, .slice pa1 n1 c1, .slice pa2 P c2, .slice pa3 n3 c3, .slice pa4 n4 c4, .slice pa5 n5 c5, .slice pa6 m c6] w fun e w' => Lawful w e w' := by
  have HC := hid (bytes19 _ _ n n1 P n3 n4 n5 m c0 c1 c2 c3 c4 c5 c6 pa0 pa1 pa2 pa3 pa4 pa5 pa6 RA RL RC w h2)
  have HC7 := hid (bytes7 _ _ n n1 P n3 n4 n5 m c0 c1 c2 c3 c4 c5 c6 pa0 pa1 pa2 pa3 pa4 pa5 pa6 RA RL RC w l0 l1 l2 l3 l4 l5 l6 h2)
  have HC8 := hid (well_len pa0 pa1 pa2 pa3 pa4 pa5 n n1 P n3 n4 n5 c0 c1 c2 c3 c4 c5 False w hf)
  have i0 : (n : Int) ≤ 4096 := by omega
  have i1 : (n1 : Int) ≤ 4096 := by omega
  have i2 : (P : Int) ≤ 4096 := by omega
  have i3 : (n3 : Int) ≤ 4096 := by omega
  have i4 : (n4 : Int) ≤ 4096 := by omega
  have i5 : (n5 : Int) ≤ 4096 := by omega
  have i6 : (m : Int) ≤ 4096 := by omega
  clear hf h2
  go_enter Try.func5, Try.ntmps5
  go_wp2_with fail
  refine HC.out.mono ?_
  rintro e w' ⟨⟨b, rfl, _⟩, rfl⟩
  cases b
  · go_wp2_with fail
    go_ret
    exact lawful_here w
  · go_wp2_with fail
    refine HC7.out.mono ?_
    rintro e w' ⟨⟨t, rfl, _⟩, rfl⟩
    by_cases ht : (1048576 : Int) < t
    · go_wp2_with fail
      go_ret
      exact lawful_here w
    · go_wp2_with fail
      refine HC8.out.mono ?_
      rintro e w' ⟨⟨b, rfl, hb⟩, rfl⟩
      cases b
      · go_wp2_with fail
        go_ret
        exact lawful_here w
      · exact (hb rfl).elim
end Go.Proofs.Qxb6605223a
