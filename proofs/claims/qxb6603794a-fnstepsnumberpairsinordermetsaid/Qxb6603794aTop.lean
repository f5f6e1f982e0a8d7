/-
  THE LAW AT EVERY INPUT, AND THE STATEMENT.
-/
import Derived.Test.Qxb6603794aWalk
import Derived.Test.Qxb6603794aRows
import Derived.ProofKit
import Derived.OpenShut
import Derived.ChangeOld
import Derived.Deep.Slices
namespace Go.Proofs.Qxb6603794a
open Go.ChangeShapes Go.WideShapes Go.ChangeAt Go.RowKit

/-- What the walk is told of the argument. -/
def IsPairs (w : World) (a : Option Addr) (len cap : Nat) (A V : Nat → Int) : Prop :=
  (a = none ∧ len = 0 ∧ cap = 0) ∨ ∃ ad, a = some ad ∧ ∀ i, i < len → w.cell? (ad.add (i * 2)) = some (.int .i32 (A i)) ∧ w.cell? (ad.add (i * 2 + 1)) = some (.int .i32 (V i)) ∧ wf32 (A i) ∧ wf32 (V i)

theorem long_one (ao : Option Addr) (len cap : Nat) (w : World) (h : (1048576 : Int) < (len : Int)) :
    Calls Try.prog 5 #[.slice ao len cap] w fun e w' => e = .returned (.bool true) ∧ Below w.heap.size w w' := by
  go_enter Try.func5, Try.ntmps5
  go_wp2_with (go_at_call 14; refine (bytes_no _ _ _ _ h).mono ?_; rintro e w' ⟨rfl, hw⟩; obtain rfl := hw.symm)
  go_ret
  exact ⟨rfl, Below.refl _ _⟩

theorem long_two (ao : Option Addr) (len cap : Nat) (w : World) (h : (len : Int) ≤ 1048576) (h2 : (65536 : Int) < (len : Int)) :
    Calls Try.prog 5 #[.slice ao len cap] w fun e w' => e = .returned (.bool true) ∧ Below w.heap.size w w' := by
  go_enter Try.func5, Try.ntmps5
  go_wp2_with (go_at_call 14; refine (bytes_yes _ _ _ _ h).mono ?_; rintro e w' ⟨rfl, hw⟩; obtain rfl := hw.symm)
  go_ret
  exact ⟨rfl, Below.refl _ _⟩

theorem unfit (ao : Option Addr) (len cap : Nat) (w : World) (h : (len : Int) ≤ 65536) (hfit : Calls Try.prog 15 #[.slice ao len cap] w fun e w' => e = .returned (.bool false) ∧ w = w') :
    Calls Try.prog 5 #[.slice ao len cap] w fun e w' => e = .returned (.bool true) ∧ Below w.heap.size w w' := by
  have H2 := hid hfit
  clear hfit
  go_enter Try.func5, Try.ntmps5
  go_wp2_with (first
    | (go_at_call 14; refine (bytes_yes _ _ _ _ (by omega)).mono ?_; rintro e w' ⟨rfl, hw⟩; obtain rfl := hw.symm)
    | (go_at_call 15; refine H2.out.mono ?_; rintro e w' ⟨rfl, rfl⟩))
  go_ret
  exact ⟨rfl, Below.refl _ _⟩

theorem walk (ao : Option Addr) (len cap : Nat) (A V : Nat → Int) (w : World) (h : IsPairs w ao len cap A V) :
    Calls Try.prog 5 #[.slice ao len cap] w fun e w' => e = .returned (.bool true) ∧ Below w.heap.size w w' := by
  by_cases h1 : (1048576 : Int) < (len : Int)
  · exact long_one ao len cap w h1
  by_cases h2 : (65536 : Int) < (len : Int)
  · exact long_two ao len cap w (by omega) h2
  have hb : Calls Try.prog 14 #[.slice ao len cap] w fun e w' => e = .returned (.bool true) ∧ w = w' := (bytes_yes ao len cap w (by omega)).mono fun e w' ⟨he, hw⟩ => ⟨he, hw.symm⟩
  by_cases h0 : len = 0
  · subst h0
    have hf : Calls Try.prog 15 #[.slice ao 0 cap] w fun e w' => e = .returned (.bool true) ∧ w = w' := (fit_empty ao cap w).mono fun e w' ⟨he, hw⟩ => ⟨he, hw.symm⟩
    rcases h with ⟨rfl, _, rfl⟩ | ⟨ad, rfl, _⟩
    · exact law_main none 0 0 A V w (by omega) hb hf none 0 (fun h => absurd h (Nat.lt_irrefl _)) ((clone_nil w).mono fun e w' ⟨he, hw⟩ => ⟨he, fun h => absurd h (Nat.lt_irrefl _), by rw [hw]; exact Below.refl _ _⟩) (fun i hi => absurd hi (Nat.not_lt_zero _)) (fun i hi => absurd hi (Nat.not_lt_zero _))
    · exact law_main (some ad) 0 cap A V w (by omega) hb hf (some ⟨w.heap.size, 0, none⟩) w.heap.size (fun _ => rfl) ((clone_any ad 0 cap A V w (by omega) (fun j u hj => by simp [prs] at hj)).mono fun e w' ⟨he, hr, hbl⟩ => ⟨he, fun _ => hr, hbl⟩) (fun i hi => absurd hi (Nat.not_lt_zero _)) (fun i hi => absurd hi (Nat.not_lt_zero _))
  · rcases h with ⟨_, h0', _⟩ | ⟨ad, rfl, hc⟩
    · exact absurd h0' h0
    obtain ⟨b, off, spot⟩ := ad
    have hspot : spot = none := by simpa [Addr.add] using World.cell?_spot (hc 0 (by omega)).1
    subst hspot
    have hc' : ∀ i, i < len → w.cell? ⟨b, off + i * 2, none⟩ = some (.int .i32 (A i)) ∧ w.cell? ⟨b, off + i * 2 + 1, none⟩ = some (.int .i32 (V i)) := fun i hi => by
      have := hc i hi
      rw [Addr.add_lit, Addr.add_lit] at this
      exact ⟨this.1, this.2.1⟩
    have fit := fit_any b off len cap A V w (by omega) hc'
    by_cases hall : ∀ i, i < len → fitB (A i) (V i) = true
    · refine law_main (some ⟨b, off, none⟩) len cap A V w (by omega) hb (fit.mono ?_) (some ⟨w.heap.size, 0, none⟩) w.heap.size (fun _ => rfl) ((clone_any ⟨b, off, none⟩ len cap A V w (by omega) ?_).mono fun e w' ⟨he, hr, hbl⟩ => ⟨he, fun _ => hr, hbl⟩) hall (fun i hi => (hc i hi).2.2)
      · rintro e w' ⟨h3, hw⟩
        refine ⟨?_, hw.symm⟩
        rcases h3 with ⟨_, hx⟩ | ⟨he, _⟩
        · obtain ⟨i, hi, hn⟩ := hx.out
          rw [hall i hi] at hn
          cases hn
        · exact he
      · intro j u hj
        obtain ⟨i, hi, hh⟩ := prs_get len A V j u hj
        rcases hh with ⟨rfl, rfl⟩ | ⟨rfl, rfl⟩
        · exact (hc i hi).1
        · exact (hc i hi).2.1
    · refine unfit _ len cap w (by omega) (fit.mono ?_)
      rintro e w' ⟨h3, hw⟩
      refine ⟨?_, hw.symm⟩
      rcases h3 with ⟨he, _⟩ | ⟨_, hx⟩
      · exact he
      · exact absurd hx.out hall

theorem own : ownKnob Try.prog.godebug = none := by kernel_rfl
theorem cells21 : Try.prog.cellsOf 21 = 1 := by kernel_rfl

theorem pairs_of {H : Type} {enc : TypeId × Value → H} {W : World} {fuel : Nat} {a : Option Addr} {len cap : Nat} {x : DataW H × List MemPlace} (hf : DataW.trod enc Try.prog W 0 (fun _ => true) true fuel 29 [.slice a len cap] = some x) :
    ∃ A V, IsPairs W a len cap A V := by
  rcases Deep.open_slice Try.underlying29 hf with ⟨hcs, _⟩ | ⟨ad, l, c, m, n, D, Pl, hcs, _, hl, _, hm, _, hel⟩
  · simp at hcs
    exact ⟨fun _ => 0, fun _ => 0, .inl hcs⟩
  · simp at hcs
    obtain ⟨rfl, rfl, rfl⟩ := hcs
    simp at hm
    have each : ∀ i, i < len → ∃ q : Int × Int, W.cell? (ad.add (i * 2)) = some (.int .i32 q.1) ∧ W.cell? (ad.add (i * 2 + 1)) = some (.int .i32 q.2) ∧ wf32 q.1 ∧ wf32 q.2 := by
      intro i hi
      obtain ⟨cs, h1, h2⟩ := hel i (by omega)
      rw [cells35] at h1
      obtain ⟨_, hlen, hcell⟩ := World.cells?_some h1
      obtain ⟨xs, k, _, _, _, hxl, hx⟩ := DataW.trod_array Try.underlying35 h2
      match cs, hlen with
      | [c0, c1], _ =>
        have g0 := hx 0 (by omega)
        have g1 := hx 1 (by omega)
        rw [cells21] at g0 g1
        match xs, hxl with
        | [y0, y1], _ =>
          simp at g0 g1
          obtain ⟨x0, e0, _, w0⟩ := DataW.trod_int Try.underlying21 g0
          obtain ⟨x1, e1, _, w1⟩ := DataW.trod_int Try.underlying21 g1
          simp at e0 e1
          subst e0 e1
          have q0 := hcell 0 (by omega)
          have q1 := hcell 1 (by omega)
          rw [Deep.add_add] at q0 q1
          exact ⟨(x0, x1), by simpa using q0, by simpa using q1, bounds_i32 w0, bounds_i32 w1⟩
    obtain ⟨q, hq⟩ := Deep.choose_lt each
    exact ⟨fun i => (q i).1, fun i => (q i).2, .inr ⟨ad, rfl, hq⟩⟩

set_option maxRecDepth 100000 in
theorem lifted (os : Os) (started : os.Started) (H : Type) (enc : TypeId × Value → H) :
    ReturnsInHanded {} Try.checked os 5 .any (Rows.fnStepsNumberPairsInOrderMetSpec.pre6 enc Try.prog Try.f5 Rows.fnStepsNumberPairsInOrderMetRow.domain false) (Rows.fnStepsNumberPairsInOrderMetSpec.post enc Try.prog Try.f5 false true false false) := by
  refine returnsInHanded_of_change (C := Try.checked) own started (by kernel_rfl) Try.func5
    (ChangeSpec.witness6 (enc := enc) (C := Try.checked) false ⟨#[], #[.slice none 0 0], []⟩ 8 (by kernel_rfl) (by kernel_rfl) (by kernel_rfl) (by kernel_rfl)) ?_
  intro W base args ds gs before hval0 hW hcnd _
  have hval : ∀ (j : Nat) t v, Try.f5.params[j]? = some t → args[j]? = some v → Value.okWide Try.prog W .any base t v := hval0
  have hW' := hW
  obtain ⟨p, q, hA0, hV, rfl, hfz, hnd⟩ := hW
  have hA : DataW.TrodAll enc Try.prog W 0 (fun _ => true) true Try.f5.params.toList args.toList ds p := hA0
  rw [Try.params5] at hA hval
  obtain ⟨v0, vs0, d0, ds0, p0, q0, hargs, rfl, rfl, h0, r0⟩ := trodAll_cons hA
  obtain ⟨rfl, rfl, rfl⟩ := trodAll_nil r0
  obtain rfl : args = #[v0] := by cases args; simp_all
  obtain ⟨rfl, rfl⟩ := trodVars_none hV
  obtain ⟨a0, len0, cap0, rfl⟩ := okWide_slice Try.underlying29 (hval 0 29 v0 rfl rfl)
  have k0 := h0
  have lt0 : ∀ x ∈ p0, x.block < W.heap.size := by obtain ⟨m, hm⟩ := k0; exact DataW.trod_lt m _ _ _ hm
  obtain ⟨A, V, w0⟩ : ∃ A V, IsPairs W a0 len0 cap0 A V := by
    obtain ⟨fuel, hf⟩ := h0
    exact pairs_of hf
  clear hA0 hval0
  refine (walk a0 len0 cap0 A V W w0).mono fun e W' ⟨he, bel⟩ => ?_
  subst he
  exact ⟨_, rfl, _, _, _, [], _, [], hW', trodAll_mk1 (shut_bool Try.underlying4 _), (trodAll_cons_mk (Below.trod laidOut (by kernel_rfl) (of_decide_eq_true (by kernel_rfl)) k0 bel lt0) trodAll_mk0), rfl, bel.frame _, fun h => by cases h⟩

theorem over : Rows.fnStepsNumberPairsInOrderMetRow.holds Try.pinned (OpenSpec.ofChange Rows.fnStepsNumberPairsInOrderMetSpec) :=
  OpenClaim.holds_of_wide 5 Try.f5 rfl rfl rfl rfl rfl rfl rfl ⟨rfl, rfl, rfl, rfl, rfl⟩ rfl rfl rfl rfl rfl (by kernel_rfl) Try.func5 (by kernel_rfl)
    (of_decide_eq_true (by kernel_rfl)) (by unfold Func.isWrapper; first | (rw [if_pos (by decide +kernel)]; kernel_rfl) | (rw [if_neg (by decide +kernel)]; exact ⟨rfl, rfl⟩))
    (fun os started H enc _ => lifted os started H enc)

/-- THE STATEMENT. -/
theorem proved : Rows.FnStepsNumberPairsInOrderMetSaid := over
end Go.Proofs.Qxb6603794a
