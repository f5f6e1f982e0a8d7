/-
  THE STATEMENT.
-/
import Derived.Test.Qxb6605223aMain
import Derived.Test.Qxb6605223aRows
import Derived.ProofKit
import Derived.OpenShut
import Derived.ChangeOld
import Derived.Deep.Slices
namespace Go.Proofs.Qxb6605223a
open Go.ChangeShapes Go.WideShapes Go.ChangeAt Go.RowKit

theorem laidOut : laidOutB Try.prog = true := by kernel_rfl
theorem own : ownKnob Try.prog.godebug = none := by kernel_rfl
theorem cells3 : Try.prog.cellsOf 3 = 1 := by kernel_rfl
theorem cells21 : Try.prog.cellsOf 21 = 1 := by kernel_rfl
theorem cells22 : Try.prog.cellsOf 22 = 1 := by kernel_rfl

/-- The cells of a row that lies in the world. -/
theorem sg_of {W : World} {ad : Addr} {len : Nat} {V : Nat → Value} (h : ∀ i, i < len → W.cell? (ad.add i) = some (V i)) : Sg W.heap.size W.heap.size (some ad) len V W := by
  intro hn
  obtain ⟨b, off, spot⟩ := ad
  have hspot : spot = none := by simpa [Addr.add] using World.cell?_spot (h 0 hn)
  subst hspot
  have hl := World.block_lt_of_cell? W _ (h 0 hn)
  have hl2 : b < W.heap.size := by simpa [Addr.add] using hl
  exact ⟨b, off, rfl, by omega, hl2, fun i hi => by have := h i hi; rwa [Addr.add_lit] at this⟩

theorem ints_of {H : Type} {enc : TypeId × Value → H} {W : World} {fuel : Nat} {a : Option Addr} {len cap : Nat} {x : DataW H × List MemPlace} (hf : DataW.trod enc Try.prog W 0 (fun _ => true) true fuel 22 [.slice a len cap] = some x) :
    ∃ A : Nat → Int, Sg W.heap.size W.heap.size a len (fun i => .int .i64 (A i)) W := by
  rcases Deep.open_slice1 Try.underlying22 cells3 hf with ⟨hcs, _⟩ | ⟨ad, l, c, m, n, V, D, Pl, hcs, _, hl, _, hm, _, hel⟩
  · simp at hcs
    exact ⟨fun _ => 0, fun h => by omega⟩
  · simp at hcs
    obtain ⟨rfl, rfl, rfl⟩ := hcs
    simp at hm
    have each : ∀ i, i < len → ∃ y : Int, W.cell? (ad.add i) = some (.int .i64 y) := by
      intro i hi
      obtain ⟨h1, h2⟩ := hel i (by omega)
      obtain ⟨y, e0, _, _⟩ := DataW.trod_int Try.underlying3 h2
      simp at e0
      rw [e0] at h1
      exact ⟨y, h1⟩
    obtain ⟨A, hA⟩ := Deep.choose_lt each
    exact ⟨A, sg_of hA⟩

theorem int32s_of {H : Type} {enc : TypeId × Value → H} {W : World} {fuel : Nat} {a : Option Addr} {len cap : Nat} {x : DataW H × List MemPlace} (hf : DataW.trod enc Try.prog W 0 (fun _ => true) true fuel 23 [.slice a len cap] = some x) :
    ∃ A : Nat → Int, Sg W.heap.size W.heap.size a len (fun i => .int .i32 (A i)) W ∧ ∀ i, i < len → A i ≤ 2147483647 := by
  rcases Deep.open_slice1 Try.underlying23 cells21 hf with ⟨hcs, _⟩ | ⟨ad, l, c, m, n, V, D, Pl, hcs, _, hl, _, hm, _, hel⟩
  · simp at hcs
    exact ⟨fun _ => 0, fun h => by omega, fun i hi => by omega⟩
  · simp at hcs
    obtain ⟨rfl, rfl, rfl⟩ := hcs
    simp at hm
    have each : ∀ i, i < len → ∃ y : Int, W.cell? (ad.add i) = some (.int .i32 y) ∧ y ≤ 2147483647 := by
      intro i hi
      obtain ⟨h1, h2⟩ := hel i (by omega)
      obtain ⟨y, e0, _, hw⟩ := DataW.trod_int Try.underlying21 h2
      simp at e0
      rw [e0] at h1
      exact ⟨y, h1, (bounds_i32 hw).2⟩
    obtain ⟨A, hA⟩ := Deep.choose_lt each
    exact ⟨A, sg_of (fun i hi => (hA i hi).1), fun i hi => (hA i hi).2⟩

theorem rows_of {H : Type} {enc : TypeId × Value → H} {W : World} {fuel : Nat} {a : Option Addr} {len cap : Nat} {x : DataW H × List MemPlace} (hf : DataW.trod enc Try.prog W 0 (fun _ => true) true fuel 24 [.slice a len cap] = some x) :
    ∃ (RA : Nat → Option Addr) (RL RC : Nat → Nat) (BP : Nat → Nat → Int), Sg W.heap.size W.heap.size a len (fun q => .slice (RA q) (RL q) (RC q)) W ∧ ∀ q, q < len → Sg W.heap.size W.heap.size (RA q) (RL q) (fun i => .int .i64 (BP q i)) W := by
  rcases Deep.open_slice1 Try.underlying24 cells22 hf with ⟨hcs, _⟩ | ⟨ad, l, c, m, n, V, D, Pl, hcs, _, hl, _, hm, _, hel⟩
  · simp at hcs
    exact ⟨fun _ => none, fun _ => 0, fun _ => 0, fun _ _ => 0, fun h => by omega, fun i hi => by omega⟩
  · simp at hcs
    obtain ⟨rfl, rfl, rfl⟩ := hcs
    simp at hm
    have each : ∀ i, i < len → ∃ y : Option Addr × Nat × Nat × (Nat → Int), W.cell? (ad.add i) = some (.slice y.1 y.2.1 y.2.2.1) ∧ Sg W.heap.size W.heap.size y.1 y.2.1 (fun j => .int .i64 (y.2.2.2 j)) W := by
      intro i hi
      obtain ⟨h1, h2⟩ := hel i (by omega)
      obtain ⟨pa, ln, cp, e⟩ : ∃ pa ln cp, V i = .slice pa ln cp := by
        rcases Deep.open_slice Try.underlying22 h2 with ⟨hcs, _⟩ | ⟨ad2, l2, c2, _, _, _, _, hcs, _⟩
        · simp at hcs
          exact ⟨_, _, _, hcs⟩
        · simp at hcs
          exact ⟨_, _, _, hcs⟩
      rw [e] at h1 h2
      obtain ⟨A, hA⟩ := ints_of h2
      exact ⟨(pa, ln, cp, A), h1, hA⟩
    obtain ⟨f, hfx⟩ := Deep.choose_lt each
    exact ⟨fun q => (f q).1, fun q => (f q).2.1, fun q => (f q).2.2.1, fun q => (f q).2.2.2, sg_of (fun i hi => (hfx i hi).1), fun q hq => (hfx q hq).2⟩

set_option maxRecDepth 100000 in
theorem lifted (os : Os) (started : os.Started) (H : Type) (enc : TypeId × Value → H) :
    ReturnsInHanded {} Try.checked os 5 .any (Rows.fnIndexRankSpec.pre6 enc Try.prog Try.f5 Rows.fnIndexRankRow.domain false) (Rows.fnIndexRankSpec.post enc Try.prog Try.f5 false true false false) := by
  refine returnsInHanded_of_change (C := Try.checked) own started (by kernel_rfl) Try.func5
    (ChangeSpec.witness6 (enc := enc) (C := Try.checked) false ⟨#[], #[.slice none 0 0, .slice none 0 0, .slice none 0 0, .slice none 0 0, .slice none 0 0, .slice none 0 0, .slice none 0 0], []⟩ 8 (by kernel_rfl) (by kernel_rfl) (by kernel_rfl) (by kernel_rfl)) ?_
  intro W base args ds gs before hval0 hW hcnd _
  have hval : ∀ (j : Nat) t v, Try.f5.params[j]? = some t → args[j]? = some v → Value.okWide Try.prog W .any base t v := hval0
  have hW' := hW
  obtain ⟨p, q, hA0, hV, rfl, hfz, hnd⟩ := hW
  have hA : DataW.TrodAll enc Try.prog W 0 (fun _ => true) true Try.f5.params.toList args.toList ds p := hA0
  rw [Try.params5] at hA hval
  obtain ⟨v0, vs0, d0, ds0, p0, q0, hargs, rfl, rfl, h0, r0⟩ := trodAll_cons hA
  obtain ⟨v1, vs1, d1, ds1, p1, q1, rfl, rfl, rfl, h1, r1⟩ := trodAll_cons r0
  obtain ⟨v2, vs2, d2, ds2, p2, q2, rfl, rfl, rfl, h2, r2⟩ := trodAll_cons r1
  obtain ⟨v3, vs3, d3, ds3, p3, q3, rfl, rfl, rfl, h3, r3⟩ := trodAll_cons r2
  obtain ⟨v4, vs4, d4, ds4, p4, q4, rfl, rfl, rfl, h4, r4⟩ := trodAll_cons r3
  obtain ⟨v5, vs5, d5, ds5, p5, q5, rfl, rfl, rfl, h5, r5⟩ := trodAll_cons r4
  obtain ⟨v6, vs6, d6, ds6, p6, q6, rfl, rfl, rfl, h6, r6⟩ := trodAll_cons r5
  obtain ⟨rfl, rfl, rfl⟩ := trodAll_nil r6
  obtain rfl : args = #[v0, v1, v2, v3, v4, v5, v6] := by cases args; simp_all
  obtain ⟨rfl, rfl⟩ := trodVars_none hV
  obtain ⟨a0, n0, c0, rfl⟩ := okWide_slice Try.underlying22 (hval 0 22 v0 rfl rfl)
  obtain ⟨a1, n1, c1, rfl⟩ := okWide_slice Try.underlying23 (hval 1 23 v1 rfl rfl)
  obtain ⟨a2, n2, c2, rfl⟩ := okWide_slice Try.underlying24 (hval 2 24 v2 rfl rfl)
  obtain ⟨a3, n3, c3, rfl⟩ := okWide_slice Try.underlying22 (hval 3 22 v3 rfl rfl)
  obtain ⟨a4, n4, c4, rfl⟩ := okWide_slice Try.underlying23 (hval 4 23 v4 rfl rfl)
  obtain ⟨a5, n5, c5, rfl⟩ := okWide_slice Try.underlying23 (hval 5 23 v5 rfl rfl)
  obtain ⟨a6, n6, c6, rfl⟩ := okWide_slice Try.underlying22 (hval 6 22 v6 rfl rfl)
  have k0 := h0
  have k1 := h1
  have k2 := h2
  have k3 := h3
  have k4 := h4
  have k5 := h5
  have k6 := h6
  have lt0 : ∀ x ∈ p0, x.block < W.heap.size := by obtain ⟨m, hm⟩ := k0; exact DataW.trod_lt m _ _ _ hm
  have lt1 : ∀ x ∈ p1, x.block < W.heap.size := by obtain ⟨m, hm⟩ := k1; exact DataW.trod_lt m _ _ _ hm
  have lt2 : ∀ x ∈ p2, x.block < W.heap.size := by obtain ⟨m, hm⟩ := k2; exact DataW.trod_lt m _ _ _ hm
  have lt3 : ∀ x ∈ p3, x.block < W.heap.size := by obtain ⟨m, hm⟩ := k3; exact DataW.trod_lt m _ _ _ hm
  have lt4 : ∀ x ∈ p4, x.block < W.heap.size := by obtain ⟨m, hm⟩ := k4; exact DataW.trod_lt m _ _ _ hm
  have lt5 : ∀ x ∈ p5, x.block < W.heap.size := by obtain ⟨m, hm⟩ := k5; exact DataW.trod_lt m _ _ _ hm
  have lt6 : ∀ x ∈ p6, x.block < W.heap.size := by obtain ⟨m, hm⟩ := k6; exact DataW.trod_lt m _ _ _ hm
  obtain ⟨PR, g0⟩ : ∃ A : Nat → Int, Sg W.heap.size W.heap.size a0 n0 (fun i => .int .i64 (A i)) W := by obtain ⟨fuel, hf⟩ := h0; exact ints_of hf
  obtain ⟨PS, g1, hPS⟩ : ∃ A : Nat → Int, Sg W.heap.size W.heap.size a1 n1 (fun i => .int .i32 (A i)) W ∧ ∀ i, i < n1 → A i ≤ 2147483647 := by obtain ⟨fuel, hf⟩ := h1; exact int32s_of hf
  obtain ⟨RA, RL, RC, BP, g2, gr⟩ : ∃ (RA : Nat → Option Addr) (RL RC : Nat → Nat) (BP : Nat → Nat → Int), Sg W.heap.size W.heap.size a2 n2 (fun q => .slice (RA q) (RL q) (RC q)) W ∧ ∀ q, q < n2 → Sg W.heap.size W.heap.size (RA q) (RL q) (fun i => .int .i64 (BP q i)) W := by obtain ⟨fuel, hf⟩ := h2; exact rows_of hf
  obtain ⟨FR, g3⟩ : ∃ A : Nat → Int, Sg W.heap.size W.heap.size a3 n3 (fun i => .int .i64 (A i)) W := by obtain ⟨fuel, hf⟩ := h3; exact ints_of hf
  obtain ⟨RO, g4, _⟩ : ∃ A : Nat → Int, Sg W.heap.size W.heap.size a4 n4 (fun i => .int .i32 (A i)) W ∧ ∀ i, i < n4 → A i ≤ 2147483647 := by obtain ⟨fuel, hf⟩ := h4; exact int32s_of hf
  obtain ⟨WA, g5, _⟩ : ∃ A : Nat → Int, Sg W.heap.size W.heap.size a5 n5 (fun i => .int .i32 (A i)) W ∧ ∀ i, i < n5 → A i ≤ 2147483647 := by obtain ⟨fuel, hf⟩ := h5; exact int32s_of hf
  obtain ⟨RD, g6⟩ : ∃ A : Nat → Int, Sg W.heap.size W.heap.size a6 n6 (fun i => .int .i64 (A i)) W := by obtain ⟨fuel, hf⟩ := h6; exact ints_of hf
  clear hA0 hval0
  refine (law n0 n1 n2 n3 n4 n5 n6 c0 c1 c2 c3 c4 c5 c6 a0 a1 a2 a3 a4 a5 a6 PR PS FR RO WA RD RA RL RC BP W hPS g0 g1 g2 gr g3 g4 g5 g6).mono fun e W' ⟨he, bel⟩ => ?_
  subst he
  exact ⟨_, rfl, _, _, _, [], _, [], hW', trodAll_mk1 (shut_bool Try.underlying4 _), (trodAll_cons_mk (Below.trod laidOut (by kernel_rfl) (of_decide_eq_true (by kernel_rfl)) k0 bel lt0) (trodAll_cons_mk (Below.trod laidOut (by kernel_rfl) (of_decide_eq_true (by kernel_rfl)) k1 bel lt1) (trodAll_cons_mk (Below.trod laidOut (by kernel_rfl) (of_decide_eq_true (by kernel_rfl)) k2 bel lt2) (trodAll_cons_mk (Below.trod laidOut (by kernel_rfl) (of_decide_eq_true (by kernel_rfl)) k3 bel lt3)
    (trodAll_cons_mk (Below.trod laidOut (by kernel_rfl) (of_decide_eq_true (by kernel_rfl)) k4 bel lt4) (trodAll_cons_mk (Below.trod laidOut (by kernel_rfl) (of_decide_eq_true (by kernel_rfl)) k5 bel lt5) (trodAll_cons_mk (Below.trod laidOut (by kernel_rfl) (of_decide_eq_true (by kernel_rfl)) k6 bel lt6) trodAll_mk0))))))), rfl, bel.frame _, fun h => by cases h⟩

theorem over : Rows.fnIndexRankRow.holds Try.pinned (OpenSpec.ofChange Rows.fnIndexRankSpec) :=
  OpenClaim.holds_of_wide 5 Try.f5 rfl rfl rfl rfl rfl rfl rfl ⟨rfl, rfl, rfl, rfl, rfl⟩ rfl rfl rfl rfl rfl (by kernel_rfl) Try.func5 (by kernel_rfl)
    (of_decide_eq_true (by kernel_rfl)) (by unfold Func.isWrapper; first | (rw [if_pos (by decide +kernel)]; kernel_rfl) | (rw [if_neg (by decide +kernel)]; exact ⟨rfl, rfl⟩))
    (fun os started H enc _ => lifted os started H enc)

/-- THE STATEMENT. -/
theorem proved : Rows.FnIndexRankSaid := over
end Go.Proofs.Qxb6605223a
