/-
  THE ROW AND THE TIED CARD of FnOperationStringExecuteVariantsShareSuffixes.
-/
import Derived.Test.Qxb6612937aDoorRows
import Derived.Test.Qxb6612937aDoorTie
import Derived.Test.Qxb6612937aDoorCards
import Derived.Test.Qxb6612937aDoorWalk
import Derived.ProofKit
import Derived.LaidMore
import Derived.OpenShut
import Derived.Stop.Joined
import Derived.SevenTiedAt
namespace Go.Proofs.Qxb6612937aDoor
open Go.ChangeShapes Go.WideShapes Go.ChangeAt Go.WideMaps Go.WideElems Go.RowKit

theorem own : ownKnob Tryd.prog.godebug = none := by kernel_rfl
theorem laidOut : laidOutB Tryd.prog = true := by kernel_rfl
/-- The variable's name, as the given row lists it. -/
def opsName : String := match Rows.fnOperationStringExecuteVariantsShareSuffixesRow.laid with
  | x :: _ => x.1
  | [] => ""
theorem gOps : Tryd.prog.globalNamed opsName = some 0 := by kernel_rfl
theorem tOps : (Tryd.prog.globals[0]?).map (·.type) = some 29 := by kernel_rfl
theorem cells28 : Tryd.prog.cellsOf 28 = 5 := by kernel_rfl
theorem cells9 : Tryd.prog.cellsOf 9 = 1 := by kernel_rfl

/-- What the row lists. -/
def laidList : List (String × DataW Unit) := Rows.fnOperationStringExecuteVariantsShareSuffixesRow.laid

theorem door_met (os : Os) (args : Array Value) : laidMetH Tryd.prog laidList ((World.doorLaid Tryd.prog 32 os).forCall (fun _ _ => 0) ⟨#[], args, []⟩).memory :=
  laidMetH_of_parts3 (fuel := 8) (laidMet_of_run' 8 (by kernel_rfl) (by kernel_rfl)) (by kernel_rfl) (by kernel_rfl)

/-- The bytes of the i-th name. -/
def nameAt : Nat → Option (List UInt8) := fun i =>
  match (Rows.laid_example_com_mlinzi_mlinzi_internal_policy_operations : DataW Unit) with
  | .agg xs => match xs[i]? with
    | some (.agg (.lit (.string b) :: _)) => some b
    | _ => none
  | _ => none

/-- WHAT THE CONDITION GIVES THE WALK: the cells of the names. -/
theorem of_laid {W : World} (h : laidMetH Tryd.prog laidList W) (i : Nat) (hi : i < 19) (b : List UInt8) (hb : nameAt i = some b) : W.cell? ⟨0, i * 5, none⟩ = some (.string ⟨b.toArray⟩) := by
  rw [MakeChecks.laidMetH_plain _ _ _ (by kernel_rfl)] at h
  obtain ⟨ps, ⟨g0, t0, cs0, f0, p0, q0, hg0, ht0, hv0, hd0, _, _⟩, _, _⟩ := h
  obtain rfl := Option.some.inj (gOps.symm.trans hg0)
  obtain rfl := Option.some.inj (tOps.symm.trans ht0)
  obtain ⟨xs, m1, rfl, hx1, hlen, hn, hel⟩ := DataW.trod_array Tryd.underlying29 hd0
  have h1 := hel i hi
  rw [cells28] at h1
  obtain ⟨x, hx⟩ : ∃ x, xs[i]? = some x := ⟨xs[i]'(by omega), List.getElem?_eq_getElem _⟩
  rw [hx] at h1
  obtain ⟨ys, m2, rfl, hy1, hyl, hyn, hyf⟩ := DataW.trod_struct Tryd.underlying28 h1
  have h2 := hyf 0 _ rfl
  obtain ⟨y, hy⟩ : ∃ y, ys[0]? = some y := ⟨ys[0]'(by rw [hyn]; decide), List.getElem?_eq_getElem _⟩
  rw [hy] at h2
  obtain ⟨s, e1, e2, _⟩ := DataW.trod_string Tryd.underlying9 h2
  -- the cell
  have hcell := World.var?_cell hg0 hv0 (i * 5)
  rw [hcell]
  have e3 : (List.take (Tryd.prog.cellsOf 9) (List.drop 0 (List.take 5 (List.drop (i * 5) cs0.toList)))) = [.string s] := e1
  rw [cells9] at e3
  have e4 : cs0[i * 5]? = some (.string s) := by
    have : (List.take 1 (List.drop 0 (List.take 5 (List.drop (i * 5) cs0.toList))))[0]? = some (.string s) := by rw [e3]; rfl
    simpa [List.getElem?_take, List.getElem?_drop] using this
  rw [e4]
  -- its bytes
  have hx1' : (Rows.laid_example_com_mlinzi_mlinzi_internal_policy_operations : DataW Unit) = .agg (xs.map (·.1)) := by simpa using congrArg Prod.fst hx1
  unfold nameAt at hb
  rw [hx1'] at hb
  simp only [List.getElem?_map, hx, Option.map_some] at hb
  rw [hy1] at hb
  cases ys with
  | nil => simp at hy
  | cons y0 yr =>
    simp at hy
    subst hy
    rw [e2] at hb
    simp at hb
    subst hb
    rfl

theorem str_at {W : World} (h : laidMetH Tryd.prog laidList W) (i : Nat) (hi : i < 19) (b : List UInt8) (hb : nameAt i = some b) :
    Calls Tryd.prog 5 #[.int .u8 i] W fun e w' => e = .returned (.string ⟨b.toArray⟩) ∧ W = w' :=
  str_any i (by omega) _ W (of_laid h i hi b hb)

def n10 : List UInt8 := [102, 105, 108, 101, 95, 101, 120, 101, 99, 117, 116, 101]
def n11 : List UInt8 := [102, 105, 108, 101, 95, 101, 120, 101, 99, 117, 116, 101, 95, 108, 111, 97, 100, 95, 112, 114, 111, 102, 105, 108, 101]
def n12 : List UInt8 := [102, 105, 108, 101, 95, 101, 120, 101, 99, 117, 116, 101, 95, 115, 104, 101, 108, 108]
def n14 : List UInt8 := [97, 112, 112, 108, 105, 99, 97, 116, 105, 111, 110, 95, 101, 120, 101, 99, 117, 116, 101]
def n15 : List UInt8 := [97, 112, 112, 108, 105, 99, 97, 116, 105, 111, 110, 95, 101, 120, 101, 99, 117, 116, 101, 95, 108, 111, 97, 100, 95, 112, 114, 111, 102, 105, 108, 101]
def n16 : List UInt8 := [97, 112, 112, 108, 105, 99, 97, 116, 105, 111, 110, 95, 101, 120, 101, 99, 117, 116, 101, 95, 115, 104, 101, 108, 108]

theorem fits0 : Fits ⟨n10.toArray⟩ ⟨n14.toArray⟩ ⟨n10.toArray⟩ ⟨n14.toArray⟩ := ⟨by kernel_rfl, by kernel_rfl, by kernel_rfl, by decide +kernel, by decide +kernel, by kernel_rfl, by kernel_rfl, by kernel_rfl⟩
theorem fits1 : Fits ⟨n10.toArray⟩ ⟨n14.toArray⟩ ⟨n11.toArray⟩ ⟨n15.toArray⟩ := ⟨by kernel_rfl, by kernel_rfl, by kernel_rfl, by decide +kernel, by decide +kernel, by kernel_rfl, by kernel_rfl, by kernel_rfl⟩
theorem fits2 : Fits ⟨n10.toArray⟩ ⟨n14.toArray⟩ ⟨n12.toArray⟩ ⟨n16.toArray⟩ := ⟨by kernel_rfl, by kernel_rfl, by kernel_rfl, by decide +kernel, by decide +kernel, by kernel_rfl, by kernel_rfl, by kernel_rfl⟩

theorem walk (k : Int) (hk : 0 ≤ k) (W : World) (h : laidMetH Tryd.prog laidList W) : Calls Tryd.prog 4 #[.int .u8 k] W fun e w' => e = .returned (.bool true) ∧ W = w' := by
  have c10 := str_at h 10 (by omega) n10 rfl
  have c14 := str_at h 14 (by omega) n14 rfl
  by_cases h2 : 2 < k
  · exact big k h2 W
  rcases (show k = 0 ∨ k = 1 ∨ k = 2 by omega) with rfl | rfl | rfl
  · exact zero W _ _ _ _ fits0 (by kernel_rfl) c10 c14 c10 c14
  · exact more W _ _ _ _ 1 (by omega) (by omega) fits1 (by kernel_rfl) c10 c14 (str_at h 11 (by omega) n11 rfl) (str_at h 15 (by omega) n15 rfl) (by decide +kernel) (fun h => by kernel_rfl)
  · exact more W _ _ _ _ 2 (by omega) (by omega) fits2 (by kernel_rfl) c10 c14 (str_at h 12 (by omega) n12 rfl) (str_at h 16 (by omega) n16 rfl) (by decide +kernel) (fun h => by kernel_rfl)

set_option maxRecDepth 100000 in
theorem lifted (os : Os) (started : os.Started) (H : Type) (enc : TypeId × Value → H) :
    ReturnsInHanded {} Tryd.checked os 4 .any (fun w args => (Rows.fnOperationStringExecuteVariantsShareSuffixesSpec.pre enc Tryd.prog Tryd.f4 [] false w args ∧ laidMetH Tryd.prog laidList w) ∧ sizedMet enc Tryd.prog Tryd.f4 (OpenSpec.ofChange Rows.fnOperationStringExecuteVariantsShareSuffixesSpec) false w args)
      (Rows.fnOperationStringExecuteVariantsShareSuffixesSpec.post enc Tryd.prog Tryd.f4 false true false false) := by
  refine returnsInHanded_of_change_and (C := Tryd.checked) (X := fun w _ => laidMetH Tryd.prog laidList w) (fun _ _ _ hh h => h.of_heap hh) own started (by kernel_rfl) Tryd.func4
    (ChangeSpec.witness_shaped (enc := enc) (C := Tryd.checked) (os := os) (X := fun w _ => laidMetH Tryd.prog laidList w) false (World.doorLaid Tryd.prog 32 os) #[.int .u8 0] 8 rfl (World.shaped_of_RefB (by kernel_rfl) (by kernel_rfl)) (by kernel_rfl) (by kernel_rfl) (by kernel_rfl) (door_met os _)) ?_
  intro W base args ds gs before hval0 hW _ _ hL _
  have hval : ∀ (j : Nat) t v, Tryd.f4.params[j]? = some t → args[j]? = some v → Value.okWide Tryd.prog W .any base t v := hval0
  have hW' := hW
  obtain ⟨p, q, hA0, hV0, rfl, hfz, hnd⟩ := hW
  have hA : DataW.TrodAll enc Tryd.prog W 0 (fun _ => true) true Tryd.f4.params.toList args.toList ds p := hA0
  have hV : DataW.TrodVars enc Tryd.prog W (fun _ => true) [opsName] gs q := hV0
  rw [Tryd.params4] at hA hval
  obtain ⟨v0, d0, rfl, rfl, h0⟩ := trodAll_one hA
  obtain ⟨k, rfl, rfl, rfl, wk⟩ := open_int Tryd.underlying5 (hval 0 5 v0 rfl rfl) h0
  obtain ⟨g, t, cs, fuel, d, p', rfl, hg, ht, hvar, hd, rfl⟩ := trodVars_one hV
  obtain rfl := Option.some.inj (gOps.symm.trans hg)
  obtain rfl := Option.some.inj (tOps.symm.trans ht)
  clear hA0 hV0 hval0
  have k0 : DataW.Trod enc Tryd.prog W 0 (fun _ => true) true 29 (.agg cs) d p' := ⟨fuel, hd⟩
  have lt0 : ∀ x ∈ p', x.block < W.heap.size := DataW.trod_lt fuel _ _ _ hd
  obtain ⟨fuel', hd'⟩ := Below.trod laidOut (by kernel_rfl) (of_decide_eq_true (by kernel_rfl)) k0 (Below.refl _ W) lt0
  refine (walk k (bounds_u8 wk).1 W hL).mono fun e W' ⟨he, hw⟩ => ?_
  subst he
  subst hw
  exact ⟨_, rfl, _, _, _, [], [], _, hW', trodAll_mk1 (shut_bool Tryd.underlying4 _), trodAll_mk1 (shut_int Tryd.underlying5 wk), trodVars_mk1 hg ht hvar hd', World.keptBut_refl _ _, fun h => by cases h⟩

theorem row_holds : Rows.FnOperationStringExecuteVariantsShareSuffixesSaid :=
  OpenClaim.holds_of_wide 4 Tryd.f4 rfl rfl rfl rfl rfl rfl rfl ⟨rfl, rfl, rfl, rfl, rfl⟩ rfl rfl rfl rfl rfl (by kernel_rfl) Tryd.func4 (by kernel_rfl)
    (of_decide_eq_true (by kernel_rfl)) (by unfold Func.isWrapper; first | (rw [if_pos (by decide +kernel)]; kernel_rfl) | (rw [if_neg (by decide +kernel)]; exact ⟨rfl, rfl⟩))
    (fun os started H enc _ => lifted os started H enc)

/-- THE STATEMENT: the tied card. -/
theorem proved : Rows.FnOperationStringExecuteVariantsShareSuffixesCardSaid :=
  Claim7.holds_tied_plain_at .later [] [.wider] true (true, "473d5c1123a0c118c675c7628ccfdefd0342ea4222b39766dc73234f01df6dc9") false
    row_holds (fun _ h => by cases h) (by kernel_rfl) (fun _ h => by cases h) fnOperationStringExecuteVariantsShareSuffixes_row_tie rfl ⟨rfl, rfl⟩ (by kernel_rfl) rfl
    (fun f fn hf hfn => by
      obtain rfl : f = 4 := Option.some.inj ((show Tryd.prog.funcNamed Rows.fnOperationStringExecuteVariantsShareSuffixesRow.func = some 4 by kernel_rfl).symm.trans hf) |>.symm
      obtain rfl : fn = Tryd.f4 := (Option.some.inj (Tryd.func4.symm.trans hfn)).symm
      exact ⟨by kernel_rfl, fun j t ht => by
        rw [Tryd.params4] at ht
        have hm : t ∈ [5] := by simpa using Array.mem_of_getElem? ht
        have hall : ([5].all fun u => !Tryd.prog.wantsStandIn u) = true := by kernel_rfl
        exact (show Tryd.prog.wantsStandIn t = false by simpa using List.all_eq_true.1 hall t hm)⟩)
    (by kernel_rfl)

end Go.Proofs.Qxb6612937aDoor
