/-
  THE WALK of FnOperationStringExecuteVariantsShareSuffixes (4) and of (Operation).String (5).
-/
import Derived.Test.Qxb6612937aDoorProg
import Derived.WalkKit
import Derived.WalkSpells
import Derived.WalkLawsBesides
namespace Go.Proofs.Qxb6612937aDoor
open Go.RowKit

theorem str_any (k : Nat) (hk : (k : Int) < 19) (s : ByteArray) (w : World) (h : w.cell? ⟨0, k * 5, none⟩ = some (.string s)) :
    Calls Tryd.prog 5 #[.int .u8 k] w fun e w' => e = .returned (.string s) ∧ w = w' := by
  go_enter Tryd.func5, Tryd.ntmps5
  go_wp2
  go_ret
  exact ⟨rfl, rfl⟩

theorem big (k : Int) (h : 2 < k) (w : World) : Calls Tryd.prog 4 #[.int .u8 k] w fun e w' => e = .returned (.bool true) ∧ w = w' := by
  go_enter Tryd.func4, Tryd.ntmps4
  go_wp2
  go_ret
  exact ⟨rfl, rfl⟩

theorem hid {p : Prop} (h : p) : Hid p := h


structure Fits (fb ab fs gs : ByteArray) : Prop where
  hfb : fb.toList.isEmpty = false
  hab : ab.toList.isEmpty = false
  hne : (fb.toList == ab.toList) = false
  s1 : fb.size ≤ fs.size
  s2 : ab.size ≤ gs.size
  x1 : ((fs.extract 0 fb.size).toList == fb.toList) = true
  x2 : ((gs.extract 0 ab.size).toList == ab.toList) = true
  x3 : ((fs.extract fb.size fs.size).toList == (gs.extract ab.size gs.size).toList) = true

set_option maxHeartbeats 400000 in
theorem zero (w : World) (fb ab fs gs : ByteArray) (F : Fits fb ab fs gs) (hem : (fs.extract fb.size fs.size).toList.isEmpty = true) (h10 : Calls Tryd.prog 5 #[.int .u8 10] w fun e w' => e = .returned (.string fb) ∧ w = w')
    (h14 : Calls Tryd.prog 5 #[.int .u8 14] w fun e w' => e = .returned (.string ab) ∧ w = w')
    (h12 : Calls Tryd.prog 5 #[.int .u8 10] w fun e w' => e = .returned (.string fs) ∧ w = w')
    (h16 : Calls Tryd.prog 5 #[.int .u8 14] w fun e w' => e = .returned (.string gs) ∧ w = w') : Calls Tryd.prog 4 #[.int .u8 0] w fun e w' => e = .returned (.bool true) ∧ w = w' := by
  have H10 := hid h10
  have H14 := hid h14
  have H12 := hid h12
  have H16 := hid h16
  clear h10 h14 h12 h16
  obtain ⟨hfb, hab, hne, s1, s2, x1, x2, x3⟩ := F
  go_enter Tryd.func4, Tryd.ntmps4
  go_wp2_with fail
  refine H10.out.mono ?_
  rintro e w' ⟨rfl, rfl⟩
  go_wp2_with fail
  refine H14.out.mono ?_
  rintro e w' ⟨rfl, rfl⟩
  go_wp2_with fail
  refine H12.out.mono ?_
  rintro e w' ⟨rfl, rfl⟩
  go_wp2_with fail
  refine H16.out.mono ?_
  rintro e w' ⟨rfl, rfl⟩
  go_wp2
  go_ret
  exact ⟨rfl, rfl⟩

set_option maxHeartbeats 400000 in
theorem more (w : World) (fb ab fs gs : ByteArray) (k : Int) (hk0 : 1 ≤ k) (hk : k ≤ 2) (F : Fits fb ab fs gs) (hem : (fs.extract fb.size fs.size).toList.isEmpty = false) (h10 : Calls Tryd.prog 5 #[.int .u8 10] w fun e w' => e = .returned (.string fb) ∧ w = w')
    (h14 : Calls Tryd.prog 5 #[.int .u8 14] w fun e w' => e = .returned (.string ab) ∧ w = w')
    (h12 : Calls Tryd.prog 5 #[.int .u8 (10 + k)] w fun e w' => e = .returned (.string fs) ∧ w = w')
    (h16 : Calls Tryd.prog 5 #[.int .u8 (14 + k)] w fun e w' => e = .returned (.string gs) ∧ w = w')
    (hlt : 0 < fs.size - fb.size) (h95 : ∀ h : 0 < (fs.extract fb.size fs.size).size, (((fs.extract fb.size fs.size)[0]'h).toNat : Int) = 95) : Calls Tryd.prog 4 #[.int .u8 k] w fun e w' => e = .returned (.bool true) ∧ w = w' := by
  have H10 := hid h10
  have H14 := hid h14
  have H12 := hid h12
  have H16 := hid h16
  have H95 := hid h95
  clear h10 h14 h12 h16 h95
  obtain ⟨hfb, hab, hne, s1, s2, x1, x2, x3⟩ := F
  go_enter Tryd.func4, Tryd.ntmps4
  go_wp2_with fail
  refine H10.out.mono ?_
  rintro e w' ⟨rfl, rfl⟩
  go_wp2_with fail
  refine H14.out.mono ?_
  rintro e w' ⟨rfl, rfl⟩
  go_wp2_with fail
  refine H12.out.mono ?_
  rintro e w' ⟨rfl, rfl⟩
  go_wp2_with fail
  refine H16.out.mono ?_
  rintro e w' ⟨rfl, rfl⟩
  go_wp2
  go_ret
  exact ⟨congrArg (fun x : Int => Ending.returned (.bool (x == 95))) (H95.out _), rfl⟩
end Go.Proofs.Qxb6612937aDoor
