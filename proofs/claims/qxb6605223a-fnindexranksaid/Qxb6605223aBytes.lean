/-
  zzBytes (7), zzBytes_FnIndexRank (19).
-/
import Derived.Test.Qxb6605223aBase
namespace Go.Proofs.Qxb6605223a
open Go.RowKit

/-- What zzBytes leaves: a number; where it is at most 2^20, every row is as short. -/
def Sized (P : Nat) (RL : Nat → Nat) (w : World) (e : Ending) (w' : World) : Prop := (∃ t : Int, e = .returned (.int .i64 t) ∧ (t ≤ 1048576 → ∀ q, q < P → RL q ≤ 1048576)) ∧ w = w'

theorem Sized.no {P : Nat} {RL : Nat → Nat} {w : World} : Sized P RL w (.returned (.int .i64 1048577)) w := ⟨⟨_, rfl, fun h => by omega⟩, rfl⟩

set_option maxHeartbeats 1000000 in
set_option maxRecDepth 100000 in
theorem bytes7 (R B n0 n1 P n3 n4 n5 n6 c0 c1 c2 c3 c4 c5 c6 : Nat) (pa0 pa1 pa2 pa3 pa4 pa5 pa6 : Option Addr) (RA : Nat → Option Addr) (RL RC : Nat → Nat) (w : World)
    (h0 : n0 ≤ 4096) (h1 : n1 ≤ 4096) (hP : P ≤ 4096) (h3 : n3 ≤ 4096) (h4 : n4 ≤ 4096) (h5 : n5 ≤ 4096) (h6 : n6 ≤ 4096) (hS : Sg R B pa2 P (fun q => .slice (RA q) (RL q) (RC q)) w) :
    Calls Try.prog 7 #[.slice pa0 n0 c0, .slice pa1 n1 c1, .slice pa2 P c2, .slice pa3 n3 c3, .slice pa4 n4 c4, .slice pa5 n5 c5, .slice pa6 n6 c6, .slice none 0 0] w fun e w' => Sized P RL w e w' := by
  have HS := hid hS
  clear hS
  go_enter Try.func7, Try.ntmps7
  go_wp2
  · go_loop [17, 18] (fun t i => ∃ (k s : Nat), k ≤ P ∧ i = .int .i64 k ∧ t = .int .i64 s ∧ s ≤ 1048576 ∧ Hid (∀ j, j < k → RL j ≤ 1048576)) (fun _ i => P - (intOf i).toNat)
    case atStart => exact ⟨0, 8 * n0 + 4 * n1 + 24 * P + 8 * n3 + 4 * n4 + 4 * n5 + 8 * n6, Nat.zero_le _, rfl, by go_num, by omega, fun j hj => absurd hj (Nat.not_lt_zero _)⟩
    case round =>
      obtain ⟨k, s, hk, rfl, rfl, hs, HF⟩ := hrel
      by_cases hlt : k < P
      · obtain ⟨b, o, rfl, _, _, hc⟩ := HS.out (by omega)
        have k0 : w.cell? ⟨b, o + k, none⟩ = some (.slice (RA k) (RL k) (RC k)) := hc k hlt
        clear hc
        go_wp2
        · go_ret
          exact Sized.no
        · go_ret
          exact Sized.no
        · go_round
          case rel => exact ⟨k + 1, s + 8 * RL k, by omega, by go_num, by go_num, by omega, fun j hj => by
            rcases Nat.lt_succ_iff_lt_or_eq.1 hj with h | rfl
            · exact HF.out j h
            · omega⟩
          case measure => simp [intOf]; omega
      · go_wp2
        go_ret
        exact ⟨⟨_, rfl, fun _ i hi => HF.out i (by omega)⟩, rfl⟩

set_option maxHeartbeats 2000000 in
set_option maxRecDepth 100000 in
theorem bytes19 (R B n0 n1 P n3 n4 n5 n6 c0 c1 c2 c3 c4 c5 c6 : Nat) (pa0 pa1 pa2 pa3 pa4 pa5 pa6 : Option Addr) (RA : Nat → Option Addr) (RL RC : Nat → Nat) (w : World)
    (hS : Sg R B pa2 P (fun q => .slice (RA q) (RL q) (RC q)) w) :
    Calls Try.prog 19 #[.slice pa0 n0 c0, .slice pa1 n1 c1, .slice pa2 P c2, .slice pa3 n3 c3, .slice pa4 n4 c4, .slice pa5 n5 c5, .slice pa6 n6 c6] w fun e w' => Told True w e w' := by
  have HS := hid hS
  clear hS
  go_enter Try.func19, Try.ntmps19
  go_wp2
  all_goals (try (go_ret; exact Told.no))
  go_loop [15, 16] (fun t i => ∃ (k s : Nat), k ≤ P ∧ i = .int .i64 k ∧ t = .int .i64 s ∧ s ≤ 1048576) (fun _ i => P - (intOf i).toNat)
  case atStart => exact ⟨0, n0 + n1 + P, Nat.zero_le _, rfl, by go_num, by omega⟩
  case round =>
    obtain ⟨k, s, hk, rfl, rfl, hs⟩ := hrel
    by_cases hlt : k < P
    · obtain ⟨b, o, rfl, _, _, hc⟩ := HS.out (by omega)
      have k0 : w.cell? ⟨b, o + k, none⟩ = some (.slice (RA k) (RL k) (RC k)) := hc k hlt
      clear hc
      go_wp2
      all_goals (try (go_ret; exact Told.no))
      go_round
      case rel => exact ⟨k + 1, s + RL k, by omega, by go_num, by go_num, by omega⟩
      case measure => simp [intOf]; omega
    · go_wp2
      all_goals
        go_ret
        first
          | exact Told.no
          | exact Told.yes trivial
end Go.Proofs.Qxb6605223a
