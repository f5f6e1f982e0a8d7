/-
  zzCloneInt2 (12), zzReturnedBy (13), zzWellFormed (8), zzBytes (7), zzBytes_FnIndexRank (19).
-/
import Derived.Test.Qxb6605223aBase
namespace Go.Proofs.Qxb6605223a
open Go.RowKit

/-- The documented shape, at one operation. -/
structure OkAt (n P : Nat) (PR PS FR : Nat → Int) (RL : Nat → Nat) (BP : Nat → Nat → Int) (i : Nat) : Prop where
  pr0 : 0 ≤ PR i
  pr : PR i < P
  ps0 : 1 ≤ PS i
  ps : PS i ≤ RL (PR i).toNat
  bp : BP (PR i).toNat ((PS i).toNat - 1) = i
  fr0 : -1 ≤ FR i
  fr : FR i < n

def WF (n P : Nat) (PR PS FR : Nat → Int) (RL : Nat → Nat) (BP : Nat → Nat → Int) : Prop := ∀ i, i < n → OkAt n P PR PS FR RL BP i

structure Fits (n n1 n3 n4 n5 P : Nat) : Prop where
  e1 : n1 = n
  e3 : n3 = n
  e4 : n4 = P
  e5 : n5 = P

theorem well_len (pa0 pa1 pa2 pa3 pa4 pa5 : Option Addr) (n n1 P n3 n4 n5 c0 c1 c2 c3 c4 c5 : Nat) (p : Prop) (w : World) (h : ¬ Fits n n1 n3 n4 n5 P) :
    Calls Try.prog 8 #[.slice pa0 n c0, .slice pa1 n1 c1, .slice pa2 P c2, .slice pa3 n3 c3, .slice pa4 n4 c4, .slice pa5 n5 c5] w fun e w' => Told p w e w' := by
  have hh : n1 ≠ n ∨ (n1 = n ∧ n3 ≠ n) ∨ (n1 = n ∧ n3 = n ∧ n4 ≠ P) ∨ (n1 = n ∧ n3 = n ∧ n4 = P ∧ n5 ≠ P) := by
    by_cases e1 : n1 = n
    · by_cases e3 : n3 = n
      · by_cases e4 : n4 = P
        · by_cases e5 : n5 = P
          · exact absurd ⟨e1, e3, e4, e5⟩ h
          · exact .inr (.inr (.inr ⟨e1, e3, e4, e5⟩))
        · exact .inr (.inr (.inl ⟨e1, e3, e4⟩))
      · exact .inr (.inl ⟨e1, e3⟩)
    · exact .inl e1
  clear h
  rcases hh with h | ⟨rfl, h⟩ | ⟨rfl, rfl, h⟩ | ⟨rfl, rfl, rfl, h⟩
  all_goals
    go_enter Try.func8, Try.ntmps8
    go_wp2
    go_ret
    exact Told.no

set_option maxHeartbeats 1000000 in
set_option maxRecDepth 100000 in
theorem well (R B n P c0 c1 c2 c3 c4 c5 : Nat) (pa0 pa1 pa2 pa3 pa4 pa5 : Option Addr) (PR PS FR : Nat → Int) (RA : Nat → Option Addr) (RL RC : Nat → Nat) (BP : Nat → Nat → Int) (w : World) (hn : n ≤ 4096) (hP : P ≤ 4096) (hRL : ∀ q, q < P → RL q ≤ 1048576) (hPS : ∀ i, i < n → PS i ≤ 2147483647)
    (h0 : Sg R B pa0 n (fun i => .int .i64 (PR i)) w) (h1 : Sg R B pa1 n (fun i => .int .i32 (PS i)) w) (h2 : Sg R B pa2 P (fun q => .slice (RA q) (RL q) (RC q)) w) (h3 : Sg R B pa3 n (fun i => .int .i64 (FR i)) w)
    (hr : ∀ q, q < P → Sg R B (RA q) (RL q) (fun i => .int .i64 (BP q i)) w) :
    Calls Try.prog 8 #[.slice pa0 n c0, .slice pa1 n c1, .slice pa2 P c2, .slice pa3 n c3, .slice pa4 P c4, .slice pa5 P c5] w fun e w' => Told (WF n P PR PS FR RL BP) w e w' := by
  have H0 := hid h0
  have H1 := hid h1
  have H2 := hid h2
  have H3 := hid h3
  have HR := hid hr
  have HL := hid hRL
  have HPS := hid hPS
  clear h0 h1 h2 h3 hr hRL hPS
  go_enter Try.func8, Try.ntmps8
  go_wp2
  go_loop [14] (fun i => ∃ k : Nat, k ≤ n ∧ i = .int .i64 k ∧ Hid (∀ j, j < k → OkAt n P PR PS FR RL BP j)) (fun i => n - (intOf i).toNat)
  case atStart => exact ⟨0, Nat.zero_le _, rfl, fun j hj => absurd hj (Nat.not_lt_zero _)⟩
  case round =>
    obtain ⟨k, hk, rfl, HF⟩ := hrel
    by_cases hlt : k < n
    · obtain ⟨b0, o0, rfl, _, _, hc0⟩ := H0.out (by omega)
      obtain ⟨b1, o1, rfl, _, _, hc1⟩ := H1.out (by omega)
      obtain ⟨b3, o3, rfl, _, _, hc3⟩ := H3.out (by omega)
      have k0 : w.cell? ⟨b0, o0 + k, none⟩ = some (.int .i64 (PR k)) := hc0 k hlt
      have k1 : w.cell? ⟨b1, o1 + k, none⟩ = some (.int .i32 (PS k)) := hc1 k hlt
      have k3 : w.cell? ⟨b3, o3 + k, none⟩ = some (.int .i64 (FR k)) := hc3 k hlt
      clear hc0 hc1 hc3
      by_cases hq0 : PR k < 0
      · go_wp2
        go_ret
        exact Told.no
      by_cases hq1 : (P : Int) ≤ PR k
      · go_wp2
        go_ret
        exact Told.no
      obtain ⟨q, hq⟩ : ∃ q : Nat, PR k = q := ⟨(PR k).toNat, by omega⟩
      have hqP : q < P := by omega
      rw [hq] at k0
      obtain ⟨b2, o2, rfl, _, _, hc2⟩ := H2.out (by omega)
      have k2 : w.cell? ⟨b2, o2 + q, none⟩ = some (.slice (RA q) (RL q) (RC q)) := hc2 q hqP
      have hl := HL.out q hqP
      clear hc2 hq0 hq1
      have hps := HPS.out k hlt
      by_cases hp0 : PS k < 1
      · go_wp2
        go_ret
        exact Told.no
      by_cases hp1 : (RL q : Int) < PS k
      · go_wp2
        go_ret
        exact Told.no
      obtain ⟨p, hp⟩ : ∃ p : Nat, PS k = (p : Int) + 1 := ⟨(PS k - 1).toNat, by omega⟩
      have hpR : p < RL q := by omega
      obtain ⟨br, or, er, _, _, hcr⟩ := HR.out q hqP (by omega)
      have kr : w.cell? ⟨br, or + p, none⟩ = some (.int .i64 (BP q p)) := hcr p hpR
      rw [er] at k2
      rw [hp] at k1
      clear hcr hp0 hp1
      go_wp2
      · go_ret
        exact Told.no
      · go_ret
        exact Told.no
      · have hbp : (BP q p == (k : Int)) = true := by first | assumption | (simp; assumption) | (simp_all)
        go_round
        case rel => exact ⟨k + 1, by omega, by go_num, fun j hj => by
          rcases Nat.lt_succ_iff_lt_or_eq.1 hj with h | rfl
          · exact HF.out j h
          · have e1 : (PR j).toNat = q := by omega
            have e2 : (PS j).toNat - 1 = p := by omega
            exact ⟨by omega, by omega, by omega, by rw [e1]; omega, by rw [e1, e2]; simpa using hbp, by omega, by omega⟩⟩
        case measure => simp [intOf]; omega
      · go_ret
        exact Told.no
    · go_wp2
      go_ret
      exact Told.yes (fun i hi => HF.out i (by omega))
end Go.Proofs.Qxb6605223a
