/-
  'head' (28).
-/
import Derived.Test.Qxb6000697aSmall
namespace Go.Proofs.Qxb6000697a
open Go.RowKit

theorem head_none (R : Nat) (dv : Value) (w : World) (off : Int) (h : It R dv w off false) :
    Calls Try.prog 28 #[.pointer (some ⟨R, 0, none⟩)] w fun e w' => e = .returned (.agg #[.int .u8 0, .int .u64 0, .bool false]) ∧ Gone R dv w w' off false := by
  have c0 := h.c0
  have c1 := h.c1
  have c2 := h.c2
  have z0 := h.fz 0
  have z1 := h.fz 1
  have z2 := h.fz 2
  have hR := h.lt
  go_enter Try.func28, Try.ntmps28
  go_wp2
  go_quiet (fail)
  go_wp2
  refine bodyPost_ret (v := .agg #[.int .u8 0, .int .u64 0, .bool false]) (by simp [results, Try.results28, go_sem]) rfl ⟨rfl, ?_⟩
  repeat (with_reducible first | exact Gone.start h | apply Gone.drewN | apply Gone.drew | apply Gone.alloc | refine Gone.setNew ?_ (Nat.le_refl _) hR _ _ | refine Gone.setNew ?_ (Nat.le_succ _) hR _ _ | apply Gone.set1 | apply Gone.set2)

theorem head_end (R : Nat) (pa : Option Addr) (n cap : Nat) (w : World) (off : Nat) (h : It R (.slice pa n cap) w off true) (h1 : (n : Int) ≤ (off : Int)) :
    Calls Try.prog 28 #[.pointer (some ⟨R, 0, none⟩)] w fun e w' => e = .returned (.agg #[.int .u8 0, .int .u64 0, .bool false]) ∧ Gone R (.slice pa n cap) w w' off false := by
  have c0 := h.c0
  have c1 := h.c1
  have c2 := h.c2
  have z0 := h.fz 0
  have z1 := h.fz 1
  have z2 := h.fz 2
  have hR := h.lt
  go_enter Try.func28, Try.ntmps28
  go_wp2
  go_quiet (fail)
  go_wp2
  refine bodyPost_ret (v := .agg #[.int .u8 0, .int .u64 0, .bool false]) (by simp [results, Try.results28, go_sem]) rfl ⟨rfl, ?_⟩
  repeat (with_reducible first | exact Gone.start h | apply Gone.drewN | apply Gone.drew | apply Gone.alloc | refine Gone.setNew ?_ (Nat.le_refl _) hR _ _ | refine Gone.setNew ?_ (Nat.le_succ _) hR _ _ | apply Gone.set1 | apply Gone.set2)

theorem head_small (R : Nat) (w : World) (off : Nat) (b o n cap : Nat) (x : Nat) (h : It R (.slice (some ⟨b, o, none⟩) n cap) w off true) (hn : n ≤ 1048576) (h1 : (off : Int) < (n : Int)) (hx : x < 256) (hc : w.cell? ⟨b, o + off, none⟩ = some (.int .u8 x)) (hi : (x : Int) % 32 < 24) :
    Calls Try.prog 28 #[.pointer (some ⟨R, 0, none⟩)] w fun e w' => e = .returned (.agg #[.int .u8 ((x : Int) / 32), .int .u64 ((x : Int) % 32), .bool false]) ∧ Gone R (.slice (some ⟨b, o, none⟩) n cap) w w' (off + 1) true := by
  have c0 := h.c0
  have c1 := h.c1
  have c2 := h.c2
  have z0 := h.fz 0
  have z1 := h.fz 1
  have z2 := h.fz 2
  have hR := h.lt
  have hb := World.block_lt_of_cell? w _ hc
  have hd : decide ((n : Int) ≤ (off : Int)) = false := decide_eq_false (by omega)
  have h0 : (0 : Int) ≤ (off : Int) := by omega
  go_enter Try.func28, Try.ntmps28
  go_wp2
  go_quiet (fail)
  go_wp2
  go_quiet (fail)
  go_wp2
  refine bodyPost_ret (v := .agg #[.int .u8 ((x : Int) / 32), .int .u64 ((x : Int) % 32), .bool false]) (by simp [results, Try.results28, go_sem]) rfl ⟨rfl, ?_⟩
  repeat (with_reducible first | exact Gone.start h | apply Gone.drewN | apply Gone.drew | apply Gone.alloc | refine Gone.setNew ?_ (Nat.le_refl _) hR _ _ | refine Gone.setNew ?_ (Nat.le_succ _) hR _ _ | apply Gone.set1 | apply Gone.set2)

theorem head_ind (R : Nat) (w : World) (off : Nat) (b o n cap : Nat) (x : Nat) (h : It R (.slice (some ⟨b, o, none⟩) n cap) w off true) (hn : n ≤ 1048576) (h1 : (off : Int) < (n : Int)) (hx : x < 256) (hc : w.cell? ⟨b, o + off, none⟩ = some (.int .u8 x)) (hi : (x : Int) % 32 = 31) (h2 : 2 ≤ (x : Int) / 32) (h5 : (x : Int) / 32 ≤ 5) :
    Calls Try.prog 28 #[.pointer (some ⟨R, 0, none⟩)] w fun e w' => e = .returned (.agg #[.int .u8 ((x : Int) / 32), .int .u64 0, .bool true]) ∧ Gone R (.slice (some ⟨b, o, none⟩) n cap) w w' (off + 1) true := by
  have c0 := h.c0
  have c1 := h.c1
  have c2 := h.c2
  have z0 := h.fz 0
  have z1 := h.fz 1
  have z2 := h.fz 2
  have hR := h.lt
  have hb := World.block_lt_of_cell? w _ hc
  have hd : decide ((n : Int) ≤ (off : Int)) = false := decide_eq_false (by omega)
  have h0 : (0 : Int) ≤ (off : Int) := by omega
  go_enter Try.func28, Try.ntmps28
  go_wp2
  go_quiet (fail)
  go_wp2
  go_quiet (fail)
  go_wp2
  refine bodyPost_ret (v := .agg #[.int .u8 ((x : Int) / 32), .int .u64 0, .bool true]) (by simp [results, Try.results28, go_sem]) rfl ⟨rfl, ?_⟩
  repeat (with_reducible first | exact Gone.start h | apply Gone.drewN | apply Gone.drew | apply Gone.alloc | refine Gone.setNew ?_ (Nat.le_refl _) hR _ _ | refine Gone.setNew ?_ (Nat.le_succ _) hR _ _ | apply Gone.set1 | apply Gone.set2)

theorem head_bad (R : Nat) (w : World) (off : Nat) (b o n cap : Nat) (x : Nat) (h : It R (.slice (some ⟨b, o, none⟩) n cap) w off true) (hn : n ≤ 1048576) (h1 : (off : Int) < (n : Int)) (hx : x < 256) (hc : w.cell? ⟨b, o + off, none⟩ = some (.int .u8 x)) (hi : 27 < (x : Int) % 32) (h2 : ¬ (x : Int) % 32 = 31 ∨ (x : Int) / 32 < 2 ∨ 5 < (x : Int) / 32) :
    Calls Try.prog 28 #[.pointer (some ⟨R, 0, none⟩)] w fun e w' => e = .returned (.agg #[.int .u8 0, .int .u64 0, .bool false]) ∧ Gone R (.slice (some ⟨b, o, none⟩) n cap) w w' (off + 1) false := by
  have c0 := h.c0
  have c1 := h.c1
  have c2 := h.c2
  have z0 := h.fz 0
  have z1 := h.fz 1
  have z2 := h.fz 2
  have hR := h.lt
  have hb := World.block_lt_of_cell? w _ hc
  have hd : decide ((n : Int) ≤ (off : Int)) = false := decide_eq_false (by omega)
  have h0 : (0 : Int) ≤ (off : Int) := by omega
  have H2 := hid h2
  clear h2
  go_enter Try.func28, Try.ntmps28
  go_wp2
  go_quiet (fail)
  go_wp2
  go_quiet (fail)
  go_wp2
  all_goals first
    | (exfalso; have := H2.out; omega)
    | (refine bodyPost_ret (v := .agg #[.int .u8 0, .int .u64 0, .bool false]) (by simp [results, Try.results28, go_sem]) rfl ⟨rfl, ?_⟩; repeat (with_reducible first | exact Gone.start h | apply Gone.drewN | apply Gone.drew | apply Gone.alloc | refine Gone.setNew ?_ (Nat.le_refl _) hR _ _ | refine Gone.setNew ?_ (Nat.le_succ _) hR _ _ | apply Gone.set1 | apply Gone.set2))

end Go.Proofs.Qxb6000697a
