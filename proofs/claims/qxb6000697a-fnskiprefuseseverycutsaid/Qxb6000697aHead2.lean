/-
  'head' (28) with an argument of 1, 2, 4 or 8 bytes.
-/
import Derived.Test.Qxb6000697aHead
namespace Go.Proofs.Qxb6000697a
open Go.RowKit

/-- One byte more of an argument. -/
def stp (a : Int) (b : Nat) : Int := bits BinOp.or IntKind.u64 (IntKind.u64.wrap (a * 256)) (IntKind.u64.wrap (b : Int))
/-- The argument's first k bytes, from place o on. -/
def be (D : Nat → Nat) (o : Nat) : Nat → Int
  | 0 => 0
  | k + 1 => stp (be D o k) (D (o + k))

/-- The round's relation. -/
structure HRel (R : Nat) (dv : Value) (w wr : World) (off : Nat) (x : Nat) (D : Nat → Nat) (k : Nat) : Prop where
  gone : Gone R dv w wr (off + 1) true
  res : wr.heap[w.heap.size]? = some (.cells #[.int .u8 0, .int .u64 0, .bool false] 51 (0, 0))
  hd : wr.heap[w.heap.size + 1]? = some (.cells #[.int .u8 ((x : Int) / 32), .int .u64 (be D (off + 1) k), .bool false] 51 (0, 0))

theorem HRel.next {R : Nat} {dv : Value} {w wr : World} {off x : Nat} {D : Nat → Nat} {k : Nat} (h : HRel R dv w wr off x D k) (hR : R < w.heap.size) :
    HRel R dv w (wr.setCell ⟨w.heap.size + 1, 1, none⟩ (.int .u64 (bits BinOp.or IntKind.u64 (IntKind.u64.wrap (be D (off + 1) k * 256)) (IntKind.u64.wrap (D (off + 1 + k) : Int))))) off x D (k + 1) := by
  refine ⟨h.gone.setNew (Nat.le_succ _) hR _ _, ?_, ?_⟩
  · rw [heap_setCell_other _ _ _ _ (by simp)]
    exact h.res
  · rw [heap_setCell_same wr (w.heap.size + 1) 1 _ 51 _ h.hd]
    rfl

theorem HRel.drewN {R : Nat} {dv : Value} {w wr : World} {off x : Nat} {D : Nat → Nat} {k : Nat} (h : HRel R dv w wr off x D k) (q : Nat) : HRel R dv w (wr.drewN q) off x D k := ⟨h.gone.drewN q, h.res, h.hd⟩

theorem res_cells {wr : World} {S R : Nat} {x0 x1 x2 : Value} (hS : wr.heap[S]? = some (.cells #[x0, x1, x2] 51 (0, 0))) (hne : S ≠ R) (v a b c : Value) :
    ((((wr.setCell ⟨R, 1, none⟩ v).setCell ⟨S, 0, none⟩ a).setCell ⟨S, 1, none⟩ b).setCell ⟨S, 2, none⟩ c).cell? ⟨S, 0, none⟩ = some a ∧
    ((((wr.setCell ⟨R, 1, none⟩ v).setCell ⟨S, 0, none⟩ a).setCell ⟨S, 1, none⟩ b).setCell ⟨S, 2, none⟩ c).cell? ⟨S, 1, none⟩ = some b ∧
    ((((wr.setCell ⟨R, 1, none⟩ v).setCell ⟨S, 0, none⟩ a).setCell ⟨S, 1, none⟩ b).setCell ⟨S, 2, none⟩ c).cell? ⟨S, 2, none⟩ = some c := by
  have h0 : (wr.setCell ⟨R, 1, none⟩ v).heap[S]? = some (.cells #[x0, x1, x2] 51 (0, 0)) := by rw [heap_setCell_other _ _ _ _ hne]; exact hS
  have h1 := heap_setCell_same _ S 0 _ 51 a h0
  have h2 := heap_setCell_same _ S 1 _ 51 b h1
  have h3 := heap_setCell_same _ S 2 _ 51 c h2
  exact ⟨by rw [cell_of_row _ _ _ _ _ _ h3]; rfl, by rw [cell_of_row _ _ _ _ _ _ h3]; rfl, by rw [cell_of_row _ _ _ _ _ _ h3]; rfl⟩

theorem HRel.start {R : Nat} {dv : Value} {w : World} {off x : Nat} {D : Nat → Nat} {q1 q2 : Nat} (h : It R dv w off true) :
    HRel R dv w (((((w.alloc (.cells #[.int .u8 0, .int .u64 0, .bool false] 51)).drewN q1).setCell ⟨R, 1, none⟩ (.int .i64 (off + 1))).alloc (.cells #[.int .u8 ((x : Int) / 32), .int .u64 0, .bool false] 51)).drewN q2) off x D 0 := by
  have hR := h.lt
  refine ⟨((((((Gone.start h).alloc _).drewN _).set1 _).alloc _).drewN _), ?_, ?_⟩
  · show ((((w.alloc (.cells #[.int .u8 0, .int .u64 0, .bool false] 51)).drewN q1).setCell ⟨R, 1, none⟩ (.int .i64 (off + 1))).alloc (.cells #[.int .u8 ((x : Int) / 32), .int .u64 0, .bool false] 51)).heap[w.heap.size]? = _
    have e : (((w.alloc (.cells #[.int .u8 0, .int .u64 0, .bool false] 51)).drewN q1).setCell ⟨R, 1, none⟩ (.int .i64 (off + 1))).heap.size = w.heap.size + 1 := by simp [World.setCell]
    rw [Below.heap_alloc _ _ _ (by rw [e]; omega), heap_setCell_other _ _ _ _ (by simp; omega)]
    exact Go.heap_alloc_new w _
  · have e : (((w.alloc (.cells #[.int .u8 0, .int .u64 0, .bool false] 51)).drewN q1).setCell ⟨R, 1, none⟩ (.int .i64 (off + 1))).heap.size = w.heap.size + 1 := by simp [World.setCell]
    have := Go.heap_alloc_new (((w.alloc (.cells #[.int .u8 0, .int .u64 0, .bool false] 51)).drewN q1).setCell ⟨R, 1, none⟩ (.int .i64 (off + 1))) (.cells #[.int .u8 ((x : Int) / 32), .int .u64 0, .bool false] 51)
    rw [e] at this
    exact this

set_option maxHeartbeats 800000 in
theorem head_arg1 (R : Nat) (w : World) (off : Nat) (b o n cap : Nat) (x : Nat) (D : Nat → Nat) (h : It R (.slice (some ⟨b, o, none⟩) n cap) w off true) (hn : n ≤ 1048576) (h1 : (off : Int) < (n : Int)) (hx : x < 256) (hc : w.cell? ⟨b, o + off, none⟩ = some (.int .u8 x))
    (hD : ∀ i, i < n → w.cell? ⟨b, o + i, none⟩ = some (.int .u8 (D i))) (hbR : b ≠ R)
    (hi : (x : Int) % 32 = 24) (hs : (off : Int) + 1 + 1 ≤ (n : Int)) (hcap : (n : Int) ≤ (cap : Int)) :
    Calls Try.prog 28 #[.pointer (some ⟨R, 0, none⟩)] w fun e w' => e = .returned (.agg #[.int .u8 ((x : Int) / 32), .int .u64 (be D (off + 1) 1), .bool false]) ∧ Gone R (.slice (some ⟨b, o, none⟩) n cap) w w' (off + 1 + 1) true := by
  have c0 := h.c0
  have c1 := h.c1
  have c2 := h.c2
  have z0 := h.fz 0
  have z1 := h.fz 1
  have z2 := h.fz 2
  have hR := h.lt
  have hb := World.block_lt_of_cell? w _ hc
  have hd : decide ((n : Int) ≤ (off : Int)) = false := decide_eq_false (by omega)
  have hd2 : decide (n ≤ off) = false := decide_eq_false (by omega)
  have h0 : (0 : Int) ≤ (off : Int) := by omega
  have HD := hid hD
  have H := hid h
  clear hD h
  go_enter Try.func28, Try.ntmps28
  go_wp2
  go_quiet (fail)
  go_wp2
  go_quiet (fail)
  go_wp2
  go_quiet (fail)
  go_wp2
  go_quiet (fail)
  go_wp2
  go_loopw [100] (fun i wr => ∃ k : Nat, k ≤ 1 ∧ i = .int .i64 k ∧ HRel R (.slice (some ⟨b, o, none⟩) n cap) w wr off x D k) (fun i _ => 1 - (intOf i).toNat)
  case atStart => exact ⟨0, Nat.zero_le _, rfl, (HRel.start H.out).drewN _⟩
  case round =>
    obtain ⟨k, hk, rfl, hr⟩ := hrel
    clear c0 c1 c2 z0 z1 z2 hc
    have hz := hr.gone.grown.size
    have q0 : wr.cell? ⟨w.heap.size + 1, 0, none⟩ = some (.int .u8 ((x : Int) / 32)) := by rw [cell_of_row _ _ _ _ _ _ hr.hd]; rfl
    have q1 : wr.cell? ⟨w.heap.size + 1, 1, none⟩ = some (.int .u64 (be D (off + 1) k)) := by rw [cell_of_row _ _ _ _ _ _ hr.hd]; rfl
    have q2 : wr.cell? ⟨w.heap.size + 1, 2, none⟩ = some (.bool false) := by rw [cell_of_row _ _ _ _ _ _ hr.hd]; rfl
    have y1 := frozen_of_row _ _ 1 _ _ hr.hd
    by_cases hlt : k < 1
    · have hbk : wr.cell? ⟨b, o + (off + 1) + k, none⟩ = some (.int .u8 (D (off + 1 + k))) := hr.gone.grown.cell (by rw [Nat.add_assoc]; exact HD.out _ (by omega)) (by simpa using hbR)
      have R' := hr.next hR
      go_wp2
      go_roundw
      case rel => exact ⟨k + 1, by omega, by go_num, R'⟩
      case measure => simp [intOf]; omega
    · have hk' : k = 1 := by omega
      subst hk'
      have t1 := hr.gone.it.c1
      have t2 := hr.gone.it.fz 1
      have r0 : wr.cell? ⟨w.heap.size, 0, none⟩ = some (.int .u8 0) := by rw [cell_of_row _ _ _ _ _ _ hr.res]; rfl
      have r1 : wr.cell? ⟨w.heap.size, 1, none⟩ = some (.int .u64 0) := by rw [cell_of_row _ _ _ _ _ _ hr.res]; rfl
      have r2 : wr.cell? ⟨w.heap.size, 2, none⟩ = some (.bool false) := by rw [cell_of_row _ _ _ _ _ _ hr.res]; rfl
      have s0 := frozen_of_row _ _ 0 _ _ hr.res
      have s1 := frozen_of_row _ _ 1 _ _ hr.res
      have s2 := frozen_of_row _ _ 2 _ _ hr.res
      have G := hr.gone
      obtain ⟨e0, e1, e2⟩ := res_cells hr.res (show w.heap.size ≠ R by omega) (.int .i64 ((off : Int) + 1 + 1)) (.int .u8 ((x : Int) / 32)) (.int .u64 (be D (off + 1) 1)) (.bool false)
      go_wp2
      refine bodyPost_ret (v := .agg #[.int .u8 ((x : Int) / 32), .int .u64 (be D (off + 1) 1), .bool false]) (by simp [results, Try.results28, go_sem, e0, e1, e2]) rfl ⟨rfl, ?_⟩
      repeat (with_reducible first | exact G | apply Gone.drewN | apply Gone.drew | apply Gone.alloc | refine Gone.setNew ?_ (Nat.le_refl _) hR _ _ | refine Gone.setNew ?_ (Nat.le_succ _) hR _ _ | apply Gone.set1 | apply Gone.set2)

set_option maxHeartbeats 800000 in
theorem head_arg2 (R : Nat) (w : World) (off : Nat) (b o n cap : Nat) (x : Nat) (D : Nat → Nat) (h : It R (.slice (some ⟨b, o, none⟩) n cap) w off true) (hn : n ≤ 1048576) (h1 : (off : Int) < (n : Int)) (hx : x < 256) (hc : w.cell? ⟨b, o + off, none⟩ = some (.int .u8 x))
    (hD : ∀ i, i < n → w.cell? ⟨b, o + i, none⟩ = some (.int .u8 (D i))) (hbR : b ≠ R)
    (hi : (x : Int) % 32 = 25) (hs : (off : Int) + 1 + 2 ≤ (n : Int)) (hcap : (n : Int) ≤ (cap : Int)) :
    Calls Try.prog 28 #[.pointer (some ⟨R, 0, none⟩)] w fun e w' => e = .returned (.agg #[.int .u8 ((x : Int) / 32), .int .u64 (be D (off + 1) 2), .bool false]) ∧ Gone R (.slice (some ⟨b, o, none⟩) n cap) w w' (off + 1 + 2) true := by
  have c0 := h.c0
  have c1 := h.c1
  have c2 := h.c2
  have z0 := h.fz 0
  have z1 := h.fz 1
  have z2 := h.fz 2
  have hR := h.lt
  have hb := World.block_lt_of_cell? w _ hc
  have hd : decide ((n : Int) ≤ (off : Int)) = false := decide_eq_false (by omega)
  have hd2 : decide (n ≤ off) = false := decide_eq_false (by omega)
  have h0 : (0 : Int) ≤ (off : Int) := by omega
  have HD := hid hD
  have H := hid h
  clear hD h
  go_enter Try.func28, Try.ntmps28
  go_wp2
  go_quiet (fail)
  go_wp2
  go_quiet (fail)
  go_wp2
  go_quiet (fail)
  go_wp2
  go_quiet (fail)
  go_wp2
  go_loopw [100] (fun i wr => ∃ k : Nat, k ≤ 2 ∧ i = .int .i64 k ∧ HRel R (.slice (some ⟨b, o, none⟩) n cap) w wr off x D k) (fun i _ => 2 - (intOf i).toNat)
  case atStart => exact ⟨0, Nat.zero_le _, rfl, (HRel.start H.out).drewN _⟩
  case round =>
    obtain ⟨k, hk, rfl, hr⟩ := hrel
    clear c0 c1 c2 z0 z1 z2 hc
    have hz := hr.gone.grown.size
    have q0 : wr.cell? ⟨w.heap.size + 1, 0, none⟩ = some (.int .u8 ((x : Int) / 32)) := by rw [cell_of_row _ _ _ _ _ _ hr.hd]; rfl
    have q1 : wr.cell? ⟨w.heap.size + 1, 1, none⟩ = some (.int .u64 (be D (off + 1) k)) := by rw [cell_of_row _ _ _ _ _ _ hr.hd]; rfl
    have q2 : wr.cell? ⟨w.heap.size + 1, 2, none⟩ = some (.bool false) := by rw [cell_of_row _ _ _ _ _ _ hr.hd]; rfl
    have y1 := frozen_of_row _ _ 1 _ _ hr.hd
    by_cases hlt : k < 2
    · have hbk : wr.cell? ⟨b, o + (off + 1) + k, none⟩ = some (.int .u8 (D (off + 1 + k))) := hr.gone.grown.cell (by rw [Nat.add_assoc]; exact HD.out _ (by omega)) (by simpa using hbR)
      have R' := hr.next hR
      go_wp2
      go_roundw
      case rel => exact ⟨k + 1, by omega, by go_num, R'⟩
      case measure => simp [intOf]; omega
    · have hk' : k = 2 := by omega
      subst hk'
      have t1 := hr.gone.it.c1
      have t2 := hr.gone.it.fz 1
      have r0 : wr.cell? ⟨w.heap.size, 0, none⟩ = some (.int .u8 0) := by rw [cell_of_row _ _ _ _ _ _ hr.res]; rfl
      have r1 : wr.cell? ⟨w.heap.size, 1, none⟩ = some (.int .u64 0) := by rw [cell_of_row _ _ _ _ _ _ hr.res]; rfl
      have r2 : wr.cell? ⟨w.heap.size, 2, none⟩ = some (.bool false) := by rw [cell_of_row _ _ _ _ _ _ hr.res]; rfl
      have s0 := frozen_of_row _ _ 0 _ _ hr.res
      have s1 := frozen_of_row _ _ 1 _ _ hr.res
      have s2 := frozen_of_row _ _ 2 _ _ hr.res
      have G := hr.gone
      obtain ⟨e0, e1, e2⟩ := res_cells hr.res (show w.heap.size ≠ R by omega) (.int .i64 ((off : Int) + 1 + 2)) (.int .u8 ((x : Int) / 32)) (.int .u64 (be D (off + 1) 2)) (.bool false)
      go_wp2
      refine bodyPost_ret (v := .agg #[.int .u8 ((x : Int) / 32), .int .u64 (be D (off + 1) 2), .bool false]) (by simp [results, Try.results28, go_sem, e0, e1, e2]) rfl ⟨rfl, ?_⟩
      repeat (with_reducible first | exact G | apply Gone.drewN | apply Gone.drew | apply Gone.alloc | refine Gone.setNew ?_ (Nat.le_refl _) hR _ _ | refine Gone.setNew ?_ (Nat.le_succ _) hR _ _ | apply Gone.set1 | apply Gone.set2)

set_option maxHeartbeats 800000 in
theorem head_arg4 (R : Nat) (w : World) (off : Nat) (b o n cap : Nat) (x : Nat) (D : Nat → Nat) (h : It R (.slice (some ⟨b, o, none⟩) n cap) w off true) (hn : n ≤ 1048576) (h1 : (off : Int) < (n : Int)) (hx : x < 256) (hc : w.cell? ⟨b, o + off, none⟩ = some (.int .u8 x))
    (hD : ∀ i, i < n → w.cell? ⟨b, o + i, none⟩ = some (.int .u8 (D i))) (hbR : b ≠ R)
    (hi : (x : Int) % 32 = 26) (hs : (off : Int) + 1 + 4 ≤ (n : Int)) (hcap : (n : Int) ≤ (cap : Int)) :
    Calls Try.prog 28 #[.pointer (some ⟨R, 0, none⟩)] w fun e w' => e = .returned (.agg #[.int .u8 ((x : Int) / 32), .int .u64 (be D (off + 1) 4), .bool false]) ∧ Gone R (.slice (some ⟨b, o, none⟩) n cap) w w' (off + 1 + 4) true := by
  have c0 := h.c0
  have c1 := h.c1
  have c2 := h.c2
  have z0 := h.fz 0
  have z1 := h.fz 1
  have z2 := h.fz 2
  have hR := h.lt
  have hb := World.block_lt_of_cell? w _ hc
  have hd : decide ((n : Int) ≤ (off : Int)) = false := decide_eq_false (by omega)
  have hd2 : decide (n ≤ off) = false := decide_eq_false (by omega)
  have h0 : (0 : Int) ≤ (off : Int) := by omega
  have HD := hid hD
  have H := hid h
  clear hD h
  go_enter Try.func28, Try.ntmps28
  go_wp2
  go_quiet (fail)
  go_wp2
  go_quiet (fail)
  go_wp2
  go_quiet (fail)
  go_wp2
  go_quiet (fail)
  go_wp2
  go_loopw [100] (fun i wr => ∃ k : Nat, k ≤ 4 ∧ i = .int .i64 k ∧ HRel R (.slice (some ⟨b, o, none⟩) n cap) w wr off x D k) (fun i _ => 4 - (intOf i).toNat)
  case atStart => exact ⟨0, Nat.zero_le _, rfl, (HRel.start H.out).drewN _⟩
  case round =>
    obtain ⟨k, hk, rfl, hr⟩ := hrel
    clear c0 c1 c2 z0 z1 z2 hc
    have hz := hr.gone.grown.size
    have q0 : wr.cell? ⟨w.heap.size + 1, 0, none⟩ = some (.int .u8 ((x : Int) / 32)) := by rw [cell_of_row _ _ _ _ _ _ hr.hd]; rfl
    have q1 : wr.cell? ⟨w.heap.size + 1, 1, none⟩ = some (.int .u64 (be D (off + 1) k)) := by rw [cell_of_row _ _ _ _ _ _ hr.hd]; rfl
    have q2 : wr.cell? ⟨w.heap.size + 1, 2, none⟩ = some (.bool false) := by rw [cell_of_row _ _ _ _ _ _ hr.hd]; rfl
    have y1 := frozen_of_row _ _ 1 _ _ hr.hd
    by_cases hlt : k < 4
    · have hbk : wr.cell? ⟨b, o + (off + 1) + k, none⟩ = some (.int .u8 (D (off + 1 + k))) := hr.gone.grown.cell (by rw [Nat.add_assoc]; exact HD.out _ (by omega)) (by simpa using hbR)
      have R' := hr.next hR
      go_wp2
      go_roundw
      case rel => exact ⟨k + 1, by omega, by go_num, R'⟩
      case measure => simp [intOf]; omega
    · have hk' : k = 4 := by omega
      subst hk'
      have t1 := hr.gone.it.c1
      have t2 := hr.gone.it.fz 1
      have r0 : wr.cell? ⟨w.heap.size, 0, none⟩ = some (.int .u8 0) := by rw [cell_of_row _ _ _ _ _ _ hr.res]; rfl
      have r1 : wr.cell? ⟨w.heap.size, 1, none⟩ = some (.int .u64 0) := by rw [cell_of_row _ _ _ _ _ _ hr.res]; rfl
      have r2 : wr.cell? ⟨w.heap.size, 2, none⟩ = some (.bool false) := by rw [cell_of_row _ _ _ _ _ _ hr.res]; rfl
      have s0 := frozen_of_row _ _ 0 _ _ hr.res
      have s1 := frozen_of_row _ _ 1 _ _ hr.res
      have s2 := frozen_of_row _ _ 2 _ _ hr.res
      have G := hr.gone
      obtain ⟨e0, e1, e2⟩ := res_cells hr.res (show w.heap.size ≠ R by omega) (.int .i64 ((off : Int) + 1 + 4)) (.int .u8 ((x : Int) / 32)) (.int .u64 (be D (off + 1) 4)) (.bool false)
      go_wp2
      refine bodyPost_ret (v := .agg #[.int .u8 ((x : Int) / 32), .int .u64 (be D (off + 1) 4), .bool false]) (by simp [results, Try.results28, go_sem, e0, e1, e2]) rfl ⟨rfl, ?_⟩
      repeat (with_reducible first | exact G | apply Gone.drewN | apply Gone.drew | apply Gone.alloc | refine Gone.setNew ?_ (Nat.le_refl _) hR _ _ | refine Gone.setNew ?_ (Nat.le_succ _) hR _ _ | apply Gone.set1 | apply Gone.set2)

set_option maxHeartbeats 800000 in
theorem head_arg8 (R : Nat) (w : World) (off : Nat) (b o n cap : Nat) (x : Nat) (D : Nat → Nat) (h : It R (.slice (some ⟨b, o, none⟩) n cap) w off true) (hn : n ≤ 1048576) (h1 : (off : Int) < (n : Int)) (hx : x < 256) (hc : w.cell? ⟨b, o + off, none⟩ = some (.int .u8 x))
    (hD : ∀ i, i < n → w.cell? ⟨b, o + i, none⟩ = some (.int .u8 (D i))) (hbR : b ≠ R)
    (hi : (x : Int) % 32 = 27) (hs : (off : Int) + 1 + 8 ≤ (n : Int)) (hcap : (n : Int) ≤ (cap : Int)) :
    Calls Try.prog 28 #[.pointer (some ⟨R, 0, none⟩)] w fun e w' => e = .returned (.agg #[.int .u8 ((x : Int) / 32), .int .u64 (be D (off + 1) 8), .bool false]) ∧ Gone R (.slice (some ⟨b, o, none⟩) n cap) w w' (off + 1 + 8) true := by
  have c0 := h.c0
  have c1 := h.c1
  have c2 := h.c2
  have z0 := h.fz 0
  have z1 := h.fz 1
  have z2 := h.fz 2
  have hR := h.lt
  have hb := World.block_lt_of_cell? w _ hc
  have hd : decide ((n : Int) ≤ (off : Int)) = false := decide_eq_false (by omega)
  have hd2 : decide (n ≤ off) = false := decide_eq_false (by omega)
  have h0 : (0 : Int) ≤ (off : Int) := by omega
  have HD := hid hD
  have H := hid h
  clear hD h
  go_enter Try.func28, Try.ntmps28
  go_wp2
  go_quiet (fail)
  go_wp2
  go_quiet (fail)
  go_wp2
  go_quiet (fail)
  go_wp2
  go_quiet (fail)
  go_wp2
  go_loopw [100] (fun i wr => ∃ k : Nat, k ≤ 8 ∧ i = .int .i64 k ∧ HRel R (.slice (some ⟨b, o, none⟩) n cap) w wr off x D k) (fun i _ => 8 - (intOf i).toNat)
  case atStart => exact ⟨0, Nat.zero_le _, rfl, (HRel.start H.out).drewN _⟩
  case round =>
    obtain ⟨k, hk, rfl, hr⟩ := hrel
    clear c0 c1 c2 z0 z1 z2 hc
    have hz := hr.gone.grown.size
    have q0 : wr.cell? ⟨w.heap.size + 1, 0, none⟩ = some (.int .u8 ((x : Int) / 32)) := by rw [cell_of_row _ _ _ _ _ _ hr.hd]; rfl
    have q1 : wr.cell? ⟨w.heap.size + 1, 1, none⟩ = some (.int .u64 (be D (off + 1) k)) := by rw [cell_of_row _ _ _ _ _ _ hr.hd]; rfl
    have q2 : wr.cell? ⟨w.heap.size + 1, 2, none⟩ = some (.bool false) := by rw [cell_of_row _ _ _ _ _ _ hr.hd]; rfl
    have y1 := frozen_of_row _ _ 1 _ _ hr.hd
    by_cases hlt : k < 8
    · have hbk : wr.cell? ⟨b, o + (off + 1) + k, none⟩ = some (.int .u8 (D (off + 1 + k))) := hr.gone.grown.cell (by rw [Nat.add_assoc]; exact HD.out _ (by omega)) (by simpa using hbR)
      have R' := hr.next hR
      go_wp2
      go_roundw
      case rel => exact ⟨k + 1, by omega, by go_num, R'⟩
      case measure => simp [intOf]; omega
    · have hk' : k = 8 := by omega
      subst hk'
      have t1 := hr.gone.it.c1
      have t2 := hr.gone.it.fz 1
      have r0 : wr.cell? ⟨w.heap.size, 0, none⟩ = some (.int .u8 0) := by rw [cell_of_row _ _ _ _ _ _ hr.res]; rfl
      have r1 : wr.cell? ⟨w.heap.size, 1, none⟩ = some (.int .u64 0) := by rw [cell_of_row _ _ _ _ _ _ hr.res]; rfl
      have r2 : wr.cell? ⟨w.heap.size, 2, none⟩ = some (.bool false) := by rw [cell_of_row _ _ _ _ _ _ hr.res]; rfl
      have s0 := frozen_of_row _ _ 0 _ _ hr.res
      have s1 := frozen_of_row _ _ 1 _ _ hr.res
      have s2 := frozen_of_row _ _ 2 _ _ hr.res
      have G := hr.gone
      obtain ⟨e0, e1, e2⟩ := res_cells hr.res (show w.heap.size ≠ R by omega) (.int .i64 ((off : Int) + 1 + 8)) (.int .u8 ((x : Int) / 32)) (.int .u64 (be D (off + 1) 8)) (.bool false)
      go_wp2
      refine bodyPost_ret (v := .agg #[.int .u8 ((x : Int) / 32), .int .u64 (be D (off + 1) 8), .bool false]) (by simp [results, Try.results28, go_sem, e0, e1, e2]) rfl ⟨rfl, ?_⟩
      repeat (with_reducible first | exact G | apply Gone.drewN | apply Gone.drew | apply Gone.alloc | refine Gone.setNew ?_ (Nat.le_refl _) hR _ _ | refine Gone.setNew ?_ (Nat.le_succ _) hR _ _ | apply Gone.set1 | apply Gone.set2)

theorem head_cut1 (R : Nat) (w : World) (off : Nat) (b o n cap : Nat) (x : Nat) (h : It R (.slice (some ⟨b, o, none⟩) n cap) w off true) (hn : n ≤ 1048576) (h1 : (off : Int) < (n : Int)) (hx : x < 256) (hc : w.cell? ⟨b, o + off, none⟩ = some (.int .u8 x))
    (hi : (x : Int) % 32 = 24) (hs : (n : Int) < (off : Int) + 1 + 1) :
    Calls Try.prog 28 #[.pointer (some ⟨R, 0, none⟩)] w fun e w' => e = .returned (.agg #[.int .u8 0, .int .u64 0, .bool false]) ∧ Gone R (.slice (some ⟨b, o, none⟩) n cap) w w' (off + 1) false := by
  have c0 := h.c0
  have c1 := h.c1
  have c2 := h.c2
  have z0 := h.fz 0
  have z1 := h.fz 1
  have z2 := h.fz 2
  have hR := h.lt
  have hb := World.block_lt_of_cell? w _ hc
  have hd : decide ((n : Int) ≤ (off : Int)) = false := decide_eq_false (by omega)
  have h0 : (0 : Int) ≤ (off : Int) := by omega
  go_enter Try.func28, Try.ntmps28
  go_wp2
  go_quiet (fail)
  go_wp2
  go_quiet (fail)
  go_wp2
  go_quiet (fail)
  go_wp2
  refine bodyPost_ret (v := .agg #[.int .u8 0, .int .u64 0, .bool false]) (by simp [results, Try.results28, go_sem]) rfl ⟨rfl, ?_⟩
  repeat (with_reducible first | exact Gone.start h | apply Gone.drewN | apply Gone.drew | apply Gone.alloc | refine Gone.setNew ?_ (Nat.le_refl _) hR _ _ | refine Gone.setNew ?_ (Nat.le_succ _) hR _ _ | apply Gone.set1 | apply Gone.set2)

theorem head_cut2 (R : Nat) (w : World) (off : Nat) (b o n cap : Nat) (x : Nat) (h : It R (.slice (some ⟨b, o, none⟩) n cap) w off true) (hn : n ≤ 1048576) (h1 : (off : Int) < (n : Int)) (hx : x < 256) (hc : w.cell? ⟨b, o + off, none⟩ = some (.int .u8 x))
    (hi : (x : Int) % 32 = 25) (hs : (n : Int) < (off : Int) + 1 + 2) :
    Calls Try.prog 28 #[.pointer (some ⟨R, 0, none⟩)] w fun e w' => e = .returned (.agg #[.int .u8 0, .int .u64 0, .bool false]) ∧ Gone R (.slice (some ⟨b, o, none⟩) n cap) w w' (off + 1) false := by
  have c0 := h.c0
  have c1 := h.c1
  have c2 := h.c2
  have z0 := h.fz 0
  have z1 := h.fz 1
  have z2 := h.fz 2
  have hR := h.lt
  have hb := World.block_lt_of_cell? w _ hc
  have hd : decide ((n : Int) ≤ (off : Int)) = false := decide_eq_false (by omega)
  have h0 : (0 : Int) ≤ (off : Int) := by omega
  go_enter Try.func28, Try.ntmps28
  go_wp2
  go_quiet (fail)
  go_wp2
  go_quiet (fail)
  go_wp2
  go_quiet (fail)
  go_wp2
  refine bodyPost_ret (v := .agg #[.int .u8 0, .int .u64 0, .bool false]) (by simp [results, Try.results28, go_sem]) rfl ⟨rfl, ?_⟩
  repeat (with_reducible first | exact Gone.start h | apply Gone.drewN | apply Gone.drew | apply Gone.alloc | refine Gone.setNew ?_ (Nat.le_refl _) hR _ _ | refine Gone.setNew ?_ (Nat.le_succ _) hR _ _ | apply Gone.set1 | apply Gone.set2)

theorem head_cut4 (R : Nat) (w : World) (off : Nat) (b o n cap : Nat) (x : Nat) (h : It R (.slice (some ⟨b, o, none⟩) n cap) w off true) (hn : n ≤ 1048576) (h1 : (off : Int) < (n : Int)) (hx : x < 256) (hc : w.cell? ⟨b, o + off, none⟩ = some (.int .u8 x))
    (hi : (x : Int) % 32 = 26) (hs : (n : Int) < (off : Int) + 1 + 4) :
    Calls Try.prog 28 #[.pointer (some ⟨R, 0, none⟩)] w fun e w' => e = .returned (.agg #[.int .u8 0, .int .u64 0, .bool false]) ∧ Gone R (.slice (some ⟨b, o, none⟩) n cap) w w' (off + 1) false := by
  have c0 := h.c0
  have c1 := h.c1
  have c2 := h.c2
  have z0 := h.fz 0
  have z1 := h.fz 1
  have z2 := h.fz 2
  have hR := h.lt
  have hb := World.block_lt_of_cell? w _ hc
  have hd : decide ((n : Int) ≤ (off : Int)) = false := decide_eq_false (by omega)
  have h0 : (0 : Int) ≤ (off : Int) := by omega
  go_enter Try.func28, Try.ntmps28
  go_wp2
  go_quiet (fail)
  go_wp2
  go_quiet (fail)
  go_wp2
  go_quiet (fail)
  go_wp2
  refine bodyPost_ret (v := .agg #[.int .u8 0, .int .u64 0, .bool false]) (by simp [results, Try.results28, go_sem]) rfl ⟨rfl, ?_⟩
  repeat (with_reducible first | exact Gone.start h | apply Gone.drewN | apply Gone.drew | apply Gone.alloc | refine Gone.setNew ?_ (Nat.le_refl _) hR _ _ | refine Gone.setNew ?_ (Nat.le_succ _) hR _ _ | apply Gone.set1 | apply Gone.set2)

theorem head_cut8 (R : Nat) (w : World) (off : Nat) (b o n cap : Nat) (x : Nat) (h : It R (.slice (some ⟨b, o, none⟩) n cap) w off true) (hn : n ≤ 1048576) (h1 : (off : Int) < (n : Int)) (hx : x < 256) (hc : w.cell? ⟨b, o + off, none⟩ = some (.int .u8 x))
    (hi : (x : Int) % 32 = 27) (hs : (n : Int) < (off : Int) + 1 + 8) :
    Calls Try.prog 28 #[.pointer (some ⟨R, 0, none⟩)] w fun e w' => e = .returned (.agg #[.int .u8 0, .int .u64 0, .bool false]) ∧ Gone R (.slice (some ⟨b, o, none⟩) n cap) w w' (off + 1) false := by
  have c0 := h.c0
  have c1 := h.c1
  have c2 := h.c2
  have z0 := h.fz 0
  have z1 := h.fz 1
  have z2 := h.fz 2
  have hR := h.lt
  have hb := World.block_lt_of_cell? w _ hc
  have hd : decide ((n : Int) ≤ (off : Int)) = false := decide_eq_false (by omega)
  have h0 : (0 : Int) ≤ (off : Int) := by omega
  go_enter Try.func28, Try.ntmps28
  go_wp2
  go_quiet (fail)
  go_wp2
  go_quiet (fail)
  go_wp2
  go_quiet (fail)
  go_wp2
  refine bodyPost_ret (v := .agg #[.int .u8 0, .int .u64 0, .bool false]) (by simp [results, Try.results28, go_sem]) rfl ⟨rfl, ?_⟩
  repeat (with_reducible first | exact Gone.start h | apply Gone.drewN | apply Gone.drew | apply Gone.alloc | refine Gone.setNew ?_ (Nat.le_refl _) hR _ _ | refine Gone.setNew ?_ (Nat.le_succ _) hR _ _ | apply Gone.set1 | apply Gone.set2)

end Go.Proofs.Qxb6000697a
