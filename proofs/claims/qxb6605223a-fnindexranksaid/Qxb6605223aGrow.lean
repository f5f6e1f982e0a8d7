/-
  slices.Grow (27, 28) of a nil slice.
-/
import Derived.Test.Qxb6605223aBase
import Derived.Lib.AppendZerosOnto
namespace Go.Proofs.Qxb6605223a
open Go.RowKit

theorem info64 : (Try.prog.info? 64).map (fun i => (i.zero, i.size, i.bytes)) = some (some (.int .u64 0), 1, 8) := by kernel_rfl

/-- An append whose run is known. -/
theorem wpList_append_run {P : Program} {w : World} {ops : Array Oper} {rest : List Oper} {o : Oper} {a : Act} {Q : Exit → Act → World → Prop} (hgd : o.guard = none) (s x : Operand) (t t2 : TypeId)
    (ho : o.op = .call { callee := .builtin .append, args := #[s, x], argTypes := #[t, t2] }) (vs vx v : Value) (w' : World) (hs : a.eval s = vs) (hx : a.eval x = vx)
    (hr : ∀ ty, (Builtin.append_ #[t, t2] ty #[vs, vx]).run P w = .ok v w') (h : wpList P ops Q rest (a.put o.dst v) w') : wpList P ops Q (o :: rest) a w :=
  wpList_plain hgd fun K hK => by
    unfold Oper.wp execOp
    simp only [ho, resolve, invoke, builtin, Sem.run_bind, Sem.run_pure, Result.andThen_ok, List.map_toArray, List.map_cons, List.map_nil, hs, hx, hr]
    exact hK _ _ h

/-- What Grow of a nil slice leaves. -/
def Grown (t : TypeId) (z : Value) (n : Nat) (w : World) (e : Ending) (w' : World) : Prop :=
  (n = 0 ∧ e = .returned (.slice none 0 0) ∧ w' = w) ∨ (0 < n ∧ ∃ cap, n ≤ cap ∧ e = .returned (.slice (some ⟨w.heap.size, 0, none⟩) 0 cap) ∧ w' = w.drew.alloc (.cells (#[] ++ Builtin.zeroCells #[z] n ++ Builtin.zeroCells #[z] (cap - n)) t))

theorem grow27_zero (w : World) : Calls Try.prog 27 #[.slice none 0 0, .int .i64 0] w fun e w' => Grown 64 (.int .u64 0) 0 w e w' := by
  go_enter Try.func27, Try.ntmps27
  go_wp2
  go_ret
  exact .inl ⟨rfl, rfl, rfl⟩

theorem grow28_zero (w : World) : Calls Try.prog 28 #[.slice none 0 0, .int .i64 0] w fun e w' => Grown 21 (.int .i32 0) 0 w e w' := by
  go_enter Try.func28, Try.ntmps28
  go_wp2
  go_ret
  exact .inl ⟨rfl, rfl, rfl⟩


set_option maxRecDepth 100000 in
theorem grow27_pos (n : Nat) (w : World) (h0 : 0 < n) (hn : n ≤ 4096) : Calls Try.prog 27 #[.slice none 0 0, .int .i64 n] w fun e w' => Grown 64 (.int .u64 0) n w e w' := by
  obtain ⟨i0, hi, hz0, hz1, hz2⟩ := info_parts info64
  obtain ⟨cap, w1, hap, hcap, hw1⟩ : ∃ cap w1, (∀ ty, (Builtin.append_ #[44, 3] ty #[.slice none 0 0, .int .i64 n]).run Try.prog w = .ok (.slice (some ⟨w.heap.size, 0, none⟩) n cap) w1) ∧ n ≤ cap ∧ w1 = w.drew.alloc (.cells (#[] ++ Builtin.zeroCells #[(.int .u64 0)] n ++ Builtin.zeroCells #[(.int .u64 0)] (cap - n)) 64) := by
    have h : ∀ ty, (Builtin.append_ #[44, 3] ty #[.slice none 0 0, .int .i64 n]).run Try.prog w = _ := fun ty => Lib.run_append_grow_zeros w 44 3 ty 64 i0 (.int .u64 0) .i64 .i64 Try.underlying44 Try.underlying3 hi hz0 none 0 0 [] (run_firstCells_none w.drew i0.size 0 0 0) n h0 (by rw [hz1]; omega) (by omega) (by omega) (by rw [hz2]; omega) (by rw [hz2]; unfold Builtin.nextslicecap; split <;> omega)
    refine ⟨grownCap w (0 + n) 0 64, _, fun ty => by rw [h ty, Nat.zero_add], by have := grownCap_ge w (0 + n) 0 64; omega, by rw [Nat.zero_add]; rfl⟩
  have HP := hid hap
  clear hap
  have HC := hid hcap
  have HW := hid hw1
  clear hcap hw1
  have hc1 : (n : Int) ≤ (cap : Int) := by have := HC.out; omega
  go_enter Try.func27, Try.ntmps27
  go_wp2_with (at_builtin; refine wpList_append_run rfl _ _ 44 3 rfl (.slice none 0 0) (.int .i64 n) (.slice (some ⟨w.heap.size, 0, none⟩) n cap) w1 rfl rfl HP.out ?_)
  go_ret
  exact .inr ⟨h0, cap, HC.out, rfl, HW.out⟩

set_option maxRecDepth 100000 in
theorem grow28_pos (n : Nat) (w : World) (h0 : 0 < n) (hn : n ≤ 4096) : Calls Try.prog 28 #[.slice none 0 0, .int .i64 n] w fun e w' => Grown 21 (.int .i32 0) n w e w' := by
  obtain ⟨i0, hi, hz0, hz1, hz2⟩ := info_parts info21
  obtain ⟨cap, w1, hap, hcap, hw1⟩ : ∃ cap w1, (∀ ty, (Builtin.append_ #[23, 3] ty #[.slice none 0 0, .int .i64 n]).run Try.prog w = .ok (.slice (some ⟨w.heap.size, 0, none⟩) n cap) w1) ∧ n ≤ cap ∧ w1 = w.drew.alloc (.cells (#[] ++ Builtin.zeroCells #[(.int .i32 0)] n ++ Builtin.zeroCells #[(.int .i32 0)] (cap - n)) 21) := by
    have h : ∀ ty, (Builtin.append_ #[23, 3] ty #[.slice none 0 0, .int .i64 n]).run Try.prog w = _ := fun ty => Lib.run_append_grow_zeros w 23 3 ty 21 i0 (.int .i32 0) .i64 .i64 Try.underlying23 Try.underlying3 hi hz0 none 0 0 [] (run_firstCells_none w.drew i0.size 0 0 0) n h0 (by rw [hz1]; omega) (by omega) (by omega) (by rw [hz2]; omega) (by rw [hz2]; unfold Builtin.nextslicecap; split <;> omega)
    refine ⟨grownCap w (0 + n) 0 21, _, fun ty => by rw [h ty, Nat.zero_add], by have := grownCap_ge w (0 + n) 0 21; omega, by rw [Nat.zero_add]; rfl⟩
  have HP := hid hap
  clear hap
  have HC := hid hcap
  have HW := hid hw1
  clear hcap hw1
  have hc1 : (n : Int) ≤ (cap : Int) := by have := HC.out; omega
  go_enter Try.func28, Try.ntmps28
  go_wp2_with (at_builtin; refine wpList_append_run rfl _ _ 23 3 rfl (.slice none 0 0) (.int .i64 n) (.slice (some ⟨w.heap.size, 0, none⟩) n cap) w1 rfl rfl HP.out ?_)
  go_ret
  exact .inr ⟨h0, cap, HC.out, rfl, HW.out⟩

theorem grow27 (n : Nat) (w : World) (hn : n ≤ 4096) : Calls Try.prog 27 #[.slice none 0 0, .int .i64 n] w fun e w' => Grown 64 (.int .u64 0) n w e w' := by
  rcases Nat.eq_zero_or_pos n with rfl | h
  · exact grow27_zero w
  · exact grow27_pos n w h hn
theorem grow28 (n : Nat) (w : World) (hn : n ≤ 4096) : Calls Try.prog 28 #[.slice none 0 0, .int .i64 n] w fun e w' => Grown 21 (.int .i32 0) n w e w' := by
  rcases Nat.eq_zero_or_pos n with rfl | h
  · exact grow28_zero w
  · exact grow28_pos n w h hn
end Go.Proofs.Qxb6605223a
