/-
  'skip' (25) FOR EVERY ROW OF BYTES; 'ZZSkip' (12).
-/
import Derived.Test.Qxb6000697aChunk
namespace Go.Proofs.Qxb6000697a
open Go.RowKit

theorem skip_any {R : Nat} {pa : Option Addr} {n cap : Nat} {D : Nat → Nat} (F : Fit n cap D) : ∀ (f : Nat) (w : World) (o : Nat), It R (.slice pa n cap) w o true → Seg pa n D w → o ≤ n → n - o < f →
    Calls Try.prog 25 #[.pointer (some ⟨R, 0, none⟩)] w fun e w' => e = .returned (.tuple #[]) ∧ Fin R (.slice pa n cap) w w' (Pl.skipF D (be D) n f o) := by
  intro f
  induction f with
  | zero => intro w o _ _ _ h; omega
  | succ f ih =>
    intro w o h hS ho hf
    cases hh : Pl.headF D (be D) n o with
    | none =>
      have e : Pl.skipF D (be D) n (f + 1) o = none := by simp only [Pl.skipF, hh]
      rw [e]
      exact skip_no F h hS hh
    | some p =>
      obtain ⟨⟨m, a, t⟩, o1⟩ := p
      have hof := Pl.headF_lt hh
      have hfc := head_facts F hh
      have hy := head_yes F h hS hh
      have hAh := Pl.skipF_ahead (D := D) (arg := be D) n f
      have ihf : ∀ (w : World) (o' : Nat), It R (.slice pa n cap) w o' true → Seg pa n D w → o1 ≤ o' → o' ≤ n → Calls Try.prog 25 #[.pointer (some ⟨R, 0, none⟩)] w fun e w' => e = .returned (.tuple #[]) ∧ Fin R (.slice pa n cap) w w' (Pl.skipF D (be D) n f o') :=
        fun w o' h' hS' h1 h2 => ih w o' h' hS' h2 (by omega)
      simp only at hfc hy
      have e : Pl.skipF D (be D) n (f + 1) o = if m = 2 ∨ m = 3 then (if t = true then Pl.lp D n (Pl.chunkF D (be D) n m) ⟨m, a, t⟩ (n + 1) 0 o1 else Pl.advF n o1 a) else if m = 4 then Pl.lp D n (Pl.skipF D (be D) n f) ⟨m, a, t⟩ (n + 1) 0 o1 else if m = 5 then Pl.lp D n (Pl.two (Pl.skipF D (be D) n f)) ⟨m, a, t⟩ (n + 1) 0 o1 else if m = 6 then Pl.skipF D (be D) n f o1 else some o1 := by
        simp only [Pl.skipF, hh]
      rw [e]
      rcases (show m = 0 ∨ m = 1 ∨ m = 2 ∨ m = 3 ∨ m = 4 ∨ m = 5 ∨ m = 6 ∨ m = 7 by omega) with rfl | rfl | rfl | rfl | rfl | rfl | rfl | rfl
      · exact skip_self 0 a t o1 (.inl rfl) hy
      · exact skip_self 1 a t o1 (.inr (.inl rfl)) hy
      · cases t with
        | false => exact skip_str F 2 a o1 (.inl rfl) hfc.2.1 hof.2 hy
        | true => exact skip_chunks2 F a o1 w o h hS hof.2 hy
      · cases t with
        | false => exact skip_str F 3 a o1 (.inr rfl) hfc.2.1 hof.2 hy
        | true => exact skip_chunks3 F a o1 w o h hS hof.2 hy
      · exact skip_arr F _ hAh a t o1 w o h hS hof.2 ihf hy
      · exact skip_map F _ hAh a t o1 w o h hS hof.2 ihf hy
      · exact skip_tag a t o1 w o h hS _ (fun w' h' hS' => ihf w' o1 h' hS' (Nat.le_refl _) hof.2) hy
      · exact skip_self 7 a t o1 (.inr (.inr rfl)) hy

/-- ZZSkip, on a sound reader. -/
theorem zz_some (pa : Option Addr) (n cap : Nat) (D : Nat → Nat) (F : Fit n cap D) (w : World) (o : Nat) (hS : Seg pa n D w) (ho : o ≤ n) (f : Nat) (hf : n - o < f) :
    Calls Try.prog 12 #[.slice pa n cap, .int .i64 o, .bool true] w fun e w' => (match Pl.skipF D (be D) n f o with
      | some o' => e = .returned (.tuple #[.int .i64 (o' : Int), .bool true])
      | none => ∃ off, e = .returned (.tuple #[.int .i64 off, .bool false])) ∧ Below w.heap.size w w' := by
  have hit : It w.heap.size (.slice pa n cap) (w.alloc (.cells #[.slice pa n cap, .int .i64 o, .bool true] 44)) o true := Go.heap_alloc_new w _
  have hc := skip_any F f _ o hit (hS.alloc _) ho hf
  have hlow : ∀ w', (w.alloc (.cells #[.slice pa n cap, .int .i64 o, .bool true] 44)).grownBy w' (some w.heap.size) → Below w.heap.size w w' := fun w' hg =>
    ((Below.refl _ w).alloc (Nat.le_refl _) _).grown hg (by simp) (fun k e => by simp at e; omega)
  cases hs : Pl.skipF D (be D) n f o with
  | none =>
    rw [hs] at hc
    have HC := hid hc
    have HL := hid hlow
    clear hc hlow hs hit hS F
    go_enter Try.func12, Try.ntmps12
    go_wp2_with (go_at_call 25; refine HC.out.mono ?_; rintro e w1 ⟨rfl, off1, hg1⟩)
    have c1 := hg1.it.c1
    have c2 := hg1.it.c2
    go_quiet (fail)
    go_wp2_with fail
    go_ret2
    exact ⟨⟨off1, rfl⟩, (HL.out _ hg1.grown).trans ⟨rfl, rfl, rfl, Nat.le_refl _, fun _ _ => rfl⟩⟩
  | some o' =>
    rw [hs] at hc
    have HC := hid hc
    have HL := hid hlow
    clear hc hlow hs hit hS F
    go_enter Try.func12, Try.ntmps12
    go_wp2_with (go_at_call 25; refine HC.out.mono ?_; rintro e w1 ⟨rfl, hf1⟩)
    have hg1 : Gone w.heap.size (.slice pa n cap) _ w1 (o' : Int) true := hf1
    have c1 := hg1.it.c1
    have c2 := hg1.it.c2
    go_quiet (fail)
    go_wp2_with fail
    go_ret2
    exact ⟨rfl, (HL.out _ hg1.grown).trans ⟨rfl, rfl, rfl, Nat.le_refl _, fun _ _ => rfl⟩⟩

end Go.Proofs.Qxb6000697a
