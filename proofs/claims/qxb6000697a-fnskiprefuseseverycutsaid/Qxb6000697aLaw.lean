/-
  THE WALK OF THE LAW (5): 'FnSkipRefusesEveryCut'.
-/
import Derived.Test.Qxb6000697aAll
namespace Go.Proofs.Qxb6000697a
open Go.RowKit

theorem bytes_yes (a : Option Addr) (len cap : Nat) (x y : Int) (w : World) (h : (len : Int) ≤ 1048576) :
    Calls Try.prog 16 #[.slice a len cap, .int .i64 x, .int .i64 y] w fun e w' => e = .returned (.bool true) ∧ w = w' := by
  go_enter Try.func16, Try.ntmps16
  go_wp2
  go_ret
  exact ⟨rfl, rfl⟩

theorem bytes_no (a : Option Addr) (len cap : Nat) (x y : Int) (w : World) (h : (1048576 : Int) < (len : Int)) :
    Calls Try.prog 16 #[.slice a len cap, .int .i64 x, .int .i64 y] w fun e w' => e = .returned (.bool false) ∧ w = w' := by
  go_enter Try.func16, Try.ntmps16
  go_wp2
  go_ret
  exact ⟨rfl, rfl⟩

/-- 'copy(zzc, data)': the whole of a row of the call's own is written. -/
theorem run_copy_all {P : Program} {w : World} (dT sT ty elem : TypeId) (i : TypeInfo) (size : Nat) (hu : P.underlying dT = some (.slice elem)) (hi : P.info? elem = some i) (hsz : i.size = size)
    (g n dCap : Nat) (ad : Addr) (sCap : Nat) (cur : Array Value) (t : TypeId) (hg : w.heap[g]? = some (.cells cur t (0, 0))) (cs : List Value) (hn : cs.length = n * size)
    (hsrc : ∀ j v, cs[j]? = some v → w.cell? (ad.add j) = some v) (hfit : cs.length = cur.size) (h1 : ∀ v ∈ cs, v.oneCell' = true) :
    (Builtin.copy_ #[dT, sT] ty #[.slice (some ⟨g, 0, none⟩) n dCap, .slice (some ad) n sCap]).run P w = .ok (goInt n) (w.setRow g cs.toArray) := by
  subst hsz
  have hl := run_firstCells_some (P := P) w i.size n ad n sCap cs hn hsrc
  have hst := run_storeCells_at P g 0 t cs 0 cur w hg (by simpa using Nat.le_of_eq hfit) h1
  have e : cur.toList.take (0 + 0) ++ cs ++ cur.toList.drop (0 + 0 + cs.length) = cs := by simp [hfit]
  rw [e] at hst
  simp [Builtin.copy_, run_underlying hu, Builtin.lenOf, sizeOf, typeInfo, hi, hl, hst]

theorem info5 : (Try.prog.info? 5).map (fun i => (i.zero, i.size, i.bytes)) = some (some (.int .u8 0), 1, 1) := by kernel_rfl

theorem own_block {w : World} {base : Nat} {g n : Nat} {xs : List Value} (h : w.ownsRow base 5 1 (.slice (some ⟨g, 0, none⟩) n n) n xs) : ∃ cur, w.heap[g]? = some (.cells cur 5 (0, 0)) ∧ cur.size = n * 1 := by
  rcases h.2 with ⟨e, _⟩ | ⟨g', cap, cur, e, _, hg, _, _, hs, _⟩
  · cases e
  · simp only [Value.slice.injEq, Option.some.injEq, Addr.mk.injEq, and_true, true_and] at e
    obtain ⟨rfl, rfl⟩ := e
    exact ⟨cur, hg, hs⟩

/-- The bytes as cells. -/
def row (D : Nat → Nat) (n : Nat) : List Value := (List.range n).map fun i => .int .u8 (D i : Int)

theorem row_get (D : Nat → Nat) (n i : Nat) (h : i < n) : (row D n)[i]? = some (.int .u8 (D i : Int)) := by simp [row, h]
theorem row_src {D : Nat → Nat} {n : Nat} {ad : Addr} {w w1 : World} (hc : ∀ i, i < n → w.cell? (ad.add i) = some (.int .u8 (D i : Int))) (hg : w.grownBy w1 none) : ∀ j v, (row D n)[j]? = some v → w1.cell? (ad.add j) = some v := by
  intro j v h
  have hj : j < n := by
    have := (List.getElem?_eq_some_iff.1 h).1
    simpa [row] using this
  rw [row_get D n j hj] at h
  rw [← Option.some.inj h]
  exact hg.cell (hc j hj) (by simp)
theorem row_one (D : Nat → Nat) (n : Nat) : ∀ v ∈ row D n, v.oneCell' = true := by
  intro v hv
  simp [row] at hv
  obtain ⟨i, _, rfl⟩ := hv
  rfl

/-- Behind the copy. -/
theorem copied {D : Nat → Nat} {n : Nat} {w w1 : World} {cur : Array Value} (hcur : w1.heap[w.heap.size]? = some (.cells cur 5 (0, 0))) (hg : w.grownBy w1 none) :
    (∀ c, c ≤ n → Seg (some ⟨w.heap.size, 0, none⟩) c D (w1.setRow w.heap.size (row D n).toArray)) ∧ Below w.heap.size w (w1.setRow w.heap.size (row D n).toArray) := by
  refine ⟨fun c hc _ => ⟨w.heap.size, 0, rfl, fun i hi => ?_⟩, ((Below.refl _ _).grown hg (Nat.le_refl _) (fun k e => by cases e)).trans ⟨rfl, rfl, rfl, by simp [World.setRow], fun k hk => setRow_other w1 w.heap.size k _ (by omega)⟩⟩
  rw [cell_of_row _ _ _ _ _ _ (setRow_heap w1 w.heap.size cur _ 5 _ hcur)]
  simpa using row_get D n i (by omega)

theorem Seg.below {pa : Option Addr} {n : Nat} {D : Nat → Nat} {w w' : World} (h : Seg pa n D w) (hb : Below w.heap.size w w') : Seg pa n D w' := by
  intro hn
  obtain ⟨b, o, e, hc⟩ := h hn
  exact ⟨b, o, e, fun i hi => by rw [hb.cell (World.block_lt_of_cell? w _ (hc i hi))]; exact hc i hi⟩

theorem below_two {w w2 w3 : World} (h : Below w.heap.size w w2) (k : Below w2.heap.size w2 w3) : Below w.heap.size w w3 := h.trans (k.mono h.size)

section
variable (a0 : Option Addr) (len cap : Nat) (off cut : Int) (w : World)

theorem law_long (h : (1048576 : Int) < (len : Int)) :
    Calls Try.prog 5 #[.slice a0 len cap, .int .i64 off, .int .i64 cut] w fun e w' => e = .returned (.bool true) ∧ Below w.heap.size w w' := by
  go_enter Try.func5, Try.ntmps5
  go_wp2_with (go_at_call 16; refine (bytes_no _ _ _ _ _ _ h).mono ?_; rintro e w' ⟨rfl, rfl⟩)
  go_ret
  exact ⟨rfl, Below.refl _ _⟩

theorem law_out (h : (len : Int) ≤ 1048576) (h2 : off < 0 ∨ (len : Int) < off) :
    Calls Try.prog 5 #[.slice a0 len cap, .int .i64 off, .int .i64 cut] w fun e w' => e = .returned (.bool true) ∧ Below w.heap.size w w' := by
  rcases h2 with h2 | h2
  · go_enter Try.func5, Try.ntmps5
    go_wp2_with (go_at_call 16; refine (bytes_yes _ _ _ _ _ _ h).mono ?_; rintro e w' ⟨rfl, rfl⟩)
    go_ret
    exact ⟨rfl, Below.refl _ _⟩
  · have h3 : ¬ off < 0 := by omega
    go_enter Try.func5, Try.ntmps5
    go_wp2_with (go_at_call 16; refine (bytes_yes _ _ _ _ _ _ h).mono ?_; rintro e w' ⟨rfl, rfl⟩)
    go_ret
    exact ⟨rfl, Below.refl _ _⟩
end

theorem fit_zero : Fit 0 0 (fun _ => 0) := ⟨by omega, by omega, fun _ => by omega⟩

theorem law_nil (cut : Int) (w : World) :
    Calls Try.prog 5 #[.slice none 0 0, .int .i64 0, .int .i64 cut] w fun e w' => e = .returned (.bool true) ∧ Below w.heap.size w w' := by
  have hz := zz_some none 0 0 (fun _ => 0) fit_zero w 0 (fun h => absurd h (Nat.lt_irrefl _)) (Nat.le_refl _) 1 (by omega)
  have e : Pl.skipF (fun _ => 0) (be fun _ => 0) 0 1 0 = none := rfl
  rw [e] at hz
  have HZ := hid hz
  clear hz e
  have q22 : ∀ (w : World) (a : Option Addr) (n c n' c' : Nat), (binOp .neq 22 (.slice a n c) (.slice none n' c')).run Try.prog w = .ok (.bool (!a.isNone)) w := fun w a n c n' c' => run_neq_slice_nil_any w _ _ a n c n' c' Try.underlying22
  go_enter Try.func5, Try.ntmps5
  go_wp2_with (first
    | (go_at_call 16; refine (bytes_yes _ _ _ _ _ _ (by omega)).mono ?_; rintro e w' ⟨rfl, rfl⟩)
    | (go_at_call 12; refine HZ.out.mono ?_; rintro e w2 ⟨⟨off2, rfl⟩, hb2⟩))
  go_ret
  exact ⟨rfl, hb2⟩

set_option maxHeartbeats 800000 in
theorem law_some (ad : Addr) (n cap : Nat) (D : Nat → Nat) (o : Nat) (cut : Int) (w : World) (hn : n ≤ 1048576) (hD : ∀ i, D i < 256) (ho : o ≤ n) (hc : ∀ i, i < n → w.cell? (ad.add i) = some (.int .u8 (D i : Int))) :
    Calls Try.prog 5 #[.slice (some ad) n cap, .int .i64 o, .int .i64 cut] w fun e w' => e = .returned (.bool true) ∧ Below w.heap.size w w' := by
  obtain ⟨i0, hi, hz0, hz1, hz2⟩ := info_parts info5
  have q22 : ∀ (w : World) (a : Option Addr) (n c n' c' : Nat), (binOp .neq 22 (.slice a n c) (.slice none n' c')).run Try.prog w = .ok (.bool (!a.isNone)) w := fun w a n c n' c' => run_neq_slice_nil_any w _ _ a n c n' c' Try.underlying22
  have HC := hid hc
  have HD := hid hD
  clear hc hD
  go_enter Try.func5, Try.ntmps5
  go_wp2_with (first
    | (go_at_call 16; refine (bytes_yes _ _ _ _ _ _ (by omega)).mono ?_; rintro e w' ⟨rfl, rfl⟩)
    | (at_make; refine wpList_make_full _ rfl _ _ 22 rfl w.heap.size 5 i0 (.int .u8 0) 1 Try.underlying22 hi hz0 hz1 .i64 .i64 _ _ n rfl rfl rfl rfl (by rw [hz2]; omega) (by unfold maxLen; omega) (Nat.le_refl _) ?_; intro w1 hown1 hgrow1; obtain ⟨cur, hcur, hcs⟩ := own_block hown1))
  rw [run_copy_all 22 22 3 5 i0 1 Try.underlying22 hi hz1 w.heap.size n n ad cap cur 5 hcur (row D n) (by simp [row]) (row_src HC.out hgrow1) (by simp [row, hcs]) (row_one _ _)]
  obtain ⟨hseg, hbel⟩ := copied (D := D) (n := n) hcur hgrow1
  clear hown1 hgrow1 hcur hcs
  generalize w1.setRow w.heap.size (row D n).toArray = w2 at *
  have hz := zz_some (some ⟨w.heap.size, 0, none⟩) n n D ⟨hn, Nat.le_refl _, HD.out⟩ w2 o (hseg n (Nat.le_refl _)) ho (n + 1) (by omega)
  have HSG := hid hseg
  clear hseg
  cases hs : Pl.skipF D (be D) n (n + 1) o with
  | none =>
    rw [hs] at hz
    have HZ := hid hz
    clear hz hs
    go_wp2_with (go_at_call 12; refine HZ.out.mono ?_; rintro e w3 ⟨⟨off3, rfl⟩, hb3⟩)
    go_ret
    exact ⟨rfl, below_two hbel hb3⟩
  | some e1 =>
    rw [hs] at hz
    have hA := Pl.skipF_ahead (D := D) (arg := be D) n (n + 1) o e1 hs
    have HE := hid hs
    have HZ := hid hz
    clear hz hs
    by_cases hcut : cut < (o : Int) ∨ (e1 : Int) ≤ cut
    · rcases hcut with hcut | hcut
      · go_wp2_with (go_at_call 12; refine HZ.out.mono ?_; rintro e w3 ⟨rfl, hb3⟩)
        go_ret
        exact ⟨rfl, below_two hbel hb3⟩
      · have hcut2 : ¬ cut < (o : Int) := by omega
        go_wp2_with (go_at_call 12; refine HZ.out.mono ?_; rintro e w3 ⟨rfl, hb3⟩)
        go_ret
        exact ⟨rfl, below_two hbel hb3⟩
    · obtain ⟨c, rfl⟩ : ∃ c : Nat, cut = (c : Int) := ⟨cut.toNat, by omega⟩
      have h1 : ¬ (c : Int) < (o : Int) := by omega
      have h2 : ¬ (e1 : Int) ≤ (c : Int) := by omega
      have hcn : (c : Int) ≤ (n : Int) := by omega
      have h0 : (0 : Int) ≤ (c : Int) := by omega
      clear hcut
      have href : Pl.skipF D (be D) c (n + 1) o = none := Pl.refused (by omega) HE.out (by omega)
      have HR := hid href
      clear href
      go_wp2_with fail
      refine HZ.out.mono ?_
      rintro e w3 ⟨rfl, hb3⟩
      have hz2' := zz_some (some ⟨w.heap.size, 0, none⟩) c n D ⟨by omega, by omega, HD.out⟩ w3 o ((HSG.out c (by omega)).below hb3) (by omega) (n + 1) (by omega)
      have hz3 : Calls Try.prog 12 #[.slice (some ⟨w.heap.size, 0, none⟩) c n, .int .i64 o, .bool true] w3 fun e w' => (∃ off, e = .returned (.tuple #[.int .i64 off, .bool false])) ∧ Below w3.heap.size w3 w' := by
        rw [HR.out] at hz2'
        exact hz2'
      have HZ3 := hid hz3
      clear hz2' hz3
      go_wp2_with fail
      refine HZ3.out.mono ?_
      rintro e w4 ⟨⟨off4, rfl⟩, hb4⟩
      go_wp2_with fail
      go_ret
      exact ⟨rfl, below_two (below_two hbel hb3) hb4⟩

end Go.Proofs.Qxb6000697a
