/-
  slices.Sort AND slices.Compact AT A SLICE THAT THE CALL HAS BUILT.
-/
import Derived.Test.Qxb6605223aSrt
import Derived.Test.Qxb6605223aCompact
import Derived.Lib.OwnBridge
import Derived.Test.Qxb6605223aKs
namespace Go.Proofs.Qxb6605223a
open Go.RowKit Go.Sort Go.Lib

abbrev encK : Int → Value := Value.int .u64

theorem grownBy_refl (w : World) (row : Option Nat) : w.grownBy w row := ⟨rfl, rfl, rfl, Nat.le_refl _, fun _ _ _ => rfl⟩

theorem grownBy_put {w : World} {g n : Nat} (d : Array Int) : w.grownBy (putRow encK (Sort.ahead w n) g 0 d) (some g) := by
  refine ⟨rfl, rfl, rfl, by simp [putRow, mapBlock, Sort.ahead], fun k hk hne => ?_⟩
  have : g ≠ k := fun e => hne (by rw [e])
  simp [putRow, mapBlock, Sort.ahead, Array.getElem?_modify, this]

theorem grownBy_grow {w w' : World} {row : Option Nat} (h : w.grownBy w' row) (os : Array Obj) : w.grownBy (grow w' os) row := by
  refine ⟨h.os, h.tape, h.output, Nat.le_trans h.size (by simp), fun k hk hne => ?_⟩
  rw [heap_grow_old _ _ (by have := h.size; omega)]
  exact h.block k hk hne

theorem own_grow {w : World} {base : Nat} {e : TypeId} {size : Nat} {v : Value} {n : Nat} {xs : List Value} (h : w.ownsRow base e size v n xs) (os : Array Obj) : (grow w os).ownsRow base e size v n xs := by
  refine ⟨h.1, ?_⟩
  rcases h.2 with h1 | ⟨g, cap, cur, e1, hb, hg, h3⟩
  · exact .inl h1
  · refine .inr ⟨g, cap, cur, e1, hb, ?_, h3⟩
    rw [heap_grow_old _ _ (lt_of_block hg)]
    exact hg

theorem sort_own (base : Nat) (kv : Value) (ks : List Int) (w : World) (hl : ks.length ≤ 4096) (hown : w.ownsRow base 64 1 kv ks.length (ks.map encK)) :
    Calls Try.prog 25 #[kv] w fun e w' => e = .returned (.tuple #[]) ∧ w'.ownsRow base 64 1 kv ks.length ((sorted ks).map encK) ∧ w.grownBy w' kv.ownBlock := by
  by_cases h0 : kv = .slice none 0 0
  · subst h0
    have e0 : ks.length = 0 := by
      rcases hown.2 with ⟨_, e⟩ | ⟨g, cap, cur, e, _⟩
      · exact e
      · cases e
    have e1 : ks = [] := List.length_eq_zero_iff.1 e0
    subst e1
    refine (U.Sort_nil none 0 w).mono ?_
    rintro e w' ⟨rfl, rfl⟩
    exact ⟨rfl, by simpa [sorted] using hown, grownBy_refl _ _⟩
  · obtain ⟨g, cap, rfl, hb, hg, hn, hm, hz, hH⟩ := holds_of_ownsRow hown h0
    refine (U.slices_Sort g 0 cap ks w hH hg (by omega)).mono ?_
    rintro e w' ⟨rfl, q, os, rfl⟩
    refine ⟨rfl, ?_, grownBy_grow (grownBy_put _) os⟩
    have hy : (sorted ks).length = ks.length := by simp [sorted]
    have h2 := ownsRow_putRow (q := q) (k := ks.length) (ys := sorted ks) hown hy (Nat.le_refl _)
    rw [List.take_of_length_le (by omega)] at h2
    exact own_grow h2 os

theorem compact_length (zs : List Int) : (Lib.compact zs).length ≤ zs.length := by
  unfold Lib.compact compactUpTo
  rw [List.length_map]
  refine Nat.le_trans (List.length_filter_le _ _) ?_
  simp

theorem compact_own (base : Nat) (kv : Value) (ks : List Int) (w : World) (hl : ks.length ≤ 4096) (hown : w.ownsRow base 64 1 kv ks.length (ks.map encK)) :
    Calls Try.prog 26 #[kv] w fun e w' => ∃ kv', e = .returned kv' ∧ w'.ownsRow base 64 1 kv' (Lib.compact ks).length ((Lib.compact ks).map encK) ∧ w.grownBy w' kv.ownBlock := by
  by_cases h0 : kv = .slice none 0 0
  · subst h0
    have e0 : ks.length = 0 := by
      rcases hown.2 with ⟨_, e⟩ | ⟨g, cap, cur, e, _⟩
      · exact e
      · cases e
    have e1 : ks = [] := List.length_eq_zero_iff.1 e0
    subst e1
    refine (U.slices_Compact_empty none 0 w).mono ?_
    rintro e w' ⟨rfl, rfl⟩
    exact ⟨_, rfl, by simpa [Lib.compact, compactUpTo] using hown, grownBy_refl _ _⟩
  · obtain ⟨g, cap, rfl, hb, hg, hn, hm, hz, hH⟩ := holds_of_ownsRow hown h0
    refine (U.slices_Compact g 0 cap ks w hH (by omega) hn).mono ?_
    rintro e w' ⟨rfl, q, rfl⟩
    refine ⟨_, rfl, ?_, grownBy_put _⟩
    have hc := compact_length ks
    have h2 := ownsRow_putRow (q := q) (k := (Lib.compact ks).length) (ys := Lib.compact ks ++ List.replicate (ks.length - (Lib.compact ks).length) 0) hown (by simp; omega) hc
    rw [List.take_left'  rfl] at h2
    exact h2

theorem compact_own' (base : Nat) (kv : Value) (ks zs : List Int) (w : World) (hl : ks.length ≤ 4096) (hown : w.ownsRow base 64 1 kv ks.length (ks.map encK)) (hz : zs = Lib.compact ks) :
    Calls Try.prog 26 #[kv] w fun e w' => ∃ kv', e = .returned kv' ∧ w'.ownsRow base 64 1 kv' zs.length (zs.map encK) ∧ w.grownBy w' kv.ownBlock := by
  subst hz
  exact compact_own base kv ks w hl hown
end Go.Proofs.Qxb6605223a
