/-
  THE READER, PLAIN: what 'head', 'advance', 'skip' make of a row of bytes D of length n, from a place on; none where they refuse. AND THE LAW: what is read whole of a cut row is read whole, to the same end, of the row itself.
  (The argument's value is any function 'arg' of the bytes, the place and the size.)
-/
namespace Go.Proofs.Qxb6000697a
namespace Pl

/-- major, argument, of indefinite length. -/
structure Hd where
  major : Nat
  arg : Int
  ind : Bool

section
variable (D : Nat → Nat) (arg : Nat → Nat → Int)

def szOf (info : Nat) : Nat := if info = 24 then 1 else if info = 25 then 2 else if info = 26 then 4 else 8

def headF (n off : Nat) : Option (Hd × Nat) :=
  if off < n then
    if D off % 32 < 24 then some (⟨D off / 32, (D off % 32 : Nat), false⟩, off + 1)
    else if D off % 32 ≤ 27 then
      if n < off + 1 + szOf (D off % 32) then none
      else some (⟨D off / 32, arg (off + 1) (szOf (D off % 32)), false⟩, off + 1 + szOf (D off % 32))
    else if D off % 32 = 31 ∧ 2 ≤ D off / 32 ∧ D off / 32 ≤ 5 then some (⟨D off / 32, 0, true⟩, off + 1)
    else none
  else none

def advF (n o : Nat) (a : Int) : Option Nat := if a ≤ (n : Int) - (o : Int) then some (o + a.toNat) else none

/-- Does another item follow? none: no, and the reader stands there; some: yes. -/
def stopF (n : Nat) (h : Hd) (i o : Nat) : Option Nat :=
  if h.ind then (if o < n ∧ D o = 255 then some (o + 1) else none) else if (i : Int) < h.arg then none else some o

/-- The loop over a container's items. -/
def lp (n : Nat) (g : Nat → Option Nat) (h : Hd) : Nat → Nat → Nat → Option Nat
  | 0, _, _ => none
  | k + 1, i, o => match stopF D n h i o with
    | some o' => some o'
    | none => match g o with
      | some o' => lp n g h k (i + 1) o'
      | none => none

/-- A chunk of a string of indefinite length. -/
def chunkF (n : Nat) (m : Nat) (o : Nat) : Option Nat :=
  match headF D arg n o with
  | some (h, o1) => if h.major = m ∧ h.ind = false then advF n o1 h.arg else none
  | none => none

def two (g : Nat → Option Nat) (o : Nat) : Option Nat :=
  match g o with
  | some o' => g o'
  | none => none

def skipF (n : Nat) : Nat → Nat → Option Nat
  | 0, _ => none
  | f + 1, off => match headF D arg n off with
    | none => none
    | some (h, o) =>
      if h.major = 2 ∨ h.major = 3 then
        if h.ind then lp D n (chunkF D arg n h.major) h (n + 1) 0 o else advF n o h.arg
      else if h.major = 4 then lp D n (skipF n f) h (n + 1) 0 o
      else if h.major = 5 then lp D n (two (skipF n f)) h (n + 1) 0 o
      else if h.major = 6 then skipF n f o
      else some o

/-! ### What is read lies ahead, within the row -/
variable {D arg}

theorem headF_lt {n off : Nat} {h : Hd} {o : Nat} (e : headF D arg n off = some (h, o)) : off < o ∧ o ≤ n := by
  unfold headF at e
  split at e
  · split at e
    · simp at e; omega
    · split at e
      · split at e
        · cases e
        · simp at e; omega
      · split at e
        · simp at e; omega
        · cases e
  · cases e

theorem advF_le {n o : Nat} {a : Int} {o' : Nat} (e : advF n o a = some o') (h : o ≤ n) : o ≤ o' ∧ o' ≤ n := by
  unfold advF at e
  split at e
  · simp at e; omega
  · cases e

/-- A step that goes ahead, within the row. -/
def Ahead (n : Nat) (g : Nat → Option Nat) : Prop := ∀ o o', g o = some o' → o < o' ∧ o' ≤ n

theorem chunkF_ahead (n m : Nat) : Ahead n (chunkF D arg n m) := by
  intro o o' e
  unfold chunkF at e
  cases hh : headF D arg n o with
  | none => simp [hh] at e
  | some p =>
    obtain ⟨h, o1⟩ := p
    simp only [hh] at e
    have := headF_lt hh
    split at e
    · have := advF_le e (by omega)
      omega
    · cases e

theorem two_ahead {n : Nat} {g : Nat → Option Nat} (hg : Ahead n g) : Ahead n (two g) := by
  intro o o' e
  unfold two at e
  cases h : g o with
  | none => simp [h] at e
  | some p =>
    simp only [h] at e
    have := hg _ _ h
    have := hg _ _ e
    omega

theorem stopF_le {n : Nat} {h : Hd} {i o o' : Nat} (e : stopF D n h i o = some o') (ho : o ≤ n) : o ≤ o' ∧ o' ≤ n := by
  unfold stopF at e
  split at e
  · split at e
    · simp at e; omega
    · cases e
  · split at e
    · cases e
    · simp at e; omega

theorem lp_le {n : Nat} {g : Nat → Option Nat} {h : Hd} (hg : Ahead n g) : ∀ (k i o o' : Nat), o ≤ n → lp D n g h k i o = some o' → o ≤ o' ∧ o' ≤ n
  | 0, _, _, _, _, e => by simp [lp] at e
  | k + 1, i, o, o', ho, e => by
    unfold lp at e
    cases hs : stopF D n h i o with
    | some p =>
      simp only [hs] at e
      cases e
      exact stopF_le hs ho
    | none =>
      simp only [hs] at e
      cases hgo : g o with
      | none => simp [hgo] at e
      | some p =>
        simp only [hgo] at e
        have := hg _ _ hgo
        have := lp_le hg k (i + 1) p o' (by omega) e
        omega

theorem skipF_ahead (n : Nat) : ∀ f, Ahead n (skipF D arg n f)
  | 0 => by intro o o' e; simp [skipF] at e
  | f + 1 => by
    intro off o' e
    unfold skipF at e
    cases hh : headF D arg n off with
    | none => simp [hh] at e
    | some p =>
      obtain ⟨h, o⟩ := p
      simp only [hh] at e
      have := headF_lt hh
      split at e
      · split at e
        · have := lp_le (chunkF_ahead n h.major) _ _ _ _ (by omega) e
          omega
        · have := advF_le e (by omega)
          omega
      · split at e
        · have := lp_le (skipF_ahead n f) _ _ _ _ (by omega) e
          omega
        · split at e
          · have := lp_le (two_ahead (skipF_ahead n f)) _ _ _ _ (by omega) e
            omega
          · split at e
            · have := skipF_ahead n f _ _ e
              omega
            · simp at e; omega

/-! ### What is read whole of a cut row is read so of the row -/
variable {c n : Nat}
theorem headF_cut (hcn : c ≤ n) {off : Nat} {r : Hd × Nat} (e : headF D arg c off = some r) : headF D arg n off = some r := by
  unfold headF at e ⊢
  split at e
  · rename_i h
    rw [if_pos (by omega)]
    split at e
    · rename_i h2; rw [if_pos h2]; exact e
    · rename_i h2
      rw [if_neg h2]
      split at e
      · rename_i h3
        rw [if_pos h3]
        split at e
        · cases e
        · rename_i h4
          rw [if_neg (by omega)]
          exact e
      · rename_i h3
        rw [if_neg h3]
        exact e
  · cases e

theorem advF_cut (hcn : c ≤ n) {o : Nat} {a : Int} {o' : Nat} (e : advF c o a = some o') : advF n o a = some o' := by
  unfold advF at e ⊢
  split at e
  · rw [if_pos (by omega)]; exact e
  · cases e

/-- What a step makes of the cut row it makes of the row; and it makes nothing beyond the cut. -/
structure Cuts (c : Nat) (g g' : Nat → Option Nat) : Prop where
  same : ∀ o o', g o = some o' → g' o = some o'
  lt : ∀ o o', g o = some o' → o < c

theorem lp_cut (hcn : c ≤ n) {g g' : Nat → Option Nat} (hg : Cuts c g g') (h : Hd) : ∀ (k k' i o o' : Nat), k ≤ k' → lp D c g h k i o = some o' → lp D n g' h k' i o = some o'
  | 0, _, _, _, _, _, e => by simp [lp] at e
  | k + 1, 0, _, _, _, hk, _ => by omega
  | k + 1, k' + 1, i, o, o', hk, e => by
    unfold lp at e ⊢
    cases hs : stopF D c h i o with
    | some p =>
      simp only [hs] at e
      have : stopF D n h i o = some p := by
        unfold stopF at hs ⊢
        split at hs
        · rename_i hi
          rw [if_pos hi]
          split at hs
          · rename_i h2
            rw [if_pos ⟨by omega, h2.2⟩]
            exact hs
          · cases hs
        · rename_i hi
          rw [if_neg hi]
          exact hs
      simp only [this]
      exact e
    | none =>
      simp only [hs] at e
      cases hgo : g o with
      | none => simp [hgo] at e
      | some p =>
        simp only [hgo] at e
        have hlt := hg.lt _ _ hgo
        have : stopF D n h i o = none := by
          unfold stopF at hs ⊢
          split at hs
          · rename_i hi
            rw [if_pos hi]
            split at hs
            · cases hs
            · rename_i h2
              rw [if_neg (fun h3 => h2 ⟨hlt, h3.2⟩)]
          · rename_i hi
            rw [if_neg hi]
            exact hs
        simp only [this, hg.same _ _ hgo]
        exact lp_cut hcn hg h k k' (i + 1) p o' (by omega) e

theorem chunkF_cut (hcn : c ≤ n) (m : Nat) : Cuts c (chunkF D arg c m) (chunkF D arg n m) := by
  constructor
  · intro o o' e
    unfold chunkF at e ⊢
    cases hh : headF D arg c o with
    | none => simp [hh] at e
    | some p =>
      obtain ⟨h, o1⟩ := p
      simp only [hh] at e
      simp only [headF_cut hcn hh]
      split at e
      · rename_i h2
        rw [if_pos h2]
        exact advF_cut hcn e
      · cases e
  · intro o o' e
    have := chunkF_ahead c m o o' e
    omega

theorem two_cut {g g' : Nat → Option Nat} (hg : Cuts c g g') : Cuts c (two g) (two g') := by
  constructor
  · intro o o' e
    unfold two at e ⊢
    cases h : g o with
    | none => simp [h] at e
    | some p =>
      simp only [h] at e
      simp only [hg.same _ _ h]
      exact hg.same _ _ e
  · intro o o' e
    unfold two at e
    cases h : g o with
    | none => simp [h] at e
    | some p => exact hg.lt _ _ h

theorem skipF_cut (hcn : c ≤ n) : ∀ f, Cuts c (skipF D arg c f) (skipF D arg n f)
  | 0 => ⟨fun o o' e => by simp [skipF] at e, fun o o' e => by simp [skipF] at e⟩
  | f + 1 => by
    constructor
    · intro off o' e
      unfold skipF at e ⊢
      cases hh : headF D arg c off with
      | none => simp [hh] at e
      | some p =>
        obtain ⟨h, o⟩ := p
        simp only [hh] at e
        simp only [headF_cut hcn hh]
        split at e
        · rename_i h1
          rw [if_pos h1]
          split at e
          · rename_i h2
            rw [if_pos h2]
            exact lp_cut hcn (chunkF_cut hcn h.major) h _ _ _ _ _ (by omega) e
          · rename_i h2
            rw [if_neg h2]
            exact advF_cut hcn e
        · rename_i h1
          rw [if_neg h1]
          split at e
          · rename_i h2
            rw [if_pos h2]
            exact lp_cut hcn (skipF_cut hcn f) h _ _ _ _ _ (by omega) e
          · rename_i h2
            rw [if_neg h2]
            split at e
            · rename_i h3
              rw [if_pos h3]
              exact lp_cut hcn (two_cut (skipF_cut hcn f)) h _ _ _ _ _ (by omega) e
            · rename_i h3
              rw [if_neg h3]
              split at e
              · rename_i h4
                rw [if_pos h4]
                exact (skipF_cut hcn f).same _ _ e
              · rename_i h4
                rw [if_neg h4]
                exact e
    · intro o o' e
      have := skipF_ahead c (f + 1) o o' e
      omega

/-- THE LAW: an item that is read whole from off to e is refused of the row cut ahead of e. -/
theorem refused {f off e : Nat} (hcn : c ≤ n) (hf : skipF D arg n f off = some e) (hce : c < e) : skipF D arg c f off = none := by
  cases h : skipF D arg c f off with
  | none => rfl
  | some e' =>
    have h1 := (skipF_cut hcn f).same _ _ h
    rw [hf] at h1
    have h2 := skipF_ahead c f _ _ h
    have : e = e' := by simpa using h1
    omega

end
end Pl
end Go.Proofs.Qxb6000697a
