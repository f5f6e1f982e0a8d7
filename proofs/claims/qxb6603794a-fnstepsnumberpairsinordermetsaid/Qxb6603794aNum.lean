/-
  THE PAIRS MET, IN THEIR ORDER, AND THE NUMBER OF EACH: what the steps' row and map hold of them; 'of' answers the number.
-/
import Derived.Test.Qxb6603794aOf
namespace Go.Proofs.Qxb6603794a
open Go.RowKit Go.Maps

/-- The pairs met, once p has been met. -/
def met (ps : List (Int × Int)) (p : Int × Int) : List (Int × Int) := if p ∈ ps then ps else ps ++ [p]

def isV (v : Int) (p : Int × Int) : Bool := p.2 == v

def fb (ps : List (Int × Int)) (j : Nat) : Int := match ps.find? (isV j) with | some p => wrap32 (p.1 + 1) | none => 0
def fs (ps : List (Int × Int)) (j : Nat) : Int := match ps.findIdx? (isV j) with | some i => (i : Int) | none => 0
def fM (ps : List (Int × Int)) (p : Int × Int) : Option Int := if p ∈ ps ∧ ps.find? (isV p.2) ≠ some p then some (ps.idxOf p : Int) else none
def fS (ps : List (Int × Int)) (p : Int × Int) : Option Int := if p ∈ ps then some (ps.idxOf p : Int) else none

def wf32 (a : Int) : Prop := -2147483648 ≤ a ∧ a ≤ 2147483647

theorem wf32_lit {a : Int} (h : wf32 a) : (Lit.int .i32 a).wf = true := WalkArith.wf_i32 h

/-- The map reads as f. -/
def MapIs (D : DataW Unit) (f : Int × Int → Option Int) : Prop :=
  ∀ a b, wf32 a → wf32 b → Maps.has D (kp a b) = (f (a, b)).isSome ∧ ∀ c, f (a, b) = some c → D.atKey (kp a b) (.lit (.int .i32 0)) = .lit (.int .i32 c)

def Ok (ps : List (Int × Int)) : Prop := ∀ p ∈ ps, wf32 p.1 ∧ p.1 ≠ -1 ∧ 0 ≤ p.2 ∧ p.2 ≤ 65536

theorem wrap_inj {x y : Int} (hx : wf32 x) (hy : wf32 y) (h : wrap32 (x + 1) = wrap32 (y + 1)) : x = y := by
  unfold wf32 at hx hy
  unfold wrap32 at h
  omega

theorem wrap_zero {x : Int} (hx : wf32 x) (h : wrap32 (x + 1) = 0) : x = -1 := by
  unfold wf32 at hx
  unfold wrap32 at h
  omega

theorem find_idx (f : Int × Int → Bool) (p : Int × Int) : ∀ l : List (Int × Int), l.find? f = some p → l.findIdx? f = some (l.idxOf p)
  | [], h => by simp at h
  | x :: l, h => by
    rw [List.findIdx?_cons]
    cases hx : f x with
    | true =>
      simp [hx] at h
      subst h
      simp
    | false =>
      rw [List.find?_cons_of_neg (by simp [hx])] at h
      have hp : f p = true := List.find?_some h
      have hne : x ≠ p := fun e => by rw [e, hp] at hx; cases hx
      rw [find_idx f p l h]
      have hb : (x == p) = false := beq_eq_false_iff_ne.2 hne
      simp [List.idxOf_cons, hb]

theorem isV_self (p : Int × Int) : isV p.2 p = true := by simp [isV]

/-- A value that no pair bears. -/
theorem find_none {ps : List (Int × Int)} {v : Int} (h : ∀ p ∈ ps, p.2 ≠ v) : ps.find? (isV v) = none := by
  rw [List.find?_eq_none]
  intro p hp
  simp [isV, h p hp]

theorem fb_none {ps : List (Int × Int)} {j : Nat} (h : ps.find? (isV j) = none) : fb ps j = 0 := by simp [fb, h]
theorem fs_none {ps : List (Int × Int)} {j : Nat} (h : ps.find? (isV j) = none) : fs ps j = 0 := by
  have : ps.findIdx? (isV j) = none := by
    rw [List.findIdx?_eq_none_iff]
    intro p hp
    simpa using List.find?_eq_none.1 h p hp
  simp [fs, this]

theorem mem_find {ps : List (Int × Int)} {x : Int × Int} (h : x ∈ ps) : (ps.find? (isV x.2)).isSome = true := by
  rw [List.find?_isSome]
  exact ⟨x, h, isV_self x⟩

theorem fM_other {ps : List (Int × Int)} {p x : Int × Int} (h : x ≠ p) : fM (ps ++ [p]) x = fM ps x := by
  unfold fM
  by_cases hx : x ∈ ps
  · obtain ⟨q, hq⟩ := Option.isSome_iff_exists.1 (mem_find hx)
    have e : (ps ++ [p]).find? (isV x.2) = some q := by rw [List.find?_append, hq]; rfl
    rw [e, hq, List.idxOf_append, if_pos hx]
    simp [hx]
  · have : x ∉ ps ++ [p] := by simp [hx, h]
    rw [if_neg (fun e => this e.1), if_neg (fun e => hx e.1)]

theorem fM_new {ps : List (Int × Int)} {p : Int × Int} (h : ps.find? (isV p.2) = none) : fM (ps ++ [p]) p = none := by
  unfold fM
  have e : (ps ++ [p]).find? (isV p.2) = some p := by rw [List.find?_append, h]; simp [isV]
  rw [if_neg (fun hh => hh.2 e)]

theorem fM_more {ps : List (Int × Int)} {p q : Int × Int} (hq : ps.find? (isV p.2) = some q) (hne : q ≠ p) (hp : p ∉ ps) : fM (ps ++ [p]) p = some (ps.length : Int) := by
  unfold fM
  have e : (ps ++ [p]).find? (isV p.2) = some q := by rw [List.find?_append, hq]; rfl
  rw [if_pos ⟨by simp, by rw [e]; simpa using hne⟩, List.idxOf_append, if_neg hp]
  simp

theorem fS_other {ps : List (Int × Int)} {p x : Int × Int} (h : x ≠ p) : fS (ps ++ [p]) x = fS ps x := by
  unfold fS
  by_cases hx : x ∈ ps
  · rw [if_pos (by simp [hx]), if_pos hx, List.idxOf_append, if_pos hx]
  · rw [if_neg (by simp [hx, h]), if_neg hx]

theorem fS_new {ps : List (Int × Int)} {p : Int × Int} (hp : p ∉ ps) : fS (ps ++ [p]) p = some (ps.length : Int) := by
  unfold fS
  rw [if_pos (by simp), List.idxOf_append, if_neg hp]
  simp

theorem idx_new {ps : List (Int × Int)} {p : Int × Int} (hp : p ∉ ps) : (ps ++ [p]).idxOf p = ps.length := by
  rw [List.idxOf_append, if_neg hp]
  simp

theorem fb_new {ps : List (Int × Int)} {a : Int} {v : Nat} (h : ps.find? (isV v) = none) (j : Nat) : fb (ps ++ [(a, (v : Int))]) j = if j = v then wrap32 (a + 1) else fb ps j := by
  unfold fb
  rw [List.find?_append]
  by_cases e : j = v
  · subst e
    rw [h]
    simp [isV]
  · have : List.find? (isV j) [(a, (v : Int))] = none := by simp [isV]; omega
    rw [this, if_neg e, Option.or_none]

theorem fs_new {ps : List (Int × Int)} {a : Int} {v : Nat} (h : ps.find? (isV v) = none) (j : Nat) : fs (ps ++ [(a, (v : Int))]) j = if j = v then (ps.length : Int) else fs ps j := by
  unfold fs
  rw [List.findIdx?_append]
  by_cases e : j = v
  · subst e
    have : ps.findIdx? (isV j) = none := by
      rw [List.findIdx?_eq_none_iff]
      intro p hp
      simpa using List.find?_eq_none.1 h p hp
    rw [this]
    simp [isV]
  · have : List.findIdx? (isV j) [(a, (v : Int))] = none := by simp [isV]; omega
    rw [this, if_neg e]
    simp

theorem fb_more {ps : List (Int × Int)} {a : Int} {v : Nat} {q : Int × Int} (h : ps.find? (isV v) = some q) (j : Nat) : fb (ps ++ [(a, (v : Int))]) j = fb ps j := by
  unfold fb
  rw [List.find?_append]
  by_cases e : j = v
  · subst e
    rw [h]; rfl
  · have : List.find? (isV j) [(a, (v : Int))] = none := by simp [isV]; omega
    rw [this, Option.or_none]

theorem fs_more {ps : List (Int × Int)} {a : Int} {v : Nat} {q : Int × Int} (h : ps.find? (isV v) = some q) (j : Nat) : fs (ps ++ [(a, (v : Int))]) j = fs ps j := by
  unfold fs
  rw [List.findIdx?_append]
  by_cases e : j = v
  · subst e
    rw [find_idx _ _ _ h]; rfl
  · have : List.findIdx? (isV j) [(a, (v : Int))] = none := by simp [isV]; omega
    rw [this]
    simp

theorem MapIs.put {D : DataW Unit} {f f' : Int × Int → Option Int} (h : MapIs D f) (hD : IsMap D) {a b c : Int} (wa : wf32 a) (wb : wf32 b) (ho : ∀ x, x ≠ (a, b) → f' x = f x) (hn : f' (a, b) = some c) : MapIs (D.put (kp a b) (.lit (.int .i32 c))) f' := by
  intro a' b' wa' wb'
  by_cases e : (a', b') = (a, b)
  · obtain ⟨rfl, rfl⟩ := Prod.mk.inj e
    rw [hn]
    refine ⟨has_put_same hD (kp_key _ _) _, fun c' hc' => ?_⟩
    rw [atKey_put_same hD (kp_key _ _), Option.some.inj hc']
  · have hne : kp a' b' ≠ kp a b := fun hk => e (by
      obtain ⟨r1, r2⟩ := kp_inj (wf32_lit wa') (wf32_lit wb') (wf32_lit wa) (wf32_lit wb) hk
      rw [r1, r2])
    rw [has_put_other hne, atKey_put_other hne, ho _ e]
    exact h a' b' wa' wb'

theorem MapIs.congr {D : DataW Unit} {f f' : Int × Int → Option Int} (h : MapIs D f) (he : ∀ x, f' x = f x) : MapIs D f' := by
  intro a b wa wb
  rw [he]
  exact h a b wa wb

theorem MapIs.empty {f : Int × Int → Option Int} (h : ∀ x, f x = none) : MapIs (.map []) f := by
  intro a b _ _
  rw [h]
  exact ⟨rfl, fun c hc => by cases hc⟩

/-- THE STEPS HAVE MET ps. -/
def Inv (S : Nat) (w : World) (ps : List (Int × Int)) : Prop :=
  ∃ nf fv mv cnt D, Stp S w nf (fb ps) (fs ps) fv mv (ps.length : Int) ∧ Mp S w mv cnt D ∧ MapIs D (fM ps) ∧ cnt ≤ ps.length ∧ nf ≤ 65537 ∧ ∀ p ∈ ps, p.2 < (nf : Int)

theorem Mp.isMap {S : Nat} {w : World} {mv : Value} {cnt : Nat} {D : DataW Unit} (h : Mp S w mv cnt D) : IsMap D := by
  rcases h with ⟨_, rfl⟩ | ⟨_, _, _, h⟩
  · exact isMap_empty
  · exact h.isMap

theorem of_inv (S : Nat) (ps : List (Int × Int)) (a : Int) (v : Nat) (w : World) (h : Inv S w ps) (hok : Ok ps) (hl : ps.length < 65536) (wa : wf32 a) (ha : a ≠ -1) (hv : v ≤ 65536) :
    Calls Try.prog 28 #[.pointer (some ⟨S, 0, none⟩), .int .i32 a, .int .i32 v] w fun e w' =>
      e = .returned (.int .i32 ((met ps (a, (v : Int))).idxOf (a, (v : Int)) : Int)) ∧ Inv S w' (met ps (a, (v : Int))) ∧ Fr S w w' := by
  obtain ⟨nf, fv, mv, cnt, D, hst, hmp, hmi, hcnt, hnf, hlt⟩ := h
  have hz : ∀ j, nf ≤ j → fb ps j = 0 ∧ fs ps j = 0 := fun j hj => by
    have : ps.find? (isV j) = none := find_none (fun p hp => by have := hlt p hp; omega)
    exact ⟨fb_none this, fs_none this⟩
  refine (of_any S nf v (fb ps) (fs ps) fv mv ps.length a cnt D w hst hmp hz hv hnf (by omega) (by omega) wa.1 wa.2 (by omega)).mono ?_
  rintro e w' ⟨nf', fv', mv', hle, hvlt, hnf', hfr, hcase⟩
  have wv : wf32 (v : Int) := ⟨by omega, by omega⟩
  have hlt' : ∀ p ∈ ps, p.2 < (nf' : Int) := fun p hp => by have := hlt p hp; omega
  have hlt2 : ∀ p ∈ ps ++ [(a, (v : Int))], p.2 < (nf' : Int) := fun p hp => by
    rcases List.mem_append.1 hp with hp | hp
    · exact hlt' p hp
    · simp at hp; subst hp; simpa using hvlt
  have hmis := hmi a v wa wv
  rcases hcase with ⟨h1, rfl, s1, m1⟩ | ⟨h1, h2, rfl, s1, m1⟩ | ⟨h1, h2, hh, ⟨c, rfl, hc⟩, s1, m1⟩ | ⟨h1, h2, hh, rfl, s1, m1⟩
  · -- the value's first pair
    cases hf : ps.find? (isV v) with
    | none => exact absurd (wrap_zero wa (by rw [← h1, fb_none hf])) ha
    | some q =>
      have hq : q ∈ ps := List.mem_of_find?_eq_some hf
      have hq2 : q.2 = v := by simpa [isV] using List.find?_some hf
      have h3 : fb ps v = wrap32 (q.1 + 1) := by simp [fb, hf]
      have hq1 : q.1 = a := wrap_inj (hok q hq).1 wa (by rw [← h3, h1])
      have e : q = (a, (v : Int)) := Prod.ext hq1 hq2
      subst e
      have hm : met ps (a, (v : Int)) = ps := by simp [met, hq]
      rw [hm]
      refine ⟨?_, ⟨nf', fv', mv, cnt, D, s1, m1, hmi, hcnt, hnf', hlt'⟩, hfr⟩
      have : fs ps v = (ps.idxOf (a, (v : Int)) : Int) := by simp [fs, find_idx _ _ _ hf]
      rw [this]
  · -- the value is new
    have hf : ps.find? (isV v) = none := by
      cases hf : ps.find? (isV v) with
      | none => rfl
      | some q =>
        have hq : q ∈ ps := List.mem_of_find?_eq_some hf
        exact absurd (wrap_zero (hok q hq).1 (by rw [← h2]; simp [fb, hf])) (hok q hq).2.1
    have hp : (a, (v : Int)) ∉ ps := fun hp => by simpa using List.find?_eq_none.1 hf _ hp (isV_self _)
    have hm : met ps (a, (v : Int)) = ps ++ [(a, (v : Int))] := by simp [met, hp]
    rw [hm, idx_new hp]
    refine ⟨rfl, ⟨nf', fv', mv, cnt, D, ?_, m1, ?_, by simp; omega, hnf', hlt2⟩, hfr⟩
    · have e0 : fb (ps ++ [(a, (v : Int))]) = fun j => if j = v then wrap32 (a + 1) else fb ps j := funext (fb_new hf)
      have e1 : fs (ps ++ [(a, (v : Int))]) = fun j => if j = v then (ps.length : Int) else fs ps j := funext (fs_new hf)
      have e2 : ((ps ++ [(a, (v : Int))]).length : Int) = (ps.length : Int) + 1 := by simp
      rw [e0, e1, e2]
      exact s1
    · refine hmi.congr (fun x => ?_)
      by_cases e : x = (a, (v : Int))
      · subst e
        rw [fM_new hf]
        simp [fM, hp]
      · exact fM_other e
  · -- a further pair of the value, met before
    obtain ⟨c', hc'⟩ := Option.isSome_iff_exists.1 (hmis.1.symm.trans hh)
    have hin : (a, (v : Int)) ∈ ps := by
      unfold fM at hc'
      split at hc'
      · rename_i hq; exact hq.1
      · cases hc'
    have hidx : c' = (ps.idxOf (a, (v : Int)) : Int) := by
      unfold fM at hc'
      split at hc'
      · exact (Option.some.inj hc').symm
      · cases hc'
    have hat := hmis.2 c' hc'
    rw [hc] at hat
    have : c = c' := by simpa using hat
    have hm : met ps (a, (v : Int)) = ps := by simp [met, hin]
    rw [hm, this, hidx]
    exact ⟨rfl, ⟨nf', fv', mv', cnt, D, s1, m1, hmi, hcnt, hnf', hlt'⟩, hfr⟩
  · -- a further pair of the value, new
    have hnone : fM ps (a, (v : Int)) = none := by
      have := hmis.1.symm.trans hh
      simpa using this
    cases hf : ps.find? (isV v) with
    | none => exact absurd (fb_none hf) h2
    | some q =>
      have h3 : fb ps v = wrap32 (q.1 + 1) := by simp [fb, hf]
      have hne : q ≠ (a, (v : Int)) := fun e => h1 (by rw [h3, e])
      have hp : (a, (v : Int)) ∉ ps := fun hp => by
        unfold fM at hnone
        rw [if_pos ⟨hp, by simpa [hf] using hne⟩] at hnone
        cases hnone
      have hm : met ps (a, (v : Int)) = ps ++ [(a, (v : Int))] := by simp [met, hp]
      rw [hm, idx_new hp]
      refine ⟨rfl, ⟨nf', fv', mv', cnt + 1, _, ?_, m1, hmi.put hmp.isMap wa wv (fun x hx => fM_other hx) (fM_more hf hne hp), by simp; omega, hnf', hlt2⟩, hfr⟩
      have e0 : fb (ps ++ [(a, (v : Int))]) = fb ps := funext (fb_more hf)
      have e1 : fs (ps ++ [(a, (v : Int))]) = fs ps := funext (fs_more hf)
      have e2 : ((ps ++ [(a, (v : Int))]).length : Int) = (ps.length : Int) + 1 := by simp
      rw [e0, e1, e2]
      exact s1

end Go.Proofs.Qxb6603794a
