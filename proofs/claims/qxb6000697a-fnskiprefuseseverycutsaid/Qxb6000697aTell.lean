/-
  'head' AND 'more' TOLD BY THE PLAIN READER.
-/
import Derived.Test.Qxb6000697aPlain
import Derived.Test.Qxb6000697aHead2
import Derived.OpenShut
namespace Go.Proofs.Qxb6000697a
open Go.RowKit

/-- What stands throughout: the data's length, and that each is a byte. -/
structure Fit (n cap : Nat) (D : Nat → Nat) : Prop where
  small : n ≤ 1048576
  room : n ≤ cap
  byte : ∀ i, D i < 256

theorem be_nonneg (D : Nat → Nat) (o : Nat) : ∀ k, 0 ≤ be D o k
  | 0 => Int.le_refl _
  | k + 1 => by
    show 0 ≤ bits BinOp.or IntKind.u64 _ _
    exact (bounds_u64 (wf_bits _ _ _ _)).1

theorem head_facts {n cap : Nat} {D : Nat → Nat} (F : Fit n cap D) {off : Nat} {h : Pl.Hd} {o : Nat} (e : Pl.headF D (be D) n off = some (h, o)) : h.major < 8 ∧ 0 ≤ h.arg ∧ (h.ind = true → 2 ≤ h.major ∧ h.major ≤ 5) := by
  have hb := F.byte off
  unfold Pl.headF at e
  split at e
  · split at e
    · simp at e; obtain ⟨rfl, _⟩ := e; simp; omega
    · split at e
      · split at e
        · cases e
        · simp at e; obtain ⟨rfl, _⟩ := e; exact ⟨by simp; omega, be_nonneg _ _ _, by simp⟩
      · split at e
        · rename_i h3
          simp at e; obtain ⟨rfl, _⟩ := e; simp; omega
        · cases e
  · cases e

section
variable {R : Nat} {pa : Option Addr} {n cap : Nat} {D : Nat → Nat} {w : World}

theorem seg_ne {off : Int} {ok : Bool} {b o : Nat} (h : It R (.slice pa n cap) w off ok) {i : Nat} {x : Nat} (hc : w.cell? ⟨b, o + i, none⟩ = some (.int .u8 x)) : b ≠ R := by
  intro e
  subst e
  unfold It at h
  simp only [World.cell?, h] at hc
  match h3 : o + i with
  | 0 => simp [h3] at hc
  | 1 => simp [h3] at hc
  | 2 => simp [h3] at hc
  | k + 3 => simp [h3] at hc

theorem head_yes (F : Fit n cap D) {off : Nat} (h : It R (.slice pa n cap) w off true) (hS : Seg pa n D w) {hd : Pl.Hd} {o1 : Nat} (e : Pl.headF D (be D) n off = some (hd, o1)) :
    Calls Try.prog 28 #[.pointer (some ⟨R, 0, none⟩)] w fun e w' => e = .returned (.agg #[.int .u8 (hd.major : Int), .int .u64 hd.arg, .bool hd.ind]) ∧ Gone R (.slice pa n cap) w w' o1 true := by
  have hb := F.byte off
  have hn := F.small
  have hr := F.room
  have hlt := Pl.headF_lt e
  obtain ⟨b, o, rfl, hc⟩ := hS (by omega)
  have hx := hc off (by omega)
  have hne := seg_ne h hx
  unfold Pl.headF at e
  rw [if_pos (by omega)] at e
  split at e
  · rename_i h1
    simp at e
    obtain ⟨rfl, rfl⟩ := e
    exact (head_small R w off b o n cap (D off) h hn (by omega) hb hx (by omega)).mono fun e w' ⟨he, hg⟩ => ⟨by rw [he]; simp, by simpa using hg⟩
  · rename_i h1
    split at e
    · rename_i h2
      split at e
      · cases e
      · rename_i h3
        simp at e
        obtain ⟨rfl, rfl⟩ := e
        rcases (show D off % 32 = 24 ∨ D off % 32 = 25 ∨ D off % 32 = 26 ∨ D off % 32 = 27 by omega) with h4 | h4 | h4 | h4
        · have es : Pl.szOf (D off % 32) = 1 := by simp [Pl.szOf, h4]
          rw [es] at h3 ⊢
          exact (head_arg1 R w off b o n cap (D off) D h hn (by omega) hb hx hc hne (by omega) (by omega) (by omega)).mono fun e w' ⟨he, hg⟩ => ⟨by rw [he]; simp, by simpa using hg⟩
        · have es : Pl.szOf (D off % 32) = 2 := by simp [Pl.szOf, h4]
          rw [es] at h3 ⊢
          exact (head_arg2 R w off b o n cap (D off) D h hn (by omega) hb hx hc hne (by omega) (by omega) (by omega)).mono fun e w' ⟨he, hg⟩ => ⟨by rw [he]; simp, by simpa using hg⟩
        · have es : Pl.szOf (D off % 32) = 4 := by simp [Pl.szOf, h4]
          rw [es] at h3 ⊢
          exact (head_arg4 R w off b o n cap (D off) D h hn (by omega) hb hx hc hne (by omega) (by omega) (by omega)).mono fun e w' ⟨he, hg⟩ => ⟨by rw [he]; simp, by simpa using hg⟩
        · have es : Pl.szOf (D off % 32) = 8 := by simp [Pl.szOf, h4]
          rw [es] at h3 ⊢
          exact (head_arg8 R w off b o n cap (D off) D h hn (by omega) hb hx hc hne (by omega) (by omega) (by omega)).mono fun e w' ⟨he, hg⟩ => ⟨by rw [he]; simp, by simpa using hg⟩
    · split at e
      · rename_i h2 h3
        simp at e
        obtain ⟨rfl, rfl⟩ := e
        exact (head_ind R w off b o n cap (D off) h hn (by omega) hb hx (by omega) (by omega) (by omega)).mono fun e w' ⟨he, hg⟩ => ⟨by rw [he]; simp, by simpa using hg⟩
      · cases e

theorem head_no (F : Fit n cap D) {off : Nat} (h : It R (.slice pa n cap) w off true) (hS : Seg pa n D w) (e : Pl.headF D (be D) n off = none) :
    Calls Try.prog 28 #[.pointer (some ⟨R, 0, none⟩)] w fun e w' => e = .returned (.agg #[.int .u8 0, .int .u64 0, .bool false]) ∧ ∃ off', Gone R (.slice pa n cap) w w' off' false := by
  have hb := F.byte off
  have hn := F.small
  by_cases hlt : off < n
  · obtain ⟨b, o, rfl, hc⟩ := hS (by omega)
    have hx := hc off hlt
    unfold Pl.headF at e
    rw [if_pos hlt] at e
    split at e
    · cases e
    · rename_i h1
      split at e
      · rename_i h2
        split at e
        · rename_i h3
          rcases (show D off % 32 = 24 ∨ D off % 32 = 25 ∨ D off % 32 = 26 ∨ D off % 32 = 27 by omega) with h4 | h4 | h4 | h4
          · have es : Pl.szOf (D off % 32) = 1 := by simp [Pl.szOf, h4]
            rw [es] at h3
            exact (head_cut1 R w off b o n cap (D off) h hn (by omega) hb hx (by omega) (by omega)).mono fun e w' ⟨he, hg⟩ => ⟨he, _, hg⟩
          · have es : Pl.szOf (D off % 32) = 2 := by simp [Pl.szOf, h4]
            rw [es] at h3
            exact (head_cut2 R w off b o n cap (D off) h hn (by omega) hb hx (by omega) (by omega)).mono fun e w' ⟨he, hg⟩ => ⟨he, _, hg⟩
          · have es : Pl.szOf (D off % 32) = 4 := by simp [Pl.szOf, h4]
            rw [es] at h3
            exact (head_cut4 R w off b o n cap (D off) h hn (by omega) hb hx (by omega) (by omega)).mono fun e w' ⟨he, hg⟩ => ⟨he, _, hg⟩
          · have es : Pl.szOf (D off % 32) = 8 := by simp [Pl.szOf, h4]
            rw [es] at h3
            exact (head_cut8 R w off b o n cap (D off) h hn (by omega) hb hx (by omega) (by omega)).mono fun e w' ⟨he, hg⟩ => ⟨he, _, hg⟩
        · cases e
      · split at e
        · cases e
        · rename_i h2 h3
          exact (head_bad R w off b o n cap (D off) h hn (by omega) hb hx (by omega) (by omega)).mono fun e w' ⟨he, hg⟩ => ⟨he, _, hg⟩
  · exact (head_end R pa n cap w off h (by omega)).mono fun e w' ⟨he, hg⟩ => ⟨he, _, hg⟩

theorem more_no (F : Fit n cap D) {o i : Nat} (h : It R (.slice pa n cap) w o true) (hS : Seg pa n D w) (m : Int) {hd : Pl.Hd} {o' : Nat} (e : Pl.stopF D n hd i o = some o') :
    Calls Try.prog 31 #[.pointer (some ⟨R, 0, none⟩), .agg #[.int .u8 m, .int .u64 hd.arg, .bool hd.ind], .int .u64 i] w fun e w' => e = .returned (.bool false) ∧ Gone R (.slice pa n cap) w w' o' true := by
  unfold Pl.stopF at e
  cases hi : hd.ind with
  | true =>
    rw [if_pos hi] at e
    split at e
    · rename_i h2
      simp at e
      subst e
      obtain ⟨b, q, rfl, hc⟩ := hS (by omega)
      have hx := hc o h2.1
      rw [h2.2] at hx
      exact (more_stop R w o b q n cap _ _ _ h F.small (by omega) hx).mono fun e w' ⟨he, hg⟩ => ⟨he, by simpa using hg⟩
    · cases e
  | false =>
    rw [if_neg (by simp [hi])] at e
    split at e
    · cases e
    · rename_i h2
      simp at e
      subst e
      exact (more_def R _ w o _ _ _ h).mono fun e w' ⟨he, hg⟩ => ⟨by rw [he]; simp; omega, hg⟩

theorem more_yes {o i : Nat} (h : It R (.slice pa n cap) w o true) (hS : Seg pa n D w) (m : Int) {hd : Pl.Hd} (e : Pl.stopF D n hd i o = none) :
    Calls Try.prog 31 #[.pointer (some ⟨R, 0, none⟩), .agg #[.int .u8 m, .int .u64 hd.arg, .bool hd.ind], .int .u64 i] w fun e w' => e = .returned (.bool true) ∧ Gone R (.slice pa n cap) w w' o true := by
  unfold Pl.stopF at e
  cases hi : hd.ind with
  | true =>
    rw [if_pos hi] at e
    split at e
    · cases e
    · rename_i h2
      by_cases hlt : o < n
      · obtain ⟨b, q, rfl, hc⟩ := hS (by omega)
        have hx := hc o hlt
        exact more_go R w o b q n cap (D o) _ _ _ h (by omega) hx (by omega)
      · exact more_end R w o pa n cap _ _ _ h (by omega)
  | false =>
    rw [if_neg (by simp [hi])] at e
    split at e
    · rename_i h2
      exact (more_def R _ w o _ _ _ h).mono fun e w' ⟨he, hg⟩ => ⟨by rw [he]; simp; omega, hg⟩
    · cases e

theorem adv_some (F : Fit n cap D) {o : Nat} (h : It R (.slice pa n cap) w o true) (ho : o ≤ n) {a : Int} (ha : 0 ≤ a) {o' : Nat} (e : Pl.advF n o a = some o') :
    Calls Try.prog 30 #[.pointer (some ⟨R, 0, none⟩), .int .u64 a] w fun e w' => e = .returned (.tuple #[]) ∧ Gone R (.slice pa n cap) w w' o' true := by
  unfold Pl.advF at e
  split at e
  · rename_i h1
    simp at e
    subst e
    have e1 : ((o + a.toNat : Nat) : Int) = (o : Int) + a := by omega
    rw [e1]
    exact adv_yes R w o pa n cap a h (by omega) (by omega) F.small ha h1
  · cases e

theorem adv_fail (F : Fit n cap D) {o : Nat} (h : It R (.slice pa n cap) w o true) (ho : o ≤ n) {a : Int} (e : Pl.advF n o a = none) :
    Calls Try.prog 30 #[.pointer (some ⟨R, 0, none⟩), .int .u64 a] w fun e w' => e = .returned (.tuple #[]) ∧ ∃ off, Gone R (.slice pa n cap) w w' off false := by
  unfold Pl.advF at e
  split at e
  · cases e
  · rename_i h1
    exact (adv_no R w o pa n cap a h (by omega) (by omega) F.small (by omega)).mono fun e w' ⟨he, hg⟩ => ⟨he, _, hg⟩
end
end Go.Proofs.Qxb6000697a
