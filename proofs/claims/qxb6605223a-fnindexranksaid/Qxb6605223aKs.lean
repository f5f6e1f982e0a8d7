/-
  The plain functions of reset: the keys, sorted, each once.
-/
import Derived.Lib.SlicesCompact
namespace Go.Proofs.Qxb6605223a

def sorted (ks : List Int) : List Int := ks.mergeSort fun x y => decide (x ≤ y)

/-- The key of operation x. -/
def keyOf2 (PR PS : Nat → Int) (x : Nat) : Int := PR x * 4294967296 + PS x

/-- The keys of the writes that the first k reads return. -/
def ksOf (PR PS FR RD : Nat → Int) : Nat → List Int
  | 0 => []
  | k + 1 => if FR (RD k).toNat < 0 then ksOf PR PS FR RD k else ksOf PR PS FR RD k ++ [keyOf2 PR PS (FR (RD k).toNat).toNat]

theorem ksOf_length (PR PS FR RD : Nat → Int) : ∀ k, (ksOf PR PS FR RD k).length ≤ k
  | 0 => Nat.le_refl _
  | k + 1 => by
    have := ksOf_length PR PS FR RD k
    rw [ksOf]
    split
    · omega
    · simp; omega

/-- The keys sorted, each once. -/
def zsOf (PR PS FR RD : Nat → Int) (m : Nat) : List Int := Lib.compact (sorted (ksOf PR PS FR RD m))

def hiOf (zs : List Int) (j : Nat) : Int := zs.getD j 0 / 4294967296
def loOf (zs : List Int) (j : Nat) : Int := zs.getD j 0 % 4294967296

theorem mem_compact {zs : List Int} {z : Int} (h : z ∈ Lib.compact zs) : z ∈ zs := by
  unfold Lib.compact Lib.compactUpTo at h
  obtain ⟨j, hj, rfl⟩ := List.mem_map.1 h
  have hj2 := (List.mem_filter.1 hj).1
  have : j < zs.length := by simpa using hj2
  rw [getElem!_pos _ _ (by simpa using this)]
  simp

theorem mem_sorted {ks : List Int} {z : Int} (h : z ∈ sorted ks) : z ∈ ks := by simpa [sorted] using h

/-- A key is an operation's. -/
theorem ksOf_mem {PR PS FR RD : Nat → Int} {n m : Nat} (hRD : ∀ k, k < m → 0 ≤ RD k ∧ RD k < n) (hFR : ∀ i, i < n → -1 ≤ FR i ∧ FR i < n) : ∀ k, k ≤ m → ∀ z, z ∈ ksOf PR PS FR RD k → ∃ j x, j < k ∧ x < n ∧ FR (RD j).toNat = (x : Int) ∧ z = keyOf2 PR PS x
  | 0, _, z, h => by simp [ksOf] at h
  | k + 1, hk, z, h => by
    rw [ksOf] at h
    split at h
    · obtain ⟨j, x, h1, h2⟩ := ksOf_mem hRD hFR k (by omega) z h
      exact ⟨j, x, by omega, h2⟩
    · rename_i hneg
      rcases List.mem_append.1 h with h | h
      · obtain ⟨j, x, h1, h2⟩ := ksOf_mem hRD hFR k (by omega) z h
        exact ⟨j, x, by omega, h2⟩
      · have hz : z = keyOf2 PR PS (FR (RD k).toNat).toNat := by simpa using h
        obtain ⟨d0, d1⟩ := hRD k (by omega)
        obtain ⟨f0, f1⟩ := hFR (RD k).toNat (by omega)
        exact ⟨k, (FR (RD k).toNat).toNat, by omega, by omega, by omega, hz⟩
end Go.Proofs.Qxb6605223a
