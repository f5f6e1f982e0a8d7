/-
  THE PLAIN LAW: the index of a returned write is the number of returned writes before it.
-/
import Derived.Test.Qxb6605223aKs
import Derived.Test.Qxb6605223aIndex
import Derived.Test.Qxb6605223aBase2
namespace Go.Proofs.Qxb6605223a

theorem compact_rising (zs : List Int) (h : zs.Pairwise (· ≤ ·)) : (Lib.compact zs).Pairwise (· < ·) := by
  unfold Lib.compact Lib.compactUpTo
  rw [List.pairwise_map]
  have hr : ((List.range zs.length).filter (Lib.keeps zs.toArray)).Pairwise (· < ·) := List.pairwise_lt_range.filter _
  refine hr.imp_of_mem ?_
  intro a b ha hb hab
  obtain ⟨hb1, hb2⟩ := List.mem_filter.1 hb
  have hbl : b < zs.length := by simpa using hb1
  have hal : a < zs.length := by omega
  have hb3 : zs.toArray[b]! ≠ zs.toArray[b - 1]! := by
    simp only [Lib.keeps, decide_eq_true_eq] at hb2
    rcases hb2 with h1 | h1
    · omega
    · exact h1
  rw [getElem!_pos _ _ (by simpa using hbl), getElem!_pos _ _ (by simp; omega)] at hb3
  rw [getElem!_pos _ _ (by simpa using hal), getElem!_pos _ _ (by simpa using hbl)]
  simp only [List.getElem_toArray] at hb3 ⊢
  rw [List.pairwise_iff_getElem] at h
  have h1 := h (b - 1) b (by omega) hbl (by omega)
  by_cases e : a = b - 1
  · subst e
    omega
  · have h2 := h a (b - 1) hal (by omega) (by omega)
    omega

theorem mem_compact' {zs : List Int} : ∀ (j : Nat) (hj : j < zs.length), zs[j] ∈ Lib.compact zs
  | 0, hj => by
    unfold Lib.compact Lib.compactUpTo
    refine List.mem_map.2 ⟨0, List.mem_filter.2 ⟨by simpa using hj, by simp [Lib.keeps]⟩, ?_⟩
    rw [getElem!_pos _ _ (by simpa using hj)]
    simp
  | j + 1, hj => by
    by_cases e : zs[j + 1] = zs[j]
    · rw [e]
      exact mem_compact' j (by omega)
    · unfold Lib.compact Lib.compactUpTo
      refine List.mem_map.2 ⟨j + 1, List.mem_filter.2 ⟨by simpa using hj, ?_⟩, ?_⟩
      · simp only [Lib.keeps, decide_eq_true_eq]
        refine .inr ?_
        rw [getElem!_pos _ _ (by simpa using hj), getElem!_pos _ _ (by simp; omega)]
        simpa using e
      · rw [getElem!_pos _ _ (by simpa using hj)]
        simp

theorem sorted_rising (ks : List Int) : (sorted ks).Pairwise (· ≤ ·) := by
  have h := List.pairwise_mergeSort (le := fun x y : Int => decide (x ≤ y)) (fun a b c h1 h2 => by simp at *; omega) (fun a b => by simp; omega) ks
  refine h.imp ?_
  intro a b h1
  simpa using h1

theorem zsOf_rising (PR PS FR RD : Nat → Int) (m : Nat) : (zsOf PR PS FR RD m).Pairwise (· < ·) := compact_rising _ (sorted_rising _)

theorem mem_zsOf {PR PS FR RD : Nat → Int} {m : Nat} {z : Int} : z ∈ zsOf PR PS FR RD m ↔ z ∈ ksOf PR PS FR RD m := by
  refine ⟨fun h => mem_sorted (mem_compact h), fun h => ?_⟩
  have h2 : z ∈ sorted (ksOf PR PS FR RD m) := by simpa [sorted] using h
  obtain ⟨j, hj, rfl⟩ := List.mem_iff_getElem.1 h2
  exact mem_compact' j hj

theorem ksOf_has {PR PS FR RD : Nat → Int} {k : Nat} (hn : ¬ FR (RD k).toNat < 0) : ∀ m, k < m → keyOf2 PR PS (FR (RD k).toNat).toNat ∈ ksOf PR PS FR RD m
  | 0, h => by omega
  | m + 1, h => by
    rw [ksOf]
    by_cases e : k = m
    · subst e
      rw [if_neg hn]
      simp
    · have := ksOf_has (PR := PR) (PS := PS) hn m (by omega)
      split
      · exact this
      · exact List.mem_append_left _ this

/-- The facts on the operations that the guards give. -/
structure Ops (n P m : Nat) (PR PS FR RD : Nat → Int) (RL : Nat → Nat) (BP : Nat → Nat → Int) : Prop where
  wf : WF n P PR PS FR RL BP
  rl : ∀ q, q < P → RL q ≤ 1048576
  rd : ∀ k, k < m → 0 ≤ RD k ∧ RD k < n

theorem mem_keys {n P m : Nat} {PR PS FR RD : Nat → Int} {RL : Nat → Nat} {BP : Nat → Nat → Int} (h : Ops n P m PR PS FR RD RL BP) {z : Int} : z ∈ zsOf PR PS FR RD m ↔ ∃ x, x < n ∧ retOf FR RD m x = true ∧ z = keyOf2 PR PS x := by
  rw [mem_zsOf]
  refine ⟨fun hz => ?_, ?_⟩
  · obtain ⟨j, x, hj, hx, he, hz⟩ := ksOf_mem h.rd (fun i hi => ⟨(h.wf i hi).fr0, (h.wf i hi).fr⟩) m (Nat.le_refl _) z hz
    refine ⟨x, hx, ?_, hz⟩
    rw [retOf, List.any_eq_true]
    exact ⟨j, by simpa using hj, by simpa using he⟩
  · rintro ⟨x, hx, hr, rfl⟩
    rw [retOf, List.any_eq_true] at hr
    obtain ⟨k, hk, he⟩ := hr
    have he2 : FR (RD k).toNat = (x : Int) := by simpa using he
    have := ksOf_has (PR := PR) (PS := PS) (FR := FR) (RD := RD) (k := k) (by omega) m (by simpa using hk)
    rw [he2] at this
    simpa using this

theorem key_lt {n P m : Nat} {PR PS FR RD : Nat → Int} {RL : Nat → Nat} {BP : Nat → Nat → Int} (h : Ops n P m PR PS FR RD RL BP) {x : Nat} (hx : x < n) : 0 ≤ PR x ∧ PR x < P ∧ 1 ≤ PS x ∧ PS x ≤ 1048576 := by
  have h0 := h.wf x hx
  have h1 := h0.pr0
  have h2 := h0.pr
  have h3 := h.rl (PR x).toNat (by omega)
  have h4 := h0.ps
  exact ⟨h1, h2, h0.ps0, by omega⟩

theorem key_hi {n P m : Nat} {PR PS FR RD : Nat → Int} {RL : Nat → Nat} {BP : Nat → Nat → Int} (h : Ops n P m PR PS FR RD RL BP) {x : Nat} (hx : x < n) : keyOf2 PR PS x / 4294967296 = PR x ∧ keyOf2 PR PS x % 4294967296 = PS x := by
  obtain ⟨h1, h2, h3, h4⟩ := key_lt h hx
  unfold keyOf2
  omega

/-- The operation of a key. -/
def opOf (BP : Nat → Nat → Int) (z : Int) : Nat := (BP (z / 4294967296).toNat ((z % 4294967296).toNat - 1)).toNat

theorem opOf_key {n P m : Nat} {PR PS FR RD : Nat → Int} {RL : Nat → Nat} {BP : Nat → Nat → Int} (h : Ops n P m PR PS FR RD RL BP) {x : Nat} (hx : x < n) : opOf BP (keyOf2 PR PS x) = x := by
  obtain ⟨h1, h2⟩ := key_hi h hx
  rw [opOf, h1, h2, (h.wf x hx).bp]
  simp

def tOf (BP : Nat → Nat → Int) (zs : List Int) (j : Nat) : Nat := opOf BP (zs.getD j 0)

theorem at2 {n P m : Nat} {PR PS FR RD : Nat → Int} {RL : Nat → Nat} {BP : Nat → Nat → Int} (h : Ops n P m PR PS FR RD RL BP) (zs : List Int) (hzs : zs = zsOf PR PS FR RD m) : At2 n P zs.length (hiOf zs) (loOf zs) RL BP (tOf BP zs) := by
  have key : ∀ j, j < zs.length → ∃ x, x < n ∧ hiOf zs j = PR x ∧ loOf zs j = PS x ∧ tOf BP zs j = x := by
    intro j hj
    have hm : zs[j] ∈ zsOf PR PS FR RD m := by
      rw [← hzs]
      exact List.getElem_mem hj
    obtain ⟨x, hx, _, he⟩ := (mem_keys h).1 hm
    have hg : zs.getD j 0 = keyOf2 PR PS x := by
      rw [List.getD, List.getElem?_eq_getElem hj]
      exact he
    obtain ⟨h1, h2⟩ := key_hi h hx
    exact ⟨x, hx, by rw [hiOf, hg, h1], by rw [loOf, hg, h2], by rw [tOf, hg, opOf_key h hx]⟩
  refine ⟨?_, ?_, ?_, ?_, ?_, ?_⟩
  all_goals
    intro j hj
    obtain ⟨x, hx, e1, e2, e3⟩ := key j hj
    have h0 := h.wf x hx
  · rw [e1]; exact h0.pr0
  · rw [e1]; exact h0.pr
  · rw [e2]; exact h0.ps0
  · rw [e1, e2]; exact h0.ps
  · rw [e1, e2, e3]; exact h0.bp
  · rw [e3]; exact hx

/-- Operation w stands before operation i. -/
def before (PR PS : Nat → Int) (w i : Nat) : Bool := decide (PR w < PR i) || (decide (PR w = PR i) && decide (PS w < PS i))

/-- How many of the first k operations are returned and stand before i. -/
def cnt (PR PS FR RD : Nat → Int) (m i : Nat) : Nat → Nat
  | 0 => 0
  | k + 1 => if (retOf FR RD m k && before PR PS k i) = true then cnt PR PS FR RD m i k + 1 else cnt PR PS FR RD m i k

theorem cnt_eq (PR PS FR RD : Nat → Int) (m i : Nat) : ∀ k, cnt PR PS FR RD m i k = (List.range k).countP (fun w => retOf FR RD m w && before PR PS w i)
  | 0 => rfl
  | k + 1 => by
    rw [cnt, List.range_succ, List.countP_append, cnt_eq PR PS FR RD m i k]
    split <;> rename_i hh <;> simp [hh]

theorem cnt_le (PR PS FR RD : Nat → Int) (m i : Nat) : ∀ k, cnt PR PS FR RD m i k ≤ k
  | 0 => Nat.le_refl _
  | k + 1 => by
    have := cnt_le PR PS FR RD m i k
    rw [cnt]
    split <;> omega

theorem count_below (zs : List Int) (h : zs.Pairwise (· < ·)) (j : Nat) (hj : j < zs.length) : zs.countP (fun z => decide (z < zs[j])) = j := by
  rw [List.pairwise_iff_getElem] at h
  have e : zs.countP (fun z => decide (z < zs[j])) = (zs.take j ++ zs.drop j).countP (fun z => decide (z < zs[j])) := by rw [List.take_append_drop]
  rw [e, List.countP_append]
  have h1 : (zs.take j).countP (fun z => decide (z < zs[j])) = (zs.take j).length := by
    rw [List.countP_eq_length]
    intro a ha
    obtain ⟨k, hk, rfl⟩ := List.mem_iff_getElem.1 ha
    have hk2 : k < j := by simp at hk; omega
    simpa using h k j (by omega) hj hk2
  have h2 : (zs.drop j).countP (fun z => decide (z < zs[j])) = 0 := by
    rw [List.countP_eq_zero]
    intro a ha
    obtain ⟨k, hk, rfl⟩ := List.mem_iff_getElem.1 ha
    have hk2 : j + k < zs.length := by simp at hk; omega
    by_cases e0 : k = 0
    · subst e0
      simp
    · have := h j (j + k) hj hk2 (by omega)
      simp
      omega
  rw [h1, h2]
  simp
  omega

theorem ixOf_none (T : Nat → Nat) (i : Nat) : ∀ L, (∀ j, j < L → T j ≠ i) → ixOf T L i = -1
  | 0, _ => rfl
  | L + 1, h => by
    rw [ixOf, if_neg (fun e => h L (by omega) e.symm)]
    exact ixOf_none T i L (fun j hj => h j (by omega))

theorem ixOf_some (T : Nat → Nat) (i j : Nat) (e : T j = i) : ∀ L, j < L → (∀ k, k < L → T k = i → k = j) → ixOf T L i = (j : Int)
  | 0, h, _ => by omega
  | L + 1, h, hu => by
    rw [ixOf]
    by_cases e1 : i = T L
    · rw [if_pos e1]
      have := hu L (by omega) e1.symm
      omega
    · rw [if_neg e1]
      have : j ≠ L := fun e2 => e1 (by rw [← e2]; exact e.symm)
      exact ixOf_some T i j e L (by omega) (fun k hk => hu k (by omega))

/-- What the law wants at operation i. -/
def want (PR PS FR RD : Nat → Int) (n m i : Nat) : Int := if retOf FR RD m i = true then (cnt PR PS FR RD m i n : Int) else -1

theorem before_key {n P m : Nat} {PR PS FR RD : Nat → Int} {RL : Nat → Nat} {BP : Nat → Nat → Int} (h : Ops n P m PR PS FR RD RL BP) {x i : Nat} (hx : x < n) (hi : i < n) : before PR PS x i = decide (keyOf2 PR PS x < keyOf2 PR PS i) := by
  obtain ⟨h1, h2, h3, h4⟩ := key_lt h hx
  obtain ⟨k1, k2, k3, k4⟩ := key_lt h hi
  rw [before, ← Bool.decide_and, ← Bool.decide_or, decide_eq_decide]
  unfold keyOf2
  omega

theorem rank {n P m : Nat} {PR PS FR RD : Nat → Int} {RL : Nat → Nat} {BP : Nat → Nat → Int} (h : Ops n P m PR PS FR RD RL BP) (zs : List Int) (hzs : zs = zsOf PR PS FR RD m) (i : Nat) (hi : i < n) : ixOf (tOf BP zs) zs.length i = want PR PS FR RD n m i := by
  have hz0 : ∀ j (hj : j < zs.length), ∃ x, x < n ∧ retOf FR RD m x = true ∧ zs[j] = keyOf2 PR PS x ∧ tOf BP zs j = x := by
    intro j hj
    have hm : zs[j] ∈ zsOf PR PS FR RD m := by
      rw [← hzs]
      exact List.getElem_mem hj
    obtain ⟨x, hx, hr, he⟩ := (mem_keys h).1 hm
    exact ⟨x, hx, hr, he, by rw [tOf, List.getD, List.getElem?_eq_getElem hj, Option.getD_some, he, opOf_key h hx]⟩
  have hris : zs.Pairwise (· < ·) := by rw [hzs]; exact zsOf_rising _ _ _ _ _
  by_cases hr : retOf FR RD m i = true
  · have hmem : keyOf2 PR PS i ∈ zs := by rw [hzs]; exact (mem_keys h).2 ⟨i, hi, hr, rfl⟩
    obtain ⟨j, hj, he⟩ := List.mem_iff_getElem.1 hmem
    have hT : tOf BP zs j = i := by rw [tOf, List.getD, List.getElem?_eq_getElem hj, Option.getD_some, he, opOf_key h hi]
    have hu : ∀ k, k < zs.length → tOf BP zs k = i → k = j := by
      intro k hk hk2
      obtain ⟨x, hx, _, e1, e2⟩ := hz0 k hk
      rw [hk2] at e2
      subst e2
      have e3 : zs[k] = zs[j] := by rw [e1, he]
      rw [List.pairwise_iff_getElem] at hris
      rcases Nat.lt_trichotomy k j with hlt | rfl | hgt
      · have := hris k j hk hj hlt
        omega
      · rfl
      · have := hris j k hj hk hgt
        omega
    rw [ixOf_some _ _ _ hT _ hj hu, want, if_pos hr]
    congr 1
    rw [cnt_eq]
    have hc := count_below zs hris j hj
    rw [he] at hc
    have hnd : zs.Nodup := hris.imp (fun h => by omega)
    have hnd2 : (((List.range n).filter (retOf FR RD m)).map (keyOf2 PR PS)).Nodup := by
      rw [List.nodup_iff_pairwise_ne, List.pairwise_map]
      refine (List.pairwise_lt_range.filter _).imp_of_mem ?_
      intro a b ha hb hab e
      have ha2 : a < n := by simpa using (List.mem_filter.1 ha).1
      have hb2 : b < n := by simpa using (List.mem_filter.1 hb).1
      have e1 := opOf_key h ha2
      have e2 := opOf_key h hb2
      rw [e] at e1
      omega
    have hperm : zs.Perm (((List.range n).filter (retOf FR RD m)).map (keyOf2 PR PS)) := by
      rw [List.perm_ext_iff_of_nodup hnd hnd2]
      intro z
      rw [hzs, mem_keys h, List.mem_map]
      constructor
      · rintro ⟨x, hx, hr, rfl⟩
        exact ⟨x, List.mem_filter.2 ⟨by simpa using hx, hr⟩, rfl⟩
      · rintro ⟨x, hx, rfl⟩
        obtain ⟨h1, h2⟩ := List.mem_filter.1 hx
        exact ⟨x, by simpa using h1, h2, rfl⟩
    rw [hperm.countP_eq, List.countP_map, List.countP_filter] at hc
    rw [← hc]
    refine List.countP_congr ?_
    intro x hx
    have hx2 : x < n := by simpa using hx
    rw [before_key h hx2 hi]
    simp [Bool.and_comm]
  · rw [want, if_neg hr, ixOf_none]
    intro j hj e
    obtain ⟨x, hx, hr2, _, e2⟩ := hz0 j hj
    rw [e] at e2
    subst e2
    exact hr hr2
end Go.Proofs.Qxb6605223a
