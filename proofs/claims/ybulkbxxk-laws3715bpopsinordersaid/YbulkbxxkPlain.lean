/-
  The plain laws of the heap's functions: each hands back a permutation.
-/
import Derived.Test.YbulkbxxkMake
namespace Go.Proofs.Ybulkbxxk
open Go.Sort
set_option linter.unusedVariables false

theorem swp_perm (d : Array Iv) (i j : Nat) (hi : i < d.size) (hj : j < d.size) : (swp d i j).toList.Perm d.toList := by
  have h := (swp_permIn d 0 d.size i j (Nat.zero_le _) hi (Nat.zero_le _) hj (Nat.le_refl _)).2.2
  have e : (swp d i j).extract 0 d.size = swp d i j := by rw [← size_swp d i j]; simp
  rw [e] at h
  simpa using h

theorem downF_perm (f : Nat) : ∀ (d : Array Iv) (i n : Nat), i < n → n ≤ d.size → (downF f d i n).1.toList.Perm d.toList := by
  induction f with
  | zero => intro d i n _ _; exact List.Perm.refl _
  | succ f ih =>
    intro d i n hi hn
    by_cases h : n ≤ 2 * i + 1
    · rw [downF_stop _ _ _ _ h]
    · obtain ⟨j, hj⟩ : ∃ j, j = if 2 * i + 2 < n ∧ lt d[2 * i + 2]! d[2 * i + 1]! = true then 2 * i + 2 else 2 * i + 1 := ⟨_, rfl⟩
      have hjn : j < n := by
        rw [hj]
        split
        · omega
        · omega
      cases hl : lt d[j]! d[i]! with
      | true =>
        rw [downF_go f d i n j h hj hl]
        exact (ih _ _ _ hjn (by rw [size_swp]; exact hn)).trans (swp_perm d i j (by omega) (by omega))
      | false => rw [downF_rest f d i n j h hj hl]

theorem upF_perm (f : Nat) : ∀ (d : Array Iv) (j : Nat), j < d.size → (upF f d j).toList.Perm d.toList := by
  induction f with
  | zero => intro d j _; exact List.Perm.refl _
  | succ f ih =>
    intro d j hj
    by_cases h : (j - 1) / 2 = j
    · rw [upF_top _ _ _ h]
    · cases hl : lt d[j]! d[(j - 1) / 2]! with
      | true =>
        rw [upF_go f d j h hl]
        exact (ih _ _ (by rw [size_swp]; omega)).trans (swp_perm d _ j (by omega) hj)
      | false => rw [upF_rest _ d j hl]

theorem fixF_perm (d : Array Iv) (i : Nat) (hi : i < d.size) : (fixF d i).toList.Perm d.toList := by
  unfold fixF
  simp only
  split
  · exact downF_perm _ _ _ _ hi (Nat.le_refl _)
  · exact (upF_perm _ _ _ (by rw [downF_size]; exact hi)).trans (downF_perm _ _ _ _ hi (Nat.le_refl _))

/-- pop takes away the first and keeps the others. -/
theorem popF_perm (d : Array Iv) (h : 0 < d.size) : (popF d).toList.Perm d.toList.tail := by
  have h1 : ((swp d 0 (d.size - 1)).pop).toList.Perm d.toList.tail := by
    have hp := swp_perm d 0 (d.size - 1) h (by omega)
    have hs : (swp d 0 (d.size - 1)).toList = (swp d 0 (d.size - 1)).pop.toList ++ [d[0]!] := by
      have hne : 0 < (swp d 0 (d.size - 1)).size := by rw [size_swp]; exact h
      have hr := swp_right d 0 (d.size - 1) (by omega)
      have hl : (swp d 0 (d.size - 1)).toList ≠ [] := by
        intro e
        have : (swp d 0 (d.size - 1)).toList.length = 0 := by rw [e]; rfl
        rw [Array.length_toList] at this
        omega
      have e1 := List.dropLast_concat_getLast hl
      have e2 : (swp d 0 (d.size - 1)).toList.getLast hl = d[0]! := by
        rw [List.getLast_eq_getElem, ← hr, getElem!_pos _ _ (by rw [size_swp]; omega)]
        simp [size_swp]
      rw [e2] at e1
      rw [← e1]
      simp
    rw [hs] at hp
    have ht : d.toList = d[0]! :: d.toList.tail := by
      rw [getElem!_pos d 0 h]
      cases hd : d.toList with
      | nil => have : d.toList.length = 0 := by rw [hd]; rfl
               rw [Array.length_toList] at this; omega
      | cons x r =>
        have : d[0] = x := by
          have e : d.toList[0]'(by simpa using h) = x := by simp [hd]
          rw [← e]; simp
        rw [this]; rfl
    rw [ht] at hp
    have hq : (d[0]! :: (swp d 0 (d.size - 1)).pop.toList).Perm (d[0]! :: d.toList.tail) := (List.perm_append_singleton _ _).symm.trans hp
    exact hq.cons_inv
  unfold popF
  simp only
  split
  · exact (fixF_perm _ 0 (by omega)).trans h1
  · exact h1

theorem ivs_toList (z : List Int) (n : Nat) : (ivs z n).toList = (List.range n).map fun i => (i, z.getD i 0) := by simp [ivs]

/-- What stays behind one pop: the places 1 .. n-1, each once. -/
theorem popped (z : List Int) (n : Nat) (h : 0 < n) : (popF (ivs z n)).toList.Perm ((List.range' 1 (n - 1)).map fun i => (i, z.getD i 0)) := by
  have := popF_perm (ivs z n) (by rw [ivs_size]; exact h)
  rw [ivs_toList] at this
  obtain ⟨m, rfl⟩ : ∃ m, n = m + 1 := ⟨n - 1, by omega⟩
  rw [List.range_eq_range', List.range'_succ] at this
  simpa using this

theorem popped_at (z : List Int) (n k : Nat) (h : 0 < n) (hk : k < n - 1) : ∃ id, 1 ≤ id ∧ id < n ∧ (popF (ivs z n))[k]! = (id, z.getD id 0) := by
  have hs : (popF (ivs z n)).size = n - 1 := by rw [popF_size, ivs_size]
  have hm : (popF (ivs z n))[k]! ∈ (popF (ivs z n)).toList := by
    rw [getElem!_pos _ k (by omega)]
    exact Array.getElem_mem_toList _
  have := (popped z n h).mem_iff.1 hm
  obtain ⟨id, hid, e⟩ := List.mem_map.1 this
  rw [List.mem_range'_1] at hid
  exact ⟨id, by omega, by omega, e.symm⟩

/-- The numbers met among the first k. -/
def metB (d : Array Iv) (k id : Nat) : Bool := decide (id ∈ (d.toList.take k).map Prod.fst)

theorem metB_zero (d : Array Iv) (id : Nat) : metB d 0 id = false := by simp [metB]
theorem metB_succ (d : Array Iv) (k id : Nat) (hk : k < d.size) : metB d (k + 1) id = (metB d k id || decide (id = d[k]!.1)) := by
  unfold metB
  rw [List.take_succ_eq_append_getElem (by simpa using hk), List.map_append, getElem!_pos d k hk]
  rw [Bool.eq_iff_iff]
  simp
theorem metB_new (z : List Int) (n k : Nat) (h : 0 < n) (hk : k < n - 1) : metB (popF (ivs z n)) k (popF (ivs z n))[k]!.1 = false := by
  have hs : (popF (ivs z n)).size = n - 1 := by rw [popF_size, ivs_size]
  have hnd : ((popF (ivs z n)).toList.map Prod.fst).Nodup := by
    have := (popped z n h).map Prod.fst
    rw [List.map_map] at this
    refine (this.nodup_iff).2 ?_
    have e : (Prod.fst ∘ fun i => (i, z.getD i 0)) = (id : Nat → Nat) := rfl
    rw [e, List.map_id]
    exact List.nodup_range'
  unfold metB
  rw [decide_eq_false_iff_not]
  intro hmem
  have hl : (popF (ivs z n)).toList.map Prod.fst = ((popF (ivs z n)).toList.take k).map Prod.fst ++ ((popF (ivs z n)).toList.drop k).map Prod.fst := by
    rw [← List.map_append, List.take_append_drop]
  rw [hl, List.nodup_append] at hnd
  have hd : (popF (ivs z n))[k]!.1 ∈ ((popF (ivs z n)).toList.drop k).map Prod.fst := by
    rw [getElem!_pos _ k (by omega)]
    refine List.mem_map.2 ⟨_, ?_, rfl⟩
    rw [List.drop_eq_getElem_cons (by simp; omega)]
    simp
  exact hnd.2.2 _ hmem _ hd rfl
end Go.Proofs.Ybulkbxxk
