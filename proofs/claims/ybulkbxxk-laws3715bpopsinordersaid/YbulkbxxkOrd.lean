/-
  The heap order: push and pop keep it; the first is the least.
-/
import Derived.Test.YbulkbxxkPlain
namespace Go.Proofs.Ybulkbxxk
open Go.Sort
set_option linter.unusedVariables false

def E (d : Array Iv) (k : Nat) : Int := d[k]!.2
def HeapO (d : Array Iv) : Prop := ∀ k, 1 ≤ k → k < d.size → E d ((k - 1) / 2) ≤ E d k
theorem E_left (d : Array Iv) (i j : Nat) (hi : i < d.size) (h : i ≠ j) : E (swp d i j) i = E d j := by unfold E; rw [swp_left d i j hi h]
theorem E_right (d : Array Iv) (i j : Nat) (hj : j < d.size) : E (swp d i j) j = E d i := by unfold E; rw [swp_right d i j hj]
theorem E_other (d : Array Iv) (i j k : Nat) (h1 : k ≠ i) (h2 : k ≠ j) : E (swp d i j) k = E d k := by unfold E; rw [swp_other d i j k h1 h2]

structure UpI (d : Array Iv) (j : Nat) : Prop where
  ok : ∀ k, 1 ≤ k → k < d.size → k ≠ j → E d ((k - 1) / 2) ≤ E d k
  gp : ∀ k, 1 ≤ k → k < d.size → (k - 1) / 2 = j → 1 ≤ j → E d ((j - 1) / 2) ≤ E d k
theorem upF_heap : ∀ (f : Nat) (d : Array Iv) (j : Nat), j ≤ f → j < d.size → UpI d j → HeapO (upF f d j)
  | 0, d, j, hf, hj, h => by
    obtain rfl : j = 0 := by omega
    exact fun k h1 h2 => h.ok k h1 h2 (by omega)
  | f + 1, d, j, hf, hj, h => by
    by_cases h0 : (j - 1) / 2 = j
    · rw [upF_top _ _ _ h0]
      exact fun k h1 h2 => h.ok k h1 h2 (by omega)
    · obtain ⟨p, hp⟩ : ∃ p, p = (j - 1) / 2 := ⟨_, rfl⟩
      cases hl : lt d[j]! d[(j - 1) / 2]! with
      | true =>
        rw [upF_go f d j h0 hl, ← hp]
        rw [← hp] at hl
        have hlt : E d j < E d p := by simpa [lt, E] using hl
        have hpj : p ≠ j := by omega
        refine upF_heap f _ p (by omega) (by rw [size_swp]; omega) ⟨fun k h1 h2 hk => ?_, fun k h1 h2 hk hp1 => ?_⟩
        · rw [size_swp] at h2
          by_cases hkj : k = j
          · subst hkj
            rw [E_right d p k (by omega), ← hp, E_left d p k (by omega) hpj]; omega
          · rw [E_other d p j k hk hkj]
            by_cases q1 : (k - 1) / 2 = p
            · rw [q1, E_left d p j (by omega) hpj]
              have := h.ok k h1 h2 hkj
              rw [q1] at this; omega
            · by_cases q2 : (k - 1) / 2 = j
              · rw [q2, E_right d p j (by omega)]
                have := h.gp k h1 h2 q2 (by omega)
                rw [← hp] at this; exact this
              · rw [E_other d p j _ q1 q2]; exact h.ok k h1 h2 hkj
        · rw [size_swp] at h2
          have h3 := h.ok p hp1 (by omega) hpj
          rw [E_other d p j ((p - 1) / 2) (by omega) (by omega)]
          by_cases hkj : k = j
          · subst hkj; rw [E_right d p k (by omega)]; exact h3
          · rw [E_other d p j k (by omega) hkj]
            have := h.ok k h1 h2 hkj
            rw [hk] at this; omega
      | false =>
        rw [upF_rest _ d j hl]
        rw [← hp] at hl
        have hge : E d p ≤ E d j := by simpa [lt, E] using hl
        intro k h1 h2
        by_cases hkj : k = j
        · subst hkj; rw [← hp]; exact hge
        · exact h.ok k h1 h2 hkj

structure DnI (d : Array Iv) (i : Nat) : Prop where
  ok : ∀ k, 1 ≤ k → k < d.size → (k - 1) / 2 ≠ i → E d ((k - 1) / 2) ≤ E d k
  gp : ∀ k, 1 ≤ k → k < d.size → (k - 1) / 2 = i → 1 ≤ i → E d ((i - 1) / 2) ≤ E d k
theorem downF_heap : ∀ (f : Nat) (d : Array Iv) (i n : Nat), n = d.size → n - i ≤ f → i < n → DnI d i → HeapO (downF f d i n).1
  | 0, d, i, n, hn, hf, hi, h => by omega
  | f + 1, d, i, n, hn, hf, hi, h => by
    by_cases h0 : n ≤ 2 * i + 1
    · rw [downF_stop _ _ _ _ h0]
      show HeapO d
      exact fun k h1 h2 => h.ok k h1 h2 (by omega)
    · obtain ⟨j, hj⟩ : ∃ j, j = if 2 * i + 2 < n ∧ lt d[2 * i + 2]! d[2 * i + 1]! = true then 2 * i + 2 else 2 * i + 1 := ⟨_, rfl⟩
      have hjc : (j = 2 * i + 1 ∨ j = 2 * i + 2) ∧ j < n ∧ ∀ k, 1 ≤ k → k < n → (k - 1) / 2 = i → E d j ≤ E d k := by
        by_cases c : 2 * i + 2 < n ∧ lt d[2 * i + 2]! d[2 * i + 1]! = true
        · rw [if_pos c] at hj
          have : E d (2 * i + 2) < E d (2 * i + 1) := by simpa [lt, E] using c.2
          refine ⟨Or.inr hj, by omega, fun k h1 h2 hk => ?_⟩
          rcases (by omega : k = 2 * i + 1 ∨ k = 2 * i + 2) with e | e
          · rw [e, hj]; omega
          · rw [e, hj]; omega
        · rw [if_neg c] at hj
          refine ⟨Or.inl hj, by omega, fun k h1 h2 hk => ?_⟩
          rcases (by omega : k = 2 * i + 1 ∨ k = 2 * i + 2) with e | e
          · rw [e, hj]; omega
          · have c2 : ¬ E d (2 * i + 2) < E d (2 * i + 1) := fun x => c ⟨by omega, by simpa [lt, E] using x⟩
            rw [e, hj]; omega
      obtain ⟨j1, j2, j3⟩ := hjc
      have hij : i ≠ j := by omega
      cases hl : lt d[j]! d[i]! with
      | true =>
        rw [downF_go f d i n j h0 hj hl]
        have hlt : E d j < E d i := by simpa [lt, E] using hl
        refine downF_heap f _ j n (by rw [size_swp]; exact hn) (by omega) j2 ⟨fun k h1 h2 hk => ?_, fun k h1 h2 hk hj1 => ?_⟩
        · rw [size_swp] at h2
          by_cases kj : k = j
          · subst kj
            have e : (k - 1) / 2 = i := by omega
            rw [e, E_right d i k (by omega), E_left d i k (by omega) hij]; omega
          · by_cases ki : k = i
            · subst ki
              rw [E_left d k j (by omega) hij, E_other d k j _ (by omega) (by omega)]
              exact h.gp j (by omega) (by omega) (by omega) (by omega)
            · rw [E_other d i j k ki kj]
              by_cases q : (k - 1) / 2 = i
              · rw [q, E_left d i j (by omega) hij]; exact j3 k h1 (by omega) q
              · rw [E_other d i j _ q hk]; exact h.ok k h1 h2 q
        · rw [size_swp] at h2
          have e : (j - 1) / 2 = i := by omega
          rw [e, E_left d i j (by omega) hij, E_other d i j k (by omega) (by omega)]
          have := h.ok k h1 h2 (by omega)
          rw [hk] at this; exact this
      | false =>
        rw [downF_rest f d i n j h0 hj hl]
        have hge : E d i ≤ E d j := by simpa [lt, E] using hl
        show HeapO d
        intro k h1 h2
        by_cases q : (k - 1) / 2 = i
        · have := j3 k h1 (by omega) q
          rw [q]; omega
        · exact h.ok k h1 h2 q

theorem HeapO.small {d : Array Iv} (h : d.size ≤ 1) : HeapO d := fun k h1 h2 => by omega

def pushF (d : Array Iv) (x : Iv) : Array Iv := if 1 < d.size + 1 then fixF (d.push x) d.size else d.push x
theorem pushF_size (d : Array Iv) (x : Iv) : (pushF d x).size = d.size + 1 := by
  unfold pushF
  split
  · rw [fixF_size]; simp
  · simp
theorem pushF_perm (d : Array Iv) (x : Iv) : (pushF d x).toList.Perm (d.toList ++ [x]) := by
  unfold pushF
  split
  · have := fixF_perm (d.push x) d.size (by simp)
    simpa using this
  · simp
theorem E_push (d : Array Iv) (x : Iv) (k : Nat) (h : k < d.size) : E (d.push x) k = E d k := by
  unfold E
  rw [getElem!_pos _ k (by simp; omega), getElem!_pos _ k h, Array.getElem_push_lt h]
theorem pushF_heap {d : Array Iv} (h : HeapO d) (x : Iv) : HeapO (pushF d x) := by
  unfold pushF
  split
  · rename_i c
    have hs : (d.push x).size = d.size + 1 := by simp
    unfold fixF
    rw [downF_stop _ _ _ _ (by omega)]
    simp only [Nat.lt_irrefl, if_false]
    refine upF_heap _ _ _ (Nat.le_refl _) (by omega) ⟨fun k h1 h2 hk => ?_, fun k h1 h2 hk hj => by omega⟩
    rw [E_push d x k (by omega), E_push d x _ (by omega)]
    exact h k h1 (by omega)
  · exact HeapO.small (by rw [Array.size_push]; omega)

theorem E_pop (a : Array Iv) (k : Nat) (h : k < a.size - 1) : E a.pop k = E a k := by
  unfold E
  rw [getElem!_pos _ k (by simp; omega), getElem!_pos _ k (by omega), Array.getElem_pop]
theorem popF_heap {d : Array Iv} (h : HeapO d) (h1 : 1 ≤ d.size) : HeapO (popF d) := by
  unfold popF
  simp only
  have hs : (swp d 0 (d.size - 1)).pop.size = d.size - 1 := by simp [size_swp]
  split
  · rename_i c
    have hd : HeapO (downF ((swp d 0 (d.size - 1)).pop.size - 0) (swp d 0 (d.size - 1)).pop 0 (swp d 0 (d.size - 1)).pop.size).1 := by
      refine downF_heap _ _ _ _ rfl (Nat.le_refl _) (by omega) ⟨fun k k1 k2 hk => ?_, fun k k1 k2 hk hz => by omega⟩
      rw [hs] at k2
      rw [E_pop _ k (by rw [size_swp]; omega), E_pop _ _ (by rw [size_swp]; omega), E_other d 0 (d.size - 1) k (by omega) (by omega), E_other d 0 (d.size - 1) _ hk (by omega)]
      exact h k k1 (by omega)
    unfold fixF
    simp only
    split
    · exact hd
    · exact hd
  · exact HeapO.small (by omega)

theorem HeapO.least {d : Array Iv} (h : HeapO d) : ∀ (n k : Nat), k ≤ n → k < d.size → E d 0 ≤ E d k
  | 0, k, hk, hs => by
    obtain rfl : k = 0 := by omega
    exact Int.le_refl _
  | n + 1, k, hk, hs => by
    by_cases h0 : k = 0
    · subst h0; exact Int.le_refl _
    · have h1 := h.least n ((k - 1) / 2) (by omega) (by omega)
      have h2 := h k (by omega) hs
      omega
end Go.Proofs.Ybulkbxxk
