/-
  The plain law: a heap gives its elements in ascending order, each once.
-/
import Derived.Test.YbulkbxxkOrd
import Derived.Test.YbulkbxxkSoM
namespace Go.Proofs.Ybulkbxxk
open Go.Sort
set_option linter.unusedVariables false

structure Pops (n k : Nat) (z : List Int) (s : Array Int) (d : Array Iv) : Prop where
  size : d.size + k = n
  heap : HeapO d
  perm : (d.toList.map Prod.snd).Perm (s.toList.drop k)
  nodup : (d.toList.map Prod.fst).Nodup
  mem : ∀ e ∈ d.toList, e.1 < n ∧ e.2 = z.getD e.1 0

theorem toList_head (d : Array Iv) (h : 0 < d.size) : d.toList = d[0]! :: d.toList.tail := by
  rw [getElem!_pos d 0 h]
  cases hd : d.toList with
  | nil => have : d.toList.length = 0 := by rw [hd]; rfl
           rw [Array.length_toList] at this; omega
  | cons x r =>
    have : d[0] = x := by
      have e : d.toList[0]'(by simpa using h) = x := by simp [hd]
      rw [← e]; simp
    rw [this]; rfl
theorem mem_get (d : Array Iv) (x : Int) (h : x ∈ d.toList.map Prod.snd) : ∃ j, j < d.size ∧ E d j = x := by
  obtain ⟨e, he, rfl⟩ := List.mem_map.1 h
  obtain ⟨j, hj, rfl⟩ := List.mem_iff_getElem.1 he
  refine ⟨j, by simpa using hj, ?_⟩
  unfold E
  rw [getElem!_pos d j (by simpa using hj)]
  simp
theorem get_mem (d : Array Iv) (j : Nat) (h : j < d.size) : d[j]! ∈ d.toList := by
  rw [getElem!_pos d j h]; exact Array.getElem_mem_toList _
theorem drop_head (s : Array Int) (k : Nat) (h : k < s.size) : s.toList.drop k = s[k]! :: s.toList.drop (k + 1) := by
  rw [List.drop_eq_getElem_cons (by simpa using h), getElem!_pos s k h]
  simp
theorem mem_drop (s : Array Int) (k : Nat) (x : Int) (h : x ∈ s.toList.drop k) : ∃ j, k ≤ j ∧ j < s.size ∧ s[j]! = x := by
  obtain ⟨j, hj, e⟩ := List.mem_iff_getElem.1 h
  rw [List.length_drop, Array.length_toList] at hj
  refine ⟨k + j, by omega, by omega, ?_⟩
  rw [getElem!_pos s (k + j) (by omega), ← e]
  simp

theorem Pops.top {n k : Nat} {z : List Int} {s : Array Int} {d : Array Iv} (h : Pops n k z s d) (hs : SortedIn ltInt 0 n s) (hsz : s.size = n) (hk : k < n) : d[0]!.2 = s[k]! := by
  have hd : 0 < d.size := by have := h.size; omega
  have h1 : E d 0 ≤ s[k]! := by
    have : s[k]! ∈ d.toList.map Prod.snd := h.perm.mem_iff.2 (by rw [drop_head s k (by omega)]; exact List.mem_cons_self)
    obtain ⟨j, hj, e⟩ := mem_get d _ this
    rw [← e]; exact h.heap.least _ j (Nat.le_refl _) hj
  have h2 : s[k]! ≤ E d 0 := by
    have : E d 0 ∈ s.toList.drop k := h.perm.mem_iff.1 (List.mem_map.2 ⟨d[0]!, get_mem d 0 hd, rfl⟩)
    obtain ⟨j, hj1, hj2, e⟩ := mem_drop s k _ this
    rw [← e]
    by_cases hjk : j = k
    · subst hjk; exact Int.le_refl _
    · have := hs k j (Nat.zero_le _) (by omega) (by omega)
      simp only [ltInt, decide_eq_false_iff_not] at this
      omega
  show E d 0 = s[k]!
  omega

theorem Pops.pop {n k : Nat} {z : List Int} {s : Array Int} {d : Array Iv} (h : Pops n k z s d) (hs : SortedIn ltInt 0 n s) (hsz : s.size = n) (hk : k < n) : Pops n (k + 1) z s (popF d) := by
  have hsize := h.size
  have hd : 0 < d.size := by omega
  have hp := popF_perm d hd
  have hl := toList_head d hd
  refine ⟨by rw [popF_size]; omega, popF_heap h.heap hd, ?_, ?_, fun e he => ?_⟩
  · have h1 := h.perm
    rw [hl, List.map_cons, drop_head s k (by omega), h.top hs hsz hk] at h1
    exact (hp.map Prod.snd).trans h1.cons_inv
  · have h1 := h.nodup
    rw [hl, List.map_cons, List.nodup_cons] at h1
    exact ((hp.map Prod.fst).nodup_iff).2 h1.2
  · refine h.mem e ?_
    rw [hl]; exact List.mem_cons_of_mem _ (hp.mem_iff.1 he)

/-- Not in the heap any more. -/
def gone (d : Array Iv) (id : Nat) : Bool := decide (id ∉ d.toList.map Prod.fst)
theorem Pops.gone_top {n k : Nat} {z : List Int} {s : Array Int} {d : Array Iv} (h : Pops n k z s d) (hk : k < n) : gone d d[0]!.1 = false := by
  have hd : 0 < d.size := by have := h.size; omega
  unfold gone
  rw [decide_eq_false_iff_not, Decidable.not_not]
  exact List.mem_map.2 ⟨d[0]!, get_mem d 0 hd, rfl⟩
theorem Pops.gone_pop {n k : Nat} {z : List Int} {s : Array Int} {d : Array Iv} (h : Pops n k z s d) (hk : k < n) (id : Nat) : gone (popF d) id = (gone d id || decide (id = d[0]!.1)) := by
  have hd : 0 < d.size := by have := h.size; omega
  have hp := (popF_perm d hd).map Prod.fst
  have hl := toList_head d hd
  have h1 := h.nodup
  rw [hl, List.map_cons, List.nodup_cons] at h1
  unfold gone
  rw [Bool.eq_iff_iff]
  simp only [Bool.or_eq_true, decide_eq_true_eq]
  have e1 : id ∈ (popF d).toList.map Prod.fst ↔ id ∈ d.toList.tail.map Prod.fst := hp.mem_iff
  have e2 : id ∈ d.toList.map Prod.fst ↔ (id = d[0]!.1 ∨ id ∈ d.toList.tail.map Prod.fst) := by
    conv => lhs; rw [hl, List.map_cons, List.mem_cons]
  rw [e1, e2]
  constructor
  · intro x
    by_cases c : id = d[0]!.1
    · exact Or.inr c
    · exact Or.inl (fun y => y.elim c x)
  · rintro (x | x)
    · exact fun y => x (Or.inr y)
    · subst x; exact h1.1

theorem perm_all {s t : Array Int} {n : Nat} (h : PermIn 0 n t s) (ht : t.size = n) : s.toList.Perm t.toList := by
  have h1 := h.2.2
  have hs : s.size = n := h.1.trans ht
  have e1 : s.extract 0 n = s := by rw [← hs]; simp
  have e2 : t.extract 0 n = t := by rw [← ht]; simp
  rw [e1, e2] at h1
  exact h1
theorem Pops.start {n : Nat} {z : List Int} {s : Array Int} {d : Array Iv} (hh : HeapO d) (hd : d.toList.Perm ((List.range n).map fun i => (i, z.getD i 0))) (hs : PermIn 0 n (zs z n) s) : Pops n 0 z s d := by
  have hlen : d.size = n := by have := hd.length_eq; simpa using this
  refine ⟨by omega, hh, ?_, ?_, fun e he => ?_⟩
  · rw [List.drop_zero]
    refine (hd.map Prod.snd).trans ((perm_all hs (zs_size z n)).trans ?_).symm
    simp [zs, List.map_map, Function.comp_def]
  · refine ((hd.map Prod.fst).nodup_iff).2 ?_
    rw [List.map_map]
    have e : (Prod.fst ∘ fun i => (i, z.getD i 0)) = (id : Nat → Nat) := rfl
    rw [e, List.map_id]
    exact List.nodup_range
  · have := hd.mem_iff.1 he
    obtain ⟨i, hi, rfl⟩ := List.mem_map.1 this
    exact ⟨List.mem_range.1 hi, rfl⟩
theorem gone_start {n : Nat} {z : List Int} {d : Array Iv} (hd : d.toList.Perm ((List.range n).map fun i => (i, z.getD i 0))) (id : Nat) (hid : id < n) : gone d id = false := by
  unfold gone
  rw [decide_eq_false_iff_not, Decidable.not_not]
  refine List.mem_map.2 ⟨(id, z.getD id 0), hd.mem_iff.2 (List.mem_map.2 ⟨id, List.mem_range.2 hid, rfl⟩), rfl⟩
theorem push_start {k : Nat} {z : List Int} {d : Array Iv} (hd : d.toList.Perm ((List.range k).map fun i => (i, z.getD i 0))) : (pushF d (k, z.getD k 0)).toList.Perm ((List.range (k + 1)).map fun i => (i, z.getD i 0)) := by
  rw [List.range_succ, List.map_append]
  exact (pushF_perm d _).trans (hd.append_right _)
end Go.Proofs.Ybulkbxxk
