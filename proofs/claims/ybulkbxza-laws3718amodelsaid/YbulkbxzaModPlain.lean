/-
  The plain law: the model's scan answers what the search in the sorted row answers.
-/
import Derived.Test.YbulkbxzaOrd
namespace Go.Proofs.Ybulkbxza
open Go.Sort Go.Lib
set_option linter.unusedVariables false

/-- One round of the scan: (best, low, have). -/
def mstep (T : ID) (s : ID × ID × Bool) (m : ID) : ID × ID × Bool :=
  (if 0 ≤ cf m T ∧ (s.2.2 = false ∨ cf m s.1 < 0) then m else s.1, if cf m s.2.1 < 0 then m else s.2.1, if 0 ≤ cf m T ∧ (s.2.2 = false ∨ cf m s.1 < 0) then true else s.2.2)
/-- After i rounds. -/
def mst (T : ID) (l : List ID) (i : Nat) : ID × ID × Bool := (l.take i).foldl (mstep T) (l[0]!, l[0]!, false)
def mres (T : ID) (l : List ID) : ID := if (mst T l l.length).2.2 = true then (mst T l l.length).1 else (mst T l l.length).2.1

theorem mst_zero (T : ID) (l : List ID) : mst T l 0 = (l[0]!, l[0]!, false) := rfl
theorem mst_succ (T : ID) (l : List ID) (i : Nat) (h : i < l.length) : mst T l (i + 1) = mstep T (mst T l i) l[i]! := by
  unfold mst
  rw [List.take_succ_eq_append_getElem h, List.foldl_append, getElem!_pos l i h]
  rfl

structure MInv (T : ID) (l : List ID) (i : Nat) (s : ID × ID × Bool) : Prop where
  low : s.2.1 ∈ l
  lowLe : ∀ t, t < i → ¬ bs l[t]! < bs s.2.1
  yes : s.2.2 = true → s.1 ∈ l ∧ ¬ bs s.1 < bs T ∧ ∀ t, t < i → ¬ bs l[t]! < bs T → ¬ bs l[t]! < bs s.1
  no : s.2.2 = false → ∀ t, t < i → bs l[t]! < bs T

theorem minv (T : ID) (l : List ID) (h0 : 0 < l.length) : ∀ i, i ≤ l.length → MInv T l i (mst T l i) := by
  have mem : ∀ t, t < l.length → l[t]! ∈ l := fun t ht => by rw [getElem!_pos l t ht]; exact List.getElem_mem ht
  intro i
  induction i with
  | zero =>
    intro _
    rw [mst_zero]
    exact ⟨mem 0 h0, fun t ht => by omega, fun h => by simp at h, fun _ t ht => by omega⟩
  | succ i ih =>
    intro hi
    have I := ih (by omega)
    rw [mst_succ T l i (by omega)]
    generalize hs : mst T l i = s at I
    generalize hm : l[i]! = m
    have hmem : m ∈ l := by rw [← hm]; exact mem i (by omega)
    have hlast : ∀ t, t < i + 1 → t < i ∨ l[t]! = m := fun t ht => by
      by_cases e : t = i
      · right; rw [e]; exact hm
      · left; omega
    unfold mstep
    refine ⟨?_, ?_, ?_, ?_⟩
    · show (if cf m s.2.1 < 0 then m else s.2.1) ∈ l
      split
      · exact hmem
      · exact I.low
    · intro t ht
      show ¬ bs l[t]! < bs (if cf m s.2.1 < 0 then m else s.2.1)
      by_cases hl : cf m s.2.1 < 0
      · rw [if_pos hl]
        rcases hlast t ht with h1 | h1
        · exact fun e => absurd (lt_trans' e ((cf_neg _ _).1 hl)) (I.lowLe t h1)
        · rw [h1]; exact List.lt_irrefl _
      · rw [if_neg hl]
        rcases hlast t ht with h1 | h1
        · exact I.lowLe t h1
        · rw [h1]; exact (cf_nneg _ _).1 (by omega)
    · intro hy
      by_cases hc : 0 ≤ cf m T ∧ (s.2.2 = false ∨ cf m s.1 < 0)
      · simp only [if_pos hc] at hy ⊢
        refine ⟨hmem, (cf_nneg _ _).1 hc.1, fun t ht hT => ?_⟩
        rcases hlast t ht with h1 | h1
        · rcases hc.2 with h2 | h2
          · exact absurd (I.no h2 t h1) hT
          · cases hb : s.2.2 with
            | false => exact absurd (I.no hb t h1) hT
            | true => exact fun e => absurd (lt_trans' e ((cf_neg _ _).1 h2)) ((I.yes hb).2.2 t h1 hT)
        · rw [h1]; exact List.lt_irrefl _
      · simp only [if_neg hc] at hy ⊢
        obtain ⟨y1, y2, y3⟩ := I.yes hy
        refine ⟨y1, y2, fun t ht hT => ?_⟩
        rcases hlast t ht with h1 | h1
        · exact y3 t h1 hT
        · rw [h1] at hT ⊢
          have h0 : 0 ≤ cf m T := (cf_nneg _ _).2 hT
          have h3 : ¬ cf m s.1 < 0 := fun e => hc ⟨h0, Or.inr e⟩
          exact fun e => h3 ((cf_neg _ _).2 e)
    · intro hn t ht
      by_cases hc : 0 ≤ cf m T ∧ (s.2.2 = false ∨ cf m s.1 < 0)
      · simp only [if_pos hc] at hn
        cases hn
      · simp only [if_neg hc] at hn
        rcases hlast t ht with h1 | h1
        · exact I.no hn t h1
        · rw [h1]
          rcases Classical.em (bs m < bs T) with h2 | h2
          · exact h2
          · exact absurd ⟨(cf_nneg _ _).2 h2, Or.inl hn⟩ hc

theorem model_law (T : ID) (l : List ID) (d : Array ID) (h0 : 0 < l.length) (hs : SortedIn (ltOf cf) 0 d.size d) (hp : d.toList.Perm l) : d[sIx d T]! = mres T l := by
  have I := minv T l h0 l.length (Nat.le_refl _)
  obtain ⟨hle, h1, h2⟩ := cnt_lt hs T
  have hdl : d.size = l.length := by have := hp.length_eq; simpa using this
  have inD : ∀ x, x ∈ l → ∃ p, p < d.size ∧ d[p]! = x := fun x hx => by
    obtain ⟨p, hp', e⟩ := List.getElem_of_mem (hp.mem_iff.2 hx)
    have hp2 : p < d.size := by simpa using hp'
    exact ⟨p, hp2, by rw [getElem!_pos d p hp2]; simpa using e⟩
  have inL : ∀ p, p < d.size → ∃ t, t < l.length ∧ l[t]! = d[p]! := fun p hp' => by
    have : d[p]! ∈ l := hp.mem_iff.1 (by rw [getElem!_pos d p hp']; exact Array.getElem_mem_toList _)
    obtain ⟨t, ht, e⟩ := List.getElem_of_mem this
    exact ⟨t, ht, by rw [getElem!_pos l t ht]; exact e⟩
  have srt : ∀ i j, i ≤ j → j < d.size → ¬ bs d[j]! < bs d[i]! := fun i j hij hj => by
    rcases Nat.lt_or_eq_of_le hij with h3 | h3
    · have := hs i j (Nat.zero_le _) h3 hj
      rw [ltOf_cf] at this
      simpa using this
    · rw [h3]; exact List.lt_irrefl _
  unfold mres
  cases hb : (mst T l l.length).2.2 with
  | true =>
    rw [if_pos rfl]
    obtain ⟨y1, y2, y3⟩ := I.yes hb
    obtain ⟨p, hp1, hp2⟩ := inD _ y1
    have hcp : cnt d T ≤ p := by
      rcases Nat.lt_or_ge p (cnt d T) with h3 | h3
      · have := h1 p h3; rw [hp2] at this; exact absurd this y2
      · exact h3
    have hs2 : sIx d T = cnt d T := by unfold sIx; rw [if_neg (by omega)]
    rw [hs2]
    obtain ⟨t, ht1, ht2⟩ := inL (cnt d T) (by omega)
    have a1 := h2 (cnt d T) (Nat.le_refl _) (by omega)
    have a2 := y3 t ht1 (by rw [ht2]; exact a1)
    rw [ht2] at a2
    have a3 := srt (cnt d T) p hcp hp1
    rw [hp2] at a3
    exact bs_inj (le_antisymm' a3 a2)
  | false =>
    rw [if_neg (by simp)]
    have hall := I.no hb
    have hc : cnt d T = d.size := by
      rcases Nat.lt_or_ge (cnt d T) d.size with h3 | h3
      · obtain ⟨t, ht1, ht2⟩ := inL (cnt d T) h3
        have := hall t ht1
        rw [ht2] at this
        exact absurd this (h2 _ (Nat.le_refl _) h3)
      · omega
    have hs2 : sIx d T = 0 := by unfold sIx; rw [if_pos hc]
    rw [hs2]
    obtain ⟨p, hp1, hp2⟩ := inD _ I.low
    obtain ⟨t, ht1, ht2⟩ := inL 0 (by omega)
    have a2 := I.lowLe t ht1
    rw [ht2] at a2
    have a3 := srt 0 p (Nat.zero_le _) hp1
    rw [hp2] at a3
    exact bs_inj (le_antisymm' a3 a2)
end Go.Proofs.Ybulkbxza
