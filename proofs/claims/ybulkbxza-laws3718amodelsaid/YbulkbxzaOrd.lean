/-
  The order of IDs: compareBytes is lexical; what a sorted row says of the search.
-/
import Derived.Test.YbulkbxzaMem
namespace Go.Proofs.Ybulkbxza
open Go.Sort Go.Lib
set_option linter.unusedVariables false

theorem cb_neg : ∀ (a b : List UInt8), compareBytes a b < 0 ↔ a < b
  | [], [] => by simp [compareBytes]
  | [], _ :: _ => by simp [compareBytes]
  | _ :: _, [] => by simp [compareBytes]
  | x :: a, y :: b => by
    rw [compareBytes, List.cons_lt_cons_iff]
    by_cases h1 : x < y
    · simp [h1]
    · by_cases h2 : y < x
      · have hne : ¬ x = y := fun e => by subst e; exact absurd h2 h1
        simp [h1, h2, hne]
      · have he : x = y := UInt8.le_antisymm (UInt8.not_lt.1 h2) (UInt8.not_lt.1 h1)
        subst he
        simp [h1, cb_neg a b]
theorem cb_zero : ∀ (a b : List UInt8), compareBytes a b = 0 ↔ a = b
  | [], [] => by simp [compareBytes]
  | [], _ :: _ => by simp [compareBytes]
  | _ :: _, [] => by simp [compareBytes]
  | x :: a, y :: b => by
    rw [compareBytes]
    by_cases h1 : x < y
    · have hne : ¬ x = y := fun e => by subst e; exact absurd h1 (UInt8.lt_irrefl _)
      simp [h1, hne]
    · by_cases h2 : y < x
      · have hne : ¬ x = y := fun e => by subst e; exact absurd h2 h1
        simp [h1, h2, hne]
      · have he : x = y := UInt8.le_antisymm (UInt8.not_lt.1 h2) (UInt8.not_lt.1 h1)
        subst he
        simp [h1, cb_zero a b]

def ltI (x y : ID) : Prop := bs x < bs y
theorem cf_neg (x y : ID) : cf x y < 0 ↔ bs x < bs y := cb_neg _ _
theorem cf_nneg (x y : ID) : 0 ≤ cf x y ↔ ¬ bs x < bs y := by rw [← cf_neg]; omega
theorem cf_zero (x y : ID) : cf x y = 0 ↔ x = y := by
  unfold cf
  rw [cb_zero]
  exact ⟨bs_inj, fun h => by rw [h]⟩
theorem ltOf_cf (x y : ID) : ltOf cf x y = decide (bs x < bs y) := by
  unfold ltOf
  by_cases h : bs x < bs y
  · rw [decide_eq_true h, decide_eq_true ((cf_neg x y).2 h)]
  · rw [decide_eq_false h, decide_eq_false (fun e => h ((cf_neg x y).1 e))]
theorem lt_trans' {a b c : List UInt8} (h1 : a < b) (h2 : b < c) : a < c := List.lt_trans h1 h2
theorem le_trans' {a b c : List UInt8} (h1 : ¬ b < a) (h2 : ¬ c < b) : ¬ c < a := List.le_trans (l₁ := a) h1 h2
theorem le_antisymm' {a b : List UInt8} (h1 : ¬ b < a) (h2 : ¬ a < b) : a = b := List.le_antisymm h1 h2

theorem swoID : SWO (ltOf cf) where
  irrefl x := by rw [ltOf_cf]; simp [List.lt_irrefl]
  trans x y z h1 h2 := by
    rw [ltOf_cf] at *
    simp only [decide_eq_true_eq] at *
    exact lt_trans' h1 h2
  ntrans x y z h1 h2 := by
    rw [ltOf_cf] at *
    simp only [decide_eq_false_iff_not] at *
    exact le_trans' h2 h1

/-- What precedes T stands ahead of what does not. -/
theorem mono_of_sorted {d : Array ID} (h : SortedIn (ltOf cf) 0 d.size d) (T : ID) : ∀ i j, i ≤ j → j < d.size → cf d[j]! T < 0 → cf d[i]! T < 0 := by
  intro i j hij hj hl
  rcases Nat.lt_or_eq_of_le hij with h1 | h1
  · have := h i j (Nat.zero_le _) h1 hj
    rw [ltOf_cf] at this
    simp only [decide_eq_false_iff_not] at this
    rw [cf_neg] at *
    -- d[i] ≤ d[j] < T
    rcases Classical.em (bs d[i]! < bs T) with h2 | h2
    · exact h2
    · exact absurd (le_trans' h2 this) (fun e => e hl)
  · subst h1; exact hl

theorem cnt_lt {d : Array ID} (h : SortedIn (ltOf cf) 0 d.size d) (T : ID) : cnt d T ≤ d.size ∧ (∀ t, t < cnt d T → bs d[t]! < bs T) ∧ (∀ t, cnt d T ≤ t → t < d.size → ¬ bs d[t]! < bs T) := by
  -- the boundary exists: by induction on how far the preceding ones reach
  have key : ∀ n, n ≤ d.size → (∃ i, i ≤ n ∧ (∀ t, t < i → cf d[t]! T < 0) ∧ (∀ t, i ≤ t → t < n → 0 ≤ cf d[t]! T)) := by
    intro n
    induction n with
    | zero => intro _; exact ⟨0, Nat.le_refl _, fun t ht => by omega, fun t h1 h2 => by omega⟩
    | succ n ih =>
      intro hn
      obtain ⟨i, hi, h1, h2⟩ := ih (by omega)
      by_cases hl : cf d[n]! T < 0
      · exact ⟨n + 1, Nat.le_refl _, fun t ht => mono_of_sorted h T t n (by omega) (by omega) hl, fun t h3 h4 => by omega⟩
      · refine ⟨i, by omega, h1, fun t h3 h4 => ?_⟩
        by_cases e : t = n
        · subst e; omega
        · exact h2 t h3 (by omega)
  obtain ⟨i, hi, h1, h2⟩ := key d.size (Nat.le_refl _)
  have e := cnt_of d T i hi h1 h2
  rw [e]
  exact ⟨hi, fun t ht => (cf_neg _ _).1 (h1 t ht), fun t h3 h4 => (cf_nneg _ _).1 (h2 t h3 h4)⟩

/-- A member's own identifier is owned by that member. -/
theorem owns_self {d : Array ID} (h : SortedIn (ltOf cf) 0 d.size d) (q : ID) (hq : q ∈ d.toList) : d[sIx d q]! = q := by
  obtain ⟨hle, h1, h2⟩ := cnt_lt h q
  obtain ⟨p, hp, rfl⟩ := List.getElem_of_mem hq
  have hp' : p < d.size := by simpa using hp
  have hpe : d[p]! = d.toList[p] := by rw [getElem!_pos d p hp']; simp
  generalize hqq : d.toList[p] = q at *
  have hcp : cnt d q ≤ p := by
    rcases Nat.lt_or_ge p (cnt d q) with h3 | h3
    · have := h1 p h3
      rw [hpe] at this
      exact absurd this (List.lt_irrefl _)
    · exact h3
  have hs : sIx d q = cnt d q := by unfold sIx; rw [if_neg (by omega)]
  rw [hs]
  have a1 := h2 (cnt d q) (Nat.le_refl _) (by omega)
  have a2 : ¬ bs q < bs d[cnt d q]! := by
    rcases Nat.lt_or_eq_of_le hcp with h3 | h3
    · have := h (cnt d q) p (Nat.zero_le _) h3 hp'
      rw [ltOf_cf, hpe] at this
      simpa using this
    · rw [h3, hpe]; exact List.lt_irrefl _
  exact bs_inj (le_antisymm' a2 a1)
end Go.Proofs.Ybulkbxza
