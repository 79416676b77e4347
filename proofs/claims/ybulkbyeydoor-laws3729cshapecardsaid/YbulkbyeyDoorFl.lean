/-
  Plain facts of float64's words: the magnitudes as whole numbers (scaled by 2 ^ 1074), and that rounding respects every bound that is itself a word.
-/
import Derived.Laws.FloatArith
namespace Go.Proofs.YbulkbyeyDoor
open Ieee
set_option linter.unusedVariables false

/-- The magnitude of a rung, times 2 ^ 1074; B rungs to a binade. -/
def uvB (B R : Nat) : Nat := if R < B then R else (B + R % B) * 2 ^ (R / B - 1)

section
variable {B : Nat}
theorem uv_at (hB : 0 < B) (L k : Nat) (h : k ≤ 2 * B) (h0 : L = 0 ∨ B ≤ k) : uvB B (L * B + k) = k * 2 ^ L := by
  unfold uvB
  by_cases c : L * B + k < B
  · have : L = 0 := by
      rcases h0 with e | e
      · exact e
      · omega
    subst this
    rw [if_pos c]; simp
  · rw [if_neg c]
    have m1 : (L * B + k) % B = k % B := by rw [Nat.mul_comm, Nat.mul_add_mod]
    have m2 : (L * B + k) / B = L + k / B := by rw [Nat.mul_comm, Nat.mul_add_div hB]
    have hBk : B ≤ k := by
      rcases h0 with e | e
      · subst e; omega
      · exact e
    rw [m1, m2]
    by_cases e : k = 2 * B
    · subst e
      have h1 : 2 * B % B = 0 := by simp
      have h2 : 2 * B / B = 2 := Nat.mul_div_cancel _ hB
      rw [h1, h2, show L + 2 - 1 = L + 1 by omega, Nat.pow_succ, Nat.add_zero, Nat.mul_comm 2 B, Nat.mul_assoc, Nat.mul_comm 2]
    · have h2 : k / B = 1 := Nat.div_eq_of_lt_le (by omega) (by omega)
      have h1 : k % B = k - B := by
        have := Nat.div_add_mod k B
        rw [h2] at this; omega
      rw [h1, h2, show B + (k - B) = k by omega, show L + 1 - 1 = L by omega]

theorem uv_split (hB : 0 < B) (R : Nat) : ∃ L k, R = L * B + k ∧ uvB B R = k * 2 ^ L ∧ k < 2 * B ∧ (L = 0 ∨ B ≤ k) := by
  by_cases c : R < B
  · refine ⟨0, R, by omega, ?_, by omega, Or.inl rfl⟩
    unfold uvB; rw [if_pos c]; simp
  · have h1 := Nat.div_add_mod R B
    have h2 := Nat.mod_lt R hB
    have h3 : 1 ≤ R / B := (Nat.le_div_iff_mul_le hB).2 (by omega)
    refine ⟨R / B - 1, B + R % B, ?_, ?_, by omega, Or.inr (by omega)⟩
    · have : (R / B - 1) * B + B = R / B * B := by
        rw [← Nat.succ_mul]; congr 1; omega
      rw [Nat.mul_comm B] at h1
      omega
    · unfold uvB; rw [if_neg c]

theorem uv_lt (hB : 0 < B) {R S : Nat} (h : R < S) : uvB B R < uvB B S := by
  obtain ⟨L, k, hR, e1, hk, h1⟩ := uv_split hB R
  obtain ⟨M, l, hS, e2, hl, h2⟩ := uv_split hB S
  rw [e1, e2]
  by_cases c : L = M
  · subst c
    exact Nat.mul_lt_mul_of_pos_right (by omega) (Nat.two_pow_pos _)
  · have hLM : L < M := by
      apply Classical.byContradiction
      intro c2
      have c3 : M + 1 ≤ L := by omega
      have := Nat.mul_le_mul_right B c3
      rw [Nat.succ_mul] at this
      rcases h1 with e | e <;> omega
    have h3 : 2 ^ (L + 1) ≤ 2 ^ M := Nat.pow_le_pow_right (by omega) hLM
    have h4 : B ≤ l := by rcases h2 with e | e <;> omega
    have h5 : k * 2 ^ L < 2 * B * 2 ^ L := Nat.mul_lt_mul_of_pos_right hk (Nat.two_pow_pos _)
    have h6 : 2 * B * 2 ^ L = B * 2 ^ (L + 1) := by rw [Nat.pow_succ, Nat.mul_comm 2 B, Nat.mul_assoc, Nat.mul_comm 2]
    have h7 : B * 2 ^ (L + 1) ≤ l * 2 ^ M := Nat.mul_le_mul h4 h3
    omega
theorem uv_le (hB : 0 < B) {R S : Nat} (h : R ≤ S) : uvB B R ≤ uvB B S := by
  rcases Nat.lt_or_eq_of_le h with c | c
  · exact Nat.le_of_lt (uv_lt hB c)
  · rw [c]; exact Nat.le_refl _
theorem le_of_uv (hB : 0 < B) {R S : Nat} (h : uvB B R ≤ uvB B S) : R ≤ S := by
  apply Classical.byContradiction
  intro c
  have := uv_lt hB (show S < R by omega)
  omega
theorem uv_zero (hB : 0 < B) : uvB B 0 = 0 := by unfold uvB; rw [if_pos hB]
end

theorem cut_le (neg : Bool) (n d k : Nat) (h : n ≤ k * 2 ^ d) : Toward.even.cut neg n d ≤ k := by
  unfold Toward.cut
  simp only [Nat.shiftLeft_eq, Nat.one_mul]
  by_cases c : d ≤ n.log2 + 2
  · rw [Nat.min_eq_left c]
    have hp := Nat.two_pow_pos d
    have hd := Nat.div_add_mod n (2 ^ d)
    have hm := Nat.mod_lt n hp
    have hq : n / 2 ^ d ≤ k := by
      have := Nat.div_le_div_right (c := 2 ^ d) h
      rwa [Nat.mul_div_cancel _ hp] at this
    by_cases e : n % 2 ^ d = 0
    · have hmore : (decide (2 ^ d < 2 * (n % 2 ^ d)) || 2 ^ d == 2 * (n % 2 ^ d) && n / 2 ^ d % 2 == 1) = false := by
        rw [e]; simp
      rw [hmore]; simpa using hq
    · have hlt : n / 2 ^ d < k := by
        apply Classical.byContradiction
        intro c2
        have : n / 2 ^ d = k := by omega
        rw [this, Nat.mul_comm] at hd
        omega
      have hb : ∀ b : Bool, b.toNat ≤ 1 := fun b => by cases b <;> decide
      have := hb (decide (2 ^ d < 2 * (n % 2 ^ d)) || 2 ^ d == 2 * (n % 2 ^ d) && n / 2 ^ d % 2 == 1)
      omega
  · rw [Nat.min_eq_right (by omega)]
    have h1 : n < 2 ^ (n.log2 + 1) := Nat.lt_log2_self
    have h2 : 2 ^ (n.log2 + 2) = 2 * 2 ^ (n.log2 + 1) := by rw [Nat.pow_succ, Nat.mul_comm]
    have h3 : n / 2 ^ (n.log2 + 2) = 0 := Nat.div_eq_of_lt (by omega)
    have h4 : n % 2 ^ (n.log2 + 2) = n := Nat.mod_eq_of_lt (by omega)
    rw [h3, h4]
    have hmore : (decide (2 ^ (n.log2 + 2) < 2 * n) || 2 ^ (n.log2 + 2) == 2 * n && 0 % 2 == 1) = false := by
      simp; omega
    rw [hmore]; simp

theorem cut_ge (neg : Bool) (n d k : Nat) (h : k * 2 ^ d ≤ n) : k ≤ Toward.even.cut neg n d := by
  unfold Toward.cut
  simp only [Nat.shiftLeft_eq, Nat.one_mul]
  by_cases c : d ≤ n.log2 + 2
  · rw [Nat.min_eq_left c]
    have hq : k ≤ n / 2 ^ d := (Nat.le_div_iff_mul_le (Nat.two_pow_pos _)).2 h
    omega
  · have h1 : n < 2 ^ (n.log2 + 1) := Nat.lt_log2_self
    have h2 : 2 ^ (n.log2 + 1) ≤ 2 ^ d := Nat.pow_le_pow_right (by omega) (by omega)
    have : k = 0 := by
      apply Classical.byContradiction
      intro c2
      have : 1 * 2 ^ d ≤ k * 2 ^ d := Nat.mul_le_mul_right _ (by omega)
      omega
    rw [this]; exact Nat.zero_le _

theorem double_inf : double.infRung = 2047 * 2 ^ 52 := rfl
theorem double_least : double.leastPlace = -1074 := by decide
theorem double_binade : double.binade = 2 ^ 52 := rfl

theorem pow_cancel {x y A B C : Nat} : x * 2 ^ (A + C) ≤ y * 2 ^ (B + C) ↔ x * 2 ^ A ≤ y * 2 ^ B := by
  rw [Nat.pow_add, Nat.pow_add, ← Nat.mul_assoc, ← Nat.mul_assoc]
  exact Nat.mul_le_mul_right_iff (Nat.two_pow_pos _)

/-- The heart of it: the rung found keeps every bound. -/
theorem near_core (B INF : Nat) (hB : 0 < B) (mag L D A a b kept : Nat) (hsum : a + D = A + (L + b))
    (hn1 : mag * 2 ^ A < 2 * B * 2 ^ D) (hn2 : L = 0 ∨ B * 2 ^ D ≤ mag * 2 ^ A)
    (hcl : ∀ k, mag * 2 ^ A ≤ k * 2 ^ D → kept ≤ k) (hcg : ∀ k, k * 2 ^ D ≤ mag * 2 ^ A → k ≤ kept) :
    (∀ R, R < INF → mag * 2 ^ a ≤ uvB B R * 2 ^ b → min (L * B + kept) INF ≤ R) ∧
    (∀ R, R ≤ INF → uvB B R * 2 ^ b ≤ mag * 2 ^ a → R ≤ min (L * B + kept) INF) := by
  have hrel : ∀ k, mag * 2 ^ a ≤ k * 2 ^ L * 2 ^ b ↔ mag * 2 ^ A ≤ k * 2 ^ D := fun k => by
    rw [Nat.mul_assoc, ← Nat.pow_add, ← pow_cancel (C := D), hsum, Nat.add_comm (L + b) D, pow_cancel]
  have hrel' : ∀ k, k * 2 ^ L * 2 ^ b ≤ mag * 2 ^ a ↔ k * 2 ^ D ≤ mag * 2 ^ A := fun k => by
    rw [Nat.mul_assoc, ← Nat.pow_add, ← pow_cancel (C := D), hsum, Nat.add_comm (L + b) D, pow_cancel]
  have hk1 : kept ≤ 2 * B := hcl _ (Nat.le_of_lt hn1)
  have hk2 : L = 0 ∨ B ≤ kept := hn2.imp id (fun h => hcg _ h)
  refine ⟨fun R hR h => ?_, fun R hR h => ?_⟩
  · apply Classical.byContradiction
    intro c
    have c1 : R < L * B + kept := by omega
    by_cases d : L = 0 ∨ L * B + B ≤ R
    · have hLR : L * B ≤ R := by
        rcases d with e | e
        · rw [e]; omega
        · omega
      obtain ⟨k', rfl⟩ : ∃ k', R = L * B + k' := ⟨R - L * B, by omega⟩
      rw [uv_at hB L k' (by omega) (d.imp id (fun h => by omega)), hrel] at h
      have := hcl _ h
      omega
    · have d1 : L ≠ 0 := fun e => d (Or.inl e)
      have d2 : R < L * B + B := by omega
      have u := uv_lt hB d2
      rw [uv_at hB L B (by omega) (Or.inr (Nat.le_refl _))] at u
      have u2 : uvB B R * 2 ^ b < B * 2 ^ L * 2 ^ b := Nat.mul_lt_mul_of_pos_right u (Nat.two_pow_pos _)
      have u3 := (hrel' B).2 (hn2.resolve_left d1)
      omega
  · apply Classical.byContradiction
    intro c
    have c1 : L * B + kept < R := by omega
    obtain ⟨k', rfl⟩ : ∃ k', R = L * B + k' := ⟨R - L * B, by omega⟩
    by_cases d : 2 * B ≤ k'
    · have u : uvB B (L * B + 2 * B) ≤ uvB B (L * B + k') := uv_le hB (by omega)
      rw [uv_at hB L (2 * B) (Nat.le_refl _) (Or.inr (by omega))] at u
      have u2 : 2 * B * 2 ^ L * 2 ^ b ≤ uvB B (L * B + k') * 2 ^ b := Nat.mul_le_mul_right _ u
      have u3 := (hrel' (2 * B)).1 (Nat.le_trans u2 h)
      omega
    · rw [uv_at hB L k' (by omega) (hk2.imp id (fun h => by omega)), hrel'] at h
      have := hcg _ h
      omega

/-- Rounding respects every bound that is a word. -/
theorem near_spec (B INF : Nat) (hB : B = 2 ^ 52) (hI : INF = 2047 * B) (neg : Bool) (mag : Nat) (place : Int) : ∃ r, r ≤ INF ∧ double.nearest neg mag place = double.word neg r ∧
    (∀ R, R < INF → mag * 2 ^ (place + 1074).toNat ≤ uvB B R * 2 ^ (-(place + 1074)).toNat → r ≤ R) ∧
    (∀ R, R ≤ INF → uvB B R * 2 ^ (-(place + 1074)).toNat ≤ mag * 2 ^ (place + 1074).toNat → R ≤ r) := by
  have hB0 : 0 < B := by rw [hB]; exact Nat.two_pow_pos _
  unfold Format.nearest
  rw [double_least, double_binade, double_inf, ← hB, ← hI]
  by_cases m0 : mag = 0
  · rw [if_pos m0]
    refine ⟨0, Nat.zero_le _, rfl, fun _ _ _ => Nat.zero_le _, fun R _ h => ?_⟩
    subst m0
    have hp := Nat.two_pow_pos (-(place + 1074)).toNat
    have : uvB B R = 0 := by
      rcases Nat.eq_zero_or_pos (uvB B R) with e | e
      · exact e
      · have := Nat.mul_pos e hp; omega
    exact le_of_uv hB0 (by rw [this, uv_zero hB0]; exact Nat.le_refl _)
  · rw [if_neg m0]
    simp only [Nat.shiftLeft_eq]
    have hq1 : 2 ^ mag.log2 ≤ mag := Nat.log2_self_le m0
    have hq2 : mag < 2 ^ (mag.log2 + 1) := Nat.lt_log2_self
    generalize mag.log2 = q at hq1 hq2 ⊢
    have e52 : ((double.fractionBits : Nat) : Int) = 52 := rfl
    rw [e52]
    generalize hlast : max (place + (q : Int) - 52) (-1074) = last
    have l1 : place + (q : Int) - 52 ≤ last := by omega
    have l2 : -1074 ≤ last := by omega
    have l3 : last = -1074 ∨ last = place + (q : Int) - 52 := by omega
    generalize hA : (place - last).toNat = A
    generalize hD : (last - place).toNat = D
    generalize hL : (last - -1074).toNat = L
    generalize ha : (place + 1074).toNat = a
    generalize hb : (-(place + 1074)).toNat = b
    have hsum : a + D = A + (L + b) := by omega
    have hB2 : 2 * B = 2 ^ 53 := by rw [hB]
    have hn1 : mag * 2 ^ A < 2 * B * 2 ^ D := by
      have h1 : mag * 2 ^ A < 2 ^ (q + 1) * 2 ^ A := Nat.mul_lt_mul_of_pos_right hq2 (Nat.two_pow_pos _)
      have h2 : 2 ^ (q + 1) * 2 ^ A ≤ 2 * B * 2 ^ D := by
        rw [hB2, ← Nat.pow_add, ← Nat.pow_add]
        exact Nat.pow_le_pow_right (by omega) (by omega)
      exact Nat.lt_of_lt_of_le h1 h2
    have hn2 : L = 0 ∨ B * 2 ^ D ≤ mag * 2 ^ A := by
      by_cases c : L = 0
      · exact Or.inl c
      · refine Or.inr ?_
        have h2 : B * 2 ^ D = 2 ^ q * 2 ^ A := by
          rw [hB, ← Nat.pow_add, ← Nat.pow_add]
          congr 1; omega
        rw [h2]
        exact Nat.mul_le_mul_right _ hq1
    have hc := near_core B INF hB0 mag L D A a b (Toward.even.cut neg (mag * 2 ^ A) D) hsum hn1 hn2 (cut_le neg (mag * 2 ^ A) D) (cut_ge neg (mag * 2 ^ A) D)
    exact ⟨min (L * B + Toward.even.cut neg (mag * 2 ^ A) D) INF, Nat.min_le_right _ _, rfl, hc.1, hc.2⟩
end Go.Proofs.YbulkbyeyDoor
