/-
  Division, the square root, the infinities, the cut to an integer.
-/
import Derived.Test.YbulkbyeyDoorFw
namespace Go.Proofs.YbulkbyeyDoor
open Ieee
set_option linter.unusedVariables false

theorem quo_le {D n K : Nat} (hn : 0 < n) (h : D ≤ K * n) : 2 * (D / n) + (D % n != 0).toNat ≤ 2 * K := by
  have hq : D / n ≤ K := by
    have := Nat.div_le_div_right (c := n) h
    rwa [Nat.mul_div_cancel _ hn] at this
  by_cases e : D % n = 0
  · simp [e]; omega
  · have hd := Nat.div_add_mod D n
    have hlt : D / n < K := by
      apply Classical.byContradiction
      intro c
      have : D / n = K := by omega
      rw [this, Nat.mul_comm] at hd
      omega
    have : (D % n != 0).toNat = 1 := by simp [e]
    omega
theorem quo_ge {D n K : Nat} (hn : 0 < n) (h : K * n ≤ D) : 2 * K ≤ 2 * (D / n) + (D % n != 0).toNat := by
  have hq : K ≤ D / n := (Nat.le_div_iff_mul_le hn).2 h
  omega

section
variable {B D n c d a b k L uR : Nat}
theorem div_le (hn : 0 < n) (hbig : D ≠ 0 → 2 * B * n ≤ D) (hk : uR = k * 2 ^ L) (hkB : k < 2 * B) (hab : a + d + 1 = b + c) (h : D * 2 ^ c ≤ uR * n * 2 ^ d) :
    (2 * (D / n) + (D % n != 0).toNat) * 2 ^ a ≤ uR * 2 ^ b := by
  by_cases m0 : D = 0
  · subst m0; simp
  by_cases cd : c ≤ d
  · obtain ⟨x, rfl⟩ : ∃ x, d = c + x := ⟨d - c, by omega⟩
    have h1 : D ≤ uR * 2 ^ x * n := by
      rw [Nat.pow_add, ← Nat.mul_assoc, Nat.mul_right_comm (uR * n)] at h
      have := Nat.le_of_mul_le_mul_right h (Nat.two_pow_pos c)
      rwa [Nat.mul_right_comm] at this
    have h3 := Nat.mul_le_mul_right (2 ^ a) (quo_le hn h1)
    refine Nat.le_trans h3 (Nat.le_of_eq ?_)
    have hb : b = x + 1 + a := by omega
    rw [hb, Nat.pow_add, Nat.pow_succ]
    ac_rfl
  · obtain ⟨x, rfl⟩ : ∃ x, c = d + x := ⟨c - d, by omega⟩
    have h1 : D * 2 ^ x ≤ uR * n := by
      rw [Nat.pow_add, ← Nat.mul_assoc, Nat.mul_right_comm D] at h
      exact Nat.le_of_mul_le_mul_right h (Nat.two_pow_pos d)
    have hL : x ≤ L := by
      apply Classical.byContradiction
      intro cL
      have g1 : 2 * B * n * 2 ^ x ≤ uR * n := Nat.le_trans (Nat.mul_le_mul_right _ (hbig m0)) h1
      rw [Nat.mul_right_comm] at g1
      have g2 := Nat.le_of_mul_le_mul_right g1 hn
      rw [hk] at g2
      have g3 : 2 ^ L ≤ 2 ^ x := Nat.pow_le_pow_right (by omega) (by omega)
      have g4 : k * 2 ^ L < 2 * B * 2 ^ L := Nat.mul_lt_mul_of_pos_right hkB (Nat.two_pow_pos _)
      have g5 : 2 * B * 2 ^ L ≤ 2 * B * 2 ^ x := Nat.mul_le_mul_left _ g3
      omega
    obtain ⟨y, rfl⟩ : ∃ y, L = y + x := ⟨L - x, by omega⟩
    have hK : uR = k * 2 ^ y * 2 ^ x := by rw [hk, Nat.mul_assoc, ← Nat.pow_add]
    have h2 : D ≤ k * 2 ^ y * n := by
      rw [hK, Nat.mul_right_comm] at h1
      exact Nat.le_of_mul_le_mul_right h1 (Nat.two_pow_pos x)
    have h4 := Nat.mul_le_mul_right (2 ^ a) (quo_le hn h2)
    refine Nat.le_trans h4 (Nat.le_of_eq ?_)
    have hb : 1 + a = x + b := by omega
    rw [hK, Nat.mul_assoc (k * 2 ^ y), ← Nat.pow_add, ← hb, Nat.pow_add, Nat.pow_one]
    ac_rfl

theorem div_ge (hn : 0 < n) (hbig : D ≠ 0 → 2 * B * n ≤ D) (hk : uR = k * 2 ^ L) (hkB : k < 2 * B) (hab : a + d + 1 = b + c) (h : uR * n * 2 ^ d ≤ D * 2 ^ c) :
    uR * 2 ^ b ≤ (2 * (D / n) + (D % n != 0).toNat) * 2 ^ a := by
  by_cases cd : c ≤ d
  · obtain ⟨x, rfl⟩ : ∃ x, d = c + x := ⟨d - c, by omega⟩
    have h1 : uR * 2 ^ x * n ≤ D := by
      rw [Nat.pow_add, ← Nat.mul_assoc, Nat.mul_right_comm (uR * n)] at h
      have := Nat.le_of_mul_le_mul_right h (Nat.two_pow_pos c)
      rwa [Nat.mul_right_comm] at this
    have h3 := Nat.mul_le_mul_right (2 ^ a) (quo_ge hn h1)
    refine Nat.le_trans (Nat.le_of_eq ?_) h3
    have hb : b = x + 1 + a := by omega
    rw [hb, Nat.pow_add, Nat.pow_succ]
    ac_rfl
  · obtain ⟨x, rfl⟩ : ∃ x, c = d + x := ⟨c - d, by omega⟩
    have h1 : uR * n ≤ D * 2 ^ x := by
      rw [Nat.pow_add, ← Nat.mul_assoc, Nat.mul_right_comm D] at h
      exact Nat.le_of_mul_le_mul_right h (Nat.two_pow_pos d)
    have hb : 1 + a = x + b := by omega
    by_cases hL : x ≤ L
    · obtain ⟨y, rfl⟩ : ∃ y, L = y + x := ⟨L - x, by omega⟩
      have hK : uR = k * 2 ^ y * 2 ^ x := by rw [hk, Nat.mul_assoc, ← Nat.pow_add]
      have h2 : k * 2 ^ y * n ≤ D := by
        rw [hK, Nat.mul_right_comm] at h1
        exact Nat.le_of_mul_le_mul_right h1 (Nat.two_pow_pos x)
      have h4 := Nat.mul_le_mul_right (2 ^ a) (quo_ge hn h2)
      refine Nat.le_trans (Nat.le_of_eq ?_) h4
      rw [hK, Nat.mul_assoc (k * 2 ^ y), ← Nat.pow_add, ← hb, Nat.pow_add, Nat.pow_one]
      ac_rfl
    · by_cases m0 : D = 0
      · subst m0
        rw [Nat.zero_mul] at h1
        have : uR = 0 := by
          rcases Nat.eq_zero_or_pos uR with e | e
          · exact e
          · have := Nat.mul_pos e hn; omega
        rw [this, Nat.zero_mul]; exact Nat.zero_le _
      · have g0 : 2 * (2 * B) ≤ 2 * (D / n) + (D % n != 0).toNat := quo_ge hn (hbig m0)
        have g3 : 2 ^ L ≤ 2 ^ x := Nat.pow_le_pow_right (by omega) (by omega)
        have g4 : uR ≤ 2 * B * 2 ^ x := by
          rw [hk]
          exact Nat.le_trans (Nat.mul_le_mul_right _ (Nat.le_of_lt hkB)) (Nat.mul_le_mul_left _ g3)
        have g5 := Nat.mul_le_mul_right (2 ^ a) g0
        refine Nat.le_trans (Nat.mul_le_mul_right (2 ^ b) g4) (Nat.le_trans (Nat.le_of_eq ?_) g5)
        rw [Nat.mul_assoc (2 * B), ← Nat.pow_add, ← hb, Nat.pow_add, Nat.pow_one]
        ac_rfl
end

theorem BB2 : 2 * BB = 2 ^ 53 := by decide

theorem div_wd {s t : Bool} {r q : Nat} (hr : r < II) (hq : q < II) (q0 : q ≠ 0) : ∃ p, p ≤ II ∧ double.div (wd s r) (wd t q) = some (wd (s ^^ t) p) ∧
    (∀ R, R < II → uv r * 2 ^ 1074 ≤ uv R * uv q → p ≤ R) ∧ (∀ R, R ≤ II → uv R * uv q ≤ uv r * 2 ^ 1074 → R ≤ p) := by
  obtain ⟨m, e, h1, u1, _⟩ := read_wd s r hr
  obtain ⟨n, f, h2, u2, _⟩ := read_wd t q hq
  have hn : 0 < n := by
    rcases Nat.eq_zero_or_pos n with c | c
    · have := uvpos q0
      rw [← u2, c, Nat.zero_mul] at this
      omega
    · exact c
  have hn0 : n ≠ 0 := by omega
  generalize hmore : double.fractionBits + 2 + n.log2 - m.log2 = more
  generalize hD : m * 2 ^ more = D
  have hbig : D ≠ 0 → 2 * BB * n ≤ D := fun d0 => by
    have m0 : m ≠ 0 := fun c => d0 (by rw [← hD, c, Nat.zero_mul])
    have l1 : 2 ^ m.log2 ≤ m := Nat.log2_self_le m0
    have l2 : n < 2 ^ (n.log2 + 1) := Nat.lt_log2_self
    have l3 : 2 ^ m.log2 * 2 ^ more ≤ D := by rw [← hD]; exact Nat.mul_le_mul_right _ l1
    rw [← Nat.pow_add] at l3
    have l4 : 2 ^ (53 + (n.log2 + 1)) ≤ 2 ^ (m.log2 + more) := Nat.pow_le_pow_right (by omega) (by have : double.fractionBits = 52 := rfl; omega)
    rw [Nat.pow_add 2 53] at l4
    rw [BB2]
    exact Nat.le_trans (Nat.mul_le_mul_left _ (Nat.le_of_lt l2)) (Nat.le_trans l4 l3)
  obtain ⟨p, hp, hw, hle, hge⟩ := near_wd (s ^^ t) (2 * (D / n) + (D % n != 0).toNat) (-1074 + (e : Int) - (-1074 + (f : Int)) - (more : Int) - 1)
  generalize ha : (-1074 + (e : Int) - (-1074 + (f : Int)) - (more : Int) - 1 + 1074).toNat = a at hle hge
  generalize hb : (-(-1074 + (e : Int) - (-1074 + (f : Int)) - (more : Int) - 1 + 1074)).toNat = b at hle hge
  generalize hc : e + 1074 = c
  have hab : a + (f + more) + 1 = b + c := by omega
  have hx : uv r * 2 ^ 1074 * 2 ^ more = D * 2 ^ c := by
    rw [← u1, ← hD, ← hc, Nat.pow_add 2 e, Nat.mul_right_comm, Nat.mul_right_comm m, Nat.mul_assoc (m * 2 ^ more)]
  have hy : ∀ R, uv R * uv q * 2 ^ more = uv R * n * 2 ^ (f + more) := fun R => by
    rw [← u2, Nat.pow_add, ← Nat.mul_assoc (uv R), Nat.mul_assoc (uv R * n)]
  refine ⟨p, hp, ?_, fun R hR h => hle R hR ?_, fun R hR h => hge R hR ?_⟩
  · unfold Format.div
    rw [h1, h2]
    simp only [Datum.quotient, if_neg hn0, Option.map_some, Format.write, Nat.shiftLeft_eq, hmore, hD, hw]
  · obtain ⟨L, k, _, hk, hkB, _⟩ := uv_split BB_pos R
    have h' := Nat.mul_le_mul_right (2 ^ more) h
    rw [hx, hy] at h'
    exact div_le hn hbig hk hkB hab h'
  · obtain ⟨L, k, _, hk, hkB, _⟩ := uv_split BB_pos R
    have h' := Nat.mul_le_mul_right (2 ^ more) h
    rw [hx, hy] at h'
    exact div_ge hn hbig hk hkB hab h'

theorem sqrt_wd {r : Nat} (hr : r ≤ II) : ∃ p, p ≤ II ∧ double.sqrt (wd false r) = some (wd false p) ∧ (r = 0 → p = 0) := by
  by_cases c : r = II
  · subst c
    refine ⟨II, Nat.le_refl _, ?_, fun h => by revert h; decide⟩
    unfold Format.sqrt
    rw [read_inf]
    rfl
  · obtain ⟨m, e, h1, u1, _⟩ := read_wd false r (by omega)
    unfold Format.sqrt
    rw [h1]
    by_cases m0 : m = 0
    · obtain ⟨p, hp, hw, hle, _⟩ := near_wd false m (-1074 + (e : Int))
      refine ⟨p, hp, ?_, fun _ => ?_⟩
      · simp only [Datum.root, if_pos m0, Option.map_some, Format.write, hw]
      · exact Nat.le_zero.1 (hle 0 (by decide) (by rw [m0, Nat.zero_mul]; exact Nat.zero_le _))
    · simp only [Datum.root, if_neg m0, Option.map_some, Format.write, Bool.false_eq_true, if_false]
      obtain ⟨p, hp, hw, _⟩ := near_wd false (2 * Datum.rootFrom (m <<< (2 * (double.fractionBits + 2) - m.log2 + ((-1074 + (e : Int) - ((2 * (double.fractionBits + 2) - m.log2 : Nat) : Int)) % 2).toNat)) ((m <<< (2 * (double.fractionBits + 2) - m.log2 + ((-1074 + (e : Int) - ((2 * (double.fractionBits + 2) - m.log2 : Nat) : Int)) % 2).toNat)).log2 / 2 + 1) 0 + (Datum.rootFrom (m <<< (2 * (double.fractionBits + 2) - m.log2 + ((-1074 + (e : Int) - ((2 * (double.fractionBits + 2) - m.log2 : Nat) : Int)) % 2).toNat)) ((m <<< (2 * (double.fractionBits + 2) - m.log2 + ((-1074 + (e : Int) - ((2 * (double.fractionBits + 2) - m.log2 : Nat) : Int)) % 2).toNat)).log2 / 2 + 1) 0 * Datum.rootFrom (m <<< (2 * (double.fractionBits + 2) - m.log2 + ((-1074 + (e : Int) - ((2 * (double.fractionBits + 2) - m.log2 : Nat) : Int)) % 2).toNat)) ((m <<< (2 * (double.fractionBits + 2) - m.log2 + ((-1074 + (e : Int) - ((2 * (double.fractionBits + 2) - m.log2 : Nat) : Int)) % 2).toNat)).log2 / 2 + 1) 0 != m <<< (2 * (double.fractionBits + 2) - m.log2 + ((-1074 + (e : Int) - ((2 * (double.fractionBits + 2) - m.log2 : Nat) : Int)) % 2).toNat)).toNat) ((-1074 + (e : Int) - ((2 * (double.fractionBits + 2) - m.log2 + ((-1074 + (e : Int) - ((2 * (double.fractionBits + 2) - m.log2 : Nat) : Int)) % 2).toNat : Nat) : Int)) / 2 - 1)
      refine ⟨p, hp, by rw [hw], fun h => absurd ?_ m0⟩
      rw [h, uv0] at u1
      rcases Nat.mul_eq_zero.1 u1 with c2 | c2
      · exact c2
      · exact absurd c2 (Nat.pos_iff_ne_zero.1 (Nat.two_pow_pos _))
end Go.Proofs.YbulkbyeyDoor
