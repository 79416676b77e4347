/-
  The operations on float64's words: each result keeps every bound that is a word.
-/
import Derived.Test.YbulkbyeyDoorFl
namespace Go.Proofs.YbulkbyeyDoor
open Ieee
set_option linter.unusedVariables false

/-- Rungs to a binade; the rung of infinity; the sign's weight; one, scaled. -/
def BB : Nat := 2 ^ 52
def II : Nat := 2047 * BB
def SS : Nat := 2 ^ 63
theorem BB_pos : 0 < BB := Nat.two_pow_pos _
theorem II_lt_SS : II < SS := by decide
/-- The magnitude, scaled; the word of a sign and a rung; the number, scaled. -/
def uv (R : Nat) : Nat := uvB BB R
def wd (s : Bool) (r : Nat) : Nat := if s then SS + r else r
def sv (s : Bool) (r : Nat) : Int := if s then -(uv r : Int) else uv r
theorem word_eq (s : Bool) (r : Nat) : double.word s r = wd s r := rfl

theorem uvlt {R S : Nat} (h : R < S) : uv R < uv S := uv_lt BB_pos h
theorem uvle {R S : Nat} (h : R ≤ S) : uv R ≤ uv S := uv_le BB_pos h
theorem leuv {R S : Nat} (h : uv R ≤ uv S) : R ≤ S := le_of_uv BB_pos h
theorem uv0 : uv 0 = 0 := uv_zero BB_pos
theorem uvpos {R : Nat} (h : R ≠ 0) : 0 < uv R := by
  have := uvlt (show 0 < R by omega)
  rwa [uv0] at this

theorem near_wd (neg : Bool) (mag : Nat) (place : Int) : ∃ r, r ≤ II ∧ double.nearest neg mag place = wd neg r ∧
    (∀ R, R < II → mag * 2 ^ (place + 1074).toNat ≤ uv R * 2 ^ (-(place + 1074)).toNat → r ≤ R) ∧
    (∀ R, R ≤ II → uv R * 2 ^ (-(place + 1074)).toNat ≤ mag * 2 ^ (place + 1074).toNat → R ≤ r) :=
  near_spec BB II rfl rfl neg mag place

theorem wd_sign (s : Bool) (r : Nat) (h : r < SS) : (wd s r / SS % 2 == 1) = s := by
  unfold wd
  have h1 : r / SS = 0 := Nat.div_eq_of_lt h
  have h0 : 0 < SS := Nat.two_pow_pos _
  cases s
  · simp [h1]
  · simp [Nat.add_div_left r h0, h1]
theorem wd_rung (s : Bool) (r : Nat) (h : r < SS) : wd s r % SS = r := by
  unfold wd
  cases s
  · simpa using Nat.mod_eq_of_lt h
  · simpa using Nat.mod_eq_of_lt h

theorem read_wd (s : Bool) (r : Nat) (h : r < II) : ∃ m e : Nat, double.read (wd s r) = .number s m (-1074 + (e : Int)) ∧ m * 2 ^ e = uv r ∧ m < 2 * BB := by
  have hS : r < SS := Nat.lt_trans h II_lt_SS
  unfold Format.read
  have e1 : double.signWeight = SS := rfl
  have e2 : double.binade = BB := rfl
  have e3 : double.infRung = II := rfl
  rw [e1, e2, e3, double_least, wd_sign s r hS, wd_rung s r hS]
  by_cases c : r < BB
  · refine ⟨r, 0, by simp [c], ?_, by omega⟩
    unfold uv uvB; rw [if_pos c]; simp
  · refine ⟨BB + r % BB, r / BB - 1, by simp only [if_neg c, if_pos h], ?_, ?_⟩
    · unfold uv uvB; rw [if_neg c]
    · have := Nat.mod_lt r BB_pos; omega

theorem read_inf (s : Bool) : double.read (wd s II) = .infinity s := by cases s <;> decide

theorem mul_wd {s t : Bool} {r q : Nat} (hr : r < II) (hq : q < II) : ∃ p, p ≤ II ∧ double.mul (wd s r) (wd t q) = some (wd (s ^^ t) p) ∧
    (∀ R, R < II → uv r * uv q ≤ uv R * 2 ^ 1074 → p ≤ R) ∧ (∀ R, R ≤ II → uv R * 2 ^ 1074 ≤ uv r * uv q → R ≤ p) := by
  obtain ⟨m, e, h1, u1, _⟩ := read_wd s r hr
  obtain ⟨n, f, h2, u2, _⟩ := read_wd t q hq
  obtain ⟨p, hp, hw, hle, hge⟩ := near_wd (s ^^ t) (m * n) (-1074 + (e : Int) + (-1074 + (f : Int)))
  refine ⟨p, hp, ?_, fun R hR h => hle R hR ?_, fun R hR h => hge R hR ?_⟩
  · unfold Format.mul
    rw [h1, h2]
    simp only [Datum.product, Option.map_some, Format.write, hw]
  all_goals
    rw [← u1, ← u2, show m * 2 ^ e * (n * 2 ^ f) = m * n * 2 ^ (e + f) by rw [Nat.pow_add]; simp only [Nat.mul_assoc, Nat.mul_left_comm]] at h
    generalize ha : (-1074 + (e : Int) + (-1074 + (f : Int)) + 1074).toNat = a
    generalize hb : (-(-1074 + (e : Int) + (-1074 + (f : Int)) + 1074)).toNat = b
    have hs : a + 1074 = (e + f) + b := by omega
    refine (pow_cancel (C := 1074)).1 ?_
    rw [hs, Nat.add_comm b 1074]
    exact pow_cancel.2 h

theorem signed_eq (s : Bool) (m up : Nat) : signed s m up = if s then -((m * 2 ^ up : Nat) : Int) else ((m * 2 ^ up : Nat) : Int) := by
  unfold signed; rw [Nat.shiftLeft_eq]

theorem sum_core {s t : Bool} {r q : Nat} {m e n f : Nat} (u1 : m * 2 ^ e = uv r) (u2 : n * 2 ^ f = uv q) (sum : Int) (hsum : sum = sv s r + sv t q) :
    ∃ p, p ≤ II ∧ (Datum.sum (.number s m (-1074 + (e : Int))) (.number t n (-1074 + (f : Int)))).map double.write = some (wd (if sum = 0 then s && t else decide (sum < 0)) p) ∧
      (∀ R, R < II → sum.natAbs ≤ uv R → p ≤ R) ∧ (∀ R, R ≤ II → uv R ≤ sum.natAbs → R ≤ p) := by
  simp only [Datum.sum, Option.map_some, Format.write]
  generalize hbase : min (-1074 + (e : Int)) (-1074 + (f : Int)) = base
  obtain ⟨g, hg⟩ : ∃ g : Nat, base = -1074 + (g : Int) := ⟨min e f, by omega⟩
  have hge : g ≤ e := by omega
  have hgf : g ≤ f := by omega
  have i1 : (-1074 + (e : Int) - base).toNat = e - g := by omega
  have i2 : (-1074 + (f : Int) - base).toNat = f - g := by omega
  rw [i1, i2, signed_eq, signed_eq]
  generalize hT : ((if s then -((m * 2 ^ (e - g) : Nat) : Int) else ((m * 2 ^ (e - g) : Nat) : Int)) + (if t then -((n * 2 ^ (f - g) : Nat) : Int) else ((n * 2 ^ (f - g) : Nat) : Int))) = T
  have p1 : m * 2 ^ (e - g) * 2 ^ g = uv r := by rw [Nat.mul_assoc, ← Nat.pow_add, Nat.sub_add_cancel hge, u1]
  have p2 : n * 2 ^ (f - g) * 2 ^ g = uv q := by rw [Nat.mul_assoc, ← Nat.pow_add, Nat.sub_add_cancel hgf, u2]
  have hTS : T * ((2 ^ g : Nat) : Int) = sum := by
    rw [← hT, hsum, Int.add_mul]
    congr 1
    · unfold sv; rw [← p1]; cases s
      · simp [Int.natCast_mul]
      · simp [Int.natCast_mul, Int.neg_mul]
    · unfold sv; rw [← p2]; cases t
      · simp [Int.natCast_mul]
      · simp [Int.natCast_mul, Int.neg_mul]
  have hpos : (0 : Int) < ((2 ^ g : Nat) : Int) := Int.natCast_pos.2 (Nat.two_pow_pos _)
  have z0 : T = 0 ↔ sum = 0 := by
    rw [← hTS]
    constructor
    · intro h; rw [h, Int.zero_mul]
    · intro h; exact (Int.mul_eq_zero.1 h).resolve_right (by omega)
  have zn : T < 0 ↔ sum < 0 := by
    rw [← hTS]
    constructor
    · intro h; exact Int.mul_neg_of_neg_of_pos h hpos
    · intro h
      apply Classical.byContradiction
      intro c
      have := Int.mul_nonneg (show 0 ≤ T by omega) (Int.le_of_lt hpos)
      omega
  have hsg : (if T = 0 then s && t else decide (T < 0)) = (if sum = 0 then s && t else decide (sum < 0)) := by
    by_cases c : sum = 0
    · rw [if_pos c, if_pos (z0.2 c)]
    · rw [if_neg c, if_neg (fun h => c (z0.1 h))]
      exact decide_eq_decide.2 zn
  rw [hsg]
  obtain ⟨p, hp, hw, hle, hge'⟩ := near_wd (if sum = 0 then s && t else decide (sum < 0)) T.natAbs base
  have habs : T.natAbs * 2 ^ (base + 1074).toNat = sum.natAbs := by
    rw [show (base + 1074).toNat = g by omega, ← hTS, Int.natAbs_mul, Int.natAbs_natCast]
  have hz : (-(base + 1074)).toNat = 0 := by omega
  rw [hz, habs] at hle hge'
  simp only [Nat.pow_zero, Nat.mul_one] at hle hge'
  exact ⟨p, hp, by rw [hw], hle, hge'⟩

theorem add_wd {s t : Bool} {r q : Nat} (hr : r < II) (hq : q < II) (sum : Int) (hsum : sum = sv s r + sv t q) : ∃ p, p ≤ II ∧ double.add (wd s r) (wd t q) = some (wd (if sum = 0 then s && t else decide (sum < 0)) p) ∧
    (∀ R, R < II → sum.natAbs ≤ uv R → p ≤ R) ∧ (∀ R, R ≤ II → uv R ≤ sum.natAbs → R ≤ p) := by
  obtain ⟨m, e, h1, u1, _⟩ := read_wd s r hr
  obtain ⟨n, f, h2, u2, _⟩ := read_wd t q hq
  unfold Format.add
  rw [h1, h2]
  exact sum_core u1 u2 sum hsum

theorem sub_wd {s t : Bool} {r q : Nat} (hr : r < II) (hq : q < II) (sum : Int) (hsum : sum = sv s r + sv (!t) q) : ∃ p, p ≤ II ∧ double.sub (wd s r) (wd t q) = some (wd (if sum = 0 then s && !t else decide (sum < 0)) p) ∧
    (∀ R, R < II → sum.natAbs ≤ uv R → p ≤ R) ∧ (∀ R, R ≤ II → uv R ≤ sum.natAbs → R ≤ p) := by
  obtain ⟨m, e, h1, u1, _⟩ := read_wd s r hr
  obtain ⟨n, f, h2, u2, _⟩ := read_wd t q hq
  unfold Format.sub
  rw [h1, h2]
  exact sum_core u1 u2 sum hsum

theorem order_wd {s t : Bool} {r q : Nat} (hr : r < II) (hq : q < II) : double.order (wd s r) (wd t q) = some (compare (sv s r) (sv t q)) := by
  obtain ⟨m, e, h1, u1, _⟩ := read_wd s r hr
  obtain ⟨n, f, h2, u2, _⟩ := read_wd t q hq
  unfold Format.order
  rw [h1, h2]
  simp only [Datum.order]
  generalize hbase : min (-1074 + (e : Int)) (-1074 + (f : Int)) = base
  obtain ⟨g, hg⟩ : ∃ g : Nat, base = -1074 + (g : Int) := ⟨min e f, by omega⟩
  have hge : g ≤ e := by omega
  have hgf : g ≤ f := by omega
  have i1 : (-1074 + (e : Int) - base).toNat = e - g := by omega
  have i2 : (-1074 + (f : Int) - base).toNat = f - g := by omega
  rw [i1, i2, signed_eq, signed_eq]
  have p1 : m * 2 ^ (e - g) * 2 ^ g = uv r := by rw [Nat.mul_assoc, ← Nat.pow_add, Nat.sub_add_cancel hge, u1]
  have p2 : n * 2 ^ (f - g) * 2 ^ g = uv q := by rw [Nat.mul_assoc, ← Nat.pow_add, Nat.sub_add_cancel hgf, u2]
  have hpos : (0 : Int) < ((2 ^ g : Nat) : Int) := Int.natCast_pos.2 (Nat.two_pow_pos _)
  generalize hX : (if s then -((m * 2 ^ (e - g) : Nat) : Int) else ((m * 2 ^ (e - g) : Nat) : Int)) = X
  generalize hY : (if t then -((n * 2 ^ (f - g) : Nat) : Int) else ((n * 2 ^ (f - g) : Nat) : Int)) = Y
  have x1 : sv s r = X * ((2 ^ g : Nat) : Int) := by
    rw [← hX]; unfold sv; rw [← p1]; cases s
    · simp [Int.natCast_mul]
    · simp [Int.natCast_mul, Int.neg_mul]
  have y1 : sv t q = Y * ((2 ^ g : Nat) : Int) := by
    rw [← hY]; unfold sv; rw [← p2]; cases t
    · simp [Int.natCast_mul]
    · simp [Int.natCast_mul, Int.neg_mul]
  rw [x1, y1]
  congr 1
  rcases Int.lt_trichotomy X Y with c | c | c
  · have c2 := Int.mul_lt_mul_of_pos_right c hpos
    rw [Int.compare_eq_lt.2 c, Int.compare_eq_lt.2 c2]
  · rw [c, Int.compare_eq_eq.2 rfl, Int.compare_eq_eq.2 rfl]
  · have c2 := Int.mul_lt_mul_of_pos_right c hpos
    rw [Int.compare_eq_gt.2 c, Int.compare_eq_gt.2 c2]
end Go.Proofs.YbulkbyeyDoor
