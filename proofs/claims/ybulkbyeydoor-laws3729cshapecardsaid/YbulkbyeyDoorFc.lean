/-
  The plain law of atan2Deg.
-/
import Derived.Test.YbulkbyeyDoorFb
namespace Go.Proofs.YbulkbyeyDoor
open Ieee
set_option linter.unusedVariables false
set_option exponentiation.threshold 3000

theorem horn_zero : Horn 0 (cw 5) := ⟨cw, fun i => wd (i % 2 == 1) 0, rfl, rfl, by decide +kernel⟩

theorem atan_zero : AtanTo 0 0 := by
  refine ⟨0, HALF, 0, 0, 0, EIGHT, 0, 0, 0, cw 5, SS, 0, 0, 0, ?_⟩
  exact ⟨by decide, by decide +kernel, by decide +kernel, by decide +kernel, by decide +kernel, by decide +kernel, by decide +kernel, by decide +kernel, by decide +kernel, by decide +kernel, by decide +kernel, horn_zero, by decide +kernel, by decide +kernel, by decide +kernel, by decide +kernel⟩
theorem atan_one : AtanTo ONE C45 := by
  refine ⟨EIGHT, R85, EIGHT, 0, EIGHT, R16, 0, 0, 0, cw 5, SS, 0, 0, 8, ?_⟩
  exact ⟨by decide, by decide +kernel, by decide +kernel, by decide +kernel, by decide +kernel, by decide +kernel, by decide +kernel, by decide +kernel, by decide +kernel, by decide +kernel, by decide +kernel, horn_zero, by decide +kernel, by decide +kernel, by decide +kernel, by decide +kernel⟩

theorem atan_ok {q : Nat} (hq : q ≤ ONE) : ∃ p, p ≤ C90 ∧ AtanTo (wd false q) (wd false p) ∧ (q = 0 → p = 0) ∧ (q = ONE → p = C45) := by
  by_cases c0 : q = 0
  · subst c0
    exact ⟨0, Nat.zero_le _, atan_zero, fun _ => rfl, fun h => by revert h; decide⟩
  · by_cases c1 : q = ONE
    · subst c1
      exact ⟨C45, by decide, atan_one, fun h => absurd h c0, fun _ => rfl⟩
    · obtain ⟨p, hp, h⟩ := atan_gen hq
      exact ⟨p, hp, h, fun h => absurd h c0, fun h => absurd h c1⟩

theorem order_f {a b : Nat} (ha : a < II) (hb : b ≤ II) : double.order (wd false a) (wd false b) = some (compare a b) := by
  by_cases c : b = II
  · subst c
    obtain ⟨m, e, h1, _, _⟩ := read_wd false a ha
    unfold Format.order
    rw [h1, read_inf]
    simp only [Datum.order, Bool.false_eq_true, if_false]
    rw [Nat.compare_eq_lt.2 ha]
  · rw [order_wd ha (by omega), sv_f, sv_f]
    congr 1
    rcases Nat.lt_trichotomy a b with h | h | h
    · have := uvlt h
      rw [Nat.compare_eq_lt.2 h, Int.compare_eq_lt.2 (by omega)]
    · subst h; rw [Nat.compare_eq_eq.2 rfl, Int.compare_eq_eq.2 rfl]
    · have := uvlt h
      rw [Nat.compare_eq_gt.2 h, Int.compare_eq_gt.2 (by omega)]

theorem order_z {s : Bool} {b : Nat} (hb : b ≤ II) : (double.order (wd s b) 0 != some .eq) = decide (b ≠ 0) := by
  by_cases c : b = II
  · subst c; cases s <;> decide
  · have e : double.order (wd s b) 0 = some (compare (sv s b) (sv false 0)) := order_wd (s := s) (t := false) (r := b) (q := 0) (by omega) (by decide)
    rw [e, sv_f, uv0]
    by_cases z : b = 0
    · subst z
      have : sv s 0 = 0 := by cases s <;> simp [sv, uv0]
      rw [this]; decide
    · have hp := uvpos z
      have : sv s b ≠ 0 := by cases s <;> simp [sv] <;> omega
      have h2 : compare (sv s b) ((0 : Nat) : Int) ≠ .eq := fun h => this (Int.compare_eq_eq.1 h)
      rw [decide_eq_true z]
      simp only [bne_iff_ne, ne_eq, Option.some.injEq]
      exact h2

/-- near / far. -/
theorem ratio {n f : Nat} (hn : n < II) (hf : f ≤ II) (h : n ≤ f) (f0 : f ≠ 0) : ∃ q, q ≤ ONE ∧ double.div (wd false n) (wd false f) = some (wd false q) ∧ (n = 0 → q = 0) ∧ (n = f → q = ONE) := by
  by_cases c : f = II
  · subst c
    refine ⟨0, Nat.zero_le _, ?_, fun _ => rfl, fun e => by omega⟩
    obtain ⟨m, e, h1, _, _⟩ := read_wd false n hn
    unfold Format.div
    rw [h1, read_inf]
    rfl
  · obtain ⟨p, _, h1, h2, h3⟩ := div_wd (s := false) (t := false) (r := n) (q := f) hn (by omega) f0
    have e : uv ONE = 2 ^ 1074 := uvONE
    refine ⟨p, h2 ONE (by decide) ?_, h1, fun z => Nat.le_zero.1 (h2 0 (by decide) ?_), fun z => Nat.le_antisymm (h2 ONE (by decide) ?_) (h3 ONE (by decide) ?_)⟩
    · rw [e, Nat.mul_comm]; exact Nat.mul_le_mul_left _ (uvle h)
    · rw [z, uv0, Nat.zero_mul]; exact Nat.zero_le _
    · rw [e, Nat.mul_comm]; exact Nat.mul_le_mul_left _ (uvle h)
    · rw [e, z, Nat.mul_comm]; exact Nat.le_refl _

/-- What atan2Deg does at (y, x): y = wd sy ry, x = wd sx rx. -/
structure A2Run (ry rx : Nat) (sx : Bool) (near far t a a1 a2 : Nat) : Prop where
  nf : (near, far) = if rx < ry then (rx, ry) else (ry, rx)
  dv : far ≠ 0 → double.div (wd false near) (wd false far) = some t ∧ AtanTo t a
  dz : far = 0 → a = 0
  st : rx < ry → double.sub C90 a = some a1
  fl : ¬ rx < ry → a1 = a
  ng : sx = true → double.sub C180 a1 = some a2
  ps : sx = false → a2 = a1
def C135 : Nat := 4638953906796232704
theorem uvC135 : uv C135 = 135 * UU := by decide +kernel

theorem sub_exact {c p g : Nat} (hc : c < II) (hp : p < II) (h : p ≤ c) (hg : g ≤ c) (e : uv p + uv g = uv c) : double.sub (wd false c) (wd false p) = some (wd false g) := by
  obtain ⟨x, _, h1, h2, h3⟩ := sub_wd (s := false) (t := false) (r := c) (q := p) hc hp _ rfl
  have b := uvle h
  rw [Bool.not_false, sv_f, sv_t] at h1 h2 h3
  have sg : (if (uv c : Int) + -(uv p : Int) = 0 then false && true else decide ((uv c : Int) + -(uv p : Int) < 0)) = false := signIf _ (by omega)
  rw [sg] at h1
  have l := h2 g (by omega) (by omega)
  have m := h3 g (by omega) (by omega)
  rw [h1, Nat.le_antisymm l m]
theorem sub_any {c p : Nat} (hc : c < II) (h : p ≤ c) : ∃ g, g ≤ c ∧ double.sub (wd false c) (wd false p) = some (wd false g) := by
  obtain ⟨x, _, h1, h2, h3⟩ := sub_wd (s := false) (t := false) (r := c) (q := p) hc (by omega) _ rfl
  have b := uvle h
  rw [Bool.not_false, sv_f, sv_t] at h1 h2 h3
  have sg : (if (uv c : Int) + -(uv p : Int) = 0 then false && true else decide ((uv c : Int) + -(uv p : Int) < 0)) = false := signIf _ (by omega)
  rw [sg] at h1
  exact ⟨x, h2 c hc (by omega), h1⟩

theorem atan2_ok {ry rx : Nat} {sx : Bool} (hy : ry < II) (hx : rx < II ∨ (rx = II ∧ sx = false)) : ∃ near far t a a1 p2, A2Run ry rx sx near far t a a1 (wd false p2) ∧ p2 ≤ C180 ∧ (sx = false → p2 ≤ C90) ∧
    (ry = 0 → rx ≠ 0 → sx = false → p2 = 0) ∧ (ry = 0 → rx ≠ 0 → sx = true → p2 = C180) ∧ (rx = 0 → ry ≠ 0 → p2 = C90) ∧ (ry = 0 → rx = 0 → sx = false → p2 = 0) ∧
    (ry = rx → rx ≠ 0 → sx = false → p2 = C45) ∧ (ry = rx → rx ≠ 0 → sx = true → p2 = C135) := by
  have J1 : C90 < II := by decide
  have J2 : C180 < II := by decide
  have J3 : C45 ≤ C180 := by decide
  have J4 : C90 ≤ C180 := by decide
  have J5 : C135 ≤ C180 := by decide
  have c90 := uvC90
  have c180 := uvC180
  have c45 := uvC45
  have c135 := uvC135
  have hx' : rx ≤ II := by omega
  obtain ⟨near, far, hnf⟩ : ∃ near far, (near, far) = if rx < ry then (rx, ry) else (ry, rx) := ⟨_, _, rfl⟩
  have hle : near ≤ far ∧ near < II ∧ far ≤ II ∧ (rx < ry → near = rx ∧ far = ry) ∧ (¬ rx < ry → near = ry ∧ far = rx) := by
    by_cases c : rx < ry
    · rw [if_pos c] at hnf
      injection hnf with e1 e2
      subst e1 e2
      exact ⟨by omega, by omega, by omega, fun _ => ⟨rfl, rfl⟩, fun h => absurd c h⟩
    · rw [if_neg c] at hnf
      injection hnf with e1 e2
      subst e1 e2
      exact ⟨by omega, by omega, by omega, fun h => absurd h c, fun _ => ⟨rfl, rfl⟩⟩
  obtain ⟨l1, l2, l3, l4, l5⟩ := hle
  -- the angle from the nearer axis
  obtain ⟨t, p, hp, hd, hz, ha0, ha1⟩ : ∃ t p, p ≤ C90 ∧ (far ≠ 0 → double.div (wd false near) (wd false far) = some t ∧ AtanTo t (wd false p)) ∧ (far = 0 → p = 0) ∧ (near = 0 → p = 0) ∧ (near = far → far ≠ 0 → p = C45) := by
    by_cases f0 : far = 0
    · exact ⟨0, 0, Nat.zero_le _, fun h => absurd f0 h, fun _ => rfl, fun _ => rfl, fun _ h => absurd f0 h⟩
    · obtain ⟨q, hq, h1, h2, h3⟩ := ratio l2 l3 l1 f0
      obtain ⟨p, hp, g1, g2, g3⟩ := atan_ok hq
      exact ⟨wd false q, p, hp, fun _ => ⟨h1, g1⟩, fun h => absurd h f0, fun h => g2 (h2 h), fun h _ => g3 (h3 h)⟩
  -- steep
  obtain ⟨p1, hp1, hs1, hs2, e90⟩ : ∃ p1, p1 ≤ C90 ∧ (rx < ry → double.sub C90 (wd false p) = some (wd false p1)) ∧ (¬ rx < ry → p1 = p) ∧ (rx < ry → p = 0 → p1 = C90) := by
    by_cases c : rx < ry
    · by_cases z : p = 0
      · subst z
        exact ⟨C90, Nat.le_refl _, fun _ => sub_exact (c := C90) J1 (by decide) (Nat.zero_le _) (Nat.le_refl _) (by rw [uv0]; omega), fun h => absurd c h, fun _ _ => rfl⟩
      · obtain ⟨g, hg, h⟩ := sub_any (c := C90) J1 hp
        exact ⟨g, hg, fun _ => h, fun h => absurd c h, fun _ h => absurd h z⟩
    · exact ⟨p, hp, fun h => absurd h c, fun _ => rfl, fun h => absurd h c⟩
  cases sx with
  | false =>
    refine ⟨near, far, t, wd false p, wd false p1, p1, ⟨hnf, hd, fun h => by rw [hz h]; rfl, hs1, fun h => by rw [hs2 h], fun h => by simp at h, fun _ => rfl⟩, by omega, fun _ => hp1, ?_, fun _ _ h => by simp at h, ?_, ?_, ?_, fun _ _ h => by simp at h⟩
    · intro y0 x0 _
      have c : ¬ rx < ry := by omega
      rw [hs2 c, ha0 (by rw [(l5 c).1, y0])]
    · intro x0 y0
      have c : rx < ry := by omega
      exact e90 c (ha0 (by rw [(l4 c).1, x0]))
    · intro y0 x0 _
      have c : ¬ rx < ry := by omega
      rw [hs2 c, hz (by rw [(l5 c).2, x0])]
    · intro e x0 _
      have c : ¬ rx < ry := by omega
      rw [hs2 c, ha1 (by rw [(l5 c).1, (l5 c).2, e]) (by rw [(l5 c).2]; exact x0)]
  | true =>
    have hxf : rx < II := by
      rcases hx with h | h
      · exact h
      · exact absurd h.2 (by simp)
    obtain ⟨p2, hp2, h2, k0, k45, k90⟩ : ∃ p2, p2 ≤ C180 ∧ double.sub C180 (wd false p1) = some (wd false p2) ∧ (p1 = 0 → p2 = C180) ∧ (p1 = C45 → p2 = C135) ∧ (p1 = C90 → p2 = C90) := by
      by_cases z : p1 = 0
      · subst z
        exact ⟨C180, Nat.le_refl _, sub_exact (c := C180) J2 (by decide) (Nat.zero_le _) (Nat.le_refl _) (by rw [uv0]; omega), fun _ => rfl, fun h => by revert h; decide, fun h => by revert h; decide⟩
      · by_cases z45 : p1 = C45
        · subst z45
          exact ⟨C135, J5, sub_exact (c := C180) J2 (by decide) (by decide) J5 (by omega), fun h => absurd h z, fun _ => rfl, fun h => by revert h; decide⟩
        · by_cases z90 : p1 = C90
          · subst z90
            exact ⟨C90, J4, sub_exact (c := C180) J2 (by decide) (by decide) J4 (by omega), fun h => absurd h z, fun h => absurd h z45, fun _ => rfl⟩
          · obtain ⟨g, hg, h⟩ := sub_any (c := C180) (p := p1) J2 (by omega)
            exact ⟨g, hg, h, fun h => absurd h z, fun h => absurd h z45, fun h => absurd h z90⟩
    refine ⟨near, far, t, wd false p, wd false p1, p2, ⟨hnf, hd, fun h => by rw [hz h]; rfl, hs1, fun h => by rw [hs2 h], fun _ => h2, fun h => by simp at h⟩, hp2, fun h => by simp at h, fun _ _ h => by simp at h, ?_, ?_, fun _ _ h => by simp at h, fun _ _ h => by simp at h, ?_⟩
    · intro y0 x0 _
      have c : ¬ rx < ry := by omega
      exact k0 (by rw [hs2 c, ha0 (by rw [(l5 c).1, y0])])
    · intro x0 y0
      have c : rx < ry := by omega
      exact k90 (e90 c (ha0 (by rw [(l4 c).1, x0])))
    · intro e x0 _
      have c : ¬ rx < ry := by omega
      exact k45 (by rw [hs2 c, ha1 (by rw [(l5 c).1, (l5 c).2, e]) (by rw [(l5 c).2]; exact x0)])
end Go.Proofs.YbulkbyeyDoor
