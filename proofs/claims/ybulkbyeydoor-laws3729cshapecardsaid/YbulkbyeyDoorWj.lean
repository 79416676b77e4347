/-
  What latLngOf hands back fits what LawS3729CShape asks: the plain law.
-/
import Derived.Test.YbulkbyeyDoorWe
import Derived.Test.YbulkbyeyDoorWf
namespace Go.Proofs.YbulkbyeyDoor
open Go.RowKit Ieee
set_option linter.unusedVariables false

theorem ord0 {s : Bool} {r : Nat} (h : r < II) : double.order (wd s r) 0 = some (compare (sv s r) 0) := by
  have e : double.order (wd s r) (wd false 0) = some (compare (sv s r) (sv false 0)) := order_wd h (by decide)
  rw [sv_f, uv0] at e
  exact e
theorem cmp_eq {s : Bool} {r : Nat} (h : compare (sv s r) 0 = .eq) : r = 0 := by
  have h := Int.compare_eq_eq.1 h
  by_cases z : r = 0
  · exact z
  · have := uvpos z
    cases s <;> simp only [sv_f, sv_t] at h <;> omega
theorem cmp_gt {s : Bool} {r : Nat} (h : compare (sv s r) 0 = .gt) : s = false ∧ r ≠ 0 := by
  have h := Int.compare_eq_gt.1 h
  have z : r ≠ 0 := by
    intro z; subst z
    cases s <;> simp only [sv_f, sv_t, uv0] at h <;> omega
  cases s
  · exact ⟨rfl, z⟩
  · simp only [sv_t] at h; omega
theorem cmp_lt {s : Bool} {r : Nat} (h : compare (sv s r) 0 = .lt) : s = true ∧ r ≠ 0 := by
  have h := Int.compare_eq_lt.1 h
  have z : r ≠ 0 := by
    intro z; subst z
    cases s <;> simp only [sv_f, sv_t, uv0] at h <;> omega
  cases s
  · simp only [sv_f] at h; omega
  · exact ⟨rfl, z⟩
theorem not_lt0 {r : Nat} (h : r < II) : double.order (wd false r) 0 ≠ some .lt := by
  rw [ord0 h]; intro e
  exact absurd (cmp_lt (Option.some.inj e)).1 (by simp)
theorem not_gt0 {r : Nat} (h : r < II) : double.order (wd true r) 0 ≠ some .gt := by
  rw [ord0 h]; intro e
  exact absurd (cmp_gt (Option.some.inj e)).1 (by simp)
theorem eq_ord {s t : Bool} {p q : Nat} (hp : p < II) (hq : q < II) (h : double.order (wd s p) (wd t q) = some .eq) : sv s p = sv t q := by
  rw [order_wd hp hq] at h
  exact Int.compare_eq_eq.1 (Option.some.inj h)
theorem sv_not (s : Bool) (r : Nat) : sv (!s) r = - sv s r := by cases s <;> simp [sv]

theorem shape_ok {sx sy sz : Bool} {rx ry rz pq pl pn : Nat} (hx : rx < II) (hy : ry < II) (hz : rz < II) (zq : rx = 0 → ry = 0 → pq = 0)
    (hl : pl ≤ C90) (hn : pn ≤ C180)
    (l1 : pq = 0 → rz ≠ 0 → pl = C90) (l2 : rz = 0 → pq = 0 → pl = 0)
    (n1 : ry = 0 → rx ≠ 0 → sx = false → pn = 0) (n2 : ry = 0 → rx ≠ 0 → sx = true → pn = C180) (n3 : rx = 0 → ry ≠ 0 → pn = C90)
    (n4 : ry = rx → rx ≠ 0 → sx = false → pn = C45) (n5 : ry = rx → rx ≠ 0 → sx = true → pn = C135) :
    Shape (wd sx rx) (wd sy ry) (wd (!sx) rx) (latF sz pl) (lngF rx ry sy pn) (compare (sv sx rx) 0) (compare (sv sy ry) 0) (compare (sv sz rz) 0) where
  a0 := fun a b => by
    rw [lngF, if_pos ⟨cmp_eq a, cmp_eq b⟩]; decide
  a1 := fun a b c => by
    have h := cmp_gt c
    have e := l1 (zq (cmp_eq a) (cmp_eq b)) h.2
    rw [latF, e, h.1]; decide
  a2 := fun a b c => by
    have h := cmp_lt c
    have e := l1 (zq (cmp_eq a) (cmp_eq b)) h.2
    rw [latF, e, h.1]; decide
  a3 := fun a b c => by
    have e := l2 (cmp_eq c) (zq (cmp_eq a) (cmp_eq b))
    rw [latF, e, if_pos rfl]; decide
  b1 := fun a b => by
    have h := cmp_gt b
    have e := n3 (cmp_eq a) h.2
    rw [lngF, if_neg (fun k => h.2 k.2), e, h.1]; decide
  b2 := fun a b => by
    have h := cmp_lt b
    have e := n3 (cmp_eq a) h.2
    rw [lngF, if_neg (fun k => h.2 k.2), e, h.1]; decide
  b3 := fun a b => by
    have h := cmp_gt b
    have e := n1 (cmp_eq a) h.2 h.1
    rw [lngF, if_neg (fun k => h.2 k.1), e, if_neg (fun k => absurd k.2 (by decide)), if_pos rfl]; decide
  b4 := fun a b => by
    have h := cmp_lt b
    have e := n2 (cmp_eq a) h.2 h.1
    rw [lngF, if_neg (fun k => h.2 k.1), e]
    cases sy <;> decide
  b5 := fun a b => by
    have h := cmp_gt a
    have e := sv_inj (eq_ord hy hx b) h.2
    have k := n4 e.2 h.2 h.1
    rw [lngF, if_neg (fun k => h.2 k.1), k, e.1, h.1]; decide
  b6 := fun a b => by
    have h := cmp_gt a
    have e := sv_inj (eq_ord hy hx b) h.2
    have k := n4 e.2 h.2 h.1
    rw [lngF, if_neg (fun k => h.2 k.1), k, e.1, h.1]; decide
  b7 := fun a b => by
    have h := cmp_lt a
    have e := sv_inj (eq_ord hy hx b) h.2
    have k := n5 e.2 h.2 h.1
    rw [lngF, if_neg (fun k => h.2 k.1), k, e.1, h.1]; decide
  c1 := fun a => by
    have h := cmp_gt a
    have J : C90 < II := by decide
    rw [latF, h.1]
    split
    · decide
    · exact not_lt0 (by omega)
  c2 := fun a => by
    have h := cmp_lt a
    have J : C90 < II := by decide
    rw [latF, h.1]
    split
    · decide
    · exact not_gt0 (by omega)
  d1 := fun a => by
    have h := cmp_gt a
    have J : C180 < II := by decide
    rw [lngF, h.1]
    split
    · decide
    · split
      · decide
      · split
        · decide
        · exact not_lt0 (by omega)
  d2 := fun a => by
    have h := cmp_lt a
    have J : C180 < II := by decide
    rw [lngF, h.1]
    split
    · right; left; decide
    · split
      · right; right; decide
      · split
        · right; left; decide
        · rename_i z
          left
          have : double.order (wd true pn) 0 = some .lt := by
            rw [ord0 (by omega), sv_t]
            have := uvpos z
            rw [Int.compare_eq_lt.2 (by omega)]
          exact this
  e1 := fun a b => by
    have e := eq_ord hy hx b
    rw [e] at a
    exact a rfl
  e2 := fun a c b => by
    have e := eq_ord hy hx b
    rw [sv_not] at e
    have h := Int.compare_eq_gt.1 a
    exact c (Int.compare_eq_lt.2 (by omega))

/-- The two angles as words, and what zzs3729cgood asks of them. -/
theorem ang_ok {sy sz : Bool} {rx ry pl pn : Nat} (hl : pl ≤ C90) (hn : pn ≤ C180) : ∃ sl L sn N, latF sz pl = wd sl L ∧ lngF rx ry sy pn = wd sn N ∧ Ang sl L sn N := by
  have hL : ∃ sl L, latF sz pl = wd sl L ∧ L ≤ C90 ∧ (L = 0 → sl = false) := by
    unfold latF
    split
    · exact ⟨false, 0, rfl, by decide, fun _ => rfl⟩
    · rename_i z
      exact ⟨sz, pl, rfl, hl, fun h => absurd h z⟩
  have hN : ∃ sn N, lngF rx ry sy pn = wd sn N ∧ N ≤ C180 ∧ (N = 0 → sn = false) ∧ ¬ (sn = true ∧ N = C180) := by
    unfold lngF
    split
    · exact ⟨false, 0, rfl, by decide, fun _ => rfl, by simp⟩
    · split
      · exact ⟨false, C180, rfl, Nat.le_refl _, fun _ => rfl, by simp⟩
      · rename_i k
        split
        · exact ⟨false, 0, rfl, by decide, fun _ => rfl, by simp⟩
        · rename_i z
          exact ⟨sy, pn, rfl, hn, fun h => absurd h z, k⟩
  obtain ⟨sl, L, e1, a1, a2⟩ := hL
  obtain ⟨sn, N, e2, b1, b2, b3⟩ := hN
  exact ⟨sl, L, sn, N, e1, e2, a1, b1, a2, b2, b3⟩
end Go.Proofs.YbulkbyeyDoor
