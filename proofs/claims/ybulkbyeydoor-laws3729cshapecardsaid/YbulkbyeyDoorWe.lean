/-
  The walk of zzs3729cgood (15).
-/
import Derived.Test.YbulkbyeyDoorWd
namespace Go.Proofs.YbulkbyeyDoor
open Go.RowKit Ieee
set_option linter.unusedVariables false

theorem sv_le_c {s : Bool} {p c : Nat} (h : p ≤ c) : -(uv c : Int) ≤ sv s p ∧ sv s p ≤ uv c := by
  have h1 := uvle h
  have h2 := sv_bd s p
  omega

theorem ge_neg {s : Bool} {p c : Nat} (hc : c < II) (h : p ≤ c) : (double.order (wd s p) (wd true c) == some .gt || double.order (wd s p) (wd true c) == some .eq) = true := by
  rw [order_wd (by omega) hc, sv_t]
  have := (sv_le_c (s := s) h).1
  rcases Int.lt_trichotomy (sv s p) (-(uv c : Int)) with x | x | x
  · omega
  · rw [Int.compare_eq_eq.2 x]; rfl
  · rw [Int.compare_eq_gt.2 x]; rfl
theorem le_pos {s : Bool} {p c : Nat} (hc : c < II) (h : p ≤ c) : (double.order (wd s p) (wd false c) == some .lt || double.order (wd s p) (wd false c) == some .eq) = true := by
  rw [order_wd (by omega) hc, sv_f]
  have := (sv_le_c (s := s) h).2
  rcases Int.lt_trichotomy (sv s p) (uv c : Int) with x | x | x
  · rw [Int.compare_eq_lt.2 x]; rfl
  · rw [Int.compare_eq_eq.2 x]; rfl
  · omega
theorem gt_neg {s : Bool} {p c : Nat} (hc : c < II) (h : p ≤ c) (c0 : c ≠ 0) (hn : ¬ (s = true ∧ p = c)) : (double.order (wd s p) (wd true c) == some .gt) = true := by
  have h1 := ge_neg (s := s) hc h
  have h2 := eq_wd (s := s) (t := true) (p := p) (q := c) (by omega) hc c0
  rw [decide_eq_false hn] at h2
  rw [h2, Bool.or_false] at h1
  exact h1

theorem ord_neg {s : Bool} {p c : Nat} (hc : c < II) (h : p ≤ c) : double.order (wd s p) (wd true c) = some .gt ∨ double.order (wd s p) (wd true c) = some .eq := by
  rw [order_wd (by omega) hc, sv_t]
  have := (sv_le_c (s := s) h).1
  rcases Int.lt_trichotomy (sv s p) (-(uv c : Int)) with x | x | x
  · omega
  · right; rw [Int.compare_eq_eq.2 x]
  · left; rw [Int.compare_eq_gt.2 x]
theorem ord_pos {s : Bool} {p c : Nat} (hc : c < II) (h : p ≤ c) : double.order (wd s p) (wd false c) = some .lt ∨ double.order (wd s p) (wd false c) = some .eq := by
  rw [order_wd (by omega) hc, sv_f]
  have := (sv_le_c (s := s) h).2
  rcases Int.lt_trichotomy (sv s p) (uv c : Int) with x | x | x
  · left; rw [Int.compare_eq_lt.2 x]
  · right; rw [Int.compare_eq_eq.2 x]
  · omega

/-- What the law is told of the two angles. -/
structure Ang (sl : Bool) (L : Nat) (sn : Bool) (N : Nat) : Prop where
  lle : L ≤ C90
  nle : N ≤ C180
  l0 : L = 0 → sl = false
  n0 : N = 0 → sn = false
  n180 : ¬ (sn = true ∧ N = C180)

set_option maxHeartbeats 8000000 in
set_option maxRecDepth 100000 in
theorem good_core {sl sn : Bool} {L N : Nat} (hLS : L < SS) (hNS : N < SS) (w : World) (o1 o2 o4 : Ordering) (bL bN : Bool)
    (g1 : FloatKind.f64.format.order (wd sl L) 13859405640767635456 = some o1) (h1 : o1 = .gt ∨ o1 = .eq)
    (g2 : FloatKind.f64.format.order (wd sl L) 4636033603912859648 = some o2) (h2 : o2 = .lt ∨ o2 = .eq)
    (g3 : FloatKind.f64.format.order (wd sn N) 13863909240395005952 = some .gt)
    (g4 : FloatKind.f64.format.order (wd sn N) 4640537203540230144 = some o4) (h4 : o4 = .lt ∨ o4 = .eq)
    (g5 : (FloatKind.f64.format.order (wd sl L) 0 == some .eq) = bL) (g6 : (FloatKind.f64.format.order (wd sn N) 0 == some .eq) = bN) (hl : bL = true → sl = false) (hn : bN = true → sn = false) :
    Calls Ybad.prog 15 #[.agg #[.float .f64 (wd sl L), .float .f64 (wd sn N)]] w fun e w' => e = .returned (.bool true) ∧ Below w.heap.size w w' := by
  cases bL with
  | true =>
    obtain rfl := hl rfl
    clear hl
    cases bN with
    | true =>
      obtain rfl := hn rfl
      clear hn
      rcases h1 with rfl | rfl <;> rcases h2 with rfl | rfl <;> rcases h4 with rfl | rfl
      all_goals
        go_enter Ybad.func15, Ybad.ntmps15
        go_wp2_with (go_at_call 26; first | (refine (sign_walk false L hLS _).mono ?_; rintro e w' ⟨rfl, rfl⟩) | (refine (sign_walk false N hNS _).mono ?_; rintro e w' ⟨rfl, rfl⟩))
        go_ret
        exact ⟨rfl, (Below.refl _ _).alloc (Nat.le_refl _) _⟩
    | false =>
      clear hn
      rcases h1 with rfl | rfl <;> rcases h2 with rfl | rfl <;> rcases h4 with rfl | rfl
      all_goals
        go_enter Ybad.func15, Ybad.ntmps15
        go_wp2_with (go_at_call 26; refine (sign_walk false L hLS _).mono ?_; rintro e w' ⟨rfl, rfl⟩)
        go_ret
        exact ⟨rfl, (Below.refl _ _).alloc (Nat.le_refl _) _⟩
  | false =>
    clear hl
    cases bN with
    | true =>
      obtain rfl := hn rfl
      clear hn
      rcases h1 with rfl | rfl <;> rcases h2 with rfl | rfl <;> rcases h4 with rfl | rfl
      all_goals
        go_enter Ybad.func15, Ybad.ntmps15
        go_wp2_with (go_at_call 26; refine (sign_walk false N hNS _).mono ?_; rintro e w' ⟨rfl, rfl⟩)
        go_ret
        exact ⟨rfl, (Below.refl _ _).alloc (Nat.le_refl _) _⟩
    | false =>
      clear hn
      rcases h1 with rfl | rfl <;> rcases h2 with rfl | rfl <;> rcases h4 with rfl | rfl
      all_goals
        go_enter Ybad.func15, Ybad.ntmps15
        go_wp2_with fail
        go_ret
        exact ⟨rfl, (Below.refl _ _).alloc (Nat.le_refl _) _⟩

theorem good_walk {sl sn : Bool} {L N : Nat} (A : Ang sl L sn N) (w : World) : Calls Ybad.prog 15 #[.agg #[.float .f64 (wd sl L), .float .f64 (wd sn N)]] w fun e w' => e = .returned (.bool true) ∧ Below w.heap.size w w' := by
  have J3 : C180 < II := by decide
  have J4 : C90 < II := by decide
  have h1 := A.lle
  have h2 := A.nle
  have hLS : L < SS := Nat.lt_trans (Nat.lt_of_le_of_lt h1 J4) II_lt_SS
  have hNS : N < SS := Nat.lt_trans (Nat.lt_of_le_of_lt h2 J3) II_lt_SS
  obtain ⟨o1, g1, k1⟩ : ∃ o, double.order (wd sl L) (wd true C90) = some o ∧ (o = .gt ∨ o = .eq) := by
    rcases ord_neg (s := sl) J4 h1 with e | e
    · exact ⟨_, e, Or.inl rfl⟩
    · exact ⟨_, e, Or.inr rfl⟩
  obtain ⟨o2, g2, k2⟩ : ∃ o, double.order (wd sl L) (wd false C90) = some o ∧ (o = .lt ∨ o = .eq) := by
    rcases ord_pos (s := sl) J4 h1 with e | e
    · exact ⟨_, e, Or.inl rfl⟩
    · exact ⟨_, e, Or.inr rfl⟩
  obtain ⟨o4, g4, k4⟩ : ∃ o, double.order (wd sn N) (wd false C180) = some o ∧ (o = .lt ∨ o = .eq) := by
    rcases ord_pos (s := sn) J3 h2 with e | e
    · exact ⟨_, e, Or.inl rfl⟩
    · exact ⟨_, e, Or.inr rfl⟩
  have g3 : double.order (wd sn N) (wd true C180) = some .gt := by
    have := gt_neg (s := sn) J3 h2 (by decide) A.n180
    simpa using this
  exact good_core hLS hNS w o1 o2 o4 _ _ g1 k1 g2 k2 g3 g4 k4 (eq_zero (by omega)) (eq_zero (by omega)) (fun h => A.l0 (of_decide_eq_true h)) (fun h => A.n0 (of_decide_eq_true h))
end Go.Proofs.YbulkbyeyDoor
