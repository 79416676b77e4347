/-
  The walks of math.Signbit (26), IsNaN (23), IsInf (24), Sqrt (8), zzs3729cok (13), horner (35).
-/
import Derived.Test.YbulkbyeyDoorWa
import Derived.Deep.LoopGhost
namespace Go.Proofs.YbulkbyeyDoor
open Go.RowKit Ieee
set_option linter.unusedVariables false

theorem wrap_sign (s : Bool) (r : Nat) (h : r < SS) : IntKind.i64.wrap ((wd s r : Nat) : Int) = if s then (r : Int) - 9223372036854775808 else (r : Int) := by
  have hS : SS = 9223372036854775808 := rfl
  rw [hS] at h
  cases s
  · simp [wd, IntKind.wrap, IntKind.signed, IntKind.bits]; omega
  · simp [wd, hS, IntKind.wrap, IntKind.signed, IntKind.bits]; omega

set_option maxHeartbeats 400000 in
theorem sign_walk (s : Bool) (r : Nat) (h : r < SS) (w : World) : Calls Ybad.prog 26 #[.float .f64 (wd s r)] w fun e w' => e = .returned (.bool s) ∧ w' = w := by
  have h22 := x22
  have hw := wrap_sign s r h
  have hS : SS = 9223372036854775808 := rfl
  rw [hS] at h
  cases s with
  | false =>
    rw [if_neg (by simp)] at hw
    have c : decide ((r : Int) < 0) = false := decide_eq_false (by omega)
    go_enter Ybad.func26, Ybad.ntmps26
    go_wp2
    go_ret
    exact ⟨by simp, rfl⟩
  | true =>
    rw [if_pos rfl] at hw
    have c : decide ((r : Int) - 9223372036854775808 < 0) = true := decide_eq_true (by omega)
    go_enter Ybad.func26, Ybad.ntmps26
    go_wp2
    go_ret
    exact ⟨by simp, rfl⟩

set_option maxHeartbeats 400000 in
theorem nan_walk (b : Nat) (w : World) : Calls Ybad.prog 23 #[.float .f64 b] w fun e w' => e = .returned (.bool (double.order b b != some .eq)) ∧ w' = w := by
  go_enter Ybad.func23, Ybad.ntmps23
  go_wp2
  go_ret
  exact ⟨rfl, rfl⟩

set_option maxHeartbeats 400000 in
theorem inf_walk (s : Bool) (r : Nat) (h : r < SS) (w : World) : Calls Ybad.prog 24 #[.float .f64 (wd s r), .int .i64 0] w fun e w' => e = .returned (.bool (double.order (wd false r) 9218868437227405311 == some .gt)) ∧ w' = w := by
  go_enter Ybad.func24, Ybad.ntmps24
  go_wp2_with (go_at_call 12; refine (abs_walk s r h _).mono ?_; rintro e w' ⟨rfl, rfl⟩)
  go_ret
  exact ⟨rfl, rfl⟩

set_option maxHeartbeats 400000 in
theorem sqrt_walk (b r : Nat) (h : double.sqrt b = some r) (w : World) : Calls Ybad.prog 8 #[.float .f64 b] w fun e w' => e = .returned (.float .f64 r) ∧ w' = w := by
  have h17 := x17 b r h
  go_enter Ybad.func8, Ybad.ntmps8
  go_wp2
  go_ret
  exact ⟨rfl, rfl⟩

theorem read_nan (s : Bool) (r : Nat) (h : II < r) (hS : r < SS) : double.read (wd s r) = .nan s (r - II) := by
  unfold Format.read
  have e1 : double.signWeight = SS := rfl
  have e2 : double.binade = BB := rfl
  have e3 : double.infRung = II := rfl
  have hb : BB ≤ II := by decide
  rw [e1, e2, e3, wd_sign s r hS, wd_rung s r hS]
  simp only [if_neg (show ¬ r < BB by omega), if_neg (show ¬ r < II by omega), if_neg (show ¬ r = II by omega)]

set_option maxHeartbeats 400000 in
/-- zzs3729cok: finite. -/
theorem ok_walk (s : Bool) (r : Nat) (h : r < SS) (w : World) : Calls Ybad.prog 13 #[.float .f64 (wd s r)] w fun e w' => e = .returned (.bool (decide (r < II))) ∧ w' = w := by
  have hM : (9218868437227405311 : Nat) = wd false (II - 1) := rfl
  rcases Nat.lt_trichotomy r II with c | c | c
  · have n1 : (double.order (wd s r) (wd s r) != some .eq) = false := by
      rw [order_wd c c, Int.compare_eq_eq.2 rfl]; rfl
    have n2 : (double.order (wd false r) 9218868437227405311 == some .gt) = false := by
      rw [hM, order_f c (by omega)]
      have : compare r (II - 1) ≠ .gt := fun e => by have := Nat.compare_eq_gt.1 e; omega
      cases e : compare r (II - 1) <;> simp_all
    have hd : decide (r < II) = true := decide_eq_true c
    rw [hd]
    go_enter Ybad.func13, Ybad.ntmps13
    go_wp2_with (first | (go_at_call 23; refine (nan_walk _ _).mono ?_; rw [n1]; rintro e w' ⟨rfl, rfl⟩) | (go_at_call 24; refine (inf_walk s r h _).mono ?_; rw [n2]; rintro e w' ⟨rfl, rfl⟩))
    go_ret
    exact ⟨rfl, rfl⟩
  · have n1 : (double.order (wd s r) (wd s r) != some .eq) = false := by
      subst c; cases s <;> decide
    have n2 : (double.order (wd false r) 9218868437227405311 == some .gt) = true := by
      subst c; decide
    have hd : decide (r < II) = false := decide_eq_false (by omega)
    rw [hd]
    clear c
    go_enter Ybad.func13, Ybad.ntmps13
    go_wp2_with (first | (go_at_call 23; refine (nan_walk _ _).mono ?_; rw [n1]; rintro e w' ⟨rfl, rfl⟩) | (go_at_call 24; refine (inf_walk s r h _).mono ?_; rw [n2]; rintro e w' ⟨rfl, rfl⟩))
    go_ret
    exact ⟨rfl, rfl⟩
  · have n1 : (double.order (wd s r) (wd s r) != some .eq) = true := by
      unfold Format.order
      rw [read_nan s r c h]
      rfl
    have hd : decide (r < II) = false := decide_eq_false (by omega)
    rw [hd]
    clear c
    go_enter Ybad.func13, Ybad.ntmps13
    go_wp2_with (go_at_call 23; refine (nan_walk _ _).mono ?_; rw [n1]; rintro e w' ⟨rfl, rfl⟩)
    go_ret
    exact ⟨rfl, rfl⟩

theorem f_add {x y z : Nat} (h : double.add x y = some z) (t : TypeId) (w : World) : (binOp .add t (.float .f64 x) (.float .f64 y)).run Ybad.prog w = .ok (.float .f64 z) w := run_float_arith w .add t .f64 x y z h
theorem f_sub {x y z : Nat} (h : double.sub x y = some z) (t : TypeId) (w : World) : (binOp .sub t (.float .f64 x) (.float .f64 y)).run Ybad.prog w = .ok (.float .f64 z) w := run_float_arith w .sub t .f64 x y z h
theorem f_mul {x y z : Nat} (h : double.mul x y = some z) (t : TypeId) (w : World) : (binOp .mul t (.float .f64 x) (.float .f64 y)).run Ybad.prog w = .ok (.float .f64 z) w := run_float_arith w .mul t .f64 x y z h
theorem f_quo {x y z : Nat} (h : double.div x y = some z) (t : TypeId) (w : World) : (binOp .quo t (.float .f64 x) (.float .f64 y)).run Ybad.prog w = .ok (.float .f64 z) w := run_float_arith w .quo t .f64 x y z h

/-- What the two tables hold. -/
structure Tab (w : World) : Prop where
  poly : ∀ i, i < 6 → w.cell? ⟨1, i, none⟩ = some (.float .f64 (cw i))
  eig : ∀ i, i < 9 → w.cell? ⟨2, i, none⟩ = some (.float .f64 (RE i))

set_option maxHeartbeats 1000000 in
set_option maxRecDepth 100000 in
theorem horner_walk (x h : Nat) (w : World) (T : Tab w) (H : Horn x h) : Calls Ybad.prog 35 #[.pointer (some ⟨1, 0, none⟩), .float .f64 x] w fun e w' => e = .returned (.float .f64 h) ∧ w' = w := by
  obtain ⟨hs, mids, h0, h5, hst⟩ := H
  have c0 : w.cell? ⟨1, 0, none⟩ = some (.float .f64 (hs 0)) := by rw [h0]; exact T.poly 0 (by omega)
  have TT : Aside (Tab w) := T
  have HST : Aside (∀ i, i < 5 → double.mul (hs i) x = some (mids i) ∧ double.add (mids i) (cw (i + 1)) = some (hs (i + 1))) := hst
  have H5 : Aside (hs 5 = h) := h5
  clear T hst h5
  go_enter Ybad.func35, Ybad.ntmps35
  go_wp2_with fail
  go_loop [5, 16] (fun vy vi => ∃ i : Nat, i ≤ 5 ∧ vi = .int .i64 i ∧ vy = .float .f64 (hs i)) (fun _ vi => 5 - (intOf vi).toNat)
  case atStart => exact ⟨0, by omega, rfl, by rw [h0]⟩
  case round =>
    obtain ⟨i, hi, rfl, rfl⟩ := hrel
    by_cases hlt : i < 5
    · obtain ⟨g1, g2⟩ := HST.out i hlt
      have r1 := f_mul g1
      have r2 := f_add g2
      have c1 : w.cell? ⟨1, 1 + i, none⟩ = some (.float .f64 (cw (i + 1))) := by rw [Nat.add_comm]; exact TT.out.poly (i + 1) (by omega)
      go_wp2
      go_round
      case rel => exact ⟨i + 1, by omega, by go_num, rfl⟩
      case measure => simp [intOf]; omega
    · obtain rfl : i = 5 := by omega
      go_wp2
      go_ret
      exact ⟨by rw [H5.out]; rfl, rfl⟩
end Go.Proofs.YbulkbyeyDoor
