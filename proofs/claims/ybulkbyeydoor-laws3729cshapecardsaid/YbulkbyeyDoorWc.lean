/-
  The walks of atanDeg (33) and atan2Deg (25).
-/
import Derived.Test.YbulkbyeyDoorWb
namespace Go.Proofs.YbulkbyeyDoor
open Go.RowKit Ieee
set_option linter.unusedVariables false

theorem f_int {u K : Nat} (hK : K ≤ 8) (h : (double.read u).toInt .zero = some (K : Int)) (w : World) : (convert 22 3 (.float .f64 u)).run Ybad.prog w = .ok (.int .i64 K) w := by
  refine run_convert_float_int w 22 3 .f64 .i64 u K (by rw [Ybad.underlying22]; rfl) Ybad.underlying3 ?_
  unfold floatToIntVal
  have e : (FloatKind.f64.decode u).toInt .zero = some (K : Int) := h
  rw [e]
  have : IntKind.i64.min ≤ (K : Int) ∧ (K : Int) ≤ IntKind.i64.max := by
    have h1 : IntKind.i64.min = -9223372036854775808 := by decide
    have h2 : IntKind.i64.max = 9223372036854775807 := by decide
    rw [h1, h2]; omega
  simp only [if_pos this]

set_option maxHeartbeats 1000000 in
set_option maxRecDepth 100000 in
theorem atan_walk (t c : Nat) (w : World) (T : Tab w) (H : AtanTo t c) : Calls Ybad.prog 33 #[.float .f64 t] w fun e w' => e = .returned (.float .f64 c) ∧ w' = w := by
  obtain ⟨t8, u, kf, d, tk, e, r, rr, qq, h, m, a, b, K, R⟩ := H
  have r1 : ∀ ty w, (binOp .mul ty (.float .f64 4620693217682128896) (.float .f64 t)).run Ybad.prog w = .ok (.float .f64 t8) w := f_mul R.m1
  have r2 : ∀ ty w, (binOp .add ty (.float .f64 t8) (.float .f64 4602678819172646912)).run Ybad.prog w = .ok (.float .f64 u) w := f_add R.a1
  have r3 := f_int R.k8 R.cv
  have r4 : floatOfInt .f64 (K : Int) = kf := R.kk
  have r5 := f_sub R.s1
  have r6 := f_mul R.m2
  have r7 : ∀ ty w, (binOp .add ty (.float .f64 4620693217682128896) (.float .f64 tk)).run Ybad.prog w = .ok (.float .f64 e) w := f_add R.a2
  have r8 := f_quo R.q1
  have r9 := f_mul R.m3
  have r10 := f_mul R.m4
  have r11 := f_mul R.m5
  have r12 := f_add R.a3
  have r13 : ∀ ty w, (binOp .mul ty (.float .f64 a) (.float .f64 4633260481411531256)).run Ybad.prog w = .ok (.float .f64 b) w := f_mul R.m6
  have r14 := f_add R.a4
  have k0 : (0 : Int) ≤ K := by omega
  have k8 : (K : Int) < 9 := by have := R.k8; omega
  have cE : w.cell? ⟨2, K, none⟩ = some (.float .f64 (RE K)) := T.eig K (by have := R.k8; omega)
  have HZ : Aside (Horn rr h) := R.hz
  have TT : Aside (Tab w) := T
  clear T R
  go_enter Ybad.func33, Ybad.ntmps33
  go_wp2_with (go_at_call 35; refine (horner_walk rr h _ TT.out HZ.out).mono ?_; rintro e w' ⟨rfl, rfl⟩)
  go_ret
  exact ⟨rfl, rfl⟩

theorem and_top {p : Nat} (h : p < 2 ^ 63) : p &&& 2 ^ 63 = 0 := by
  apply Nat.eq_of_testBit_eq
  intro i
  rw [Nat.testBit_and, Nat.testBit_two_pow, Nat.zero_testBit]
  by_cases e : 63 = i
  · subst e
    rw [Nat.testBit_lt_two_pow h]; rfl
  · simp [e]
theorem neg_wd (s : Bool) (p : Nat) (h : p < SS) : Op.negFloat .f64 (wd s p) = wd (!s) p := by
  have hS : SS = 2 ^ 63 := rfl
  unfold Op.negFloat
  show wd s p ^^^ 2 ^ 63 = wd (!s) p
  rw [hS] at h
  unfold wd
  rw [hS]
  cases s
  · show p ^^^ 2 ^ 63 = 2 ^ 63 + p
    have h0 : p &&& 2 ^ 63 = 0 := by
      exact and_top h
    have := Nat.two_pow_add_eq_or_of_lt h 1
    rw [Nat.mul_one] at this
    rw [this, Nat.or_comm]
    apply Nat.eq_of_testBit_eq
    intro i
    rw [Nat.testBit_xor, Nat.testBit_or]
    have h1 := congrArg (fun n => n.testBit i) h0
    simp only [Nat.testBit_and, Nat.zero_testBit] at h1
    cases x : p.testBit i <;> cases y : (2 ^ 63 : Nat).testBit i <;> simp_all
  · show (2 ^ 63 + p) ^^^ 2 ^ 63 = p
    have := Nat.two_pow_add_eq_or_of_lt h 1
    rw [Nat.mul_one] at this
    rw [this]
    have h0 : p &&& 2 ^ 63 = 0 := by
      exact and_top h
    apply Nat.eq_of_testBit_eq
    intro i
    rw [Nat.testBit_xor, Nat.testBit_or]
    have h1 := congrArg (fun n => n.testBit i) h0
    simp only [Nat.testBit_and, Nat.zero_testBit] at h1
    cases x : p.testBit i <;> cases y : (2 ^ 63 : Nat).testBit i <;> simp_all

theorem f_neg (s : Bool) (p : Nat) (h : p < SS) (w : World) : (Op.unary .neg (.float .f64 (wd s p))).run Ybad.prog w = .ok (.float .f64 (wd (!s) p)) w := by
  rw [← neg_wd s p h]; rfl

theorem gt_f {a b : Nat} (ha : a < II) (hb : b ≤ II) : (double.order (wd false a) (wd false b) == some .gt) = decide (b < a) := by
  rw [order_f ha hb]
  rcases Nat.lt_trichotomy a b with h | h | h
  · rw [Nat.compare_eq_lt.2 h, decide_eq_false (by omega)]; rfl
  · rw [Nat.compare_eq_eq.2 h, decide_eq_false (by omega)]; rfl
  · rw [Nat.compare_eq_gt.2 h, decide_eq_true h]; rfl

set_option maxHeartbeats 4000000 in
set_option maxRecDepth 100000 in
theorem atan2_walk {ry rx : Nat} {sy sx : Bool} {near far t a a1 p2 : Nat} (hy : ry < II) (hx : rx ≤ II) (hp2 : p2 < SS) (R : A2Run ry rx sx near far t a a1 (wd false p2)) (w : World) (T : Tab w) :
    Calls Ybad.prog 25 #[.float .f64 (wd sy ry), .float .f64 (wd sx rx)] w fun e w' => e = .returned (.float .f64 (wd sy p2)) ∧ w' = w := by
  have hyS : ry < SS := Nat.lt_trans hy II_lt_SS
  have hxS : rx < SS := Nat.lt_of_le_of_lt hx II_lt_SS
  have TT : Aside (Tab w) := T
  have hng : ∀ w, (Op.unary .neg (.float .f64 (wd false p2))).run Ybad.prog w = .ok (.float .f64 (wd true p2)) w := fun w => f_neg false p2 hp2 w
  have hn0 : ∀ w, (Op.unary .neg (.float .f64 0)).run Ybad.prog w = .ok (.float .f64 (wd true 0)) w := fun w => f_neg false 0 (by decide) w
  obtain ⟨nf, dv, dz, st, fl, ng, ps⟩ := R
  have DV : Aside (far ≠ 0 → double.div (wd false near) (wd false far) = some t ∧ AtanTo t a) := dv
  clear T dv
  have stp : (FloatKind.f64.format.order (wd false ry) (wd false rx) == some .gt) = decide (rx < ry) := gt_f hy hx
  by_cases c : rx < ry
  · rw [if_pos c] at nf
    injection nf with e1 e2
    subst e1 e2
    rw [decide_eq_true c] at stp
    have f0 : far ≠ 0 := by omega
    have nz : (FloatKind.f64.format.order (wd false far) 0 != some .eq) = true := (order_z (s := false) (b := far) (by omega)).trans (decide_eq_true f0)
    have r1 := f_quo (DV.out f0).1
    have AT : Aside (AtanTo t a) := (DV.out f0).2
    have r2 : ∀ ty w, (binOp .sub ty (.float .f64 4636033603912859648) (.float .f64 a)).run Ybad.prog w = .ok (.float .f64 a1) w := f_sub (st c)
    clear st fl dz DV f0 c
    cases sx with
    | true =>
      have r3 : ∀ ty w, (binOp .sub ty (.float .f64 4640537203540230144) (.float .f64 a1)).run Ybad.prog w = .ok (.float .f64 (wd false p2)) w := f_sub (ng rfl)
      clear ng ps
      cases sy with
      | true =>
        go_enter Ybad.func25, Ybad.ntmps25
        go_wp2_with (first | (go_at_call 12; first | (refine (abs_walk true far hyS _).mono ?_; rintro e w' ⟨rfl, rfl⟩) | (refine (abs_walk true near hxS _).mono ?_; rintro e w' ⟨rfl, rfl⟩)) | (go_at_call 33; refine (atan_walk t _ _ TT.out AT.out).mono ?_; rintro e w' ⟨rfl, rfl⟩) | (go_at_call 26; first | (refine (sign_walk true near hxS _).mono ?_; rintro e w' ⟨rfl, rfl⟩) | (refine (sign_walk true far hyS _).mono ?_; rintro e w' ⟨rfl, rfl⟩)))
        go_ret
        exact ⟨rfl, rfl⟩
      | false =>
        go_enter Ybad.func25, Ybad.ntmps25
        go_wp2_with (first | (go_at_call 12; first | (refine (abs_walk false far hyS _).mono ?_; rintro e w' ⟨rfl, rfl⟩) | (refine (abs_walk true near hxS _).mono ?_; rintro e w' ⟨rfl, rfl⟩)) | (go_at_call 33; refine (atan_walk t _ _ TT.out AT.out).mono ?_; rintro e w' ⟨rfl, rfl⟩) | (go_at_call 26; first | (refine (sign_walk true near hxS _).mono ?_; rintro e w' ⟨rfl, rfl⟩) | (refine (sign_walk false far hyS _).mono ?_; rintro e w' ⟨rfl, rfl⟩)))
        go_ret
        exact ⟨rfl, rfl⟩
    | false =>
      have e3 : wd false p2 = a1 := ps rfl
      clear ng ps
      subst e3
      cases sy with
      | true =>
        go_enter Ybad.func25, Ybad.ntmps25
        go_wp2_with (first | (go_at_call 12; first | (refine (abs_walk true far hyS _).mono ?_; rintro e w' ⟨rfl, rfl⟩) | (refine (abs_walk false near hxS _).mono ?_; rintro e w' ⟨rfl, rfl⟩)) | (go_at_call 33; refine (atan_walk t _ _ TT.out AT.out).mono ?_; rintro e w' ⟨rfl, rfl⟩) | (go_at_call 26; first | (refine (sign_walk false near hxS _).mono ?_; rintro e w' ⟨rfl, rfl⟩) | (refine (sign_walk true far hyS _).mono ?_; rintro e w' ⟨rfl, rfl⟩)))
        go_ret
        exact ⟨rfl, rfl⟩
      | false =>
        go_enter Ybad.func25, Ybad.ntmps25
        go_wp2_with (first | (go_at_call 12; first | (refine (abs_walk false far hyS _).mono ?_; rintro e w' ⟨rfl, rfl⟩) | (refine (abs_walk false near hxS _).mono ?_; rintro e w' ⟨rfl, rfl⟩)) | (go_at_call 33; refine (atan_walk t _ _ TT.out AT.out).mono ?_; rintro e w' ⟨rfl, rfl⟩) | (go_at_call 26; first | (refine (sign_walk false near hxS _).mono ?_; rintro e w' ⟨rfl, rfl⟩) | (refine (sign_walk false far hyS _).mono ?_; rintro e w' ⟨rfl, rfl⟩)))
        go_ret
        exact ⟨rfl, rfl⟩
  · rw [if_neg c] at nf
    injection nf with e1 e2
    subst e1 e2
    rw [decide_eq_false c] at stp
    obtain rfl := fl c
    by_cases f0 : far = 0
    · have nz : (FloatKind.f64.format.order (wd false far) 0 != some .eq) = false := (order_z (s := false) (b := far) (by omega)).trans (decide_eq_false (by omega))
      obtain rfl := dz f0
      clear st fl dz DV f0 c
      cases sx with
      | true =>
        have r3 : ∀ ty w, (binOp .sub ty (.float .f64 4640537203540230144) (.float .f64 0)).run Ybad.prog w = .ok (.float .f64 (wd false p2)) w := f_sub (ng rfl)
        clear ng ps
        cases sy with
        | true =>
          go_enter Ybad.func25, Ybad.ntmps25
          go_wp2_with (first | (go_at_call 12; first | (refine (abs_walk true near hyS _).mono ?_; rintro e w' ⟨rfl, rfl⟩) | (refine (abs_walk true far hxS _).mono ?_; rintro e w' ⟨rfl, rfl⟩)) | (go_at_call 26; first | (refine (sign_walk true far hxS _).mono ?_; rintro e w' ⟨rfl, rfl⟩) | (refine (sign_walk true near hyS _).mono ?_; rintro e w' ⟨rfl, rfl⟩)))
          go_ret
          exact ⟨rfl, rfl⟩
        | false =>
          go_enter Ybad.func25, Ybad.ntmps25
          go_wp2_with (first | (go_at_call 12; first | (refine (abs_walk false near hyS _).mono ?_; rintro e w' ⟨rfl, rfl⟩) | (refine (abs_walk true far hxS _).mono ?_; rintro e w' ⟨rfl, rfl⟩)) | (go_at_call 26; first | (refine (sign_walk true far hxS _).mono ?_; rintro e w' ⟨rfl, rfl⟩) | (refine (sign_walk false near hyS _).mono ?_; rintro e w' ⟨rfl, rfl⟩)))
          go_ret
          exact ⟨rfl, rfl⟩
      | false =>
        have e3 : wd false p2 = 0 := ps rfl
        clear ng ps
        obtain rfl : p2 = 0 := e3
        cases sy with
        | true =>
          go_enter Ybad.func25, Ybad.ntmps25
          go_wp2_with (first | (go_at_call 12; first | (refine (abs_walk true near hyS _).mono ?_; rintro e w' ⟨rfl, rfl⟩) | (refine (abs_walk false far hxS _).mono ?_; rintro e w' ⟨rfl, rfl⟩)) | (go_at_call 26; first | (refine (sign_walk false far hxS _).mono ?_; rintro e w' ⟨rfl, rfl⟩) | (refine (sign_walk true near hyS _).mono ?_; rintro e w' ⟨rfl, rfl⟩)))
          go_ret
          exact ⟨rfl, rfl⟩
        | false =>
          go_enter Ybad.func25, Ybad.ntmps25
          go_wp2_with (first | (go_at_call 12; first | (refine (abs_walk false near hyS _).mono ?_; rintro e w' ⟨rfl, rfl⟩) | (refine (abs_walk false far hxS _).mono ?_; rintro e w' ⟨rfl, rfl⟩)) | (go_at_call 26; first | (refine (sign_walk false far hxS _).mono ?_; rintro e w' ⟨rfl, rfl⟩) | (refine (sign_walk false near hyS _).mono ?_; rintro e w' ⟨rfl, rfl⟩)))
          go_ret
          exact ⟨rfl, rfl⟩
    · have nz : (FloatKind.f64.format.order (wd false far) 0 != some .eq) = true := (order_z (s := false) (b := far) (by omega)).trans (decide_eq_true f0)
      have r1 := f_quo (DV.out f0).1
      have AT : Aside (AtanTo t a1) := (DV.out f0).2
      clear st fl dz DV f0 c
      cases sx with
      | true =>
        have r3 : ∀ ty w, (binOp .sub ty (.float .f64 4640537203540230144) (.float .f64 a1)).run Ybad.prog w = .ok (.float .f64 (wd false p2)) w := f_sub (ng rfl)
        clear ng ps
        cases sy with
        | true =>
          go_enter Ybad.func25, Ybad.ntmps25
          go_wp2_with (first | (go_at_call 12; first | (refine (abs_walk true near hyS _).mono ?_; rintro e w' ⟨rfl, rfl⟩) | (refine (abs_walk true far hxS _).mono ?_; rintro e w' ⟨rfl, rfl⟩)) | (go_at_call 33; refine (atan_walk t _ _ TT.out AT.out).mono ?_; rintro e w' ⟨rfl, rfl⟩) | (go_at_call 26; first | (refine (sign_walk true far hxS _).mono ?_; rintro e w' ⟨rfl, rfl⟩) | (refine (sign_walk true near hyS _).mono ?_; rintro e w' ⟨rfl, rfl⟩)))
          go_ret
          exact ⟨rfl, rfl⟩
        | false =>
          go_enter Ybad.func25, Ybad.ntmps25
          go_wp2_with (first | (go_at_call 12; first | (refine (abs_walk false near hyS _).mono ?_; rintro e w' ⟨rfl, rfl⟩) | (refine (abs_walk true far hxS _).mono ?_; rintro e w' ⟨rfl, rfl⟩)) | (go_at_call 33; refine (atan_walk t _ _ TT.out AT.out).mono ?_; rintro e w' ⟨rfl, rfl⟩) | (go_at_call 26; first | (refine (sign_walk true far hxS _).mono ?_; rintro e w' ⟨rfl, rfl⟩) | (refine (sign_walk false near hyS _).mono ?_; rintro e w' ⟨rfl, rfl⟩)))
          go_ret
          exact ⟨rfl, rfl⟩
      | false =>
        have e3 : wd false p2 = a1 := ps rfl
        clear ng ps
        subst e3
        cases sy with
        | true =>
          go_enter Ybad.func25, Ybad.ntmps25
          go_wp2_with (first | (go_at_call 12; first | (refine (abs_walk true near hyS _).mono ?_; rintro e w' ⟨rfl, rfl⟩) | (refine (abs_walk false far hxS _).mono ?_; rintro e w' ⟨rfl, rfl⟩)) | (go_at_call 33; refine (atan_walk t _ _ TT.out AT.out).mono ?_; rintro e w' ⟨rfl, rfl⟩) | (go_at_call 26; first | (refine (sign_walk false far hxS _).mono ?_; rintro e w' ⟨rfl, rfl⟩) | (refine (sign_walk true near hyS _).mono ?_; rintro e w' ⟨rfl, rfl⟩)))
          go_ret
          exact ⟨rfl, rfl⟩
        | false =>
          go_enter Ybad.func25, Ybad.ntmps25
          go_wp2_with (first | (go_at_call 12; first | (refine (abs_walk false near hyS _).mono ?_; rintro e w' ⟨rfl, rfl⟩) | (refine (abs_walk false far hxS _).mono ?_; rintro e w' ⟨rfl, rfl⟩)) | (go_at_call 33; refine (atan_walk t _ _ TT.out AT.out).mono ?_; rintro e w' ⟨rfl, rfl⟩) | (go_at_call 26; first | (refine (sign_walk false far hxS _).mono ?_; rintro e w' ⟨rfl, rfl⟩) | (refine (sign_walk false near hyS _).mono ?_; rintro e w' ⟨rfl, rfl⟩)))
          go_ret
          exact ⟨rfl, rfl⟩
end Go.Proofs.YbulkbyeyDoor
