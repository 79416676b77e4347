/-
  The plain law of atanDeg, continued: the whole chain.
-/
import Derived.Test.YbulkbyeyDoorFa
namespace Go.Proofs.YbulkbyeyDoor
open Ieee
set_option linter.unusedVariables false
set_option exponentiation.threshold 3000

/-- What atanDeg does at t, step by step. -/
structure AtanRun (t t8 u kf d tk e r rr qq h m a b c K : Nat) : Prop where
  k8 : K ≤ 8
  m1 : double.mul EIGHT t = some t8
  a1 : double.add t8 HALF = some u
  cv : (double.read u).toInt .zero = some (K : Int)
  kk : floatOfInt .f64 K = kf
  s1 : double.sub t8 kf = some d
  m2 : double.mul t kf = some tk
  a2 : double.add EIGHT tk = some e
  q1 : double.div d e = some r
  m3 : double.mul r r = some rr
  m4 : double.mul r rr = some qq
  hz : Horn rr h
  m5 : double.mul qq h = some m
  a3 : double.add r m = some a
  m6 : double.mul a C57 = some b
  a4 : double.add (RE K) b = some c
def AtanTo (t c : Nat) : Prop := ∃ t8 u kf d tk e r rr qq h m a b K, AtanRun t t8 u kf d tk e r rr qq h m a b c K

theorem ofInt_RK : ∀ k, k < 9 → floatOfInt .f64 (k : Nat) = RK k := by decide +kernel

theorem signIf {x : Int} (b : Bool) (h : 0 ≤ x) : (if x = 0 then false && b else decide (x < 0)) = false := by
  by_cases c : x = 0
  · rw [if_pos c]; rfl
  · rw [if_neg c]; exact decide_eq_false (by omega)

/-- The facts, the magnitude and its scale letters (so that no step lays them open). -/
def svV (V : Nat → Nat) (s : Bool) (r : Nat) : Int := if s then -(V r : Int) else V r
structure Abs (V : Nat → Nat) (U I : Nat) : Prop where
  pos : 0 < U
  le : ∀ {R S : Nat}, R ≤ S → V R ≤ V S
  mul : ∀ {s t : Bool} {r q : Nat}, r < I → q < I → ∀ R, R < I → V r * V q ≤ V R * U → ∃ p, p ≤ R ∧ double.mul (wd s r) (wd t q) = some (wd (s ^^ t) p)
  add : ∀ {s t : Bool} {r q : Nat}, r < I → q < I → ∀ R, R < I → (svV V s r + svV V t q).natAbs ≤ V R → ∃ p, p ≤ R ∧ double.add (wd s r) (wd t q) = some (wd (if svV V s r + svV V t q = 0 then s && t else decide (svV V s r + svV V t q < 0)) p) ∧ (∀ R, R ≤ I → V R ≤ (svV V s r + svV V t q).natAbs → R ≤ p) ∧ (∀ R, R < I → (svV V s r + svV V t q).natAbs ≤ V R → p ≤ R)
  sub : ∀ {s t : Bool} {r q : Nat}, r < I → q < I → ∀ R, R < I → (svV V s r + svV V (!t) q).natAbs ≤ V R → ∃ p, p ≤ R ∧ double.sub (wd s r) (wd t q) = some (wd (if svV V s r + svV V (!t) q = 0 then s && !t else decide (svV V s r + svV V (!t) q < 0)) p) ∧ (∀ R, R ≤ I → V R ≤ (svV V s r + svV V (!t) q).natAbs → R ≤ p)
  div : ∀ {s t : Bool} {r q : Nat}, r < I → q < I → q ≠ 0 → ∀ R, R < I → V r * U ≤ V R * V q → ∃ p, p ≤ R ∧ double.div (wd s r) (wd t q) = some (wd (s ^^ t) p)
  int : ∀ {p : Nat}, p < I → (double.read (wd false p)).toInt .zero = some ((V p / U : Nat) : Int)
  horn : ∀ {q : Nat}, q ≤ R64 → ∃ p, p ≤ ONE ∧ Horn (wd false q) (wd true p)
  one : V ONE = U
  eight : V EIGHT = 8 * U
  half : 2 * V HALF = U
  c57 : V C57 ≤ 58 * U
  r332 : 32 * V R332 = 3 * U
  r34 : 4 * V R34 = 3 * U
  r64 : 64 * V R64 = U
  r6 : V R6 = 6 * U
  r51 : V R51 = 51 * U
  r85 : 2 * V R85 = 17 * U
  r16 : V R16 = 16 * U
  rk : ∀ k, k < 10 → V (RK k) = k * U
  rm : ∀ k, k < 9 → 0 < k → 4 * V (RM k) + U = 4 * k * U
  re : ∀ k, k < 9 → V (RE k) ≤ 45 * U ∧ (0 < k → 7 * U ≤ V (RE k))
  i1 : ONE < I
  i2 : EIGHT < I
  i3 : HALF < I
  i4 : R85 < I
  i5 : R34 < I
  i6 : R16 < I
  i7 : R332 < I
  i8 : R64 < I
  i9 : C57 < I
  i10 : R6 < I
  i11 : R51 < I
  iK : ∀ k, k < 10 → RK k < I
  iM : ∀ k, k < 9 → RM k < I
  iE : ∀ k, k < 9 → RE k < I

theorem abs_holds : Abs uv UU II where
  pos := UUpos
  le := uvle
  mul := fun hr hq R hR h => mul_bd hr hq R hR h
  add := fun {s t r q} hr hq R hR h => by
    obtain ⟨p, _, h1, h2, h3⟩ := add_wd (s := s) (t := t) hr hq _ rfl
    exact ⟨p, h2 R hR h, h1, h3, h2⟩
  sub := fun hr hq R hR h => sub_bd hr hq R hR h
  div := fun {s t r q} hr hq q0 R hR h => by
    obtain ⟨p, _, h1, h2, _⟩ := div_wd (s := s) (t := t) hr hq q0
    exact ⟨p, h2 R hR h, h1⟩
  int := fun hp => toInt_wd hp
  horn := horn_ok
  one := uvONE
  eight := uvEIGHT
  half := uvHALF
  c57 := uvC57
  r332 := uvR332
  r34 := uvR34
  r64 := uvR64
  r6 := uvR6
  r51 := uvR51
  r85 := uvR85
  r16 := uvR16
  rk := uvRK
  rm := uvRM
  re := uvRE
  i1 := by decide
  i2 := by decide
  i3 := by decide
  i4 := by decide
  i5 := by decide
  i6 := by decide
  i7 := by decide
  i8 := by decide
  i9 := by decide
  i10 := by decide
  i11 := by decide
  iK := by decide
  iM := by decide
  iE := by decide

section
variable {V : Nat → Nat} {U I : Nat}
theorem svf (r : Nat) : svV V false r = V r := rfl
theorem svt (r : Nat) : svV V true r = -(V r : Int) := rfl
theorem svbd (s : Bool) (r : Nat) : -(V r : Int) ≤ svV V s r ∧ svV V s r ≤ V r := by cases s <;> simp [svV] <;> omega

theorem atan_core (A : Abs V U I) {q : Nat} (hq : q ≤ ONE) : ∃ p, p ≤ C90 ∧ AtanTo (wd false q) (wd false p) := by
  have I1 := A.i1; have I2 := A.i2; have I3 := A.i3; have I4 := A.i4; have I5 := A.i5; have I6 := A.i6; have I7 := A.i7; have I8 := A.i8; have I9 := A.i9; have I10 := A.i10; have I11 := A.i11
  have iK := A.iK
  have iM := A.iM
  have iE := A.iE
  have U0 := A.pos
  have bq := A.le hq
  rw [A.one] at bq
  -- 8 t
  obtain ⟨p8, hp8, h1⟩ := A.mul (s := false) (t := false) (r := EIGHT) (q := q) I2 (by omega) EIGHT I2 (Nat.mul_le_mul_left _ bq)
  have b8 := A.le hp8
  have cE := A.eight
  have cH := A.half
  have c85 := A.r85
  -- + 1/2
  obtain ⟨pu, hpu, h2, h2g, h2L⟩ := A.add (s := false) (t := false) (r := p8) (q := HALF) (by omega) I3 R85 I4 (by rw [svf, svf]; omega)
  rw [svf, svf] at h2 h2g h2L
  rw [signIf _ (by omega)] at h2
  have h2l : ∀ R, R < I → V p8 + V HALF ≤ V R → pu ≤ R := fun R hR h => h2L R hR (by omega)
  have bu := A.le hpu
  -- the integer
  obtain ⟨K, hK⟩ : ∃ K, K = V pu / U := ⟨_, rfl⟩
  have kd := Nat.div_add_mod (V pu) U
  have km := Nat.mod_lt (V pu) U0
  rw [← hK] at kd
  have K8 : K ≤ 8 := by
    have : V pu / U < 9 := Nat.div_lt_of_lt_mul (by omega)
    omega
  have cv : (double.read (wd false pu)).toInt .zero = some (K : Int) := by rw [A.int (by omega), hK]
  have uK := A.rk K (by omega)
  have uK1 := A.rk (K + 1) (by omega)
  generalize hKU : K * U = KU at uK
  have eK1 : (K + 1) * U = KU + U := by rw [Nat.succ_mul, hKU]
  rw [eK1] at uK1
  rw [Nat.mul_comm U K, hKU] at kd
  have up : V p8 + V HALF < KU + U := by
    apply Classical.byContradiction
    intro c
    have g := h2g (RK (K + 1)) (Nat.le_of_lt (iK _ (by omega))) (by rw [uK1]; omega)
    have g2 := A.le g
    rw [uK1] at g2
    omega
  have dn : 4 * KU ≤ 4 * V p8 + 3 * U := by
    apply Classical.byContradiction
    intro c
    by_cases k0 : K = 0
    · rw [k0, Nat.zero_mul] at hKU; omega
    · have uM := A.rm K (by omega) (by omega)
      rw [Nat.mul_assoc, hKU] at uM
      have g := h2l (RM K) (iM _ (by omega)) (by omega)
      have g2 := A.le g
      omega
  have hkf := ofInt_RK K (by omega)
  -- 8 t - k
  have c34 := A.r34
  obtain ⟨pd, hpd, h3, _⟩ := A.sub (s := false) (t := false) (r := p8) (q := RK K) (by omega) (iK _ (by omega)) R34 I5 (by rw [svf, Bool.not_false, svt, uK]; omega)
  rw [svf, Bool.not_false, svt, uK] at h3
  have bd := A.le hpd
  obtain ⟨sd, hsd⟩ : ∃ sd, sd = (if (V p8 : Int) + -(KU : Int) = 0 then false && !false else decide ((V p8 : Int) + -(KU : Int) < 0)) := ⟨_, rfl⟩
  have h3' : double.sub (wd false p8) (wd false (RK K)) = some (wd sd pd) := by rw [hsd]; exact h3
  have sd0 : K = 0 → sd = false := fun k0 => by
    rw [k0, Nat.zero_mul] at hKU
    rw [hsd]
    exact signIf _ (by omega)
  -- t k
  have hRK8 : V (RK K) ≤ 8 * U := by
    rw [uK, ← hKU]; exact Nat.mul_le_mul_right _ K8
  obtain ⟨ptk, hptk, h4⟩ := A.mul (s := false) (t := false) (r := q) (q := RK K) (by omega) (iK _ (by omega)) EIGHT I2 (by
    rw [Nat.mul_comm, cE]; exact Nat.mul_le_mul hRK8 bq)
  have btk := A.le hptk
  have c16 := A.r16
  -- 8 + t k
  obtain ⟨pe, hpe, h5, h5g, _⟩ := A.add (s := false) (t := false) (r := EIGHT) (q := ptk) I2 (by omega) R16 I6 (by rw [svf, svf]; omega)
  rw [svf, svf] at h5 h5g
  rw [signIf _ (by omega)] at h5
  have pe8 : EIGHT ≤ pe := h5g EIGHT (by omega) (by omega)
  have be := A.le pe8
  rw [cE] at be
  -- r
  have c332 := A.r332
  obtain ⟨pr, hpr, h6⟩ := A.div (s := sd) (t := false) (r := pd) (q := pe) (by omega) (by omega) (by intro c; rw [c] at pe8; revert pe8; decide) R332 I7 (by
    have g1 : V pd * (4 * U) ≤ 3 * U * U := by
      have := Nat.mul_le_mul_right U (show 4 * V pd ≤ 3 * U by omega)
      rwa [Nat.mul_comm 4, Nat.mul_assoc] at this
    have g2 : 32 * V R332 * (8 * U) ≤ 32 * V R332 * V pe := Nat.mul_le_mul_left _ be
    have g3 : 32 * V R332 * V pe = 32 * (V R332 * V pe) := Nat.mul_assoc _ _ _
    have g4 : 3 * U * (8 * U) = 8 * (3 * U * U) := by ac_rfl
    have g5 : V pd * (4 * U) = 4 * (V pd * U) := by ac_rfl
    rw [g3, c332, g4] at g2
    rw [g5] at g1
    omega)
  have br := A.le hpr
  simp only [Bool.xor_false] at h6
  -- r r
  have c64 := A.r64
  obtain ⟨prr, hprr, h7⟩ := A.mul (s := sd) (t := sd) (r := pr) (q := pr) (by omega) (by omega) R64 I8 (by
    have g1 : 32 * V pr * (32 * V pr) ≤ 3 * U * (3 * U) := Nat.mul_le_mul (by omega) (by omega)
    have g2 : 32 * V pr * (32 * V pr) = 1024 * (V pr * V pr) := by
      rw [show 1024 = 32 * 32 from rfl]; ac_rfl
    have g3 : 3 * U * (3 * U) = 9 * (U * U) := by
      rw [show 9 = 3 * 3 from rfl]; ac_rfl
    have g4 : 64 * (V R64 * U) = U * U := by rw [← Nat.mul_assoc, c64]
    omega)
  simp only [Bool.xor_self] at h7
  have brr := A.le hprr
  -- r rr
  obtain ⟨pq, hpq, h8⟩ := A.mul (s := sd) (t := false) (r := pr) (q := prr) (by omega) (by omega) pr (by omega) (Nat.mul_le_mul_left _ (by omega))
  simp only [Bool.xor_false] at h8
  -- horner
  obtain ⟨ph, hph, h9⟩ := A.horn hprr
  have bh := A.le hph
  rw [A.one] at bh
  -- m
  obtain ⟨pm, hpm, h10⟩ := A.mul (s := sd) (t := true) (r := pq) (q := ph) (by omega) (by omega) pq (by omega) (Nat.mul_le_mul_left _ bh)
  have bm : V pm ≤ V pr := A.le (by omega)
  -- a
  have hsum : (svV V sd pr + svV V (sd ^^ true) pm).natAbs ≤ V pr ∧ (sd = false → 0 ≤ svV V sd pr + svV V (sd ^^ true) pm) := by
    cases sd
    · simp only [Bool.false_xor, svf, svt]; exact ⟨by omega, fun _ => by omega⟩
    · simp only [Bool.xor_self, svf, svt]; exact ⟨by omega, fun h => by cases h⟩
  obtain ⟨pa, hpa, h11, _, _⟩ := A.add (s := sd) (t := sd ^^ true) (r := pr) (q := pm) (by omega) (by omega) pr (by omega) hsum.1
  obtain ⟨ga, hga⟩ : ∃ ga, ga = (if svV V sd pr + svV V (sd ^^ true) pm = 0 then sd && (sd ^^ true) else decide (svV V sd pr + svV V (sd ^^ true) pm < 0)) := ⟨_, rfl⟩
  rw [← hga] at h11
  have ga0 : sd = false → ga = false := fun h => by
    have g := hsum.2 h
    rw [hga]
    subst h
    exact signIf _ g
  have ba := A.le hpa
  -- b
  have c57 := A.c57
  have c6 := A.r6
  obtain ⟨pb, hpb, h12⟩ := A.mul (s := ga) (t := false) (r := pa) (q := C57) (by omega) I9 R6 I10 (by
    have g1 : 32 * V pa * V C57 ≤ 3 * U * (58 * U) := Nat.mul_le_mul (by omega) c57
    have g2 : 32 * V pa * V C57 = 32 * (V pa * V C57) := Nat.mul_assoc _ _ _
    have g3 : 3 * U * (58 * U) = 174 * (U * U) := by
      rw [show 174 = 3 * 58 from rfl]; ac_rfl
    have g4 : V R6 * U = 6 * (U * U) := by rw [c6, Nat.mul_assoc]
    omega)
  simp only [Bool.xor_false] at h12
  have bb := A.le hpb
  -- c
  have eE := A.re K (by omega)
  have c51 := A.r51
  have sb := svbd (V := V) ga pb
  have pos : 0 ≤ svV V false (RE K) + svV V ga pb := by
    rw [svf]
    by_cases k0 : K = 0
    · rw [ga0 (sd0 k0), svf]; omega
    · have := eE.2 (by omega); omega
  obtain ⟨pc, hpc, h13, _, _⟩ := A.add (s := false) (t := ga) (r := RE K) (q := pb) (iE _ (by omega)) (by omega) R51 I11 (by rw [svf] at pos ⊢; omega)
  rw [signIf _ pos] at h13
  refine ⟨pc, Nat.le_trans hpc (by decide), _, _, _, _, _, _, _, _, _, _, _, _, _, K, ⟨K8, h1, h2, cv, hkf, h3', h4, h5, h6, h7, h8, h9, h10, h11, h12, h13⟩⟩
end
theorem atan_gen {q : Nat} (hq : q ≤ ONE) : ∃ p, p ≤ C90 ∧ AtanTo (wd false q) (wd false p) := atan_core abs_holds hq
end Go.Proofs.YbulkbyeyDoor
