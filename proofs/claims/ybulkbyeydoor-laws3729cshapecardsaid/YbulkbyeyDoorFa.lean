/-
  The plain law of atanDeg: for 0 ≤ t ≤ 1 every step has a finite answer, and the last lies in [0, 90].
-/
import Derived.Test.YbulkbyeyDoorFd
import Derived.KernelRfl
namespace Go.Proofs.YbulkbyeyDoor
open Ieee
set_option linter.unusedVariables false
set_option exponentiation.threshold 3000

def UU : Nat := 2 ^ 1074
def ONE : Nat := 4607182418800017408
def EIGHT : Nat := 4620693217682128896
def HALF : Nat := 4602678819172646912
def C57 : Nat := 4633260481411531256
def C45 : Nat := 4631530004285489152
def C90 : Nat := 4636033603912859648
def C180 : Nat := 4640537203540230144
def R332 : Nat := 4591419820104220672
def R34 : Nat := 4604930618986332160
def R64 : Nat := 4580160821035794432
def R6 : Nat := 4618441417868443648
def R51 : Nat := 4632374429215621120
def R85 : Nat := 4620974692658839552
def R16 : Nat := 4625196817309499392
/-- float64(k), k up to 9; k less a quarter; the table atanEighths; the coefficients (rungs). -/
def RK (k : Nat) : Nat := #[0, 4607182418800017408, 4611686018427387904, 4613937818241073152, 4616189618054758400, 4617315517961601024, 4618441417868443648, 4619567317775286272, 4620693217682128896, 4621256167635550208][k]!
def RM (k : Nat) : Nat := #[0, 4604930618986332160, 4610560118520545280, 4613374868287651840, 4615626668101337088, 4617034042984890368, 4618159942891732992, 4619285842798575616, 4620411742705418240][k]!
def RE (k : Nat) : Nat := #[0, 4619708073670868611, 4624091320661237806, 4626479230031574343, 4628170614843514308, 4629701174556054853, 4630385794100093500, 4630993220972911864, 4631530004285489152][k]!
def RC (i : Nat) : Nat := #[4590207312512236308, 4591215111030249286, 4592670820000712476, 4594314991293244562, 4596373779694328218, 4599676419421066581][i]!
def cw (i : Nat) : Nat := wd (i % 2 == 1) (RC i)

theorem uvONE : uv ONE = UU := by decide +kernel
theorem uvEIGHT : uv EIGHT = 8 * UU := by decide +kernel
theorem uvHALF : 2 * uv HALF = UU := by decide +kernel
theorem uvC57 : uv C57 ≤ 58 * UU := by decide +kernel
theorem uvC45 : uv C45 = 45 * UU := by decide +kernel
theorem uvC90 : uv C90 = 90 * UU := by decide +kernel
theorem uvC180 : uv C180 = 180 * UU := by decide +kernel
theorem uvR332 : 32 * uv R332 = 3 * UU := by decide +kernel
theorem uvR34 : 4 * uv R34 = 3 * UU := by decide +kernel
theorem uvR64 : 64 * uv R64 = UU := by decide +kernel
theorem uvR6 : uv R6 = 6 * UU := by decide +kernel
theorem uvR51 : uv R51 = 51 * UU := by decide +kernel
theorem uvR85 : 2 * uv R85 = 17 * UU := by decide +kernel
theorem uvR16 : uv R16 = 16 * UU := by decide +kernel
theorem uvRK : ∀ k, k < 10 → uv (RK k) = k * UU := by decide +kernel
theorem uvRM : ∀ k, k < 9 → 0 < k → 4 * uv (RM k) + UU = 4 * k * UU := by decide +kernel
theorem uvRE : ∀ k, k < 9 → uv (RE k) ≤ 45 * UU ∧ (0 < k → 7 * UU ≤ uv (RE k)) := by decide +kernel
theorem UUpos : 0 < UU := Nat.two_pow_pos _

theorem sv_f (r : Nat) : sv false r = uv r := rfl
theorem sv_t (r : Nat) : sv true r = -(uv r : Int) := rfl
theorem sv_abs (s : Bool) (r : Nat) : (sv s r).natAbs = uv r := by cases s <;> simp [sv]
theorem sv_bd (s : Bool) (r : Nat) : -(uv r : Int) ≤ sv s r ∧ sv s r ≤ uv r := by cases s <;> simp [sv] <;> omega

/-- Products, by bounds. -/
theorem mul_bd {s t : Bool} {r q : Nat} (hr : r < II) (hq : q < II) (R : Nat) (hR : R < II) (h : uv r * uv q ≤ uv R * UU) : ∃ p, p ≤ R ∧ double.mul (wd s r) (wd t q) = some (wd (s ^^ t) p) := by
  obtain ⟨p, _, h1, h2, _⟩ := mul_wd (s := s) (t := t) hr hq
  exact ⟨p, h2 R hR h, h1⟩
theorem add_bd {s t : Bool} {r q : Nat} (hr : r < II) (hq : q < II) (R : Nat) (hR : R < II) (h : (sv s r + sv t q).natAbs ≤ uv R) : ∃ p, p ≤ R ∧ double.add (wd s r) (wd t q) = some (wd (if sv s r + sv t q = 0 then s && t else decide (sv s r + sv t q < 0)) p) ∧ (∀ R, R ≤ II → uv R ≤ (sv s r + sv t q).natAbs → R ≤ p) := by
  obtain ⟨p, _, h1, h2, h3⟩ := add_wd (s := s) (t := t) hr hq _ rfl
  exact ⟨p, h2 R hR h, h1, h3⟩
theorem sub_bd {s t : Bool} {r q : Nat} (hr : r < II) (hq : q < II) (R : Nat) (hR : R < II) (h : (sv s r + sv (!t) q).natAbs ≤ uv R) : ∃ p, p ≤ R ∧ double.sub (wd s r) (wd t q) = some (wd (if sv s r + sv (!t) q = 0 then s && !t else decide (sv s r + sv (!t) q < 0)) p) ∧ (∀ R, R ≤ II → uv R ≤ (sv s r + sv (!t) q).natAbs → R ≤ p) := by
  obtain ⟨p, _, h1, h2, h3⟩ := sub_wd (s := s) (t := t) hr hq _ rfl
  exact ⟨p, h2 R hR h, h1, h3⟩

/-- One step of Horner's rule. -/
theorem horn_step {s t : Bool} {r q g : Nat} (hr : r ≤ ONE) (hq : q ≤ R64) (hg : g ≤ HALF) : ∃ mid s' r', double.mul (wd s r) (wd false q) = some mid ∧ double.add mid (wd t g) = some (wd s' r') ∧ r' ≤ ONE ∧ (R64 < g → s' = t) := by
  have I1 : ONE < II := by decide
  have I2 : R64 < II := by decide
  have I3 : HALF < II := by decide
  have b1 := uvle hr
  have b2 := uvle hq
  have b3 := uvle hg
  rw [uvONE] at b1
  have c2 := uvR64
  have c3 := uvHALF
  obtain ⟨p, hp, h1⟩ := mul_bd (s := s) (t := false) (r := r) (q := q) (by omega) (by omega) R64 I2 (by
    rw [Nat.mul_comm (uv R64)]; exact Nat.mul_le_mul b1 b2)
  have b4 := uvle hp
  have s1 := sv_bd (s ^^ false) p
  have s2 := sv_bd t g
  obtain ⟨r', hr', h2, _⟩ := add_bd (s := s ^^ false) (t := t) (r := p) (q := g) (by omega) (by omega) ONE I1 (by rw [uvONE]; omega)
  refine ⟨_, _, r', h1, h2, hr', fun hlt => ?_⟩
  have b5 := uvlt hlt
  cases t
  · have e : sv false g = uv g := rfl
    rw [e]
    have : ¬ (sv (s ^^ false) p + (uv g : Int) = 0) := by omega
    rw [if_neg this]
    exact decide_eq_false (by omega)
  · have e : sv true g = -(uv g : Int) := rfl
    rw [e]
    have : ¬ (sv (s ^^ false) p + -(uv g : Int) = 0) := by omega
    rw [if_neg this]
    exact decide_eq_true (by omega)

/-- What horner does at x. -/
def Horn (x h : Nat) : Prop := ∃ hs mids : Nat → Nat, hs 0 = cw 0 ∧ hs 5 = h ∧ ∀ i, i < 5 → double.mul (hs i) x = some (mids i) ∧ double.add (mids i) (cw (i + 1)) = some (hs (i + 1))

theorem horn_ok {q : Nat} (hq : q ≤ R64) : ∃ p, p ≤ ONE ∧ Horn (wd false q) (wd true p) := by
  have k0 : cw 0 = wd false (RC 0) := rfl
  have k1 : cw 1 = wd true (RC 1) := rfl
  have k2 : cw 2 = wd false (RC 2) := rfl
  have k3 : cw 3 = wd true (RC 3) := rfl
  have k4 : cw 4 = wd false (RC 4) := rfl
  have k5 : cw 5 = wd true (RC 5) := rfl
  obtain ⟨m0, s1, r1, a0, c0, h1, _⟩ := horn_step (s := false) (t := true) (r := RC 0) (g := RC 1) (by decide) hq (by decide)
  obtain ⟨m1, s2, r2, a1, c1, h2, _⟩ := horn_step (s := s1) (t := false) (r := r1) (g := RC 2) h1 hq (by decide)
  obtain ⟨m2, s3, r3, a2, c2, h3, _⟩ := horn_step (s := s2) (t := true) (r := r2) (g := RC 3) h2 hq (by decide)
  obtain ⟨m3, s4, r4, a3, c3, h4, _⟩ := horn_step (s := s3) (t := false) (r := r3) (g := RC 4) h3 hq (by decide)
  obtain ⟨m4, s5, r5, a4, c4, h5, h6⟩ := horn_step (s := s4) (t := true) (r := r4) (g := RC 5) h4 hq (by decide)
  have : s5 = true := h6 (by decide)
  subst this
  refine ⟨r5, h5, fun | 0 => wd false (RC 0) | 1 => wd s1 r1 | 2 => wd s2 r2 | 3 => wd s3 r3 | 4 => wd s4 r4 | _ => wd true r5, fun | 0 => m0 | 1 => m1 | 2 => m2 | 3 => m3 | _ => m4, rfl, rfl, fun i hi => ?_⟩
  match i, hi with
  | 0, _ => exact ⟨a0, c0⟩
  | 1, _ => exact ⟨a1, c1⟩
  | 2, _ => exact ⟨a2, c2⟩
  | 3, _ => exact ⟨a3, c3⟩
  | 4, _ => exact ⟨a4, c4⟩

theorem toInt_wd {p : Nat} (hp : p < II) : (double.read (wd false p)).toInt .zero = some ((uv p / 2 ^ 1074 : Nat) : Int) := by
  obtain ⟨m, e, h1, u1, _⟩ := read_wd false p hp
  rw [h1]
  simp only [Datum.toInt, Datum.integral, Toward.cut, signed, Nat.shiftLeft_eq, Nat.one_mul, Bool.toNat_false, Nat.add_zero, Nat.pow_zero, Nat.mul_one, Bool.false_eq_true, if_false]
  congr 2
  rw [← u1]
  generalize hA : (-1074 + (e : Int)).toNat = A
  generalize hD : (-(-1074 + (e : Int))).toNat = D
  have hs : A + 1074 = e + D := by omega
  have hdiv : m * 2 ^ e / 2 ^ 1074 = m * 2 ^ A / 2 ^ D := by
    have : m * 2 ^ e * 2 ^ D / (2 ^ 1074 * 2 ^ D) = m * 2 ^ A * 2 ^ 1074 / (2 ^ D * 2 ^ 1074) := by
      have e1 : m * 2 ^ e * 2 ^ D = m * 2 ^ (e + D) := by rw [Nat.mul_assoc, ← Nat.pow_add]
      have e2 : m * 2 ^ A * 2 ^ 1074 = m * 2 ^ (A + 1074) := by rw [Nat.mul_assoc, ← Nat.pow_add]
      rw [e1, e2, hs, Nat.mul_comm (2 ^ 1074)]
    rwa [Nat.mul_div_mul_right _ _ (Nat.two_pow_pos _), Nat.mul_div_mul_right _ _ (Nat.two_pow_pos _)] at this
  rw [hdiv]
  generalize m * 2 ^ A = n
  by_cases c : D ≤ n.log2 + 2
  · rw [Nat.min_eq_left c]
  · rw [Nat.min_eq_right (by omega)]
    have g1 : n < 2 ^ (n.log2 + 1) := Nat.lt_log2_self
    have g2 : 2 ^ (n.log2 + 1) ≤ 2 ^ (n.log2 + 2) := Nat.pow_le_pow_right (by omega) (by omega)
    have g3 : 2 ^ (n.log2 + 2) ≤ 2 ^ D := Nat.pow_le_pow_right (by omega) (by omega)
    rw [Nat.div_eq_of_lt (by omega), Nat.div_eq_of_lt (by omega)]
end Go.Proofs.YbulkbyeyDoor
