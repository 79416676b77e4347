/-
  The walks of math.Abs (12), Signbit (26), IsNaN (23), IsInf (24), Sqrt (8) over words.
-/
import Derived.Test.YbulkbyeyDoorFc
import Derived.Test.YbulkbyeyDoorRows
import Derived.WalkKit
import Derived.WalkSpells
import Derived.WalkLawsBesides
import Derived.BigQuiet
import Derived.Deep.QuietTactic
import Derived.Deep.RegionWith
import Derived.RegionTactic
import Derived.Laws.Externs
namespace Go.Proofs.YbulkbyeyDoor
open Go.RowKit Ieee
set_option linter.unusedVariables false

theorem x22 (b : Nat) (w : World) : (callFunc 22 #[.float .f64 b]).run Ybad.prog w = .ok (.value (.int .u64 b)) w := by
  rw [run_callFunc_extern (e := Extern.MathFloatBits.float64bits) Ybad.func22 (by kernel_rfl) (by kernel_rfl) (by kernel_rfl) (by kernel_rfl)]
  rfl
theorem x21 (b : Int) (w : World) : (callFunc 21 #[.int .u64 b]).run Ybad.prog w = .ok (.value (.float .f64 b.toNat)) w := by
  rw [run_callFunc_extern (e := Extern.MathFloatBits.float64frombits) Ybad.func21 (by kernel_rfl) (by kernel_rfl) (by kernel_rfl) (by kernel_rfl)]
  rfl
theorem x17 (b r : Nat) (h : double.sqrt b = some r) (w : World) : (callFunc 17 #[.float .f64 b]).run Ybad.prog w = .ok (.value (.float .f64 r)) w := by
  rw [run_callFunc_extern (e := Extern.MathSqrt.sqrt) Ybad.func17 (by kernel_rfl) (by kernel_rfl) (by kernel_rfl) (by kernel_rfl)]
  have e : Sem.run Ybad.prog (Extern.MathSqrt.sqrt #[.float .f64 b]) w = .ok (.float .f64 r) w := by
    show Sem.run _ (match double.sqrt b with | some r => pure (Value.float .f64 r) | none => do pure (Value.float .f64 (← choose (.nanBits .f64 b b)))) w = _
    rw [h]; rfl
  rw [e]; rfl

/-- x &^ (1 << 63). -/
theorem bits_abs (s : Bool) (r : Nat) (h : r < SS) : bits .andNot .u64 ((wd s r : Nat) : Int) 9223372036854775808 = (r : Int) := by
  have hS : SS = 2 ^ 63 := rfl
  have hlt : wd s r < 18446744073709551616 := by
    rw [hS] at h
    unfold wd; rw [hS]; cases s <;> simp <;> omega
  have e := u64_andNot_nat (wd s r) 9223372036854775808 hlt (by decide)
  have h2 : (18446744073709551615 - 9223372036854775808 : Nat) = 2 ^ 63 - 1 := by decide
  rw [h2, Nat.and_two_pow_sub_one_eq_mod] at e
  have h3 := wd_rung s r h
  rw [hS] at h3
  rw [h3] at e
  exact e

set_option maxHeartbeats 400000 in
theorem abs_walk (s : Bool) (r : Nat) (h : r < SS) (w : World) : Calls Ybad.prog 12 #[.float .f64 (wd s r)] w fun e w' => e = .returned (.float .f64 (wd false r)) ∧ w' = w := by
  have hb := bits_abs s r h
  have h22 := x22
  have h21 := x21
  go_enter Ybad.func12, Ybad.ntmps12
  go_wp2
  go_ret
  exact ⟨rfl, rfl⟩
end Go.Proofs.YbulkbyeyDoor
