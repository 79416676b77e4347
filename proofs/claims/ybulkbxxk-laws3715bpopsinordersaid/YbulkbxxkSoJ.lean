/-
  slices.Sort at []int32: math/bits.Len off the shelf, nextPowerOfTwo, xorshift.Next, breakPatternsOrdered (some permutation of the range).
-/
import Derived.Test.YbulkbxxkSoI
import Derived.Shelf.Small.Bits
import Derived.Shelf.Lay
import Derived.Ground.NamesProg
import Derived.OpenShut
import Derived.Laws.BitsAllLaws
namespace Go.Proofs.Ybulkbxxk
open Go.RowKit Go.Sort Go.Shelf
set_option linter.unusedVariables false
shelf_lay Lays.n125 Nm 125 at Yba as Yba.lays125

theorem len_walk (x : Nat) (w : World) (h : x ≤ 1024) (v : Int) (e : v = x) : Calls Yba.prog 30 #[.int .u64 v] w fun e w' => e = .returned (.int .i64 (Lib.bitLen x)) ∧ w' = w := by
  subst e
  have := Any.bits_Len Yba.lays125 x w (by omega) (by omega)
  exact this
theorem bitLen_small : ∀ x, x < 1025 → 1 ≤ x → x < 2 ^ Lib.bitLen x ∧ 2 ^ Lib.bitLen x ≤ 2 * x ∧ Lib.bitLen x ≤ 11 := by decide +kernel

set_option maxHeartbeats 400000 in
theorem pow_walk (x : Nat) (w : World) (h : x ≤ 1024) (h1 : 1 ≤ x) : Calls Yba.prog 62 #[.int .i64 x] w fun e w' => ∃ M : Nat, e = .returned (.int .u64 M) ∧ x < M ∧ M ≤ 2 * x ∧ w' = w := by
  have HL : Aside (∀ v : Int, v = x → Calls Yba.prog 30 #[.int .u64 v] w fun e w' => e = .returned (.int .i64 (Lib.bitLen x)) ∧ w' = w) := fun v e => len_walk x w h v e
  obtain ⟨k1, k2, k3⟩ := bitLen_small x (by omega) h1
  generalize Lib.bitLen x = r at *
  obtain ⟨M, hM⟩ : ∃ M, M = 2 ^ r := ⟨_, rfl⟩
  go_enter Yba.func62, Yba.ntmps62
  go_wp2_with fail
  refine (HL.out _ (by first | rfl | (simp [IntKind.wrap, IntKind.bits, IntKind.signed]; omega))).mono ?_
  rintro e w1 ⟨rfl, rfl⟩
  go_wp2
  go_ret
  refine ⟨M, ?_, by omega, by omega, rfl⟩
  show Ending.returned (Value.int .u64 (IntKind.u64.wrap ((2 : Int) ^ r))) = _
  have e : ((2 : Int) ^ r) = (M : Int) := by rw [hM]; simp
  rw [e]
  have e2 : IntKind.u64.wrap (M : Int) = (M : Int) := by
    simp [IntKind.wrap, IntKind.bits, IntKind.signed]; omega
  rw [e2]

/-- The world w with the random state in block R at x, n draws on. -/
def UW (w : World) (R n : Nat) (x : Int) : World := (w.setCell ⟨R, 0, none⟩ (.int .u64 x)).drewN n
theorem UW.cellR {w : World} {R : Nat} {v : Value} (h : w.cell? ⟨R, 0, none⟩ = some v) (n : Nat) (x : Int) : (UW w R n x).cell? ⟨R, 0, none⟩ = some (.int .u64 x) :=
  World.cell?_setCell_same (w := w) _ _ h
theorem UW.freeR {w : World} {R : Nat} (h : w.frozen? ⟨R, 0, none⟩ = false) (n : Nat) (x : Int) : (UW w R n x).frozen? ⟨R, 0, none⟩ = false := by
  show (w.setCell ⟨R, 0, none⟩ (.int .u64 x)).frozen? ⟨R, 0, none⟩ = _
  rw [World.frozen?_setCell]; exact h
theorem UW.set (w : World) (R n : Nat) (x y : Int) : (UW w R n x).setCell ⟨R, 0, none⟩ (.int .u64 y) = UW w R n y := by
  unfold UW
  show ((w.setCell ⟨R, 0, none⟩ (.int .u64 x)).setCell ⟨R, 0, none⟩ (.int .u64 y)).drewN n = _
  rw [setCell_eq, setCell_eq, setCell_eq, mapBlock_mapBlock]
  congr 2
  funext c
  simp
theorem UW.drew (w : World) (R n : Nat) (x : Int) : (UW w R n x).drew = UW w R (n + 1) x := rfl
theorem u64_range (op : BinOp) (x y : Int) : 0 ≤ bits op .u64 x y ∧ bits op .u64 x y < 18446744073709551616 := by
  have := wf_bits op .u64 x y
  simp [Lit.wf, IntKind.min, IntKind.max, IntKind.signed, IntKind.bits] at this
  omega

set_option maxRecDepth 100000 in
set_option maxHeartbeats 1000000 in
theorem next_walk (R n : Nat) (x : Int) (w : World) {v0 : Value} (c : w.cell? ⟨R, 0, none⟩ = some v0) (f : w.frozen? ⟨R, 0, none⟩ = false) :
    Calls Yba.prog 63 #[.pointer (some ⟨R, 0, none⟩)] (UW w R n x) fun e w' => ∃ (v : Int) (q : Nat), e = .returned (.int .u64 v) ∧ 0 ≤ v ∧ v < 18446744073709551616 ∧ w' = UW w R q v := by
  have c1 := fun n x => UW.cellR c n x
  have f1 := fun n x => UW.freeR f n x
  have s1 := fun n x y => UW.set w R n x y
  have HR : Aside (∀ op x y, 0 ≤ bits op .u64 x y ∧ bits op .u64 x y < 18446744073709551616) := u64_range
  clear c f
  go_enter Yba.func63, Yba.ntmps63
  go_wp2
  go_region
  rw [UW.drew]
  generalize bits .xor .u64 x _ = x1
  go_wp2
  go_region
  rw [UW.drew]
  generalize bits .xor .u64 x1 _ = x2
  go_wp2
  go_region
  rw [UW.drew]
  obtain ⟨v, hv⟩ : ∃ v, v = bits .xor .u64 x2 (IntKind.u64.wrap (x2 * 131072)) := ⟨_, rfl⟩
  have hr := HR.out .xor x2 (IntKind.u64.wrap (x2 * 131072))
  rw [← hv] at hr
  rw [← hv]
  clear hv
  go_wp2
  go_ret
  exact ⟨v, _, rfl, hr.1, hr.2, rfl⟩
end Go.Proofs.Ybulkbxxk
