/-
  slices.Sort at []int32: the row of a block, cmp.Less, insertionSortOrdered.
-/
import Derived.Test.YbulkbxxkHeap
import Derived.Sort.AssemblyPlain
import Derived.Sort.Row
import Derived.BigRegion
namespace Go.Proofs.Ybulkbxxk
open Go.RowKit Go.Sort
set_option linter.unusedVariables false

/-- A world with another row of int32 in block b, n draws on. -/
def RW (w : World) (b n : Nat) (d : Array Int) : World := putRow (Value.int .i32) (Sort.ahead w n) b 0 d
abbrev Row32 (w : World) (b : Nat) (d : Array Int) : Prop := Holds (Value.int .i32) w b 0 d
theorem RW.cell {w : World} {b : Nat} {d0 d : Array Int} (h : Row32 w b d0) (hs : d.size = d0.size) (n j : Nat) (hj : j < d.size) : (RW w b n d).cell? ⟨b, j, none⟩ = some (.int .i32 d[j]!) := by
  have := cell?_putRow (Value.int .i32) (Sort.ahead w n) b 0 d0 d h hs j hj
  rw [Nat.zero_add] at this
  exact this
theorem RW.frozen {w : World} {b : Nat} {d0 : Array Int} (h : Row32 w b d0) (d : Array Int) (n j : Nat) (hj : j < d0.size) : (RW w b n d).frozen? ⟨b, j, none⟩ = false := by
  have := (h j hj).2
  rw [Nat.zero_add] at this
  unfold RW
  rw [frozen?_putRow]
  exact this
theorem RW.swp (w : World) (b n : Nat) (d : Array Int) (i j : Nat) (hi : i < d.size) (hj : j < d.size) :
    ((RW w b n d).setCell ⟨b, i, none⟩ (.int .i32 d[j]!)).setCell ⟨b, j, none⟩ (.int .i32 d[i]!) = RW w b n (swp d i j) := by
  have := putRow_swp (Value.int .i32) (Sort.ahead w n) b 0 d i j hi hj
  rw [Nat.zero_add, Nat.zero_add] at this
  exact this
theorem RW.drewN (w : World) (b n q : Nat) (d : Array Int) : (RW w b n d).drewN q = RW w b (n + q) d := by
  unfold RW World.drewN
  rw [putRow_ahead, putRow_ahead]
  simp [Sort.ahead, Nat.add_assoc]
theorem RW.drew (w : World) (b n : Nat) (d : Array Int) : (RW w b n d).drew = RW w b (n + 1) d := RW.drewN w b n 1 d
theorem RW.self {w : World} {b : Nat} {d : Array Int} (h : Row32 w b d) : w = RW w b 0 d := (putRow_self (Value.int .i32) w b 0 d h).symm
theorem RW.other (w : World) (b n : Nat) (d : Array Int) (a : Addr) (h : a.block ≠ b) : (RW w b n d).cell? a = w.cell? a := cell?_putRow_other (Value.int .i32) (Sort.ahead w n) b 0 d a (Or.inl h)
theorem RW.holds {w : World} {b : Nat} {d0 d : Array Int} (h : Row32 w b d0) (hs : d.size = d0.size) (n : Nat) : Row32 (RW w b n d) b d := holds_putRow (Value.int .i32) (Sort.ahead w n) b 0 d0 d h hs
theorem RW.on (w : World) (b n m : Nat) (d1 d2 : Array Int) (hs : d2.size = d1.size) : RW (RW w b n d1) b m d2 = RW w b (n + m) d2 := by
  unfold RW
  rw [putRow_ahead_putRow _ _ _ _ _ _ _ _ hs]

theorem nan_walk (x : Int) (w : World) : Calls Yba.prog 66 #[.int .i32 x] w fun e w' => e = .returned (.bool false) ∧ w' = w := by
  go_enter Yba.func66, Yba.ntmps66
  go_wp2
  go_ret
  exact ⟨by simp, rfl⟩

set_option maxHeartbeats 400000 in
theorem less32 (x y : Int) (w : World) : Calls Yba.prog 47 #[.int .i32 x, .int .i32 y] w fun e w' => e = .returned (.bool (decide (x < y))) ∧ w' = w := by
  go_enter Yba.func47, Yba.ntmps47
  go_wp2_with (go_at_call 66; refine (nan_walk _ _).mono ?_; rintro e w' ⟨rfl, rfl⟩)
  go_ret
  exact ⟨rfl, rfl⟩
end Go.Proofs.Ybulkbxxk
