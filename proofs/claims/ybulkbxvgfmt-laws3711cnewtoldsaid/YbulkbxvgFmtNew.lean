/-
  The walks of network.New, network.NewFIFO and zzs3711cfresh (functions 7, 9, 8), and the facts on fmt.errorf that they want.
-/
import Derived.Test.YbulkbxvgFmtRows
import Derived.WalkKit
import Derived.WalkSpells
import Derived.WalkLawsBesides
import Derived.Stop.CallBack
import Derived.Stop.IfaceNil
import GoSem.ClaimData
namespace Go.Proofs.YbulkbxvgFmt
open Go.RowKit Go.Extern.Stop Go.Stop Go.Extern

theorem call14 (args : Array Value) (w : World) : (callFunc 14 args).run Ybaf.prog w = ((FmtStop.errorf #[9, 66] #[45] args).run Ybaf.prog w).andThen fun v w' => .ok (.value v) w' :=
  run_callFunc_extern Ybaf.func14 (by kernel_rfl) (by kernel_rfl) (by kernel_rfl) (by kernel_rfl) args w
theorem fguard (name : String) (w : World) : (FmtStop.guard name).run Ybaf.prog w = .ok () w := by kernel_rfl
def fmtB : Array UInt8 := #[97, 32, 110, 101, 116, 119, 111, 114, 107, 32, 111, 102, 32, 37, 100, 32, 112, 114, 111, 99, 101, 115, 115, 101, 115, 58, 32, 105, 116, 32, 110, 101, 101, 100, 115, 32, 97, 116, 32, 108, 101, 97, 115, 116, 32, 111, 110, 101]
theorem fmt0 : FmtStop.printed? ⟨#[97, 32, 110, 101, 116, 119, 111, 114, 107, 32, 111, 102, 32, 37, 100, 32, 112, 114, 111, 99, 101, 115, 115, 101, 115, 58, 32, 105, 116, 32, 110, 101, 101, 100, 115, 32, 97, 116, 32, 108, 101, 97, 115, 116, 32, 111, 110, 101]⟩ 1 = some [(0, 100, false)] := by kernel_rfl
theorem fmt0r (w : World) : (FmtDoors.printed ⟨#[97, 32, 110, 101, 116, 119, 111, 114, 107, 32, 111, 102, 32, 37, 100, 32, 112, 114, 111, 99, 101, 115, 115, 101, 115, 58, 32, 105, 116, 32, 110, 101, 101, 100, 115, 32, 97, 116, 32, 108, 101, 97, 115, 116, 32, 111, 110, 101]⟩ 1).run Ybaf.prog w = .ok [(0, 100, false)] w := by kernel_rfl
def shape3 : List UInt8 := [5, 3, 0, 0, 0, 0, 0, 0, 0, 105, 110, 116]
theorem op3_100 (name : String) (x : Int) (w : World) : (FmtStop.operand name false 100 false (.iface 3 (.int .i64 x))).run Ybaf.prog w = .ok (shape3, Go.Extern.Stop.digits 8 (x % 2 ^ 64).toNat) w := by kernel_rfl
theorem op3_100w (name : String) (x : Int) (w : World) : (FmtStop.operand name true 100 false (.iface 3 (.int .i64 x))).run Ybaf.prog w = .ok (shape3, Go.Extern.Stop.digits 8 (x % 2 ^ 64).toNat) w := by kernel_rfl
theorem ptr63 (w : World) : (FmtStop.ptrTo "errors.errorString").run Ybaf.prog w = .ok 63 w := by kernel_rfl
theorem elem63 (w : World) : (elemOf 63).run Ybaf.prog w = .ok 65 w := by kernel_rfl
attribute [local go_sem] call14 fguard fmt0 fmt0r op3_100 op3_100w ptr63 elem63

set_option maxHeartbeats 400000 in
theorem new_low (F : Interp) (n : Int) (w : World) (hF : F.answers w.tape) (hn : n < 1) :
    Calls Ybaf.prog 7 #[.int .i64 n] w fun e w' => e = .returned (.tuple #[.pointer none, .iface 63 (.pointer (some ⟨w.heap.size + 1, 0, none⟩))]) ∧ Below w.heap.size w w' := by
  have hF' := hF
  unfold Interp.answers at hF'
  go_enter Ybaf.func7, Ybaf.ntmps7
  go_wp2
  go_ret2
  exact ⟨rfl, (((Below.refl _ _).alloc (Nat.le_refl _) _).alloc (by simp) _).drew⟩

theorem Ybaf.info61 : (Ybaf.prog.info? 61).map (fun i => (i.zero, i.size, i.bytes)) = some (some .nilFunc, 1, 8) := by kernel_rfl

/-- The new network's block. -/
def netObj (a n : Nat) (fifo : Bool) : Obj :=
  .cells #[.slice (some { block := a, off := 0 }) n n, .bool fifo, .slice none 0 0, .int .i64 0, .bool false, .slice none 0 0, .map none, .int .i64 0, .bool false, .slice none 0 0, .int .u64 0] 34
def netWorld (w : World) (n : Nat) (fifo : Bool) : World := (w.alloc (.cells (madeCells #[.nilFunc] n) 61)).alloc (netObj w.heap.size n fifo)

set_option maxHeartbeats 400000 in
theorem new_ok (n : Int) (w : World) (hn : 1 ≤ n) (hm : n ≤ 65536) :
    Calls Ybaf.prog 7 #[.int .i64 n] w fun e w' => e = .returned (.tuple #[.pointer (some ⟨w.heap.size + 1, 0, none⟩), .nilIface]) ∧ w' = netWorld w n.toNat false := by
  obtain ⟨i0, hi, hz0, hz1, hz2⟩ := info_parts Ybaf.info61
  have hmk := fun (w : World) => run_make (P := Ybaf.prog) w 26 61 i0 .nilFunc Ybaf.underlying26 hi hz0 .i64 .i64 n n (by omega) (by omega) (by rw [hz2]; omega) (by omega)
  have hn' : ¬ n < 1 := by omega
  rw [hz1] at hmk
  clear hi hz0 hz1 hz2
  go_enter Ybaf.func7, Ybaf.ntmps7
  go_wp2
  go_ret2
  exact ⟨rfl, rfl⟩

theorem neqFunc (w : World) : (binOp .neq 61 .nilFunc .nilFunc).run Ybaf.prog w = .ok (.bool false) w := by kernel_rfl
theorem neqS27 (w : World) : (binOp .neq 27 (.slice none 0 0) (.slice none 0 0)).run Ybaf.prog w = .ok (.bool false) w := by kernel_rfl
theorem neqS28 (w : World) : (binOp .neq 28 (.slice none 0 0) (.slice none 0 0)).run Ybaf.prog w = .ok (.bool false) w := by kernel_rfl
theorem neqS30 (w : World) : (binOp .neq 30 (.slice none 0 0) (.slice none 0 0)).run Ybaf.prog w = .ok (.bool false) w := by kernel_rfl
theorem neqM29 (w : World) : (binOp .neq 29 (.map none) (.map none)).run Ybaf.prog w = .ok (.bool false) w := by kernel_rfl
set_option maxHeartbeats 400000 in
theorem fresh_ok (B A n : Nat) (fifo : Bool) (w : World) (hm : n ≤ 65536)
    (c0 : w.cell? ⟨B, 0, none⟩ = some (.slice (some ⟨A, 0, none⟩) n n)) (c1 : w.cell? ⟨B, 1, none⟩ = some (.bool fifo)) (c2 : w.cell? ⟨B, 2, none⟩ = some (.slice none 0 0))
    (c3 : w.cell? ⟨B, 3, none⟩ = some (.int .i64 0)) (c4 : w.cell? ⟨B, 4, none⟩ = some (.bool false)) (c5 : w.cell? ⟨B, 5, none⟩ = some (.slice none 0 0))
    (c6 : w.cell? ⟨B, 6, none⟩ = some (.map none)) (c7 : w.cell? ⟨B, 7, none⟩ = some (.int .i64 0)) (c8 : w.cell? ⟨B, 8, none⟩ = some (.bool false))
    (c9 : w.cell? ⟨B, 9, none⟩ = some (.slice none 0 0)) (c10 : w.cell? ⟨B, 10, none⟩ = some (.int .u64 0))
    (hA : ∀ i, i < n → w.cell? ⟨A, i, none⟩ = some .nilFunc) :
    Calls Ybaf.prog 8 #[.pointer (some ⟨B, 0, none⟩), .int .i64 n, .bool fifo] w fun e w' => e = .returned (.bool true) ∧ w' = w := by
  have hb : (fifo != fifo) = false := by cases fifo <;> rfl
  have hb2 : (fifo == fifo) = true := by cases fifo <;> rfl
  have h1 := neqFunc
  have h2 := neqS27
  have h3 := neqS28
  have h4 := neqS30
  have h5 := neqM29
  go_enter Ybaf.func8, Ybaf.ntmps8
  go_wp2
  go_loop [7] (fun i => ∃ k : Nat, k ≤ n ∧ i = .int .i64 k) (fun i => n - (intOf i).toNat)
  case atStart => exact ⟨0, Nat.zero_le _, rfl⟩
  case round =>
    obtain ⟨k, hk, rfl⟩ := hrel
    by_cases hlt : k < n
    · have hc := hA k hlt
      clear hA
      go_wp2
      go_round
      case rel => exact ⟨k + 1, by omega, by go_num⟩
      case measure => simp [intOf]; omega
    · clear hA
      go_wp2
      go_ret
      exact ⟨rfl, rfl⟩
end Go.Proofs.YbulkbxvgFmt
