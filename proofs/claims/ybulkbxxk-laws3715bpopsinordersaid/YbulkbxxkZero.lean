/-
  slices.Clone and slices.Sort of no element.
-/
import Derived.Test.YbulkbxxkSoM
namespace Go.Proofs.Ybulkbxxk
open Go.RowKit Go.Sort
set_option linter.unusedVariables false

set_option maxRecDepth 100000 in
set_option maxHeartbeats 1000000 in
theorem ins_zero (p : Option Addr) (c : Nat) (w : World) : Calls Yba.prog 41 #[.slice p 0 c, .int .i64 0, .int .i64 0] w fun e w' => e = .returned (.tuple #[]) ∧ w' = w := by
  go_enter Yba.func41, Yba.ntmps41
  go_wp2
  go_loop [6] (fun vi => vi = .int .i64 1) (fun _ => 0)
  case atStart => rfl
  case round =>
    subst hrel
    go_wp2
    go_end0
    exact ⟨rfl, rfl⟩

set_option maxRecDepth 100000 in
set_option maxHeartbeats 1000000 in
theorem pdq_zero (p : Option Addr) (c : Nat) (w : World) (lim : Int) : Calls Yba.prog 29 #[.slice p 0 c, .int .i64 0, .int .i64 0, .int .i64 lim] w fun e w' => e = .returned (.tuple #[]) ∧ w' = w := by
  go_enter Yba.func29, Yba.ntmps29
  go_wp2_with fail
  go_loop [1, 2, 3, 8, 9] (fun va vB vl vb vp => va = .int .i64 0 ∧ vB = .int .i64 0 ∧ vl = .int .i64 lim ∧ vb = .bool true ∧ vp = .bool true) (fun _ _ _ _ _ => 0)
  case atStart => exact ⟨rfl, rfl, rfl, rfl, rfl⟩
  case round =>
    obtain ⟨rfl, rfl, rfl, rfl, rfl⟩ := hrel
    go_wp2_with fail
    refine (ins_zero p c w).mono ?_
    rintro e w' ⟨rfl, rfl⟩
    go_wp2_with fail
    refine bodyPost_ret (results_none rfl _ _ _) rfl ?_
    exact ⟨rfl, rfl⟩

set_option maxHeartbeats 400000 in
theorem sort_zero (p : Option Addr) (c : Nat) (w : World) : Calls Yba.prog 14 #[.slice p 0 c] w fun e w' => e = .returned (.tuple #[]) ∧ w' = w := by
  go_enter Yba.func14, Yba.ntmps14
  go_wp2_with fail
  refine (len_walk 0 _ (by omega) _ (by rfl)).mono ?_
  rintro e w2 ⟨rfl, rfl⟩
  go_wp2_with fail
  refine (pdq_zero p c _ _).mono ?_
  rintro e w3 ⟨rfl, rfl⟩
  go_wp2_with fail
  go_end0
  exact ⟨rfl, rfl⟩
set_option maxRecDepth 100000 in
set_option maxHeartbeats 1000000 in
theorem clone_zero (p : Option Addr) (c : Nat) (w : World) : Calls Yba.prog 13 #[.slice p 0 c] w fun e w' => (∃ p' c', e = .returned (.slice p' 0 c')) ∧ Below w.heap.size w w' := by
  cases p with
  | none =>
    refine (AnyE.slices_Clone_nil Yba.clone32 0 c w).mono ?_
    rintro e w' ⟨rfl, rfl⟩
    exact ⟨⟨_, _, rfl⟩, Below.refl _ _⟩
  | some x =>
    obtain ⟨i0, hi, hz0, hz1, hz2⟩ := info_parts Yba.info21
    have q39 : ∀ (w : World) (a : Option Addr) (n c n' c' : Nat), (binOp .eql 39 (.slice a n c) (.slice none n' c')).run Yba.prog w = .ok (.bool a.isNone) w := fun w a n c n' c' => Lib.run_eql_slice_nil w _ _ a n c n' c' Yba.underlying39
    go_enter Yba.func13, Yba.ntmps13
    go_wp2_with (at_builtin; refine wpList_append_own _ rfl _ _ 39 rfl w.heap.size 21 i0 (.int .i32 0) 1 4 Yba.underlying39 hi hz0 hz1 hz2 rfl (by omega) _ _ _ rfl (World.ownsRow_made w #[] 0 (Nat.le_refl _) (Nat.zero_le _) (by simp)) x 0 c [] rfl ?qc1 ?qc2 ?qc3 ?qc4 ?qc5 ?qc6 ?_)
    case qc1 => rfl
    case qc2 => intro j u hj; cases hj
    case qc3 => intro u hu; cases hu
    case qc4 => unfold maxLen; omega
    case qc5 => omega
    case qc6 => simp
    intro v' w1 hown hgrow hnil
    have hv : ∃ p' c', v' = .slice p' 0 c' := by
      rcases hown.2 with ⟨h1, _⟩ | ⟨g', cap', cur, hv, _⟩
      · exact ⟨_, _, h1⟩
      · exact ⟨_, _, hv⟩
    have hb : Below w.heap.size w w1 := ((Below.refl _ w).alloc (Nat.le_refl _) _).grown hgrow (by simp) (by intro k hk; simp [Value.ownBlock] at hk; omega)
    clear hown hgrow hnil
    go_wp2
    go_ret
    obtain ⟨p', c', rfl⟩ := hv
    exact ⟨⟨p', c', rfl⟩, hb⟩
end Go.Proofs.Ybulkbxxk
