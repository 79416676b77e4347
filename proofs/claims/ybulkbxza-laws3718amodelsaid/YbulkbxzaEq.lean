/-
  The walk of slices.Equal over IDs (function 11), of two rows that hold the same.
-/
import Derived.Test.YbulkbxzaSucc
import Derived.BigQuiet
namespace Go.Proofs.Ybulkbxza
open Go.RowKit Go.Sort Go.Lib Go.Shelf
set_option linter.unusedVariables false
variable {P : Program} {k : Nat} {Z : Array Value}

theorem holdsK_drew {w : World} {b off : Nat} {d : Array ID} (h : HoldsK enc k w b off d) (q : Nat) : HoldsK enc k (w.drewN q) b off d := h

set_option maxHeartbeats 2000000 in
set_option maxRecDepth 100000 in
theorem equal_any (A : At P k Z) (g1 c1 g2 c2 n : Nat) (d : Array ID) (w : World) (hd : d.size = n) (h1 : HoldsK enc k w g1 0 d) (h2 : HoldsK enc k w g2 0 d) (hn : n ≤ 2000) :
    Calls P 11 #[.slice (some ⟨g1, 0, none⟩) n c1, .slice (some ⟨g2, 0, none⟩) n c2] w fun e w' => e = .returned (.bool true) ∧ ∃ q, w' = w.drewN q := by
  have mixed := A.mixed; have t3 := A.t3; have a3 := A.a3; have z3 := A.z3; have v3 := A.v3; have t4 := A.t4; have a4 := A.a4; have z4 := A.z4; have v4 := A.v4; have a23 := A.a23; have z23 := A.z23; have v23 := A.v23; have t24 := A.t24; have a24 := A.a24; have z24 := A.z24; have v24 := A.v24
  have u3 := run_underlying A.t3; have u4 := run_underlying A.t4; have u24 := run_underlying A.t24
  have FG := A.fn Yba.func11
  have AA : Aside (At P k Z) := A
  have H1 : Aside (HoldsK enc k w g1 0 d) := h1
  have H2 : Aside (HoldsK enc k w g2 0 d) := h2
  have gn := A.gn23
  clear h1 h2
  go_enter FG, Yba.ntmps11
  go_wp2_with fail
  go_loopw [13] (fun vi wr => ∃ i : Nat, i ≤ n ∧ vi = .int .i64 i ∧ ∃ q, wr = w.drewN q) (fun vi _ => n - (intOf vi).toNat)
  case atStart => exact ⟨0, Nat.zero_le _, rfl, 0, rfl⟩
  case round =>
    obtain ⟨i, hi, rfl, q, rfl⟩ := hrel
    by_cases hlt : i < n
    · have hil : i < d.size := by omega
      have l1 : ∀ m, Sem.run P (loadCellsFrom ⟨g1, i * k, none⟩ 0 k #[]) (w.drewN m) = .ok (enc d[i]!).toArray (w.drewN m) := fun m => by
        have := ldRow AA.out (holdsK_drew H1.out m) i hil
        rwa [Nat.zero_add] at this
      have l2 : ∀ m, Sem.run P (loadCellsFrom ⟨g2, i * k, none⟩ 0 k #[]) (w.drewN m) = .ok (enc d[i]!).toArray (w.drewN m) := fun m => by
        have := ldRow AA.out (holdsK_drew H2.out m) i hil
        rwa [Nat.zero_add] at this
      generalize d[i]! = m at l1 l2
      have hkm : (enc m).length = k := AA.out.hk m
      have hq : ∀ w, (Op.equalIn 10000 23 (.agg (enc m).toArray) (.agg (enc m).toArray)).run P w = .ok true w := fun w => by rw [AA.out.q23]; simp
      have i0 : (0 : Int) ≤ i := by omega
      have i1 : (i : Int) < n := by omega
      go_wp2_with fail
      refine wp_region_quiet_lit (by assumption) (by kernel_rfl) ?_
      repeat (with_reducible refine wpQuiet_step (fun K hK => ?_); go_simp; (with_reducible refine hK _ ?_; clear hK K))
      with_reducible refine wpQuiet_nil ?_
      intro _ hw'
      obtain ⟨nq, hw''⟩ := hw'
      subst hw''
      go_wp2
      go_roundw
      case rel => exact ⟨i + 1, by omega, by go_num, q + nq, rfl⟩
      case measure => simp [intOf]; omega
    · obtain rfl : i = n := by omega
      go_wp2
      go_ret
      exact ⟨rfl, q, rfl⟩
end Go.Proofs.Ybulkbxza
