/-
  The walk of LawS3729CShape (5) over finite words: x < 0.
-/
import Derived.Test.YbulkbyeyDoorWf
import Derived.Deep.CutRange
import Derived.Deep.DeepCutAuto
namespace Go.Proofs.YbulkbyeyDoor
open Go.RowKit Ieee
set_option linter.unusedVariables false
attribute [local go_sem] st_fl

set_option maxHeartbeats 16000000 in
set_option maxRecDepth 100000 in
theorem law_lt {x y z nx pL pN : Nat} {cy cz : Ordering} (ox : FloatKind.f64.format.order x 0 = some .lt) (oy : FloatKind.f64.format.order y 0 = some cy) (oz : FloatKind.f64.format.order z 0 = some cz)
    (hn : ∀ w, (Op.unary .neg (.float .f64 x)).run Ybad.prog w = .ok (.float .f64 nx) w) (SH : Aside (Shape x y nx pL pN .lt cy cz)) (w : World)
    (KX : Aside (∀ w, Calls Ybad.prog 13 #[.float .f64 x] w fun e w' => e = .returned (.bool true) ∧ w' = w))
    (KY : Aside (∀ w, Calls Ybad.prog 13 #[.float .f64 y] w fun e w' => e = .returned (.bool true) ∧ w' = w))
    (KZ : Aside (∀ w, Calls Ybad.prog 13 #[.float .f64 z] w fun e w' => e = .returned (.bool true) ∧ w' = w))
    (KL : Aside (Calls Ybad.prog 14 #[.float .f64 x, .float .f64 y, .float .f64 z] w fun e w' => e = .returned (.agg #[.float .f64 pL, .float .f64 pN]) ∧ Below w.heap.size w w'))
    (KG : Aside (∀ w, Calls Ybad.prog 15 #[.agg #[.float .f64 pL, .float .f64 pN]] w fun e w' => e = .returned (.bool true) ∧ Below w.heap.size w w')) :
    Calls Ybad.prog 5 #[.float .f64 x, .float .f64 y, .float .f64 z] w fun e w' => e = .returned (.bool true) ∧ Below w.heap.size w w' := by
  go_enter Ybad.func5, Ybad.ntmps5
  go_wp2_with fail
  refine (KX.out _).mono ?_
  rintro e wa ⟨rfl, rfl⟩
  go_wp2_with fail
  refine (KY.out _).mono ?_
  rintro e wb ⟨rfl, rfl⟩
  go_wp2_with fail
  refine (KZ.out _).mono ?_
  rintro e w0 ⟨rfl, rfl⟩
  go_wp2_with fail
  refine KL.out.mono ?_
  rintro e w1 ⟨rfl, hb1⟩
  have HB1 : Aside (Below w0.heap.size w0 w1) := hb1
  clear hb1
  go_wp2_with fail
  refine (KG.out _).mono ?_
  rintro e w2 ⟨rfl, hb2⟩
  have c0 : w2.cell? ⟨w1.heap.size, 0, none⟩ = some (.float .f64 pL) := by rw [World.cell?_of_block (hb2.block w1.heap.size (by simp))]; simp
  have c1 : w2.cell? ⟨w1.heap.size, 1, none⟩ = some (.float .f64 pN) := by rw [World.cell?_of_block (hb2.block w1.heap.size (by simp))]; simp
  have HB : Aside (Below w0.heap.size w0 w2) := (HB1.out.alloc HB1.out.size _).trans (hb2.mono (by simpa using Nat.le_succ_of_le HB1.out.size))
  clear hb2 KX KY KZ KL KG HB1
  generalize w1.heap.size = G at c0 c1 ⊢
  clear w1
  cases cy with
  | eq =>
    have r1 := SH.out.b4 rfl rfl
    have g1 : (FloatKind.f64.format.order y x == some .eq) = false := by
      have : FloatKind.f64.format.order y x ≠ some .eq := SH.out.e1 (by simp)
      simpa using this
    cases cz
    all_goals
      try have q1 : (FloatKind.f64.format.order pL 0 == some .lt) = false := beq_eq_false_iff_ne.2 (SH.out.c1 rfl)
      try have q2 : (FloatKind.f64.format.order pL 0 == some .gt) = false := beq_eq_false_iff_ne.2 (SH.out.c2 rfl)
      clear SH
      go_wp2_with fail
      go_ret
      exact ⟨rfl, HB.out⟩
  | gt =>
    have q3 : (FloatKind.f64.format.order pN 0 == some .lt) = false := by
      have : FloatKind.f64.format.order pN 0 ≠ some .lt := SH.out.d1 rfl
      simpa using this
    have g1 : (FloatKind.f64.format.order y x == some .eq) = false := by
      have : FloatKind.f64.format.order y x ≠ some .eq := SH.out.e1 (by simp)
      simpa using this
    cases cz
    all_goals
      try have q1 : (FloatKind.f64.format.order pL 0 == some .lt) = false := beq_eq_false_iff_ne.2 (SH.out.c1 rfl)
      try have q2 : (FloatKind.f64.format.order pL 0 == some .gt) = false := beq_eq_false_iff_ne.2 (SH.out.c2 rfl)
      clear SH
      go_wp2_with fail
      go_ret
      exact ⟨rfl, HB.out⟩
  | lt =>
    by_cases g : FloatKind.f64.format.order y x = some .eq
    · have r1 := SH.out.b7 rfl g
      rcases SH.out.d2 rfl with q3 | q3 | ⟨q3, q4⟩ <;> cases cz
      all_goals
        try have q1 : (FloatKind.f64.format.order pL 0 == some .lt) = false := beq_eq_false_iff_ne.2 (SH.out.c1 rfl)
        try have q2 : (FloatKind.f64.format.order pL 0 == some .gt) = false := beq_eq_false_iff_ne.2 (SH.out.c2 rfl)
        clear SH
        go_wp2_with fail
        go_ret
        exact ⟨rfl, HB.out⟩
    · have g1 : (FloatKind.f64.format.order y x == some .eq) = false := by simpa using g
      clear g
      rcases SH.out.d2 rfl with q3 | q3 | ⟨q3, q4⟩ <;> cases cz
      all_goals
        try have q1 : (FloatKind.f64.format.order pL 0 == some .lt) = false := beq_eq_false_iff_ne.2 (SH.out.c1 rfl)
        try have q2 : (FloatKind.f64.format.order pL 0 == some .gt) = false := beq_eq_false_iff_ne.2 (SH.out.c2 rfl)
        clear SH
        go_wp2_with fail
        go_ret
        exact ⟨rfl, HB.out⟩

end Go.Proofs.YbulkbyeyDoor
