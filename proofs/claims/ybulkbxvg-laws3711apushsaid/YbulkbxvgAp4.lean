/-
  backlog.oldest where the backlog is not indexed.
-/
import Derived.Test.YbulkbxvgAp1
namespace Go.Proofs.Ybulkbxvg
open Go.RowKit
set_option linter.unusedVariables false
attribute [local go_sem] neqMap eqlMap

set_option maxRecDepth 100000 in
set_option maxHeartbeats 2000000 in
theorem oldest_walk (BB g cap n o f t : Nat) (F T : Nat → Nat) (w : World) (c3 : w.cell? ⟨BB, 3, none⟩ = some (.bool false)) (c1 : w.cell? ⟨BB, 1, none⟩ = some (.slice (some ⟨g, 0, none⟩) n cap))
    (hF : ∀ j, j < n → w.cell? ⟨g, j * 6 + 1, none⟩ = some (.int .i64 (F j))) (hT : ∀ j, j < n → w.cell? ⟨g, j * 6 + 2, none⟩ = some (.int .i64 (T j))) (hn : n ≤ 2000)
    (ho : o < n) (h1 : F o = f) (h2 : T o = t) (h3 : ∀ j, j < o → ¬ (F j = f ∧ T j = t)) :
    Calls Yba.prog 7 #[.pointer (some ⟨BB, 0, none⟩), .int .i64 f, .int .i64 t] w fun e w' => e = .returned (.tuple #[.int .i64 o, .bool true]) ∧ w' = w := by
  have HF : Aside (∀ j, j < n → w.cell? ⟨g, j * 6 + 1, none⟩ = some (.int .i64 (F j))) := hF
  have HT : Aside (∀ j, j < n → w.cell? ⟨g, j * 6 + 2, none⟩ = some (.int .i64 (T j))) := hT
  have H1 : Aside (F o = f) := h1
  have H2 : Aside (T o = t) := h2
  have H3 : Aside (∀ j, j < o → ¬ (F j = f ∧ T j = t)) := h3
  clear hF hT h1 h2 h3
  go_enter Yba.func7, Yba.ntmps7
  go_wp2_with fail
  go_loop [23, 8, 9] (fun vi _ _ => ∃ j : Nat, vi = .int .i64 j ∧ j ≤ o) (fun vi _ _ => n - (intOf vi).toNat)
  case atStart => exact ⟨0, rfl, Nat.zero_le _⟩
  case round =>
    obtain ⟨j, rfl, hj⟩ := hrel
    have hjn : (j : Int) < (n : Int) := by omega
    have e1 := HF.out j (by omega)
    have e2 := HT.out j (by omega)
    by_cases hjo : j = o
    · subst hjo
      rw [H1.out] at e1
      rw [H2.out] at e2
      go_wp2_with fail
      go_ret2
      exact ⟨rfl, rfl⟩
    · have hne := H3.out j (by omega)
      generalize F j = x at e1 hne
      generalize T j = y at e2 hne
      by_cases hx : x = f
      · have hy : ¬ y = t := fun h => hne ⟨hx, h⟩
        have hx' : (x : Int) = (f : Int) := by omega
        have hy' : ¬ (y : Int) = (t : Int) := by omega
        have k1 : ((x : Int) == (f : Int)) = true := by rw [beq_iff_eq]; exact hx'
        have k2 : ((y : Int) == (t : Int)) = false := by rw [beq_eq_false_iff_ne]; exact hy'
        clear hne hx hy hx' hy'
        go_wp2_with fail
        go_round
        case rel => exact ⟨j + 1, by go_num, by omega⟩
        case measure => simp [intOf]; omega
      · have hx' : ¬ (x : Int) = (f : Int) := by omega
        have k1 : ((x : Int) == (f : Int)) = false := by rw [beq_eq_false_iff_ne]; exact hx'
        clear hne hx hx'
        go_wp2_with fail
        go_round
        case rel => exact ⟨j + 1, by go_num, by omega⟩
        case measure => simp [intOf]; omega
end Go.Proofs.Ybulkbxvg
