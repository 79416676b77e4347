/-
  slices.Sort at []int32: insertionSortOrdered.
-/
import Derived.Test.YbulkbxxkSoA
namespace Go.Proofs.Ybulkbxxk
open Go.RowKit Go.Sort
set_option linter.unusedVariables false

theorem insOuter_go {a b i : Nat} {d : Array Int} (h : i < b) : insOuter ltInt a b i d = insOuter ltInt a b (i + 1) (insInner ltInt a i d) := by
  rw [insOuter, if_pos h]
theorem insOuter_end {a b i : Nat} {d : Array Int} (h : ¬ i < b) : insOuter ltInt a b i d = d := by
  rw [insOuter, if_neg h]
theorem insInner_go {a j : Nat} {d : Array Int} (h : a < j + 1) (hl : d[j + 1]! < d[j]!) : insInner ltInt a (j + 1) d = insInner ltInt a j (swp d (j + 1) j) := by
  rw [insInner, if_pos (by simp [ltInt, h, hl])]
theorem insInner_end {a j : Nat} {d : Array Int} (h : ¬ a < j + 1 ∨ ¬ d[j + 1]! < d[j]!) : insInner ltInt a (j + 1) d = d := by
  rw [insInner, if_neg]
  simp only [ltInt, Bool.and_eq_true, decide_eq_true_eq]
  omega

set_option maxRecDepth 100000 in
set_option maxHeartbeats 1000000 in
theorem ins_walk (b cap a B N : Nat) (d : Array Int) (w : World) (h : Row32 w b d) (hN : d.size = N) (hB : B ≤ N) (hm : N ≤ 1024) (ha : a ≤ N) :
    Calls Yba.prog 41 #[.slice (some ⟨b, 0, none⟩) N cap, .int .i64 a, .int .i64 B] w fun e w' => e = .returned (.tuple #[]) ∧ ∃ n, w' = RW w b n (insertionSort ltInt d a B) := by
  have HH : Aside (Row32 w b d) := h
  have HS : Aside (w = RW w b 0 d) := RW.self h
  clear h
  go_enter Yba.func41, Yba.ntmps41
  go_wp2
  go_loopw [6] (fun vi wr => ∃ (i n : Nat) (dk : Array Int), vi = .int .i64 ((i : Int) + 1) ∧ i ≤ N ∧ dk.size = N ∧ wr = RW w b n dk ∧ insOuter ltInt a B (i + 1) dk = insOuter ltInt a B (a + 1) d) (fun vi _ => N + 1 - (intOf vi).toNat)
  case atStart => exact ⟨a, 0, d, by go_num, ha, hN, HS.out, rfl⟩
  case round =>
    obtain ⟨i, n, dk, rfl, hi, hs, rfl, heq⟩ := hrel
    have HQ : Aside (insOuter ltInt a B (i + 1) dk = insOuter ltInt a B (a + 1) d) := heq
    clear heq
    by_cases h1 : i + 1 < B
    · go_wp2
      go_loopw [7] (fun vj wr => ∃ (j n : Nat) (dj : Array Int), vj = .int .i64 j ∧ j ≤ i + 1 ∧ dj.size = N ∧ wr = RW w b n dj ∧ insInner ltInt a j dj = insInner ltInt a (i + 1) dk) (fun vj _ => (intOf vj).toNat)
      case atStart => exact ⟨i + 1, n, dk, by go_num, by omega, hs, rfl, rfl⟩
      case round =>
        obtain ⟨j, n, dj, rfl, hj, hs', rfl, heq⟩ := hrel
        have HI : Aside (insInner ltInt a j dj = insInner ltInt a (i + 1) dk) := heq
        clear heq
        by_cases h2 : a < j
        · obtain ⟨j, rfl⟩ : ∃ j', j = j' + 1 := ⟨j - 1, by omega⟩
          have c1 := fun n => RW.cell HH.out (hs'.trans hN.symm) n (j + 1) (by omega)
          have c2 := fun n => RW.cell HH.out (hs'.trans hN.symm) n j (by omega)
          have f1 := fun n => RW.frozen HH.out dj n (j + 1) (by omega)
          have f2 := fun n => RW.frozen HH.out dj n j (by omega)
          have hda : decide ((a : Int) < (j : Int) + 1) = true := decide_eq_true (by omega)
          have e1 := fun n => RW.swp w b n dj (j + 1) j (by omega) (by omega)
          by_cases h3 : dj[j + 1]! < dj[j]!
          · have hd : decide (dj[j + 1]! < dj[j]!) = true := decide_eq_true h3
            have HI2 : Aside (insInner ltInt a j (swp dj (j + 1) j) = insInner ltInt a (i + 1) dk) := (insInner_go h2 h3).symm.trans HI.out
            go_wp2
            go_quiet ((go_at_call 47; exact Calls.quiet_of_same (less32 _ _ _)))
            rw [RW.drewN]
            go_wp2
            go_region
            go_wp2
            go_roundw
            case rel => exact ⟨j, _, _, by go_num, by omega, by rw [size_swp]; exact hs', RW.drew _ _ _ _, HI2.out⟩
            case measure => simp [intOf]
          · have hd : decide (dj[j + 1]! < dj[j]!) = false := decide_eq_false h3
            have HI2 : Aside (dj = insInner ltInt a (i + 1) dk) := (insInner_end (Or.inr h3)).symm.trans HI.out
            go_wp2
            go_quiet ((go_at_call 47; exact Calls.quiet_of_same (less32 _ _ _)))
            rw [RW.drewN]
            go_wp2
            go_roundw
            case rel => exact ⟨i + 1, _, dj, by go_num, by omega, hs', rfl, by rw [HI2.out, ← insOuter_go h1]; exact HQ.out⟩
            case measure => simp [intOf]; omega
        · have hda : decide ((a : Int) < (j : Int)) = false := decide_eq_false (by omega)
          have HI2 : Aside (dj = insInner ltInt a (i + 1) dk) := by
            rw [← HI.out]
            show dj = _
            cases j with
            | zero => rfl
            | succ j => rw [insInner_end (Or.inl (by omega))]
          go_wp2
          go_quiet ((go_at_call 47; exact Calls.quiet_of_same (less32 _ _ _)))
          rw [RW.drewN]
          go_wp2
          go_roundw
          case rel => exact ⟨i + 1, _, dj, by go_num, by omega, hs', rfl, by rw [HI2.out, ← insOuter_go h1]; exact HQ.out⟩
          case measure => simp [intOf]; omega
    · have HE : Aside (insertionSort ltInt d a B = dk) := by
        unfold insertionSort
        show insOuter ltInt a B (a + 1) d = dk
        rw [← HQ.out, insOuter_end h1]
      go_wp2
      go_end0
      exact ⟨rfl, n, by rw [HE.out]⟩
end Go.Proofs.Ybulkbxxk
