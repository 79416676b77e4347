/-
  slices.Sort at []int32: siftDownOrdered, heapSortOrdered.
-/
import Derived.Test.YbulkbxxkSoC
namespace Go.Proofs.Ybulkbxxk
open Go.RowKit Go.Sort
set_option linter.unusedVariables false

set_option maxRecDepth 100000 in
set_option maxHeartbeats 2000000 in
theorem sift_walk (b cap lo hi first N : Nat) (d : Array Int) (w : World) (h : Row32 w b d) (hN : d.size = N) (hf : first + hi ≤ N) (hm : N ≤ 1024) (hlo : lo ≤ N) :
    Calls Yba.prog 61 #[.slice (some ⟨b, 0, none⟩) N cap, .int .i64 lo, .int .i64 hi, .int .i64 first] w fun e w' => e = .returned (.tuple #[]) ∧ ∃ n, w' = RW w b n (siftDown ltInt hi first lo d) ∧ (siftDown ltInt hi first lo d).size = N := by
  have HH : Aside (Row32 w b d) := h
  have HS : Aside (w = RW w b 0 d) := RW.self h
  clear h
  go_enter Yba.func61, Yba.ntmps61
  go_wp2
  go_loopw [8] (fun vi wr => ∃ (i n : Nat) (dk : Array Int), vi = .int .i64 i ∧ i ≤ N ∧ dk.size = N ∧ wr = RW w b n dk ∧ siftDown ltInt hi first i dk = siftDown ltInt hi first lo d) (fun vi _ => N + 1 - (intOf vi).toNat)
  case atStart => exact ⟨lo, 0, d, by go_num, hlo, hN, HS.out, rfl⟩
  case round =>
    obtain ⟨i, n, dk, rfl, hi1, hs, rfl, heq⟩ := hrel
    have HQ : Aside (siftDown ltInt hi first i dk = siftDown ltInt hi first lo d) := heq
    clear heq
    by_cases h1 : hi ≤ 2 * i + 1
    · have HE : Aside (siftDown ltInt hi first lo d = dk) := by
        show siftDown ltInt hi first lo d = dk
        rw [← HQ.out, sift_end h1]
      go_wp2
      go_end0
      exact ⟨rfl, n, by rw [HE.out], by rw [HE.out]; exact hs⟩
    · obtain ⟨p0, hp0⟩ : ∃ p, p = first + i := ⟨_, rfl⟩
      obtain ⟨p1, hp1⟩ : ∃ p, p = first + (2 * i + 1) := ⟨_, rfl⟩
      obtain ⟨p2, hp2⟩ : ∃ p, p = first + (2 * i + 2) := ⟨_, rfl⟩
      have HR : Aside (∀ c, kid hi first i dk = c → ∀ p, p = first + c → ¬ dk[p0]! < dk[p]! → siftDown ltInt hi first lo d = dk) := fun c hc p hp x => by
        subst hc hp hp0
        rw [← HQ.out, sift_rest h1 x]
      have HG : Aside (∀ c, kid hi first i dk = c → ∀ p, p = first + c → dk[p0]! < dk[p]! → siftDown ltInt hi first c (swp dk p0 p) = siftDown ltInt hi first lo d) := fun c hc p hp x => by
        subst hc hp hp0
        rw [← HQ.out, sift_go h1 x]
      have c0 := fun n => RW.cell HH.out (hs.trans hN.symm) n p0 (by omega)
      have c1 := fun n => RW.cell HH.out (hs.trans hN.symm) n p1 (by omega)
      have f0 := fun n => RW.frozen HH.out dk n p0 (by omega)
      have f1 := fun n => RW.frozen HH.out dk n p1 (by omega)
      have w1 : IntKind.i64.wrap (2 * (i : Int) + 1 + 1) = 2 * (i : Int) + 2 := wrap_small _ (by omega) (by omega) (by omega)
      have w2 : IntKind.i64.wrap ((first : Int) + (2 * (i : Int) + 1)) = (p1 : Int) := wrap_small _ (by omega) (by omega) (by omega)
      have w3 : IntKind.i64.wrap ((p1 : Int) + 1) = (p2 : Int) := wrap_small _ (by omega) (by omega) (by omega)
      have w4 : IntKind.i64.wrap ((first : Int) + (i : Int)) = (p0 : Int) := wrap_small _ (by omega) (by omega) (by omega)
      have w5 : IntKind.i64.wrap ((first : Int) + (2 * (i : Int) + 2)) = (p2 : Int) := wrap_small _ (by omega) (by omega) (by omega)
      have hN1 : p1 < N := by omega
      have hN0 : p0 < N := by omega
      by_cases h2 : 2 * i + 2 < hi
      · have c2 := fun n => RW.cell HH.out (hs.trans hN.symm) n p2 (by omega)
        have f2 := fun n => RW.frozen HH.out dk n p2 (by omega)
        have hda : decide (2 * (i : Int) + 2 < (hi : Int)) = true := decide_eq_true (by omega)
        have hN2 : p2 < N := by omega
        have n1 : ¬ p0 = p2 := by omega
        have n2 : ¬ p2 = p0 := by omega
        by_cases h3 : dk[p1]! < dk[p2]!
        · have HK : Aside (kid hi first i dk = 2 * i + 2) := kid_pos h2 (by rw [← hp1, ← hp2]; exact h3)
          have hdb := decide_eq_true h3
          by_cases h4 : dk[p0]! < dk[p2]!
          · have hdc := decide_eq_true h4
            have HG2 : Aside (siftDown ltInt hi first (2 * i + 2) (swp dk p0 p2) = siftDown ltInt hi first lo d) := HG.out _ HK.out _ hp2 h4
            have e1 := fun n => RW.swp w b n dk p0 p2 (by omega) (by omega)
            clear hp0 hp1 hp2
            generalize dk[p0]! = x at *
            generalize dk[p1]! = y at *
            generalize dk[p2]! = z at *
            go_wp2
            go_quiet ((go_at_call 47; exact Calls.quiet_of_same (less32 _ _ _)))
            rw [RW.drewN]
            go_wp2
            go_quiet ((go_at_call 47; exact Calls.quiet_of_same (less32 _ _ _)))
            rw [RW.drewN]
            go_wp2
            go_region
            go_wp2
            go_roundw
            case rel => exact ⟨2 * i + 2, _, _, by go_num, by omega, by rw [size_swp]; exact hs, RW.drew _ _ _ _, HG2.out⟩
            case measure => simp [intOf]; omega
          · have hdc := decide_eq_false h4
            have HE : Aside (siftDown ltInt hi first lo d = dk) := HR.out _ HK.out _ hp2 h4
            clear hp0 hp1 hp2
            generalize dk[p0]! = x at *
            generalize dk[p1]! = y at *
            generalize dk[p2]! = z at *
            go_wp2
            go_quiet ((go_at_call 47; exact Calls.quiet_of_same (less32 _ _ _)))
            rw [RW.drewN]
            go_wp2
            go_quiet ((go_at_call 47; exact Calls.quiet_of_same (less32 _ _ _)))
            rw [RW.drewN]
            go_wp2
            refine bodyPost_ret (results_none rfl _ _ _) rfl ?_
            exact ⟨rfl, _, by rw [HE.out], by rw [HE.out]; exact hs⟩
        · have HK : Aside (kid hi first i dk = 2 * i + 1) := kid_neg (by rw [← hp1, ← hp2]; exact fun x => h3 x.2)
          have hdb := decide_eq_false h3
          have n3 : ¬ p0 = p1 := by omega
          have n4 : ¬ p1 = p0 := by omega
          by_cases h4 : dk[p0]! < dk[p1]!
          · have hdc := decide_eq_true h4
            have HG2 : Aside (siftDown ltInt hi first (2 * i + 1) (swp dk p0 p1) = siftDown ltInt hi first lo d) := HG.out _ HK.out _ hp1 h4
            have e1 := fun n => RW.swp w b n dk p0 p1 (by omega) (by omega)
            clear hp0 hp1 hp2
            generalize dk[p0]! = x at *
            generalize dk[p1]! = y at *
            generalize dk[p2]! = z at *
            go_wp2
            go_quiet ((go_at_call 47; exact Calls.quiet_of_same (less32 _ _ _)))
            rw [RW.drewN]
            go_wp2
            go_quiet ((go_at_call 47; exact Calls.quiet_of_same (less32 _ _ _)))
            rw [RW.drewN]
            go_wp2
            go_region
            go_wp2
            go_roundw
            case rel => exact ⟨2 * i + 1, _, _, by go_num, by omega, by rw [size_swp]; exact hs, RW.drew _ _ _ _, HG2.out⟩
            case measure => simp [intOf]; omega
          · have hdc := decide_eq_false h4
            have HE : Aside (siftDown ltInt hi first lo d = dk) := HR.out _ HK.out _ hp1 h4
            clear hp0 hp1 hp2
            generalize dk[p0]! = x at *
            generalize dk[p1]! = y at *
            generalize dk[p2]! = z at *
            go_wp2
            go_quiet ((go_at_call 47; exact Calls.quiet_of_same (less32 _ _ _)))
            rw [RW.drewN]
            go_wp2
            go_quiet ((go_at_call 47; exact Calls.quiet_of_same (less32 _ _ _)))
            rw [RW.drewN]
            go_wp2
            refine bodyPost_ret (results_none rfl _ _ _) rfl ?_
            exact ⟨rfl, _, by rw [HE.out], by rw [HE.out]; exact hs⟩
      · have hda : decide (2 * (i : Int) + 2 < (hi : Int)) = false := decide_eq_false (by omega)
        have HK : Aside (kid hi first i dk = 2 * i + 1) := kid_neg (fun x => h2 x.1)
        have n3 : ¬ p0 = p1 := by omega
        have n4 : ¬ p1 = p0 := by omega
        by_cases h4 : dk[p0]! < dk[p1]!
        · have hdc := decide_eq_true h4
          have HG2 : Aside (siftDown ltInt hi first (2 * i + 1) (swp dk p0 p1) = siftDown ltInt hi first lo d) := HG.out _ HK.out _ hp1 h4
          have e1 := fun n => RW.swp w b n dk p0 p1 (by omega) (by omega)
          clear hp0 hp1 hp2
          generalize dk[p0]! = x at *
          generalize dk[p1]! = y at *
          go_wp2
          go_quiet ((go_at_call 47; exact Calls.quiet_of_same (less32 _ _ _)))
          rw [RW.drewN]
          go_wp2
          go_quiet ((go_at_call 47; exact Calls.quiet_of_same (less32 _ _ _)))
          rw [RW.drewN]
          go_wp2
          go_region
          go_wp2
          go_roundw
          case rel => exact ⟨2 * i + 1, _, _, by go_num, by omega, by rw [size_swp]; exact hs, RW.drew _ _ _ _, HG2.out⟩
          case measure => simp [intOf]; omega
        · have hdc := decide_eq_false h4
          have HE : Aside (siftDown ltInt hi first lo d = dk) := HR.out _ HK.out _ hp1 h4
          clear hp0 hp1 hp2
          generalize dk[p0]! = x at *
          generalize dk[p1]! = y at *
          go_wp2
          go_quiet ((go_at_call 47; exact Calls.quiet_of_same (less32 _ _ _)))
          rw [RW.drewN]
          go_wp2
          go_quiet ((go_at_call 47; exact Calls.quiet_of_same (less32 _ _ _)))
          rw [RW.drewN]
          go_wp2
          refine bodyPost_ret (results_none rfl _ _ _) rfl ?_
          exact ⟨rfl, _, by rw [HE.out], by rw [HE.out]; exact hs⟩
end Go.Proofs.Ybulkbxxk
