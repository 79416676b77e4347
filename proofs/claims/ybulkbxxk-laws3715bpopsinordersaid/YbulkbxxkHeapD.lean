/-
  The walks of container/heap.down and up and Fix over a *byElement.
-/
import Derived.Test.YbulkbxxkHeapB
namespace Go.Proofs.Ybulkbxxk
open Go.RowKit Go.Sort
set_option linter.unusedVariables false

set_option maxRecDepth 100000 in
set_option maxHeartbeats 1000000 in
theorem down_any (H b cap N i0 : Nat) (d : Array Iv) (w : World) (hHb : H ≠ b) (hc : w.cell? ⟨H, 0, none⟩ = some (.slice (some ⟨b, 0, none⟩) N cap)) (hH : HoldsK enc 5 w b 0 d) (hN : d.size = N) (hi0 : i0 < N) (hNc : N ≤ cap) (hcm : N ≤ 1024) :
    Calls Yba.prog 39 #[.iface 115 (.pointer (some ⟨H, 0, none⟩)), .int .i64 i0, .int .i64 N] w fun e w' => e = .returned (.bool (decide (i0 < (downF (N - i0) d i0 N).2))) ∧ ∃ q, w' = PW w b q (downF (N - i0) d i0 N).1 := by
  have mL := fun w' h => m_less ⟨H, 0, none⟩ w' (.slice (some ⟨b, 0, none⟩) N cap) h
  have mS := fun w' h => m_swap ⟨H, 0, none⟩ w' (.slice (some ⟨b, 0, none⟩) N cap) h
  obtain ⟨R, hR⟩ : ∃ R, R = downF (N - i0) d i0 N := ⟨_, rfl⟩
  rw [← hR]
  have HR : Hid (R = downF (N - i0) d i0 N) := hR
  clear hR
  go_enter Yba.func39, Yba.ntmps39
  go_wp2
  go_loopw [7] (fun vi wr => ∃ (i n f : Nat) (dk : Array Iv), vi = .int .i64 i ∧ i < N ∧ dk.size = N ∧ wr = PW w b n dk ∧ N - i ≤ f ∧ downF f dk i N = downF (N - i0) d i0 N) (fun vi _ => N - (intOf vi).toNat)
  case atStart => exact ⟨i0, 0, N - i0, d, rfl, hi0, hN, PW.self hH, Nat.le_refl _, rfl⟩
  case round =>
    obtain ⟨i, n, f, dk, rfl, hi, hs, rfl, hf, heq⟩ := hrel
    have HQ : Hid (downF f dk i N = downF (N - i0) d i0 N) := heq
    have hcw : ∀ n, (PW w b n dk).cell? ⟨H, 0, none⟩ = some (.slice (some ⟨b, 0, none⟩) N cap) := fun n => by rw [PW.cell _ _ _ _ _ hHb]; exact hc
    have HL : Hid (∀ (n i j : Nat) (a c : Int) (v : Bool), a = i → c = j → i < N → j < N → lt dk[i]! dk[j]! = v →
        Calls Yba.prog 89 #[.slice (some ⟨b, 0, none⟩) N cap, .int .i64 a, .int .i64 c] (PW w b n dk) fun e w' => e = .returned (.bool v) ∧ ∃ q, w' = PW w b (n + q) dk) := by
      intro n i j a c v ha hc hi hj hv
      subst ha hc hv
      have := less_pw (w := w) (cap := cap) (n := n) hH (hs.trans hN.symm) i j (by omega) (by omega) (by omega) (by omega)
      rwa [hs] at this
    have HS : Hid (∀ (n i j : Nat) (a c : Int), a = i → c = j → i < N → j < N →
        Calls Yba.prog 31 #[.slice (some ⟨b, 0, none⟩) N cap, .int .i64 a, .int .i64 c] (PW w b n dk) fun e w' => e = .returned (.tuple #[]) ∧ ∃ q, w' = PW w b (n + q) (swp dk i j)) := by
      intro n i j a c ha hc hi hj
      subst ha hc
      have := swap_pw (w := w) (cap := cap) (n := n) hH (hs.trans hN.symm) i j (by omega) (by omega)
      rwa [hs] at this
    clear heq hc hH
    by_cases h1 : N ≤ 2 * i + 1
    · have hfin := downF_stop f dk i N h1
      go_wp2
      go_ret
      have hR : R = (dk, i) := by rw [HR.out, ← HQ.out, hfin]
      subst hR
      exact ⟨by simp, n, rfl⟩
    · obtain ⟨f', rfl⟩ : ∃ f', f = f' + 1 := ⟨f - 1, by omega⟩
      have HX : Hid (∀ j, (j = if 2 * i + 2 < N ∧ lt dk[2 * i + 2]! dk[2 * i + 1]! = true then 2 * i + 2 else 2 * i + 1) → lt dk[j]! dk[i]! = false → R = (dk, i)) := by
        intro j hj hl
        rw [HR.out, ← HQ.out, downF_rest f' dk i N j h1 hj hl]
      have HG : Hid (∀ j, (j = if 2 * i + 2 < N ∧ lt dk[2 * i + 2]! dk[2 * i + 1]! = true then 2 * i + 2 else 2 * i + 1) → lt dk[j]! dk[i]! = true → downF f' (swp dk i j) j N = downF (N - i0) d i0 N) := by
        intro j hj hl
        rw [← HQ.out, downF_go f' dk i N j h1 hj hl]
      by_cases h2 : 2 * i + 2 < N
      · cases hv1 : lt dk[2 * i + 2]! dk[2 * i + 1]! with
        | true =>
          cases hv2 : lt dk[2 * i + 2]! dk[i]! with
          | true =>
            have HN : Hid (downF f' (swp dk i (2 * i + 2)) (2 * i + 2) N = downF (N - i0) d i0 N) := HG.out _ (by rw [if_pos ⟨h2, hv1⟩]) hv2
            go_wp2_with fail
            refine (HL.out _ (2 * i + 2) (2 * i + 1) _ _ _ (by omega) (by omega) (by omega) (by omega) hv1).mono ?_
            rintro e w1 ⟨rfl, q1, rfl⟩
            go_wp2_with fail
            refine (HL.out _ (2 * i + 2) i _ _ _ (by omega) (by omega) (by omega) (by omega) hv2).mono ?_
            rintro e w1 ⟨rfl, q2, rfl⟩
            go_wp2_with fail
            refine (HS.out _ i (2 * i + 2) _ _ (by omega) (by omega) (by omega) (by omega)).mono ?_
            rintro e w1 ⟨rfl, q3, rfl⟩
            go_wp2
            go_roundw
            case rel => exact ⟨2 * i + 2, _, f', _, by go_num, by omega, by rw [size_swp]; exact hs, rfl, by omega, HN.out⟩
            case measure => simp [intOf]; omega
          | false =>
            have hR : R = (dk, i) := HX.out _ (by rw [if_pos ⟨h2, hv1⟩]) hv2
            subst hR
            go_wp2_with fail
            refine (HL.out _ (2 * i + 2) (2 * i + 1) _ _ _ (by omega) (by omega) (by omega) (by omega) hv1).mono ?_
            rintro e w1 ⟨rfl, q1, rfl⟩
            go_wp2_with fail
            refine (HL.out _ (2 * i + 2) i _ _ _ (by omega) (by omega) (by omega) (by omega) hv2).mono ?_
            rintro e w1 ⟨rfl, q2, rfl⟩
            go_wp2
            go_ret
            exact ⟨by simp, _, rfl⟩
        | false =>
          cases hv2 : lt dk[2 * i + 1]! dk[i]! with
          | true =>
            have HN : Hid (downF f' (swp dk i (2 * i + 1)) (2 * i + 1) N = downF (N - i0) d i0 N) := HG.out _ (by rw [if_neg (by simp [hv1])]) hv2
            go_wp2_with fail
            refine (HL.out _ (2 * i + 2) (2 * i + 1) _ _ _ (by omega) (by omega) (by omega) (by omega) hv1).mono ?_
            rintro e w1 ⟨rfl, q1, rfl⟩
            go_wp2_with fail
            refine (HL.out _ (2 * i + 1) i _ _ _ (by omega) (by omega) (by omega) (by omega) hv2).mono ?_
            rintro e w1 ⟨rfl, q2, rfl⟩
            go_wp2_with fail
            refine (HS.out _ i (2 * i + 1) _ _ (by omega) (by omega) (by omega) (by omega)).mono ?_
            rintro e w1 ⟨rfl, q3, rfl⟩
            go_wp2
            go_roundw
            case rel => exact ⟨2 * i + 1, _, f', _, by go_num, by omega, by rw [size_swp]; exact hs, rfl, by omega, HN.out⟩
            case measure => simp [intOf]; omega
          | false =>
            have hR : R = (dk, i) := HX.out _ (by rw [if_neg (by simp [hv1])]) hv2
            subst hR
            go_wp2_with fail
            refine (HL.out _ (2 * i + 2) (2 * i + 1) _ _ _ (by omega) (by omega) (by omega) (by omega) hv1).mono ?_
            rintro e w1 ⟨rfl, q1, rfl⟩
            go_wp2_with fail
            refine (HL.out _ (2 * i + 1) i _ _ _ (by omega) (by omega) (by omega) (by omega) hv2).mono ?_
            rintro e w1 ⟨rfl, q2, rfl⟩
            go_wp2
            go_ret
            exact ⟨by simp, _, rfl⟩
      · cases hv2 : lt dk[2 * i + 1]! dk[i]! with
        | true =>
          have HN : Hid (downF f' (swp dk i (2 * i + 1)) (2 * i + 1) N = downF (N - i0) d i0 N) := HG.out _ (by rw [if_neg (fun h => h2 h.1)]) hv2
          go_wp2_with fail
          refine (HL.out _ (2 * i + 1) i _ _ _ (by omega) (by omega) (by omega) (by omega) hv2).mono ?_
          rintro e w1 ⟨rfl, q2, rfl⟩
          go_wp2_with fail
          refine (HS.out _ i (2 * i + 1) _ _ (by omega) (by omega) (by omega) (by omega)).mono ?_
          rintro e w1 ⟨rfl, q3, rfl⟩
          go_wp2
          go_roundw
          case rel => exact ⟨2 * i + 1, _, f', _, by go_num, by omega, by rw [size_swp]; exact hs, rfl, by omega, HN.out⟩
          case measure => simp [intOf]; omega
        | false =>
          have hR : R = (dk, i) := HX.out _ (by rw [if_neg (fun h => h2 h.1)]) hv2
          subst hR
          go_wp2_with fail
          refine (HL.out _ (2 * i + 1) i _ _ _ (by omega) (by omega) (by omega) (by omega) hv2).mono ?_
          rintro e w1 ⟨rfl, q2, rfl⟩
          go_wp2
          go_ret
          exact ⟨by simp, _, rfl⟩
end Go.Proofs.Ybulkbxxk
