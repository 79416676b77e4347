/-
  The walks of container/heap.up and Fix over a *byElement.
-/
import Derived.Test.YbulkbxxkHeapD
namespace Go.Proofs.Ybulkbxxk
open Go.RowKit Go.Sort
set_option linter.unusedVariables false

theorem upF_top (f : Nat) (d : Array Iv) (j : Nat) (h : (j - 1) / 2 = j) : upF f d j = d := by
  cases f with
  | zero => rfl
  | succ f => simp [upF, h]
theorem upF_rest (f : Nat) (d : Array Iv) (j : Nat) (h : lt d[j]! d[(j - 1) / 2]! = false) : upF f d j = d := by
  cases f with
  | zero => rfl
  | succ f => simp [upF, h]
theorem upF_go (f : Nat) (d : Array Iv) (j : Nat) (h0 : ¬ (j - 1) / 2 = j) (h : lt d[j]! d[(j - 1) / 2]! = true) : upF (f + 1) d j = upF f (swp d ((j - 1) / 2) j) ((j - 1) / 2) := by
  simp [upF, h0, h]

set_option maxRecDepth 100000 in
set_option maxHeartbeats 1000000 in
theorem up_any (H b cap N j0 : Nat) (d : Array Iv) (w : World) (hHb : H ≠ b) (hc : w.cell? ⟨H, 0, none⟩ = some (.slice (some ⟨b, 0, none⟩) N cap)) (hH : HoldsK enc 5 w b 0 d) (hN : d.size = N) (hj0 : j0 < N) (hNc : N ≤ cap) (hcm : N ≤ 1024) :
    Calls Yba.prog 40 #[.iface 115 (.pointer (some ⟨H, 0, none⟩)), .int .i64 j0] w fun e w' => e = .returned (.tuple #[]) ∧ ∃ q, w' = PW w b q (upF j0 d j0) := by
  have mL := fun w' h => m_less ⟨H, 0, none⟩ w' (.slice (some ⟨b, 0, none⟩) N cap) h
  have mS := fun w' h => m_swap ⟨H, 0, none⟩ w' (.slice (some ⟨b, 0, none⟩) N cap) h
  obtain ⟨R, hR⟩ : ∃ R, R = upF j0 d j0 := ⟨_, rfl⟩
  rw [← hR]
  have HR : Hid (R = upF j0 d j0) := hR
  clear hR
  go_enter Yba.func40, Yba.ntmps40
  go_wp2
  go_loopw [1] (fun vj wr => ∃ (j n f : Nat) (dk : Array Iv), vj = .int .i64 j ∧ j < N ∧ dk.size = N ∧ wr = PW w b n dk ∧ j ≤ f ∧ upF f dk j = upF j0 d j0) (fun vj _ => (intOf vj).toNat)
  case atStart => exact ⟨j0, 0, j0, d, rfl, hj0, hN, PW.self hH, Nat.le_refl _, rfl⟩
  case round =>
    obtain ⟨j, n, f, dk, rfl, hj, hs, rfl, hf, heq⟩ := hrel
    have HQ : Hid (upF f dk j = upF j0 d j0) := heq
    have hcw : ∀ n, (PW w b n dk).cell? ⟨H, 0, none⟩ = some (.slice (some ⟨b, 0, none⟩) N cap) := fun n => by rw [PW.cell _ _ _ _ _ hHb]; exact hc
    have HL : Hid (∀ (n i j : Nat) (a c : Int) (v : Bool), a = i → c = j → i < N → j < N → lt dk[i]! dk[j]! = v →
        Calls Yba.prog 89 #[.slice (some ⟨b, 0, none⟩) N cap, .int .i64 a, .int .i64 c] (PW w b n dk) fun e w' => e = .returned (.bool v) ∧ ∃ q, w' = PW w b (n + q) dk) := by
      intro n i j a c v ha hc hi hj hv
      subst ha hc hv
      have := less_pw (w := w) (cap := cap) (n := n) hH (hs.trans hN.symm) i j (by omega) (by omega) (by omega) (by omega)
      rwa [hs] at this
    have HS : Hid (∀ (n i j : Nat) (a c : Int), a = i → c = j → i < N → j < N →
        Calls Yba.prog 31 #[.slice (some ⟨b, 0, none⟩) N cap, .int .i64 a, .int .i64 c] (PW w b n dk) fun e w' => e = .returned (.tuple #[]) ∧ ∃ q, w' = PW w b (n + q) (swp dk i j)) := by
      intro n i j a c ha hc hi hj
      subst ha hc
      have := swap_pw (w := w) (cap := cap) (n := n) hH (hs.trans hN.symm) i j (by omega) (by omega)
      rwa [hs] at this
    clear heq hc hH
    by_cases h1 : j = 0
    · subst h1
      have hR : R = dk := by rw [HR.out, ← HQ.out, upF_top f dk 0 rfl]
      subst hR
      go_wp2
      go_end0
      exact ⟨rfl, _, rfl⟩
    · have hj2 : ¬ (j - 1) / 2 = j := by omega
      cases hv : lt dk[j]! dk[(j - 1) / 2]! with
      | true =>
        obtain ⟨f', rfl⟩ : ∃ f', f = f' + 1 := ⟨f - 1, by omega⟩
        have HN : Hid (upF f' (swp dk ((j - 1) / 2) j) ((j - 1) / 2) = upF j0 d j0) := by
          have := HQ.out
          rwa [upF_go f' dk j hj2 hv] at this
        go_wp2_with fail
        refine (HL.out _ j ((j - 1) / 2) _ _ _ (by omega) (by omega) (by omega) (by omega) hv).mono ?_
        rintro e w1 ⟨rfl, q1, rfl⟩
        go_wp2_with fail
        refine (HS.out _ ((j - 1) / 2) j _ _ (by omega) (by omega) (by omega) (by omega)).mono ?_
        rintro e w1 ⟨rfl, q2, rfl⟩
        go_wp2
        go_roundw
        case rel => exact ⟨(j - 1) / 2, _, f', _, by go_num, by omega, by rw [size_swp]; exact hs, rfl, by omega, HN.out⟩
        case measure => simp [intOf]; omega
      | false =>
        have hR : R = dk := by rw [HR.out, ← HQ.out, upF_rest f dk j hv]
        subst hR
        go_wp2_with fail
        refine (HL.out _ j ((j - 1) / 2) _ _ _ (by omega) (by omega) (by omega) (by omega) hv).mono ?_
        rintro e w1 ⟨rfl, q1, rfl⟩
        go_wp2
        go_end0
        exact ⟨rfl, _, rfl⟩

theorem downF_size (f : Nat) : ∀ (d : Array Iv) (i n : Nat), (downF f d i n).1.size = d.size := by
  induction f with
  | zero => intro d i n; rfl
  | succ f ih =>
    intro d i n
    by_cases h : n ≤ 2 * i + 1
    · rw [downF_stop _ _ _ _ h]
    · obtain ⟨j, hj⟩ : ∃ j, j = if 2 * i + 2 < n ∧ lt d[2 * i + 2]! d[2 * i + 1]! = true then 2 * i + 2 else 2 * i + 1 := ⟨_, rfl⟩
      cases hl : lt d[j]! d[i]! with
      | true => rw [downF_go f d i n j h hj hl, ih, size_swp]
      | false => rw [downF_rest f d i n j h hj hl]

theorem upF_size (f : Nat) : ∀ (d : Array Iv) (j : Nat), (upF f d j).size = d.size := by
  induction f with
  | zero => intro d j; rfl
  | succ f ih =>
    intro d j
    by_cases h : (j - 1) / 2 = j
    · rw [upF_top _ _ _ h]
    · cases hl : lt d[j]! d[(j - 1) / 2]! with
      | true => rw [upF_go f d j h hl, ih, size_swp]
      | false => rw [upF_rest _ d j hl]

theorem PW.on {w : World} {b : Nat} {d1 d2 : Array Iv} (n m : Nat) (hs : d2.size = d1.size) (hb : b < w.heap.size) : PW (PW w b n d1) b m d2 = PW w b (n + m) d2 := by
  have := grow_step_growK enc 5 w #[] #[] n m b 0 d1 d2 hb hs
  unfold PW
  simpa [grow_empty] using this

set_option maxRecDepth 100000 in
set_option maxHeartbeats 1000000 in
theorem fix_any (H b cap N i : Nat) (d : Array Iv) (w : World) (hHb : H ≠ b) (hb : b < w.heap.size) (hc : w.cell? ⟨H, 0, none⟩ = some (.slice (some ⟨b, 0, none⟩) N cap)) (hH : HoldsK enc 5 w b 0 d) (hN : d.size = N) (hi : i < N) (hNc : N ≤ cap) (hcm : N ≤ 1024) :
    Calls Yba.prog 28 #[.iface 115 (.pointer (some ⟨H, 0, none⟩)), .int .i64 i] w fun e w' => e = .returned (.tuple #[]) ∧ ∃ q, w' = PW w b q (fixF d i) := by
  have mN := fun w' h => m_len ⟨H, 0, none⟩ w' (.slice (some ⟨b, 0, none⟩) N cap) h
  have HD0 := down_any H b cap N i d w hHb hc hH hN hi hNc hcm
  obtain ⟨R, hR⟩ : ∃ R, R = downF (N - i) d i N := ⟨_, rfl⟩
  have hsz : R.1.size = N := by rw [hR, downF_size, hN]
  have HX : Hid (fixF d i = if i < R.2 then R.1 else upF i R.1 i) := by unfold fixF; rw [hN, ← hR]; rfl
  rw [← hR] at HD0
  have HU : Hid (∀ q, Calls Yba.prog 40 #[.iface 115 (.pointer (some ⟨H, 0, none⟩)), .int .i64 i] (PW w b q R.1) fun e w' => e = .returned (.tuple #[]) ∧ ∃ q, w' = PW w b q (upF i R.1 i)) := by
    intro q
    refine (up_any H b cap N i R.1 (PW w b q R.1) hHb (by rw [PW.cell _ _ _ _ _ hHb]; exact hc) (PW.holds hH (hsz.trans hN.symm)) hsz hi hNc hcm).mono ?_
    rintro e w' ⟨he, m, rfl⟩
    exact ⟨he, _, PW.on q m (upF_size _ _ _) hb⟩
  clear hR hH
  by_cases hm : i < R.2
  · have hfx : fixF d i = R.1 := by rw [HX.out, if_pos hm]
    rw [hfx]
    have hdec : decide (i < R.2) = true := by simpa using hm
    rw [hdec] at HD0
    have HD : Hid (Calls Yba.prog 39 #[.iface 115 (.pointer (some ⟨H, 0, none⟩)), .int .i64 i, .int .i64 N] w fun e w' => e = .returned (.bool true) ∧ ∃ q, w' = PW w b q R.1) := HD0
    clear hfx HX hdec hsz HD0
    go_enter Yba.func28, Yba.ntmps28
    go_wp2_with (first
      | (go_at_call 88; refine (len_any _ _ _ _).mono ?_; rintro e w1 ⟨rfl, rfl⟩)
      | (go_at_call 39; refine (HD.out).mono ?_; rintro e w1 ⟨rfl, q, rfl⟩))
    go_end0
    exact ⟨rfl, q, rfl⟩
  · have hfx : fixF d i = upF i R.1 i := by rw [HX.out, if_neg hm]
    rw [hfx]
    have hdec : decide (i < R.2) = false := by simpa using hm
    rw [hdec] at HD0
    have HD : Hid (Calls Yba.prog 39 #[.iface 115 (.pointer (some ⟨H, 0, none⟩)), .int .i64 i, .int .i64 N] w fun e w' => e = .returned (.bool false) ∧ ∃ q, w' = PW w b q R.1) := HD0
    clear hfx HX hdec hsz HD0
    go_enter Yba.func28, Yba.ntmps28
    go_wp2_with (first
      | (go_at_call 88; refine (len_any _ _ _ _).mono ?_; rintro e w1 ⟨rfl, rfl⟩)
      | (go_at_call 39; refine (HD.out).mono ?_; rintro e w1 ⟨rfl, q, rfl⟩)
      | (go_at_call 40; refine (HU.out _).mono ?_; rintro e w1 ⟨rfl, q2, rfl⟩))
    go_end0
    exact ⟨rfl, q2, rfl⟩
end Go.Proofs.Ybulkbxxk
