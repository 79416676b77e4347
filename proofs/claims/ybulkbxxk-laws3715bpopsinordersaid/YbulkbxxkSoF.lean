/-
  slices.Sort at []int32: partitionEqualOrdered.
-/
import Derived.Test.YbulkbxxkSoE
import Derived.Deep.CutRange
import Derived.Deep.DeepCutAuto
import Derived.Deep.CutBlock
namespace Go.Proofs.Ybulkbxxk
open Go.RowKit Go.Sort
set_option linter.unusedVariables false

theorem scanUp_go {p : Int → Bool} {d : Array Int} {j i : Nat} (h : i ≤ j) (hp : p d[i]! = true) : scanUp p d j i = scanUp p d j (i + 1) := by
  rw [scanUp, if_pos (by simp [h, hp])]
theorem scanUp_end {p : Int → Bool} {d : Array Int} {j i : Nat} (h : ¬ i ≤ j ∨ p d[i]! = false) : scanUp p d j i = i := by
  rw [scanUp, if_neg]
  rcases h with h | h <;> simp [h]
theorem scanDown_go {p : Int → Bool} {d : Array Int} {i j : Nat} (h : i ≤ j + 1) (hp : p d[j + 1]! = true) : scanDown p d i (j + 1) = scanDown p d i j := by
  rw [scanDown, if_pos (by simp [h, hp])]
theorem scanDown_end {p : Int → Bool} {d : Array Int} {i j : Nat} (h : ¬ i ≤ j ∨ p d[j]! = false) (hi : 1 ≤ i) : scanDown p d i j = j := by
  cases j with
  | zero => rfl
  | succ j =>
    rw [scanDown, if_neg]
    rcases h with h | h <;> simp [h]
theorem scanUp_le (p : Int → Bool) (d : Array Int) (j : Nat) : ∀ (n i : Nat), j + 1 - i = n → i ≤ j + 1 → scanUp p d j i ≤ j + 1
  | 0, i, hn, hi => by rw [scanUp_end (Or.inl (by omega))]; exact hi
  | n + 1, i, hn, hi => by
    by_cases c : p d[i]! = true
    · rw [scanUp_go (by omega) c]; exact scanUp_le p d j n (i + 1) (by omega) (by omega)
    · rw [scanUp_end (Or.inr (by simpa using c))]; exact hi

theorem scanUp_stop (p : Int → Bool) (d : Array Int) (j : Nat) : ∀ (n i : Nat), j + 1 - i = n → i ≤ j + 1 → scanUp p d j i ≤ j → p d[scanUp p d j i]! = false
  | 0, i, hn, hi, h => by rw [scanUp_end (Or.inl (by omega))] at h; omega
  | n + 1, i, hn, hi, h => by
    by_cases c : p d[i]! = true
    · rw [scanUp_go (by omega) c] at h ⊢; exact scanUp_stop p d j n (i + 1) (by omega) (by omega) h
    · rw [scanUp_end (Or.inr (by simpa using c))]; simpa using c
theorem scanDown_stop (p : Int → Bool) (d : Array Int) (i : Nat) (h1 : 1 ≤ i) : ∀ (j : Nat), i ≤ scanDown p d i j → p d[scanDown p d i j]! = false
  | 0, h => by rw [scanDown_end (Or.inl (by omega)) h1] at h; omega
  | j + 1, h => by
    by_cases g : i ≤ j + 1
    · by_cases c : p d[j + 1]! = true
      · rw [scanDown_go g c] at h ⊢; exact scanDown_stop p d i h1 j h
      · rw [scanDown_end (Or.inr (by simpa using c)) h1]; simpa using c
    · rw [scanDown_end (Or.inl g) h1] at h; omega

set_option maxRecDepth 100000 in
set_option maxHeartbeats 4000000 in
theorem peq_rw (b cap a B p N n0 : Nat) (d0 d : Array Int) (w : World) (h : Row32 w b d0) (h0 : d0.size = N) (hN : d.size = N) (hB : B ≤ N) (hm : N ≤ 1024) (ha : a ≤ p) (hp : p < B) :
    Calls Yba.prog 48 #[.slice (some ⟨b, 0, none⟩) N cap, .int .i64 a, .int .i64 B, .int .i64 p] (RW w b n0 d) fun e w' => e = .returned (.int .i64 (partitionEqual ltInt d a B p).1) ∧ ∃ n, w' = RW w b n (partitionEqual ltInt d a B p).2 ∧ (partitionEqual ltInt d a B p).2.size = N := by
  have HH : Aside (Row32 w b d0) := h
  clear h
  obtain ⟨R, hR⟩ : ∃ R, R = partitionEqual ltInt d a B p := ⟨_, rfl⟩
  rw [← hR]
  have HR : Aside (R = partEqLoop ltInt a (a + 1) (B - 1) (swp d a p)) := hR
  clear hR
  go_enter Yba.func48, Yba.ntmps48
  have c1 := fun n => RW.cell HH.out (hN.trans h0.symm) n a (by omega)
  have c2 := fun n => RW.cell HH.out (hN.trans h0.symm) n p (by omega)
  have f1 := fun n => RW.frozen HH.out d n a (by omega)
  have f2 := fun n => RW.frozen HH.out d n p (by omega)
  have e1 := fun n => RW.swp w b n d a p (by omega) (by omega)
  have hs1 : (swp d a p).size = N := by rw [size_swp]; exact hN
  have w1 : IntKind.i64.wrap ((B : Int) - 1) = (B : Int) - 1 := wrap_small _ rfl (by omega) (by omega)
  go_upto_region 1 with fail
  go_cut [] (fun wx => ∃ n, wx = RW w b n (swp d a p))
  case first =>
    by_cases hap : a = p
    · subst hap
      clear c2 f2
      generalize d[a]! = x at c1 e1
      go_region
      rw [RW.drew]
      go_wp2
      go_meet
      exact ⟨_, rfl⟩
    · have hap2 : ¬ p = a := fun e => hap e.symm
      generalize d[a]! = x at c1 e1
      generalize d[p]! = y at c2 e1
      go_region
      rw [RW.drew]
      go_wp2
      go_meet
      exact ⟨_, rfl⟩
  case rest =>
  obtain ⟨n1, rfl⟩ := hcut
  clear c1 c2 f1 f2 e1
  generalize swp d a p = d1 at *
  go_wp2
  go_loopw [9, 10] (fun vi vj wr => ∃ (i j n : Nat) (dk : Array Int), vi = .int .i64 i ∧ vj = .int .i64 j ∧ a < i ∧ i ≤ j + 1 ∧ j < B ∧ dk.size = N ∧ wr = RW w b n dk ∧ partEqLoop ltInt a i j dk = partEqLoop ltInt a (a + 1) (B - 1) d1) (fun vi vj _ => ((intOf vj + 1) - intOf vi).toNat)
  case atStart => exact ⟨a + 1, B - 1, n1, d1, by go_num, by go_num, by omega, by omega, by omega, hs1, rfl, rfl⟩
  case round =>
    obtain ⟨i, j, n, dk, rfl, rfl, hai, hij, hjB, hs, rfl, heq⟩ := hrel
    have HQ : Aside (partEqLoop ltInt a i j dk = R) := heq.trans HR.out.symm
    clear heq
    obtain ⟨pv, hpv⟩ : ∃ v, v = dk[a]! := ⟨_, rfl⟩
    obtain ⟨i2, hi2⟩ : ∃ i2, i2 = scanUp (fun x => !ltInt pv x) dk j i := ⟨_, rfl⟩
    obtain ⟨j2, hj2⟩ : ∃ j2, j2 = scanDown (fun x => ltInt pv x) dk i2 j := ⟨_, rfl⟩
    have hii : i ≤ i2 := by rw [hi2]; exact scanUp_ge _ _ _ _
    have hi2j : i2 ≤ j + 1 := by rw [hi2]; exact scanUp_le _ _ _ _ _ rfl hij
    have hjj : j2 ≤ j := by rw [hj2]; exact scanDown_le _ _ _ _
    have HE : Aside (i2 > j2 → R = (i2, dk)) := fun g => by
      rw [← HQ.out, partEqLoop_eq, ← hpv, ← hi2, ← hj2, if_pos g]
    have HG : Aside (¬ i2 > j2 → partEqLoop ltInt a (i2 + 1) (j2 - 1) (swp dk i2 j2) = R) := fun g => by
      rw [← HQ.out]
      conv => rhs; rw [partEqLoop_eq, ← hpv, ← hi2, ← hj2, if_neg g]
    have HI2 : Aside (i2 = scanUp (fun x => !ltInt pv x) dk j i) := hi2
    have HJ2 : Aside (j2 = scanDown (fun x => ltInt pv x) dk i2 j) := hj2
    have HC : Aside (∀ n k, k < N → (RW w b n dk).cell? ⟨b, k, none⟩ = some (.int .i32 dk[k]!)) := fun n k hk => RW.cell HH.out (hs.trans h0.symm) n k (by omega)
    have HF : Aside (∀ n k, k < N → (RW w b n dk).frozen? ⟨b, k, none⟩ = false) := fun n k hk => RW.frozen HH.out dk n k (by omega)
    have HPV : Aside (pv = dk[a]!) := hpv
    clear hi2 hj2 hpv
    go_upto_block 2 with fail
    go_cut [9] (fun v wx => v = .int .i64 i2 ∧ ∃ n, wx = RW w b n dk)
    case first =>
      go_wp2_with fail
      go_loopw [9] (fun v wr => ∃ (k n : Nat), v = .int .i64 k ∧ i ≤ k ∧ k ≤ j + 1 ∧ wr = RW w b n dk ∧ i2 = scanUp (fun x => !ltInt pv x) dk j k) (fun v _ => N + 1 - (intOf v).toNat)
      case atStart => exact ⟨i, n, rfl, Nat.le_refl _, hij, rfl, HI2.out⟩
      case round =>
        obtain ⟨k, n, rfl, hk1, hk2, rfl, heq⟩ := hrel
        have HK : Aside (i2 = scanUp (fun x => !ltInt pv x) dk j k) := heq
        clear heq
        by_cases hg : k ≤ j
        · have hda : decide ((k : Int) ≤ (j : Int)) = true := decide_eq_true (by omega)
          have c1 : ∀ n, (RW w b n dk).cell? ⟨b, a, none⟩ = some (.int .i32 pv) := fun n => by rw [HPV.out]; exact HC.out n a (by omega)
          have c2 := fun n => HC.out n k (by omega)
          have haN : a < N := by omega
          have hkN : k < N := by omega
          by_cases hl : pv < dk[k]!
          · have hdb : decide (pv < dk[k]!) = true := decide_eq_true hl
            have hdc : decide (dk[k]! ≤ pv) = false := decide_eq_false (by omega)
            have HX : Aside (i2 = k) := by
              show i2 = k
              rw [HK.out, scanUp_end (Or.inr (by simp [ltInt, hl]))]
            generalize dk[k]! = y at c2 hdb hdc hl
            go_wp2
            go_quiet ((go_at_call 47; exact Calls.quiet_of_same (less32 _ _ _)))
            rw [RW.drewN]
            go_wp2
            go_meet
            exact ⟨by rw [HX.out], _, rfl⟩
          · have hdb : decide (pv < dk[k]!) = false := decide_eq_false hl
            have hdc : decide (dk[k]! ≤ pv) = true := decide_eq_true (by omega)
            have HX : Aside (i2 = scanUp (fun x => !ltInt pv x) dk j (k + 1)) := by
              show i2 = _
              rw [HK.out, scanUp_go hg (by simp [ltInt, hl])]
            generalize dk[k]! = y at c2 hdb hdc hl
            go_wp2
            go_quiet ((go_at_call 47; exact Calls.quiet_of_same (less32 _ _ _)))
            rw [RW.drewN]
            go_wp2
            go_roundw
            case rel => exact ⟨k + 1, _, by go_num, by omega, by omega, rfl, HX.out⟩
            case measure => simp [intOf]; omega
        · have hda : decide ((k : Int) ≤ (j : Int)) = false := decide_eq_false (by omega)
          have HX : Aside (i2 = k) := by
            show i2 = k
            rw [HK.out, scanUp_end (Or.inl hg)]
          go_wp2
          go_quiet ((go_at_call 47; exact Calls.quiet_of_same (less32 _ _ _)))
          rw [RW.drewN]
          go_wp2
          go_meet
          exact ⟨by rw [HX.out], _, rfl⟩
    case rest =>
    obtain ⟨rfl, n2, rfl⟩ := hcut
    go_upto_block 4 with fail
    go_cut [10] (fun v wx => v = .int .i64 j2 ∧ ∃ n, wx = RW w b n dk)
    case first =>
      go_wp2_with fail
      go_loopw [10] (fun v wr => ∃ (k n : Nat), v = .int .i64 k ∧ k ≤ j ∧ wr = RW w b n dk ∧ j2 = scanDown (fun x => ltInt pv x) dk i2 k) (fun v _ => (intOf v).toNat)
      case atStart => exact ⟨j, n2, rfl, Nat.le_refl _, rfl, HJ2.out⟩
      case round =>
        obtain ⟨k, n, rfl, hk2, rfl, heq⟩ := hrel
        have HK : Aside (j2 = scanDown (fun x => ltInt pv x) dk i2 k) := heq
        clear heq
        by_cases hg : i2 ≤ k
        · obtain ⟨k, rfl⟩ : ∃ k', k = k' + 1 := ⟨k - 1, by omega⟩
          have hda : decide ((i2 : Int) ≤ (k : Int) + 1) = true := decide_eq_true (by omega)
          have c1 : ∀ n, (RW w b n dk).cell? ⟨b, a, none⟩ = some (.int .i32 pv) := fun n => by rw [HPV.out]; exact HC.out n a (by omega)
          have c2 := fun n => HC.out n (k + 1) (by omega)
          have haN : a < N := by omega
          have hkN : k + 1 < N := by omega
          by_cases hl : pv < dk[k + 1]!
          · have hdb : decide (pv < dk[k + 1]!) = true := decide_eq_true hl
            have HX : Aside (j2 = scanDown (fun x => ltInt pv x) dk i2 k) := by
              show j2 = _
              rw [HK.out, scanDown_go hg (by simp [ltInt, hl])]
            generalize dk[k + 1]! = y at c2 hdb hl
            go_wp2
            go_quiet ((go_at_call 47; exact Calls.quiet_of_same (less32 _ _ _)))
            rw [RW.drewN]
            go_wp2
            go_roundw
            case rel => exact ⟨k, _, by go_num, by omega, rfl, HX.out⟩
            case measure => simp [intOf]
          · have hdb : decide (pv < dk[k + 1]!) = false := decide_eq_false hl
            have HX : Aside (j2 = k + 1) := by
              show j2 = k + 1
              rw [HK.out, scanDown_end (Or.inr (by simp [ltInt, hl])) (by omega)]
            generalize dk[k + 1]! = y at c2 hdb hl
            go_wp2
            go_quiet ((go_at_call 47; exact Calls.quiet_of_same (less32 _ _ _)))
            rw [RW.drewN]
            go_wp2
            go_meet
            exact ⟨by rw [HX.out]; first | rfl | simp, _, rfl⟩
        · have hda : decide ((i2 : Int) ≤ (k : Int)) = false := decide_eq_false (by omega)
          have HX : Aside (j2 = k) := by
            show j2 = k
            rw [HK.out, scanDown_end (Or.inl hg) (by omega)]
          go_wp2
          go_quiet ((go_at_call 47; exact Calls.quiet_of_same (less32 _ _ _)))
          rw [RW.drewN]
          go_wp2
          go_meet
          exact ⟨by rw [HX.out], _, rfl⟩
    case rest =>
    obtain ⟨rfl, n3, rfl⟩ := hcut
    by_cases hgt : i2 > j2
    · have HX : Aside (R = (i2, dk)) := HE.out hgt
      go_wp2
      go_ret
      exact ⟨by rw [HX.out]; rfl, _, by rw [HX.out], by rw [HX.out]; exact hs⟩
    · have HX := HG.out hgt
      have c1 := fun n => HC.out n i2 (by omega)
      have c2 := fun n => HC.out n j2 (by omega)
      have f1 := fun n => HF.out n i2 (by omega)
      have f2 := fun n => HF.out n j2 (by omega)
      have e1 := fun n => RW.swp w b n dk i2 j2 (by omega) (by omega)
      have hiN : i2 < N := by omega
      have hjN : j2 < N := by omega
      have HXX : Aside (partEqLoop ltInt a (i2 + 1) (j2 - 1) (swp dk i2 j2) = partEqLoop ltInt a (a + 1) (B - 1) d1) := HX.trans HR.out
      clear HX
      have w2 : IntKind.i64.wrap ((j2 : Int) - 1) = (j2 : Int) - 1 := wrap_small _ rfl (by omega) (by omega)
      have hap : ¬ i2 = j2 := by
        intro e
        have u := scanUp_stop (fun x => !ltInt pv x) dk j _ i rfl hij (by rw [← HI2.out]; omega)
        have v := scanDown_stop (fun x => ltInt pv x) dk i2 (by omega) j (by rw [← HJ2.out]; omega)
        rw [← HI2.out] at u
        rw [← HJ2.out, ← e] at v
        simp only [v] at u
        exact absurd u (by simp)
      have hap2 : ¬ j2 = i2 := fun e => hap e.symm
      generalize dk[i2]! = x at c1 e1
      generalize dk[j2]! = y at c2 e1
      go_wp2
      go_region
      rw [RW.drew]
      go_wp2
      go_roundw
      case rel => exact ⟨i2 + 1, j2 - 1, _, _, by go_num, by go_num, by omega, by omega, by omega, by rw [size_swp]; exact hs, rfl, HXX.out⟩
      case measure => simp [intOf]; omega
end Go.Proofs.Ybulkbxxk
