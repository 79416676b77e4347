/-
  slices.Sort at []int32: partitionOrdered.
-/
import Derived.Test.YbulkbxxkSoF
namespace Go.Proofs.Ybulkbxxk
open Go.RowKit Go.Sort
set_option linter.unusedVariables false

set_option maxRecDepth 100000 in
set_option maxHeartbeats 8000000 in
theorem part_rw (b cap a B p N n0 : Nat) (d0 d : Array Int) (w : World) (h : Row32 w b d0) (h0 : d0.size = N) (hN : d.size = N) (hB : B ≤ N) (hm : N ≤ 1024) (ha : a ≤ p) (hp : p < B) :
    Calls Yba.prog 49 #[.slice (some ⟨b, 0, none⟩) N cap, .int .i64 a, .int .i64 B, .int .i64 p] (RW w b n0 d) fun e w' => e = .returned (.tuple #[.int .i64 (partition ltInt d a B p).1, .bool (partition ltInt d a B p).2.1]) ∧ ∃ n, w' = RW w b n (partition ltInt d a B p).2.2 ∧ (partition ltInt d a B p).2.2.size = N := by
  have HH : Aside (Row32 w b d0) := h
  clear h
  obtain ⟨R, hR⟩ : ∃ R, R = partition ltInt d a B p := ⟨_, rfl⟩
  rw [← hR]
  have HR : Aside (R = partition ltInt d a B p) := hR
  clear hR
  go_enter Yba.func49, Yba.ntmps49
  have w1 : IntKind.i64.wrap ((B : Int) - 1) = (B : Int) - 1 := wrap_small _ rfl (by omega) (by omega)
  go_upto_region 1 with fail
  go_cut [] (fun wx => ∃ n, wx = RW w b n (swp d a p))
  case first =>
    have c1 := fun n => RW.cell HH.out (hN.trans h0.symm) n a (by omega)
    have c2 := fun n => RW.cell HH.out (hN.trans h0.symm) n p (by omega)
    have f1 := fun n => RW.frozen HH.out d n a (by omega)
    have f2 := fun n => RW.frozen HH.out d n p (by omega)
    have e1 := fun n => RW.swp w b n d a p (by omega) (by omega)
    have hxN : a < N := by omega
    have hyN : p < N := by omega
    by_cases hap : a = p
    · subst hap
      clear c2 f2
      generalize d[a]! = u at c1 e1
      go_region
      rw [RW.drew]
      go_wp2
      go_meet
      exact ⟨_, rfl⟩
    · have hap2 : ¬ p = a := fun e => hap e.symm
      generalize d[a]! = u at c1 e1
      generalize d[p]! = v at c2 e1
      go_region
      rw [RW.drew]
      go_wp2
      go_meet
      exact ⟨_, rfl⟩
  case rest =>
  obtain ⟨n1, rfl⟩ := hcut
  obtain ⟨d1, hd1⟩ : ∃ d1, d1 = swp d a p := ⟨_, rfl⟩
  have hs1 : d1.size = N := by rw [hd1, size_swp]; exact hN
  obtain ⟨pv, hpv⟩ : ∃ v, v = d1[a]! := ⟨_, rfl⟩
  obtain ⟨i1, hi1⟩ : ∃ i2, i2 = scanUp (fun x => ltInt x pv) d1 (B - 1) (a + 1) := ⟨_, rfl⟩
  obtain ⟨j1, hj1⟩ : ∃ j2, j2 = scanDown (fun x => !ltInt x pv) d1 i1 (B - 1) := ⟨_, rfl⟩
  have hii : a + 1 ≤ i1 := by rw [hi1]; exact scanUp_ge _ _ _ _
  have hi2j : i1 ≤ (B - 1) + 1 := by rw [hi1]; exact scanUp_le _ _ _ _ _ rfl (by omega)
  have hjj : j1 ≤ B - 1 := by rw [hj1]; exact scanDown_le _ _ _ _
  have HE : Aside (i1 > j1 → R = (j1, true, swp d1 j1 a)) := fun g => by
    rw [HR.out]; unfold partition; simp only [← hd1, ← hpv, ← hi1, ← hj1, if_pos g]
  have HG : Aside (¬ i1 > j1 → R = ((partLoop ltInt a (i1 + 1) (j1 - 1) (swp d1 i1 j1)).1, false, swp (partLoop ltInt a (i1 + 1) (j1 - 1) (swp d1 i1 j1)).2 (partLoop ltInt a (i1 + 1) (j1 - 1) (swp d1 i1 j1)).1 a)) := fun g => by
    rw [HR.out]; unfold partition; simp only [← hd1, ← hpv, ← hi1, ← hj1, if_neg g]
  have HI1 : Aside (i1 = scanUp (fun x => ltInt x pv) d1 (B - 1) (a + 1)) := hi1
  have HJ1 : Aside (j1 = scanDown (fun x => !ltInt x pv) d1 i1 (B - 1)) := hj1
  have HC : Aside (∀ n k, k < N → (RW w b n d1).cell? ⟨b, k, none⟩ = some (.int .i32 d1[k]!)) := fun n k hk => RW.cell HH.out (hs1.trans h0.symm) n k (by omega)
  have HPV : Aside (pv = d1[a]!) := hpv
  rw [← hd1]
  clear hi1 hj1 hpv hd1
  go_upto_block 0 with fail
  go_cut [10] (fun v wx => v = .int .i64 i1 ∧ ∃ n, wx = RW w b n d1)
  case first =>
    go_wp2_with fail
    go_loopw [10] (fun v wr => ∃ (k n : Nat), v = .int .i64 k ∧ (a + 1) ≤ k ∧ k ≤ (B - 1) + 1 ∧ wr = RW w b n d1 ∧ i1 = scanUp (fun x => ltInt x pv) d1 (B - 1) k) (fun v _ => N + 1 - (intOf v).toNat)
    case atStart => exact ⟨(a + 1), n1, by go_num, Nat.le_refl _, by omega, rfl, HI1.out⟩
    case round =>
      obtain ⟨k, n, rfl, hk1, hk2, rfl, heq⟩ := hrel
      have HK : Aside (i1 = scanUp (fun x => ltInt x pv) d1 (B - 1) k) := heq
      clear heq
      by_cases hg : k ≤ (B - 1)
      · have hda : decide ((k : Int) ≤ (B : Int) - 1) = true := decide_eq_true (by omega)
        have c1 : ∀ n, (RW w b n d1).cell? ⟨b, a, none⟩ = some (.int .i32 pv) := fun n => by rw [HPV.out]; exact HC.out n a (by omega)
        have c2 := fun n => HC.out n k (by omega)
        have haN : a < N := by omega
        have hkN : k < N := by omega
        by_cases hl : d1[k]! < pv
        · have hdb : decide (d1[k]! < pv) = true := decide_eq_true hl
          have HX : Aside (i1 = scanUp (fun x => ltInt x pv) d1 (B - 1) (k + 1)) := by
            show i1 = _
            rw [HK.out, scanUp_go hg (by simp [ltInt, hl])]
          generalize d1[k]! = y at c2 hdb hl
          go_wp2
          go_quiet ((go_at_call 47; exact Calls.quiet_of_same (less32 _ _ _)))
          rw [RW.drewN]
          go_wp2
          go_roundw
          case rel => exact ⟨k + 1, _, by go_num, by omega, by omega, rfl, HX.out⟩
          case measure => simp [intOf]; omega
        · have hdb : decide (d1[k]! < pv) = false := decide_eq_false hl
          have HX : Aside (i1 = k) := by
            show i1 = k
            rw [HK.out, scanUp_end (Or.inr (by simp [ltInt, hl]))]
          generalize d1[k]! = y at c2 hdb hl
          go_wp2
          go_quiet ((go_at_call 47; exact Calls.quiet_of_same (less32 _ _ _)))
          rw [RW.drewN]
          go_wp2
          go_meet
          exact ⟨by rw [HX.out], _, rfl⟩
      · have hda : decide ((k : Int) ≤ (B : Int) - 1) = false := decide_eq_false (by omega)
        have HX : Aside (i1 = k) := by
          show i1 = k
          rw [HK.out, scanUp_end (Or.inl hg)]
        go_wp2
        go_quiet ((go_at_call 47; exact Calls.quiet_of_same (less32 _ _ _)))
        rw [RW.drewN]
        go_wp2
        go_meet
        exact ⟨by rw [HX.out], _, rfl⟩
  case rest =>
  obtain ⟨rfl, n2, rfl⟩ := hcut
  go_upto_block 2 with fail
  go_cut [11] (fun v wx => v = .int .i64 j1 ∧ ∃ n, wx = RW w b n d1)
  case first =>
    go_wp2_with fail
    go_loopw [11] (fun v wr => ∃ (k n : Nat), v = .int .i64 k ∧ k ≤ (B - 1) ∧ wr = RW w b n d1 ∧ j1 = scanDown (fun x => !ltInt x pv) d1 i1 k) (fun v _ => (intOf v).toNat)
    case atStart => exact ⟨(B - 1), n2, by go_num, Nat.le_refl _, rfl, HJ1.out⟩
    case round =>
      obtain ⟨k, n, rfl, hk2, rfl, heq⟩ := hrel
      have HK : Aside (j1 = scanDown (fun x => !ltInt x pv) d1 i1 k) := heq
      clear heq
      by_cases hg : i1 ≤ k
      · obtain ⟨k, rfl⟩ : ∃ k', k = k' + 1 := ⟨k - 1, by omega⟩
        have hda : decide ((i1 : Int) ≤ (k : Int) + 1) = true := decide_eq_true (by omega)
        have c1 : ∀ n, (RW w b n d1).cell? ⟨b, a, none⟩ = some (.int .i32 pv) := fun n => by rw [HPV.out]; exact HC.out n a (by omega)
        have c2 := fun n => HC.out n (k + 1) (by omega)
        have haN : a < N := by omega
        have hkN : k + 1 < N := by omega
        by_cases hl : d1[k + 1]! < pv
        · have hdb : decide (d1[k + 1]! < pv) = true := decide_eq_true hl
          have hdc : decide (pv ≤ d1[k + 1]!) = false := decide_eq_false (by omega)
          have HX : Aside (j1 = k + 1) := by
            show j1 = k + 1
            rw [HK.out, scanDown_end (Or.inr (by simp [ltInt, hl])) (by omega)]
          generalize d1[k + 1]! = y at c2 hdb hdc hl
          go_wp2
          go_quiet ((go_at_call 47; exact Calls.quiet_of_same (less32 _ _ _)))
          rw [RW.drewN]
          go_wp2
          go_meet
          exact ⟨by first | (rw [HX.out]; done) | (rw [HX.out]; simp), _, rfl⟩
        · have hdb : decide (d1[k + 1]! < pv) = false := decide_eq_false hl
          have hdc : decide (pv ≤ d1[k + 1]!) = true := decide_eq_true (by omega)
          have HX : Aside (j1 = scanDown (fun x => !ltInt x pv) d1 i1 k) := by
            show j1 = _
            rw [HK.out, scanDown_go hg (by simp [ltInt, hl])]
          generalize d1[k + 1]! = y at c2 hdb hdc hl
          go_wp2
          go_quiet ((go_at_call 47; exact Calls.quiet_of_same (less32 _ _ _)))
          rw [RW.drewN]
          go_wp2
          go_roundw
          case rel => exact ⟨k, _, by go_num, by omega, rfl, HX.out⟩
          case measure => simp [intOf]
      · have hda : decide ((i1 : Int) ≤ (k : Int)) = false := decide_eq_false (by omega)
        have HX : Aside (j1 = k) := by
          show j1 = k
          rw [HK.out, scanDown_end (Or.inl hg) (by omega)]
        go_wp2
        go_quiet ((go_at_call 47; exact Calls.quiet_of_same (less32 _ _ _)))
        rw [RW.drewN]
        go_wp2
        go_meet
        exact ⟨by rw [HX.out], _, rfl⟩
  case rest =>
  obtain ⟨rfl, n3, rfl⟩ := hcut
  clear HC HPV
  by_cases hgt : i1 > j1
  · have HX : Aside (R = (j1, true, swp d1 j1 a)) := HE.out hgt
    go_upto_region 8 with fail
    go_cut [] (fun wx => ∃ n, wx = RW w b n (swp d1 j1 a))
    case first =>
      have c1 := fun n => RW.cell HH.out (hs1.trans h0.symm) n j1 (by omega)
      have c2 := fun n => RW.cell HH.out (hs1.trans h0.symm) n a (by omega)
      have f1 := fun n => RW.frozen HH.out d1 n j1 (by omega)
      have f2 := fun n => RW.frozen HH.out d1 n a (by omega)
      have e1 := fun n => RW.swp w b n d1 j1 a (by omega) (by omega)
      have hxN : j1 < N := by omega
      have hyN : a < N := by omega
      by_cases hap : j1 = a
      · subst hap
        clear c2 f2
        generalize d1[j1]! = u at c1 e1
        go_region
        rw [RW.drew]
        go_wp2
        go_meet
        exact ⟨_, rfl⟩
      · have hap2 : ¬ a = j1 := fun e => hap e.symm
        generalize d1[j1]! = u at c1 e1
        generalize d1[a]! = v at c2 e1
        go_region
        rw [RW.drew]
        go_wp2
        go_meet
        exact ⟨_, rfl⟩
    case rest =>
    obtain ⟨n4, rfl⟩ := hcut
    go_wp2
    go_ret2
    exact ⟨by rw [HX.out]; rfl, _, by rw [HX.out], by rw [HX.out]; show (swp d1 j1 a).size = N; rw [size_swp]; exact hs1⟩
  · have HX := HG.out hgt
    have HXX : Aside (R = ((partLoop ltInt a (i1 + 1) (j1 - 1) (swp d1 i1 j1)).1, false, swp (partLoop ltInt a (i1 + 1) (j1 - 1) (swp d1 i1 j1)).2 (partLoop ltInt a (i1 + 1) (j1 - 1) (swp d1 i1 j1)).1 a)) := HX
    have hap : ¬ i1 = j1 := by
      intro e
      have u := scanUp_stop (fun x => ltInt x pv) d1 (B - 1) _ (a + 1) rfl (by omega) (by rw [← HI1.out]; omega)
      have v := scanDown_stop (fun x => !ltInt x pv) d1 i1 (by omega) (B - 1) (by rw [← HJ1.out]; omega)
      rw [← HI1.out] at u
      rw [← HJ1.out, ← e] at v
      simp only [u] at v
      exact absurd v (by simp)
    clear HX HE HG
    have w2 : IntKind.i64.wrap ((j1 : Int) - 1) = (j1 : Int) - 1 := wrap_small _ rfl (by omega) (by omega)
    go_upto_region 10 with fail
    go_cut [] (fun wx => ∃ n, wx = RW w b n (swp d1 i1 j1))
    case first =>
      have c1 := fun n => RW.cell HH.out (hs1.trans h0.symm) n i1 (by omega)
      have c2 := fun n => RW.cell HH.out (hs1.trans h0.symm) n j1 (by omega)
      have f1 := fun n => RW.frozen HH.out d1 n i1 (by omega)
      have f2 := fun n => RW.frozen HH.out d1 n j1 (by omega)
      have e1 := fun n => RW.swp w b n d1 i1 j1 (by omega) (by omega)
      have hxN : i1 < N := by omega
      have hyN : j1 < N := by omega
      have hap2 : ¬ j1 = i1 := fun e => hap e.symm
      generalize d1[i1]! = u at c1 e1
      generalize d1[j1]! = v at c2 e1
      go_region
      rw [RW.drew]
      go_wp2
      go_meet
      exact ⟨_, rfl⟩
    case rest =>
    obtain ⟨n4, rfl⟩ := hcut
    obtain ⟨e1, he1⟩ : ∃ e, e = swp d1 i1 j1 := ⟨_, rfl⟩
    have hse : e1.size = N := by rw [he1, size_swp]; exact hs1
    rw [← he1] at HXX ⊢
    clear he1
    go_wp2
    go_loopw [10, 11] (fun vi vj wr => ∃ (i j n : Nat) (dk : Array Int), vi = .int .i64 i ∧ vj = .int .i64 j ∧ a < i ∧ i ≤ j + 1 ∧ j < B ∧ dk.size = N ∧ wr = RW w b n dk ∧ partLoop ltInt a i j dk = partLoop ltInt a (i1 + 1) (j1 - 1) e1) (fun vi vj _ => ((intOf vj + 1) - intOf vi).toNat)
    case atStart => exact ⟨i1 + 1, j1 - 1, n4, e1, by go_num, by go_num, by omega, by omega, by omega, hse, rfl, rfl⟩
    case round =>
      obtain ⟨i, j, n, dk, rfl, rfl, hai, hij, hjB, hs, rfl, heq⟩ := hrel
      have HQ : Aside (partLoop ltInt a i j dk = partLoop ltInt a (i1 + 1) (j1 - 1) e1) := heq
      clear heq
      obtain ⟨pv, hpv⟩ : ∃ v, v = dk[a]! := ⟨_, rfl⟩
      obtain ⟨i2, hi2⟩ : ∃ i2, i2 = scanUp (fun x => ltInt x pv) dk j i := ⟨_, rfl⟩
      obtain ⟨j2, hj2⟩ : ∃ j2, j2 = scanDown (fun x => !ltInt x pv) dk i2 j := ⟨_, rfl⟩
      have hii : i ≤ i2 := by rw [hi2]; exact scanUp_ge _ _ _ _
      have hi2j : i2 ≤ j + 1 := by rw [hi2]; exact scanUp_le _ _ _ _ _ rfl hij
      have hjj : j2 ≤ j := by rw [hj2]; exact scanDown_le _ _ _ _
      have HE : Aside (i2 > j2 → partLoop ltInt a (i1 + 1) (j1 - 1) e1 = (j2, dk)) := fun g => by
        rw [← HQ.out, partLoop_eq, ← hpv, ← hi2, ← hj2, if_pos g]
      have HG : Aside (¬ i2 > j2 → partLoop ltInt a (i2 + 1) (j2 - 1) (swp dk i2 j2) = partLoop ltInt a (i1 + 1) (j1 - 1) e1) := fun g => by
        rw [← HQ.out]
        conv => rhs; rw [partLoop_eq, ← hpv, ← hi2, ← hj2, if_neg g]
      have HI2 : Aside (i2 = scanUp (fun x => ltInt x pv) dk j i) := hi2
      have HJ2 : Aside (j2 = scanDown (fun x => !ltInt x pv) dk i2 j) := hj2
      have HC : Aside (∀ n k, k < N → (RW w b n dk).cell? ⟨b, k, none⟩ = some (.int .i32 dk[k]!)) := fun n k hk => RW.cell HH.out (hs.trans h0.symm) n k (by omega)
      have HPV : Aside (pv = dk[a]!) := hpv
      clear hi2 hj2 hpv
      go_upto_block 6 with fail
      go_cut [10] (fun v wx => v = .int .i64 i2 ∧ ∃ n, wx = RW w b n dk)
      case first =>
        go_wp2_with fail
        go_loopw [10] (fun v wr => ∃ (k n : Nat), v = .int .i64 k ∧ i ≤ k ∧ k ≤ j + 1 ∧ wr = RW w b n dk ∧ i2 = scanUp (fun x => ltInt x pv) dk j k) (fun v _ => N + 1 - (intOf v).toNat)
        case atStart => exact ⟨i, n, by go_num, Nat.le_refl _, by omega, rfl, HI2.out⟩
        case round =>
          obtain ⟨k, n, rfl, hk1, hk2, rfl, heq⟩ := hrel
          have HK : Aside (i2 = scanUp (fun x => ltInt x pv) dk j k) := heq
          clear heq
          by_cases hg : k ≤ j
          · have hda : decide ((k : Int) ≤ (j : Int)) = true := decide_eq_true (by omega)
            have c1 : ∀ n, (RW w b n dk).cell? ⟨b, a, none⟩ = some (.int .i32 pv) := fun n => by rw [HPV.out]; exact HC.out n a (by omega)
            have c2 := fun n => HC.out n k (by omega)
            have haN : a < N := by omega
            have hkN : k < N := by omega
            by_cases hl : dk[k]! < pv
            · have hdb : decide (dk[k]! < pv) = true := decide_eq_true hl
              have HX : Aside (i2 = scanUp (fun x => ltInt x pv) dk j (k + 1)) := by
                show i2 = _
                rw [HK.out, scanUp_go hg (by simp [ltInt, hl])]
              generalize dk[k]! = y at c2 hdb hl
              go_wp2
              go_quiet ((go_at_call 47; exact Calls.quiet_of_same (less32 _ _ _)))
              rw [RW.drewN]
              go_wp2
              go_roundw
              case rel => exact ⟨k + 1, _, by go_num, by omega, by omega, rfl, HX.out⟩
              case measure => simp [intOf]; omega
            · have hdb : decide (dk[k]! < pv) = false := decide_eq_false hl
              have HX : Aside (i2 = k) := by
                show i2 = k
                rw [HK.out, scanUp_end (Or.inr (by simp [ltInt, hl]))]
              generalize dk[k]! = y at c2 hdb hl
              go_wp2
              go_quiet ((go_at_call 47; exact Calls.quiet_of_same (less32 _ _ _)))
              rw [RW.drewN]
              go_wp2
              go_meet
              exact ⟨by rw [HX.out], _, rfl⟩
          · have hda : decide ((k : Int) ≤ (j : Int)) = false := decide_eq_false (by omega)
            have HX : Aside (i2 = k) := by
              show i2 = k
              rw [HK.out, scanUp_end (Or.inl hg)]
            go_wp2
            go_quiet ((go_at_call 47; exact Calls.quiet_of_same (less32 _ _ _)))
            rw [RW.drewN]
            go_wp2
            go_meet
            exact ⟨by rw [HX.out], _, rfl⟩
      case rest =>
      obtain ⟨rfl, n5, rfl⟩ := hcut
      go_upto_block 8 with fail
      go_cut [11] (fun v wx => v = .int .i64 j2 ∧ ∃ n, wx = RW w b n dk)
      case first =>
        go_wp2_with fail
        go_loopw [11] (fun v wr => ∃ (k n : Nat), v = .int .i64 k ∧ k ≤ j ∧ wr = RW w b n dk ∧ j2 = scanDown (fun x => !ltInt x pv) dk i2 k) (fun v _ => (intOf v).toNat)
        case atStart => exact ⟨j, n5, by go_num, Nat.le_refl _, rfl, HJ2.out⟩
        case round =>
          obtain ⟨k, n, rfl, hk2, rfl, heq⟩ := hrel
          have HK : Aside (j2 = scanDown (fun x => !ltInt x pv) dk i2 k) := heq
          clear heq
          by_cases hg : i2 ≤ k
          · obtain ⟨k, rfl⟩ : ∃ k', k = k' + 1 := ⟨k - 1, by omega⟩
            have hda : decide ((i2 : Int) ≤ (k : Int) + 1) = true := decide_eq_true (by omega)
            have c1 : ∀ n, (RW w b n dk).cell? ⟨b, a, none⟩ = some (.int .i32 pv) := fun n => by rw [HPV.out]; exact HC.out n a (by omega)
            have c2 := fun n => HC.out n (k + 1) (by omega)
            have haN : a < N := by omega
            have hkN : k + 1 < N := by omega
            by_cases hl : dk[k + 1]! < pv
            · have hdb : decide (dk[k + 1]! < pv) = true := decide_eq_true hl
              have hdc : decide (pv ≤ dk[k + 1]!) = false := decide_eq_false (by omega)
              have HX : Aside (j2 = k + 1) := by
                show j2 = k + 1
                rw [HK.out, scanDown_end (Or.inr (by simp [ltInt, hl])) (by omega)]
              generalize dk[k + 1]! = y at c2 hdb hdc hl
              go_wp2
              go_quiet ((go_at_call 47; exact Calls.quiet_of_same (less32 _ _ _)))
              rw [RW.drewN]
              go_wp2
              go_meet
              exact ⟨by first | (rw [HX.out]; done) | (rw [HX.out]; simp), _, rfl⟩
            · have hdb : decide (dk[k + 1]! < pv) = false := decide_eq_false hl
              have hdc : decide (pv ≤ dk[k + 1]!) = true := decide_eq_true (by omega)
              have HX : Aside (j2 = scanDown (fun x => !ltInt x pv) dk i2 k) := by
                show j2 = _
                rw [HK.out, scanDown_go hg (by simp [ltInt, hl])]
              generalize dk[k + 1]! = y at c2 hdb hdc hl
              go_wp2
              go_quiet ((go_at_call 47; exact Calls.quiet_of_same (less32 _ _ _)))
              rw [RW.drewN]
              go_wp2
              go_roundw
              case rel => exact ⟨k, _, by go_num, by omega, rfl, HX.out⟩
              case measure => simp [intOf]
          · have hda : decide ((i2 : Int) ≤ (k : Int)) = false := decide_eq_false (by omega)
            have HX : Aside (j2 = k) := by
              show j2 = k
              rw [HK.out, scanDown_end (Or.inl hg) (by omega)]
            go_wp2
            go_quiet ((go_at_call 47; exact Calls.quiet_of_same (less32 _ _ _)))
            rw [RW.drewN]
            go_wp2
            go_meet
            exact ⟨by rw [HX.out], _, rfl⟩
      case rest =>
      obtain ⟨rfl, n6, rfl⟩ := hcut
      clear HC HPV
      by_cases hgt : i2 > j2
      · have HX : Aside (R = (j2, false, swp dk j2 a)) := by
          show R = _
          rw [HXX.out, HE.out hgt]
        go_upto_region 21 with fail
        go_cut [] (fun wx => ∃ n, wx = RW w b n (swp dk j2 a))
        case first =>
          have c1 := fun n => RW.cell HH.out (hs.trans h0.symm) n j2 (by omega)
          have c2 := fun n => RW.cell HH.out (hs.trans h0.symm) n a (by omega)
          have f1 := fun n => RW.frozen HH.out dk n j2 (by omega)
          have f2 := fun n => RW.frozen HH.out dk n a (by omega)
          have e1 := fun n => RW.swp w b n dk j2 a (by omega) (by omega)
          have hxN : j2 < N := by omega
          have hyN : a < N := by omega
          by_cases hap : j2 = a
          · subst hap
            clear c2 f2
            generalize dk[j2]! = u at c1 e1
            go_region
            rw [RW.drew]
            go_wp2
            go_meet
            exact ⟨_, rfl⟩
          · have hap2 : ¬ a = j2 := fun e => hap e.symm
            generalize dk[j2]! = u at c1 e1
            generalize dk[a]! = v at c2 e1
            go_region
            rw [RW.drew]
            go_wp2
            go_meet
            exact ⟨_, rfl⟩
        case rest =>
        obtain ⟨n7, rfl⟩ := hcut
        go_wp2
        go_ret2
        exact ⟨by rw [HX.out]; rfl, _, by rw [HX.out], by rw [HX.out]; show (swp dk j2 a).size = N; rw [size_swp]; exact hs⟩
      · have hap : ¬ i2 = j2 := by
          intro e
          have u := scanUp_stop (fun x => ltInt x pv) dk j _ i rfl hij (by rw [← HI2.out]; omega)
          have v := scanDown_stop (fun x => !ltInt x pv) dk i2 (by omega) j (by rw [← HJ2.out]; omega)
          rw [← HI2.out] at u
          rw [← HJ2.out, ← e] at v
          simp only [u] at v
          exact absurd v (by simp)
        have HX : Aside (partLoop ltInt a (i2 + 1) (j2 - 1) (swp dk i2 j2) = partLoop ltInt a (i1 + 1) (j1 - 1) e1) := HG.out hgt
        have w3 : IntKind.i64.wrap ((j2 : Int) - 1) = (j2 : Int) - 1 := wrap_small _ rfl (by omega) (by omega)
        go_upto_region 18 with fail
        go_cut [] (fun wx => ∃ n, wx = RW w b n (swp dk i2 j2))
        case first =>
          have c1 := fun n => RW.cell HH.out (hs.trans h0.symm) n i2 (by omega)
          have c2 := fun n => RW.cell HH.out (hs.trans h0.symm) n j2 (by omega)
          have f1 := fun n => RW.frozen HH.out dk n i2 (by omega)
          have f2 := fun n => RW.frozen HH.out dk n j2 (by omega)
          have e1 := fun n => RW.swp w b n dk i2 j2 (by omega) (by omega)
          have hxN : i2 < N := by omega
          have hyN : j2 < N := by omega
          have hap2 : ¬ j2 = i2 := fun e => hap e.symm
          generalize dk[i2]! = u at c1 e1
          generalize dk[j2]! = v at c2 e1
          go_region
          rw [RW.drew]
          go_wp2
          go_meet
          exact ⟨_, rfl⟩
        case rest =>
        obtain ⟨n7, rfl⟩ := hcut
        go_wp2
        go_roundw
        case rel => exact ⟨i2 + 1, j2 - 1, _, _, by go_num, by go_num, by omega, by omega, by omega, by rw [size_swp]; exact hs, rfl, HX.out⟩
        case measure => simp [intOf]; omega
end Go.Proofs.Ybulkbxxk
