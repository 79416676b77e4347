/-
  slices.Sort at []int32: partialInsertionSortOrdered.
-/
import Derived.Test.YbulkbxxkSoF
namespace Go.Proofs.Ybulkbxxk
open Go.RowKit Go.Sort
set_option linter.unusedVariables false

theorem scanS_go {d : Array Int} {b i : Nat} (h : i < b) (hl : ¬ d[i]! < d[i - 1]!) : scanSorted ltInt d b i = scanSorted ltInt d b (i + 1) := by
  rw [scanSorted, if_pos (by simp [h, ltInt, hl])]
theorem scanS_end {d : Array Int} {b i : Nat} (h : ¬ i < b ∨ d[i]! < d[i - 1]!) : scanSorted ltInt d b i = i := by
  rw [scanSorted, if_neg]
  simp only [ltInt, Bool.and_eq_true, decide_eq_true_eq, Bool.not_eq_true', decide_eq_false_iff_not]
  omega
theorem scanS_ge (d : Array Int) (b : Nat) : ∀ (n i : Nat), b - i = n → i ≤ b → i ≤ scanSorted ltInt d b i ∧ scanSorted ltInt d b i ≤ b
  | 0, i, hn, hi => by rw [scanS_end (Or.inl (by omega))]; omega
  | n + 1, i, hn, hi => by
    by_cases c : d[i]! < d[i - 1]!
    · rw [scanS_end (Or.inr c)]; omega
    · rw [scanS_go (by omega) c]
      have := scanS_ge d b n (i + 1) (by omega) (by omega)
      omega
theorem sd_go {j : Nat} {d : Array Int} (h : d[j + 1]! < d[j]!) : shiftDown ltInt (j + 1) d = shiftDown ltInt j (swp d (j + 1) j) := by
  rw [shiftDown, if_neg (by simp [ltInt, h])]
theorem sd_end {j : Nat} {d : Array Int} (h : ¬ d[j + 1]! < d[j]!) : shiftDown ltInt (j + 1) d = d := by
  rw [shiftDown, if_pos (by simp [ltInt, h])]
theorem sd_size : ∀ (j : Nat) (d : Array Int), (shiftDown ltInt j d).size = d.size
  | 0, d => rfl
  | j + 1, d => by
    by_cases c : d[j + 1]! < d[j]!
    · rw [sd_go c, sd_size j, size_swp]
    · rw [sd_end c]
theorem su_go {b j : Nat} {d : Array Int} (hj : j < b) (h : d[j]! < d[j - 1]!) : shiftUp ltInt b j d = shiftUp ltInt b (j + 1) (swp d j (j - 1)) := by
  rw [shiftUp, if_pos hj, if_neg (by simp [ltInt, h])]
theorem su_end {b j : Nat} {d : Array Int} (h : ¬ j < b ∨ ¬ d[j]! < d[j - 1]!) : shiftUp ltInt b j d = d := by
  rw [shiftUp]
  by_cases hj : j < b
  · rw [if_pos hj, if_pos]
    have : ¬ d[j]! < d[j - 1]! := by omega
    simp [ltInt, this]
  · rw [if_neg hj]
theorem su_size (b : Nat) : ∀ (n j : Nat) (d : Array Int), b - j = n → (shiftUp ltInt b j d).size = d.size
  | 0, j, d, hn => by rw [su_end (Or.inl (by omega))]
  | n + 1, j, d, hn => by
    by_cases c : d[j]! < d[j - 1]!
    · rw [su_go (by omega) c, su_size b n _ _ (by omega), size_swp]
    · rw [su_end (Or.inr c)]

set_option maxRecDepth 100000 in
set_option maxHeartbeats 8000000 in
theorem pins_rw (b cap a B N n0 : Nat) (d0 d : Array Int) (w : World) (h : Row32 w b d0) (h0 : d0.size = N) (hN : d.size = N) (hB : B ≤ N) (hm : N ≤ 1024) (ha : a < B) :
    Calls Yba.prog 46 #[.slice (some ⟨b, 0, none⟩) N cap, .int .i64 a, .int .i64 B] (RW w b n0 d) fun e w' => e = .returned (.bool (partialInsertionSort ltInt d a B).2) ∧ ∃ n, w' = RW w b n (partialInsertionSort ltInt d a B).1 ∧ (partialInsertionSort ltInt d a B).1.size = N := by
  have HH : Aside (Row32 w b d0) := h
  clear h
  obtain ⟨R, hR⟩ : ∃ R, R = partialInsertionSort ltInt d a B := ⟨_, rfl⟩
  rw [← hR]
  have HR : Aside (R = partialIns ltInt a B 5 (a + 1) d) := hR
  clear hR
  go_enter Yba.func46, Yba.ntmps46
  go_wp2
  go_loopw [7, 8] (fun vi vj wr => ∃ (s jv i n : Nat) (dk : Array Int), vi = .int .i64 i ∧ vj = .int .i64 jv ∧ s + jv = 5 ∧ a < i ∧ i ≤ B ∧ dk.size = N ∧ wr = RW w b n dk ∧ partialIns ltInt a B s i dk = partialIns ltInt a B 5 (a + 1) d) (fun _ vj _ => (5 - intOf vj).toNat)
  case atStart => exact ⟨5, 0, a + 1, n0, d, by go_num, by go_num, by omega, by omega, by omega, hN, rfl, rfl⟩
  case round =>
    obtain ⟨s, jv, i, n, dk, rfl, rfl, hs5, hai, hiB, hs, rfl, heq⟩ := hrel
    have HQ : Aside (partialIns ltInt a B s i dk = R) := heq.trans HR.out.symm
    clear heq
    cases s with
    | zero =>
      have HX : Aside (R = (dk, false)) := HQ.out.symm
      go_wp2
      go_ret
      exact ⟨by rw [HX.out]; rfl, _, by rw [HX.out], by rw [HX.out]; exact hs⟩
    | succ s =>
      have hj5 : (jv : Int) < 5 := by omega
      obtain ⟨i2, hi2⟩ : ∃ i2, i2 = scanSorted ltInt dk B i := ⟨_, rfl⟩
      have hib := scanS_ge dk B _ i rfl hiB
      rw [← hi2] at hib
      obtain ⟨hib1, hib2⟩ := hib
      obtain ⟨m, hm2⟩ : ∃ m, i2 = m + 1 := ⟨i2 - 1, by omega⟩
      obtain ⟨d1, hd1⟩ : ∃ d1, d1 = swp dk (m + 1) m := ⟨_, rfl⟩
      obtain ⟨d2, hd2⟩ : ∃ d2, d2 = if m + 1 - a ≥ 2 then shiftDown ltInt m d1 else d1 := ⟨_, rfl⟩
      obtain ⟨d3, hd3⟩ : ∃ d3, d3 = if B - (m + 1) ≥ 2 then shiftUp ltInt B (m + 2) d2 else d2 := ⟨_, rfl⟩
      have hs1 : d1.size = N := by rw [hd1, size_swp]; exact hs
      have hs2 : d2.size = N := by
        rw [hd2]; split
        · rw [sd_size]; exact hs1
        · exact hs1
      have hs3 : d3.size = N := by
        rw [hd3]; split
        · rw [su_size B _ _ _ rfl]; exact hs2
        · exact hs2
      have HE1 : Aside (m + 1 = B → R = (dk, true)) := fun g => by
        rw [← HQ.out, partialIns_succ, ← hi2, hm2, if_pos g]
      have HE2 : Aside (¬ m + 1 = B → B - a < 50 → R = (dk, false)) := fun g g2 => by
        rw [← HQ.out, partialIns_succ, ← hi2, hm2, if_neg g, if_pos g2]
      have HE3 : Aside (¬ m + 1 = B → ¬ B - a < 50 → partialIns ltInt a B s (m + 1) d3 = partialIns ltInt a B 5 (a + 1) d) := fun g g2 => by
        rw [← HR.out, ← HQ.out]
        conv => rhs; rw [partialIns_succ, ← hi2, hm2, if_neg g, if_neg g2]
        rw [hd3, hd2, hd1]; rfl
      have HI2 : Aside (m + 1 = scanSorted ltInt dk B i) := hm2 ▸ hi2
      have HD2 : Aside (d2 = if m + 1 - a ≥ 2 then shiftDown ltInt m d1 else d1) := hd2
      have HD3 : Aside (d3 = if B - (m + 1) ≥ 2 then shiftUp ltInt B (m + 2) d2 else d2) := hd3
      have HD1 : Aside (d1 = swp dk (m + 1) m) := hd1
      have hC := fun n k (hk : k < N) => RW.cell HH.out (hs.trans h0.symm) n k (by omega)
      have HC : Aside (∀ n k, k < N → (RW w b n dk).cell? ⟨b, k, none⟩ = some (.int .i32 dk[k]!)) := hC
      clear hd1 hd2 hd3 hi2 hC
      subst hm2
      go_upto_block 2 with fail
      go_cut [7] (fun v wx => v = .int .i64 ((m : Int) + 1) ∧ ∃ n, wx = RW w b n dk)
      case first =>
        go_wp2_with fail
        go_loopw [7] (fun v wr => ∃ (k n : Nat), v = .int .i64 ((k : Int) + 1) ∧ a ≤ k ∧ k + 1 ≤ B ∧ wr = RW w b n dk ∧ m + 1 = scanSorted ltInt dk B (k + 1)) (fun v _ => N + 1 - (intOf v).toNat)
        case atStart =>
          obtain ⟨k, rfl⟩ : ∃ k, i = k + 1 := ⟨i - 1, by omega⟩
          exact ⟨k, n, by go_num, by omega, by omega, rfl, HI2.out⟩
        case round =>
          obtain ⟨k, n, rfl, hk1, hk2, rfl, heq⟩ := hrel
          have HK : Aside (m + 1 = scanSorted ltInt dk B (k + 1)) := heq
          clear heq
          by_cases hg : k + 1 < B
          · have hda : decide ((k : Int) + 1 < (B : Int)) = true := decide_eq_true (by omega)
            have c1 := fun n => HC.out n (k + 1) (by omega)
            have c2 := fun n => HC.out n k (by omega)
            have hkN : k + 1 < N := by omega
            by_cases hl : dk[k + 1]! < dk[k]!
            · have hdb : decide (dk[k + 1]! < dk[k]!) = true := decide_eq_true hl
              have hdc : decide (dk[k]! ≤ dk[k + 1]!) = false := decide_eq_false (by omega)
              have HX : Aside (m + 1 = k + 1) := by
                show m + 1 = k + 1
                rw [HK.out, scanS_end (Or.inr (by simpa using hl))]
              generalize dk[k + 1]! = x at c1 hdb hdc hl
              generalize dk[k]! = y at c2 hdb hdc hl
              go_wp2
              go_quiet ((go_at_call 47; exact Calls.quiet_of_same (less32 _ _ _)))
              rw [RW.drewN]
              go_wp2
              go_meet
              exact ⟨by have := HX.out; simp; omega, _, rfl⟩
            · have hdb : decide (dk[k + 1]! < dk[k]!) = false := decide_eq_false hl
              have hdc : decide (dk[k]! ≤ dk[k + 1]!) = true := decide_eq_true (by omega)
              have HX : Aside (m + 1 = scanSorted ltInt dk B (k + 1 + 1)) := by
                show m + 1 = _
                rw [HK.out, scanS_go hg (by simpa using hl)]
              generalize dk[k + 1]! = x at c1 hdb hdc hl
              generalize dk[k]! = y at c2 hdb hdc hl
              go_wp2
              go_quiet ((go_at_call 47; exact Calls.quiet_of_same (less32 _ _ _)))
              rw [RW.drewN]
              go_wp2
              go_roundw
              case rel => exact ⟨k + 1, _, by go_num, by omega, by omega, rfl, HX.out⟩
              case measure => simp [intOf]; omega
          · have hda : decide ((k : Int) + 1 < (B : Int)) = false := decide_eq_false (by omega)
            have HX : Aside (m + 1 = k + 1) := by
              show m + 1 = k + 1
              rw [HK.out, scanS_end (Or.inl hg)]
            go_wp2
            go_quiet ((go_at_call 47; exact Calls.quiet_of_same (less32 _ _ _)))
            rw [RW.drewN]
            go_wp2
            go_meet
            exact ⟨by have := HX.out; simp; omega, _, rfl⟩
      case rest =>
      obtain ⟨rfl, n2, rfl⟩ := hcut
      clear HC HI2
      by_cases g1 : m + 1 = B
      · have HX : Aside (R = (dk, true)) := HE1.out g1
        have g1' : (m : Int) + 1 = (B : Int) := by omega
        go_wp2
        go_ret
        exact ⟨by rw [HX.out]; rfl, _, by rw [HX.out], by rw [HX.out]; exact hs⟩
      · have g1' : ¬ (m : Int) + 1 = (B : Int) := by omega
        have w0 : IntKind.i64.wrap ((B : Int) - (a : Int)) = (B : Int) - (a : Int) := wrap_small _ rfl (by omega) (by omega)
        by_cases g2 : B - a < 50
        · have HX : Aside (R = (dk, false)) := HE2.out g1 g2
          have g2' : (B : Int) - (a : Int) < 50 := by omega
          go_wp2
          go_ret
          exact ⟨by rw [HX.out]; rfl, _, by rw [HX.out], by rw [HX.out]; exact hs⟩
        · have g2' : ¬ (B : Int) - (a : Int) < 50 := by omega
          have HX : Aside (partialIns ltInt a B s (m + 1) d3 = partialIns ltInt a B 5 (a + 1) d) := HE3.out g1 g2
          clear HE1 HE2 HE3
          go_upto_region 11 with fail
          go_cut [] (fun wx => ∃ n, wx = RW w b n d1)
          case first =>
            have c1 := fun n => RW.cell HH.out (hs.trans h0.symm) n (m + 1) (by omega)
            have c2 := fun n => RW.cell HH.out (hs.trans h0.symm) n m (by omega)
            have f1 := fun n => RW.frozen HH.out dk n (m + 1) (by omega)
            have f2 := fun n => RW.frozen HH.out dk n m (by omega)
            have e1 := fun n => RW.swp w b n dk (m + 1) m (by omega) (by omega)
            rw [← HD1.out] at e1
            have hmN : m + 1 < N := by omega
            generalize dk[m + 1]! = x at c1 e1
            generalize dk[m]! = y at c2 e1
            go_region
            rw [RW.drew]
            go_wp2
            go_meet
            exact ⟨_, rfl⟩
          case rest =>
          obtain ⟨n3, rfl⟩ := hcut
          clear HD1 hs
          have w1 : IntKind.i64.wrap ((m : Int) + 1 - (a : Int)) = (m : Int) + 1 - (a : Int) := wrap_small _ rfl (by omega) (by omega)
          have w2 : IntKind.i64.wrap ((B : Int) - ((m : Int) + 1)) = (B : Int) - ((m : Int) + 1) := wrap_small _ rfl (by omega) (by omega)
          by_cases g3 : m + 1 - a ≥ 2
          · have HD : Aside (d2 = shiftDown ltInt m d1) := by show d2 = _; rw [HD2.out, if_pos g3]
            have g3' : 2 ≤ (m : Int) + 1 - (a : Int) := by omega
            go_upto_block 4 with fail
            go_cut [] (fun wx => ∃ n, wx = RW w b n d2)
            case first =>
              go_wp2_with fail
              go_loopw [9] (fun v wr => ∃ (k n : Nat) (dj : Array Int), v = .int .i64 k ∧ k ≤ m ∧ dj.size = N ∧ wr = RW w b n dj ∧ d2 = shiftDown ltInt k dj) (fun v _ => (intOf v).toNat)
              case atStart => exact ⟨m, n3, d1, by go_num, Nat.le_refl _, hs1, rfl, HD.out⟩
              case round =>
                obtain ⟨k, n, dj, rfl, hk, hsj, rfl, heq⟩ := hrel
                have HK : Aside (d2 = shiftDown ltInt k dj) := heq
                clear heq
                cases k with
                | zero =>
                  have HX2 : Aside (d2 = dj) := HK.out
                  go_wp2
                  go_meet
                  exact ⟨n, by rw [HX2.out]⟩
                | succ k =>
                  have c1 := fun n => RW.cell HH.out (hsj.trans h0.symm) n (k + 1) (by omega)
                  have c2 := fun n => RW.cell HH.out (hsj.trans h0.symm) n k (by omega)
                  have f1 := fun n => RW.frozen HH.out dj n (k + 1) (by omega)
                  have f2 := fun n => RW.frozen HH.out dj n k (by omega)
                  have e1 := fun n => RW.swp w b n dj (k + 1) k (by omega) (by omega)
                  have hkN : k + 1 < N := by omega
                  have hkp : (1 : Int) ≤ (k : Int) + 1 := by omega
                  by_cases hl : dj[k + 1]! < dj[k]!
                  · have hdb : decide (dj[k + 1]! < dj[k]!) = true := decide_eq_true hl
                    have hdc : decide (dj[k]! ≤ dj[k + 1]!) = false := decide_eq_false (by omega)
                    have HX2 : Aside (d2 = shiftDown ltInt k (swp dj (k + 1) k)) := by show d2 = _; rw [HK.out, sd_go hl]
                    generalize dj[k + 1]! = x at c1 hdb hdc hl e1
                    generalize dj[k]! = y at c2 hdb hdc hl e1
                    go_wp2
                    go_quiet ((go_at_call 47; exact Calls.quiet_of_same (less32 _ _ _)))
                    rw [RW.drewN]
                    go_wp2
                    go_region
                    rw [RW.drew]
                    go_wp2
                    go_roundw
                    case rel => exact ⟨k, _, _, by go_num, by omega, by rw [size_swp]; exact hsj, rfl, HX2.out⟩
                    case measure => simp [intOf]
                  · have hdb : decide (dj[k + 1]! < dj[k]!) = false := decide_eq_false hl
                    have hdc : decide (dj[k]! ≤ dj[k + 1]!) = true := decide_eq_true (by omega)
                    have HX2 : Aside (d2 = dj) := by show d2 = _; rw [HK.out, sd_end hl]
                    generalize dj[k + 1]! = x at c1 hdb hdc hl e1
                    generalize dj[k]! = y at c2 hdb hdc hl e1
                    go_wp2
                    go_quiet ((go_at_call 47; exact Calls.quiet_of_same (less32 _ _ _)))
                    rw [RW.drewN]
                    go_wp2
                    go_meet
                    exact ⟨_, by rw [HX2.out]⟩
            case rest =>
            obtain ⟨n4, rfl⟩ := hcut
            by_cases g4 : B - (m + 1) ≥ 2
            · have HD : Aside (d3 = shiftUp ltInt B (m + 2) d2) := by show d3 = _; rw [HD3.out, if_pos g4]
              have g4' : 2 ≤ (B : Int) - ((m : Int) + 1) := by omega
              go_wp2
              go_loopw [10] (fun v wr => ∃ (k n : Nat) (dj : Array Int), v = .int .i64 ((k : Int) + 1) ∧ k + 1 ≤ B ∧ dj.size = N ∧ wr = RW w b n dj ∧ d3 = shiftUp ltInt B (k + 1) dj) (fun v _ => N + 1 - (intOf v).toNat)
              case atStart => exact ⟨m + 1, n4, d2, by go_num, by omega, hs2, rfl, HD.out⟩
              case round =>
                obtain ⟨k, n, dj, rfl, hk, hsj, rfl, heq⟩ := hrel
                have HK : Aside (d3 = shiftUp ltInt B (k + 1) dj) := heq
                clear heq
                by_cases hg : k + 1 < B
                · have hg' : (k : Int) + 1 < (B : Int) := by omega
                  have c1 := fun n => RW.cell HH.out (hsj.trans h0.symm) n (k + 1) (by omega)
                  have c2 := fun n => RW.cell HH.out (hsj.trans h0.symm) n k (by omega)
                  have f1 := fun n => RW.frozen HH.out dj n (k + 1) (by omega)
                  have f2 := fun n => RW.frozen HH.out dj n k (by omega)
                  have e1 := fun n => RW.swp w b n dj (k + 1) k (by omega) (by omega)
                  have hkN : k + 1 < N := by omega
                  by_cases hl : dj[k + 1]! < dj[k]!
                  · have hdb : decide (dj[k + 1]! < dj[k]!) = true := decide_eq_true hl
                    have hdc : decide (dj[k]! ≤ dj[k + 1]!) = false := decide_eq_false (by omega)
                    have HX2 : Aside (d3 = shiftUp ltInt B (k + 1 + 1) (swp dj (k + 1) k)) := by show d3 = _; rw [HK.out, su_go hg (by simpa using hl)]; rfl
                    generalize dj[k + 1]! = x at c1 hdb hdc hl e1
                    generalize dj[k]! = y at c2 hdb hdc hl e1
                    go_wp2
                    go_quiet ((go_at_call 47; exact Calls.quiet_of_same (less32 _ _ _)))
                    rw [RW.drewN]
                    go_wp2
                    go_region
                    rw [RW.drew]
                    go_wp2
                    go_roundw
                    case rel => exact ⟨k + 1, _, _, by go_num, by omega, by rw [size_swp]; exact hsj, rfl, HX2.out⟩
                    case measure => simp [intOf]; omega
                  · have hdb : decide (dj[k + 1]! < dj[k]!) = false := decide_eq_false hl
                    have hdc : decide (dj[k]! ≤ dj[k + 1]!) = true := decide_eq_true (by omega)
                    have HX2 : Aside (d3 = dj) := by show d3 = _; rw [HK.out, su_end (Or.inr (by simpa using hl))]
                    generalize dj[k + 1]! = x at c1 hdb hdc hl e1
                    generalize dj[k]! = y at c2 hdb hdc hl e1
                    go_wp2
                    go_quiet ((go_at_call 47; exact Calls.quiet_of_same (less32 _ _ _)))
                    rw [RW.drewN]
                    go_wp2
                    go_roundw
                    case rel => exact ⟨s, jv + 1, m + 1, _, dj, by go_num, by go_num, by omega, by omega, by omega, hsj, rfl, by rw [← HX2.out]; exact HX.out⟩
                    case measure => simp [intOf]; omega
                · have hg' : ¬ (k : Int) + 1 < (B : Int) := by omega
                  have HX2 : Aside (d3 = dj) := by show d3 = _; rw [HK.out, su_end (Or.inl hg)]
                  go_wp2
                  go_roundw
                  case rel => exact ⟨s, jv + 1, m + 1, _, dj, by go_num, by go_num, by omega, by omega, by omega, hsj, rfl, by rw [← HX2.out]; exact HX.out⟩
                  case measure => simp [intOf]; omega
            · have HD : Aside (d3 = d2) := by show d3 = _; rw [HD3.out, if_neg g4]
              have g4' : ¬ 2 ≤ (B : Int) - ((m : Int) + 1) := by omega
              rw [← HD.out]
              go_wp2
              go_roundw
              case rel => exact ⟨s, jv + 1, m + 1, _, d3, by go_num, by go_num, by omega, by omega, by omega, hs3, rfl, HX.out⟩
              case measure => simp [intOf]; omega
          · have HD2' : Aside (d2 = d1) := by show d2 = _; rw [HD2.out, if_neg g3]
            have g3' : ¬ 2 ≤ (m : Int) + 1 - (a : Int) := by omega
            rw [← HD2'.out]
            by_cases g4 : B - (m + 1) ≥ 2
            · have HD : Aside (d3 = shiftUp ltInt B (m + 2) d2) := by show d3 = _; rw [HD3.out, if_pos g4]
              have g4' : 2 ≤ (B : Int) - ((m : Int) + 1) := by omega
              go_wp2
              go_loopw [10] (fun v wr => ∃ (k n : Nat) (dj : Array Int), v = .int .i64 ((k : Int) + 1) ∧ k + 1 ≤ B ∧ dj.size = N ∧ wr = RW w b n dj ∧ d3 = shiftUp ltInt B (k + 1) dj) (fun v _ => N + 1 - (intOf v).toNat)
              case atStart => exact ⟨m + 1, n3, d2, by go_num, by omega, hs2, rfl, HD.out⟩
              case round =>
                obtain ⟨k, n, dj, rfl, hk, hsj, rfl, heq⟩ := hrel
                have HK : Aside (d3 = shiftUp ltInt B (k + 1) dj) := heq
                clear heq
                by_cases hg : k + 1 < B
                · have hg' : (k : Int) + 1 < (B : Int) := by omega
                  have c1 := fun n => RW.cell HH.out (hsj.trans h0.symm) n (k + 1) (by omega)
                  have c2 := fun n => RW.cell HH.out (hsj.trans h0.symm) n k (by omega)
                  have f1 := fun n => RW.frozen HH.out dj n (k + 1) (by omega)
                  have f2 := fun n => RW.frozen HH.out dj n k (by omega)
                  have e1 := fun n => RW.swp w b n dj (k + 1) k (by omega) (by omega)
                  have hkN : k + 1 < N := by omega
                  by_cases hl : dj[k + 1]! < dj[k]!
                  · have hdb : decide (dj[k + 1]! < dj[k]!) = true := decide_eq_true hl
                    have hdc : decide (dj[k]! ≤ dj[k + 1]!) = false := decide_eq_false (by omega)
                    have HX2 : Aside (d3 = shiftUp ltInt B (k + 1 + 1) (swp dj (k + 1) k)) := by show d3 = _; rw [HK.out, su_go hg (by simpa using hl)]; rfl
                    generalize dj[k + 1]! = x at c1 hdb hdc hl e1
                    generalize dj[k]! = y at c2 hdb hdc hl e1
                    go_wp2
                    go_quiet ((go_at_call 47; exact Calls.quiet_of_same (less32 _ _ _)))
                    rw [RW.drewN]
                    go_wp2
                    go_region
                    rw [RW.drew]
                    go_wp2
                    go_roundw
                    case rel => exact ⟨k + 1, _, _, by go_num, by omega, by rw [size_swp]; exact hsj, rfl, HX2.out⟩
                    case measure => simp [intOf]; omega
                  · have hdb : decide (dj[k + 1]! < dj[k]!) = false := decide_eq_false hl
                    have hdc : decide (dj[k]! ≤ dj[k + 1]!) = true := decide_eq_true (by omega)
                    have HX2 : Aside (d3 = dj) := by show d3 = _; rw [HK.out, su_end (Or.inr (by simpa using hl))]
                    generalize dj[k + 1]! = x at c1 hdb hdc hl e1
                    generalize dj[k]! = y at c2 hdb hdc hl e1
                    go_wp2
                    go_quiet ((go_at_call 47; exact Calls.quiet_of_same (less32 _ _ _)))
                    rw [RW.drewN]
                    go_wp2
                    go_roundw
                    case rel => exact ⟨s, jv + 1, m + 1, _, dj, by go_num, by go_num, by omega, by omega, by omega, hsj, rfl, by rw [← HX2.out]; exact HX.out⟩
                    case measure => simp [intOf]; omega
                · have hg' : ¬ (k : Int) + 1 < (B : Int) := by omega
                  have HX2 : Aside (d3 = dj) := by show d3 = _; rw [HK.out, su_end (Or.inl hg)]
                  go_wp2
                  go_roundw
                  case rel => exact ⟨s, jv + 1, m + 1, _, dj, by go_num, by go_num, by omega, by omega, by omega, hsj, rfl, by rw [← HX2.out]; exact HX.out⟩
                  case measure => simp [intOf]; omega
            · have HD : Aside (d3 = d2) := by show d3 = _; rw [HD3.out, if_neg g4]
              have g4' : ¬ 2 ≤ (B : Int) - ((m : Int) + 1) := by omega
              rw [← HD.out]
              go_wp2
              go_roundw
              case rel => exact ⟨s, jv + 1, m + 1, _, d3, by go_num, by go_num, by omega, by omega, by omega, hs3, rfl, HX.out⟩
              case measure => simp [intOf]; omega
end Go.Proofs.Ybulkbxxk
