/-
  slices.Sort at []int32: heapSortOrdered.
-/
import Derived.Test.YbulkbxxkSoD
namespace Go.Proofs.Ybulkbxxk
open Go.RowKit Go.Sort
set_option linter.unusedVariables false

/-- siftDownOrdered, from a world of the family to another. -/
theorem sift_rw {b cap lo hi first N n : Nat} {d0 d : Array Int} {w : World} (h : Row32 w b d0) (h0 : d0.size = N) (hN : d.size = N) (hf : first + hi ≤ N) (hm : N ≤ 1024) (hlo : lo ≤ N) (vlo vhi : Int) (e1 : vlo = lo) (e2 : vhi = hi) :
    Calls Yba.prog 61 #[.slice (some ⟨b, 0, none⟩) N cap, .int .i64 vlo, .int .i64 vhi, .int .i64 first] (RW w b n d) fun e w' => e = .returned (.tuple #[]) ∧ ∃ n, w' = RW w b n (siftDown ltInt hi first lo d) ∧ (siftDown ltInt hi first lo d).size = N := by
  subst e1 e2
  refine (sift_walk b cap lo hi first N d _ (RW.holds h (hN.trans h0.symm) n) hN hf hm hlo).mono ?_
  rintro e w' ⟨he, m, rfl, hs⟩
  exact ⟨he, n + m, by rw [RW.on _ _ _ _ _ _ (hs.trans hN.symm)], hs⟩

set_option maxRecDepth 100000 in
set_option maxHeartbeats 2000000 in
theorem heap_walk (b cap a B N : Nat) (d : Array Int) (w : World) (h : Row32 w b d) (hN : d.size = N) (hB : B ≤ N) (hm : N ≤ 1024) (ha : a < B) :
    Calls Yba.prog 42 #[.slice (some ⟨b, 0, none⟩) N cap, .int .i64 a, .int .i64 B] w fun e w' => e = .returned (.tuple #[]) ∧ At b w w' (heapSort ltInt d a B) := by
  have HH : Aside (Row32 w b d) := h
  have HS : Aside (w = RW w b 0 d) := RW.self h
  clear h
  obtain ⟨hi, hhi⟩ : ∃ hi, hi = B - a := ⟨_, rfl⟩
  have w1 : IntKind.i64.wrap ((B : Int) - (a : Int)) = (hi : Int) := wrap_small _ (by omega) (by omega) (by omega)
  have HSI : Aside (∀ (dk : Array Int) (n lo h : Nat) (vlo vhi : Int), dk.size = N → a + h ≤ N → lo ≤ N → vlo = lo → vhi = h → Calls Yba.prog 61 #[.slice (some ⟨b, 0, none⟩) N cap, .int .i64 vlo, .int .i64 vhi, .int .i64 a] (RW w b n dk) fun e w' => e = .returned (.tuple #[]) ∧ ∃ n, w' = RW w b n (siftDown ltInt h a lo dk) ∧ (siftDown ltInt h a lo dk).size = N) :=
    fun dk n lo h vlo vhi hs hf hl e1 e2 => sift_rw HH.out hN hs hf hm hl vlo vhi e1 e2
  have hi1 : 1 ≤ hi := by omega
  have hi2 : a + hi ≤ N := by omega
  have HSORT : Aside (heapSort ltInt d a B = heapPop ltInt a hi (heapBuild ltInt hi a ((hi - 1) / 2 + 1) d)) := by
    show heapSort ltInt d a B = _
    unfold heapSort; rw [← hhi]
  clear hhi
  have w2 : IntKind.i64.wrap ((hi : Int) - 1) = (hi : Int) - 1 := wrap_small _ rfl (by omega) (by omega)
  go_enter Yba.func42, Yba.ntmps42
  go_wp2
  go_loopw [9] (fun vi wr => ∃ (k n : Nat) (dk : Array Int), vi = .int .i64 ((k : Int) - 1) ∧ k ≤ hi ∧ dk.size = N ∧ wr = RW w b n dk ∧ heapBuild ltInt hi a k dk = heapBuild ltInt hi a ((hi - 1) / 2 + 1) d) (fun vi _ => (intOf vi + 1).toNat)
  case atStart => exact ⟨(hi - 1) / 2 + 1, 0, d, by go_num, by omega, hN, HS.out, rfl⟩
  case round =>
    obtain ⟨k, n, dk, rfl, hk, hs, rfl, heq⟩ := hrel
    have HQ : Aside (heapBuild ltInt hi a k dk = heapBuild ltInt hi a ((hi - 1) / 2 + 1) d) := heq
    clear heq
    cases k with
    | zero =>
      have HE : Aside (heapSort ltInt d a B = heapPop ltInt a hi dk) := by
        show heapSort ltInt d a B = heapPop ltInt a hi dk
        rw [HSORT.out, ← HQ.out]; rfl
      rw [show (((0 : Nat) : Int) - 1) = (-1 : Int) from rfl]
      go_wp2
      go_loopw [10] (fun vi wr => ∃ (k n : Nat) (dk' : Array Int), vi = .int .i64 ((k : Int) - 1) ∧ k ≤ hi ∧ dk'.size = N ∧ wr = RW w b n dk' ∧ heapPop ltInt a k dk' = heapPop ltInt a hi dk) (fun vi _ => (intOf vi + 1).toNat)
      case atStart => exact ⟨hi, n, dk, by go_num, by omega, hs, rfl, rfl⟩
      case round =>
        obtain ⟨k, n, dj, rfl, hk, hs', rfl, heq⟩ := hrel
        have HP : Aside (heapPop ltInt a k dj = heapPop ltInt a hi dk) := heq
        clear heq
        cases k with
        | zero =>
          have HF : Aside (heapSort ltInt d a B = dj) := by
            show heapSort ltInt d a B = dj
            rw [HE.out, ← HP.out]; rfl
          go_wp2
          go_end0
          exact ⟨rfl, by rw [HF.out]; exact RW.at HH.out (hs'.trans hN.symm) n⟩
        | succ k =>
          obtain ⟨p, hp⟩ : ∃ p, p = a + k := ⟨_, rfl⟩
          have w3 : IntKind.i64.wrap ((a : Int) + (k : Int)) = (p : Int) := wrap_small _ (by omega) (by omega) (by omega)
          have hpN : p < N := by omega
          have haN : a < N := by omega
          have HP2 : Aside (heapPop ltInt a k (siftDown ltInt k a 0 (swp dj a p)) = heapPop ltInt a hi dk) := by
            show heapPop ltInt a k (siftDown ltInt k a 0 (swp dj a p)) = heapPop ltInt a hi dk
            rw [← HP.out, hp]; rfl
          have c1 := fun n => RW.cell HH.out (hs'.trans hN.symm) n a (by omega)
          have c2 := fun n => RW.cell HH.out (hs'.trans hN.symm) n p (by omega)
          have f1 := fun n => RW.frozen HH.out dj n a (by omega)
          have f2 := fun n => RW.frozen HH.out dj n p (by omega)
          have e1 := fun n => RW.swp w b n dj a p (by omega) (by omega)
          by_cases hap : a = p
          · subst hap
            clear hp c2 f2
            generalize dj[a]! = x at c1 e1
            go_wp2
            go_region
            rw [RW.drew]
            go_wp2_with fail
            refine (HSI.out (swp dj a a) _ 0 k _ _ (by rw [size_swp]; exact hs') (by omega) (by omega) (by omega) (by omega)).mono ?_
            rintro e w' ⟨rfl, m, rfl, hs2⟩
            go_wp2
            go_roundw
            case rel => exact ⟨k, _, _, by go_num, by omega, hs2, rfl, HP2.out⟩
            case measure => simp [intOf]
          · have hap2 : ¬ p = a := fun e => hap e.symm
            clear hp
            generalize dj[a]! = x at c1 c2 e1
            generalize dj[p]! = y at c1 c2 e1
            go_wp2
            go_region
            rw [RW.drew]
            go_wp2_with fail
            refine (HSI.out (swp dj a p) _ 0 k _ _ (by rw [size_swp]; exact hs') (by omega) (by omega) (by omega) (by omega)).mono ?_
            rintro e w' ⟨rfl, m, rfl, hs2⟩
            go_wp2
            go_roundw
            case rel => exact ⟨k, _, _, by go_num, by omega, hs2, rfl, HP2.out⟩
            case measure => simp [intOf]
    | succ k =>
      have HQ2 : Aside (heapBuild ltInt hi a k (siftDown ltInt hi a k dk) = heapBuild ltInt hi a ((hi - 1) / 2 + 1) d) := HQ.out
      go_wp2_with fail
      refine (HSI.out dk _ k hi _ _ hs (by omega) (by omega) (by omega) rfl).mono ?_
      rintro e w' ⟨rfl, m, rfl, hs2⟩
      go_wp2
      go_roundw
      case rel => exact ⟨k, _, _, by go_num, by omega, hs2, rfl, HQ2.out⟩
      case measure => simp [intOf]
end Go.Proofs.Ybulkbxxk
