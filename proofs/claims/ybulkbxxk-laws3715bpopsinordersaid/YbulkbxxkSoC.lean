/-
  slices.Sort at []int32: worlds in which block b holds another row; reverseRangeOrdered, siftDownOrdered, heapSortOrdered.
-/
import Derived.Test.YbulkbxxkSoB
import Derived.Test.YbulkbxxkHeapP
namespace Go.Proofs.Ybulkbxxk
open Go.RowKit Go.Sort
set_option linter.unusedVariables false

/-- Of the blocks that lay in w only b has turned; it holds the row d. -/
structure At (b : Nat) (w w' : World) (d : Array Int) : Prop where
  only : Only (fun k => k = b) w w'
  row : Row32 w' b d
theorem Row32.lt {w : World} {b : Nat} {d : Array Int} (h : Row32 w b d) (hd : 0 < d.size) : b < w.heap.size := by
  obtain ⟨c, e, fr, hb, _⟩ := cells_of_cell? (h 0 hd).1
  exact (Array.getElem?_eq_some_iff.1 hb).1
theorem heap_RW (w : World) (b n k : Nat) (d : Array Int) (h : k ≠ b) : (RW w b n d).heap[k]? = w.heap[k]? := by
  have hb : ¬ b = k := fun e => h e.symm
  simp [RW, putRow, mapBlock, Array.getElem?_modify, hb]
theorem RW.at {w : World} {b : Nat} {d0 d : Array Int} (h : Row32 w b d0) (hs : d.size = d0.size) (n : Nat) : At b w (RW w b n d) d :=
  ⟨⟨rfl, rfl, rfl, Nat.le_of_eq (size_putRow _ (Sort.ahead w n) b 0 d).symm, fun k _ hk => heap_RW w b n k d hk⟩, RW.holds h hs n⟩
theorem At.refl {b : Nat} {w : World} {d : Array Int} (h : Row32 w b d) : At b w w d := ⟨Only.refl _ _, h⟩
theorem At.trans {b : Nat} {w w1 w2 : World} {d1 d2 : Array Int} (h : At b w w1 d1) (k : At b w1 w2 d2) : At b w w2 d2 := ⟨h.only.trans k.only, k.row⟩

theorem ins_at (b cap a B N : Nat) (d : Array Int) (w : World) (h : Row32 w b d) (hN : d.size = N) (hB : B ≤ N) (hm : N ≤ 1024) (ha : a ≤ B) :
    Calls Yba.prog 41 #[.slice (some ⟨b, 0, none⟩) N cap, .int .i64 a, .int .i64 B] w fun e w' => e = .returned (.tuple #[]) ∧ At b w w' (insertionSort ltInt d a B) := by
  refine (ins_walk b cap a B N d w h hN hB hm (by omega)).mono ?_
  rintro e w' ⟨he, n, rfl⟩
  exact ⟨he, RW.at h (insertionSort_holds swo_ltInt d a B ha (by omega)).1.1 n⟩

theorem rev_go {i j : Nat} {d : Array Int} (h : i < j) : reverseLoop i j d = reverseLoop (i + 1) (j - 1) (swp d i j) := by rw [reverseLoop, if_pos h]
theorem rev_end {i j : Nat} {d : Array Int} (h : ¬ i < j) : reverseLoop i j d = d := by rw [reverseLoop, if_neg h]

set_option maxRecDepth 100000 in
set_option maxHeartbeats 1000000 in
theorem rev_walk (b cap a B N : Nat) (d : Array Int) (w : World) (h : Row32 w b d) (hN : d.size = N) (hB : B ≤ N) (hm : N ≤ 1024) (ha : a < B) :
    Calls Yba.prog 45 #[.slice (some ⟨b, 0, none⟩) N cap, .int .i64 a, .int .i64 B] w fun e w' => e = .returned (.tuple #[]) ∧ At b w w' (reverseRange d a B) := by
  have HH : Aside (Row32 w b d) := h
  have HS : Aside (w = RW w b 0 d) := RW.self h
  clear h
  go_enter Yba.func45, Yba.ntmps45
  go_wp2
  go_loopw [6, 7] (fun vi vj wr => ∃ (i j n : Nat) (dk : Array Int), vi = .int .i64 i ∧ vj = .int .i64 j ∧ j < N ∧ i ≤ N ∧ dk.size = N ∧ wr = RW w b n dk ∧ reverseLoop i j dk = reverseLoop a (B - 1) d) (fun _ vj _ => (intOf vj).toNat)
  case atStart => exact ⟨a, B - 1, 0, d, by go_num, by go_num, by omega, by omega, hN, HS.out, rfl⟩
  case round =>
    obtain ⟨i, j, n, dk, rfl, rfl, hj, hi, hs, rfl, heq⟩ := hrel
    have HQ : Aside (reverseLoop i j dk = reverseLoop a (B - 1) d) := heq
    clear heq
    by_cases h1 : i < j
    · have c1 := fun n => RW.cell HH.out (hs.trans hN.symm) n i (by omega)
      have c2 := fun n => RW.cell HH.out (hs.trans hN.symm) n j (by omega)
      have f1 := fun n => RW.frozen HH.out dk n i (by omega)
      have f2 := fun n => RW.frozen HH.out dk n j (by omega)
      have e1 := fun n => RW.swp w b n dk i j (by omega) (by omega)
      have h2 : ¬ i = j := by omega
      have h3 : ¬ j = i := by omega
      generalize dk[i]! = x at c1 e1
      generalize dk[j]! = y at c2 e1
      go_wp2
      go_region
      go_wp2
      go_roundw
      case rel => exact ⟨i + 1, j - 1, _, _, by go_num, by go_num, by omega, by omega, by rw [size_swp]; exact hs, RW.drew _ _ _ _, (rev_go h1).symm.trans HQ.out⟩
      case measure => simp [intOf]; omega
    · have HE : Aside (reverseRange d a B = dk) := by
        unfold reverseRange
        show reverseLoop a (B - 1) d = dk
        rw [← HQ.out, rev_end h1]
      go_wp2
      go_end0
      exact ⟨rfl, by rw [HE.out]; exact RW.at HH.out (hs.trans hN.symm) n⟩

def kid (hi first root : Nat) (d : Array Int) : Nat := if 2 * root + 2 < hi ∧ d[first + (2 * root + 1)]! < d[first + (2 * root + 2)]! then 2 * root + 2 else 2 * root + 1
theorem sift_end {hi first root : Nat} {d : Array Int} (h : hi ≤ 2 * root + 1) : siftDown ltInt hi first root d = d := by rw [siftDown, dif_pos h]
theorem sift_rest {hi first root : Nat} {d : Array Int} (h : ¬ hi ≤ 2 * root + 1) (hl : ¬ d[first + root]! < d[first + kid hi first root d]!) : siftDown ltInt hi first root d = d := by
  rw [siftDown, dif_neg h]
  unfold kid at hl
  simp only [ltInt, Bool.and_eq_true, decide_eq_true_eq] at hl ⊢
  have e : first + (2 * root + 1) + 1 = first + (2 * root + 2) := by omega
  rw [e]
  split
  · rename_i k
    have k' : 2 * root + 2 < hi ∧ d[first + (2 * root + 1)]! < d[first + (2 * root + 2)]! := ⟨by omega, k.2⟩
    rw [if_pos k'] at hl
    simp [hl]
  · rename_i k
    have k' : ¬ (2 * root + 2 < hi ∧ d[first + (2 * root + 1)]! < d[first + (2 * root + 2)]!) := fun x => k ⟨by omega, x.2⟩
    rw [if_neg k'] at hl
    simp [hl]
theorem sift_go {hi first root : Nat} {d : Array Int} (h : ¬ hi ≤ 2 * root + 1) (hl : d[first + root]! < d[first + kid hi first root d]!) : siftDown ltInt hi first root d = siftDown ltInt hi first (kid hi first root d) (swp d (first + root) (first + kid hi first root d)) := by
  conv => lhs; rw [siftDown, dif_neg h]
  unfold kid at hl ⊢
  simp only [ltInt, Bool.and_eq_true, decide_eq_true_eq] at hl ⊢
  have e : first + (2 * root + 1) + 1 = first + (2 * root + 2) := by omega
  rw [e]
  split
  · rename_i k
    have k' : 2 * root + 2 < hi ∧ d[first + (2 * root + 1)]! < d[first + (2 * root + 2)]! := ⟨by omega, k.2⟩
    rw [if_pos k'] at hl
    simp [hl, k'.1]
  · rename_i k
    have k' : ¬ (2 * root + 2 < hi ∧ d[first + (2 * root + 1)]! < d[first + (2 * root + 2)]!) := fun x => k ⟨by omega, x.2⟩
    rw [if_neg k'] at hl
    simp [hl]
theorem kid_pos {hi first root : Nat} {d : Array Int} (h : 2 * root + 2 < hi) (hl : d[first + (2 * root + 1)]! < d[first + (2 * root + 2)]!) : kid hi first root d = 2 * root + 2 := if_pos ⟨h, hl⟩
theorem kid_neg {hi first root : Nat} {d : Array Int} (h : ¬ (2 * root + 2 < hi ∧ d[first + (2 * root + 1)]! < d[first + (2 * root + 2)]!)) : kid hi first root d = 2 * root + 1 := if_neg h
theorem wrap_small {z : Int} (y : Int) (h : z = y) (h1 : 0 ≤ y) (h2 : y ≤ 1000000) : IntKind.i64.wrap z = y := by
  subst h
  simp [IntKind.wrap, IntKind.bits, IntKind.signed]; omega
end Go.Proofs.Ybulkbxxk
