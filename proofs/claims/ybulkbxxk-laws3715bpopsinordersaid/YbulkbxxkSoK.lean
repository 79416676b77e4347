/-
  slices.Sort at []int32: breakPatternsOrdered: some permutation of the range.
-/
import Derived.Test.YbulkbxxkSoJ
namespace Go.Proofs.Ybulkbxxk
open Go.RowKit Go.Sort
set_option linter.unusedVariables false

/-- The row in b, the random state in R. -/
structure RandAt (b R : Nat) (w w' : World) (d : Array Int) : Prop where
  at_ : At b w w' d
  st : ∃ x : Int, w'.cell? ⟨R, 0, none⟩ = some (.int .u64 x)
  free : w'.frozen? ⟨R, 0, none⟩ = false
  new : w.heap.size ≤ R
  old : b < w.heap.size
theorem UW.self {w : World} {R : Nat} {x : Int} (h : w.cell? ⟨R, 0, none⟩ = some (.int .u64 x)) : w = UW w R 0 x := by
  show w = w.setCell ⟨R, 0, none⟩ (.int .u64 x)
  rw [setCell_eq, mapBlock_id]
  intro c e fr hc
  obtain ⟨c', e', fr', h1, h2⟩ := cells_of_cell? h
  rw [hc] at h1
  injection h1 with h1
  injection h1 with h1 _ _
  subst h1
  have hlt : 0 < c.size := (Array.getElem?_eq_some_iff.1 h2).1
  have hv : c[0] = Value.int .u64 x := (Array.getElem?_eq_some_iff.1 h2).2
  show c.setIfInBounds 0 (.int .u64 x) = c
  rw [Array.setIfInBounds, dif_pos hlt, ← hv]
  exact Array.set_getElem_self hlt
theorem heap_UW (w : World) (R n k : Nat) (x : Int) (h : k ≠ R) : (UW w R n x).heap[k]? = w.heap[k]? := Below.heap_setCell _ _ _ _ h
theorem Row32.of_block {w w' : World} {b : Nat} {d : Array Int} (h : Row32 w b d) (hb : w'.heap[b]? = w.heap[b]?) : Row32 w' b d := fun j hj =>
  ⟨(World.cell?_of_block hb).trans (h j hj).1, (World.frozen?_of_block hb).trans (h j hj).2⟩
theorem RandAt.next {b R : Nat} {w w' : World} {d : Array Int} (h : RandAt b R w w' d) (n : Nat) (x : Int) : RandAt b R w (UW w' R n x) d := by
  obtain ⟨y, hy⟩ := h.st
  have hn := h.new
  have ho := h.old
  refine ⟨⟨⟨h.at_.only.os, h.at_.only.tape, h.at_.only.output, ?_, fun k hk hkb => ?_⟩, ?_⟩, ⟨x, UW.cellR hy n x⟩, UW.freeR h.free n x, hn, ho⟩
  · have := h.at_.only.size
    show w.heap.size ≤ (w'.heap.modify R _).size
    rw [Array.size_modify]; exact this
  · exact (heap_UW _ _ _ _ _ (by omega)).trans (h.at_.only.block k hk hkb)
  · exact h.at_.row.of_block (heap_UW _ _ _ _ _ (by omega))
theorem RandAt.row {b R : Nat} {w w' : World} {d d2 : Array Int} (h : RandAt b R w w' d) (hs : d2.size = d.size) (n : Nat) : RandAt b R w (RW w' b n d2) d2 := by
  obtain ⟨y, hy⟩ := h.st
  have hn := h.new
  have ho := h.old
  have hb : (RW w' b n d2).heap[R]? = w'.heap[R]? := heap_RW w' b n R d2 (by omega)
  exact ⟨h.at_.trans (RW.at h.at_.row hs n), ⟨y, (World.cell?_of_block hb).trans hy⟩, (World.frozen?_of_block hb).trans h.free, hn, ho⟩

set_option maxRecDepth 100000 in
set_option maxHeartbeats 4000000 in
theorem break_walk (b cap a B N : Nat) (d : Array Int) (w : World) (h : Row32 w b d) (hN : d.size = N) (hB : B ≤ N) (hm : N ≤ 1024) (ha : a + 12 < B) :
    Calls Yba.prog 43 #[.slice (some ⟨b, 0, none⟩) N cap, .int .i64 a, .int .i64 B] w fun e w' => e = .returned (.tuple #[]) ∧ ∃ d', PermIn a B d d' ∧ At b w w' d' := by
  have hb : b < w.heap.size := Row32.lt h (by omega)
  obtain ⟨l, hl⟩ : ∃ l, l = B - a := ⟨_, rfl⟩
  obtain ⟨q, hq⟩ : ∃ q, q = l / 4 := ⟨_, rfl⟩
  have w1 : IntKind.i64.wrap ((B : Int) - (a : Int)) = (l : Int) := wrap_small _ (by omega) (by omega) (by omega)
  have w2 : (l : Int) / 4 = (q : Int) := by omega
  have q1 : 3 ≤ q := by omega
  have q2 : a + q * 3 + 1 < B := by omega
  have q3 : 4 * q ≤ l := by omega
  have q4 : a + l = B := by omega
  have l8 : (8 : Int) ≤ (l : Int) := by omega
  have l1024 : l ≤ 1024 := by omega
  obtain ⟨R, hR⟩ : ∃ R, R = w.heap.size := ⟨_, rfl⟩
  have wl : IntKind.u64.wrap (l : Int) = (l : Int) := by simp [IntKind.wrap, IntKind.bits, IntKind.signed]; omega
  have HA : Aside (RandAt b R w (w.alloc (.cells #[.int .u64 l] 151)) d) := by
    show RandAt b R w (w.alloc (.cells #[.int .u64 l] 151)) d
    exact ⟨⟨(Only.refl _ _).alloc _, h.of_block (Below.heap_alloc w _ b hb)⟩, ⟨l, by rw [hR]; simp⟩, by rw [hR]; simp, by omega, hb⟩
  have HZ : Aside (w.heap.size = R) := hR.symm
  clear hR h
  clear hq hl
  go_enter Yba.func43, Yba.ntmps43
  go_wp2_with fail
  refine (pow_walk l _ l1024 (by omega)).mono ?_
  rintro e w1' ⟨M, rfl, hM1, hM2, rfl⟩
  have hA := HA.out
  rw [HZ.out]
  generalize w.alloc (.cells #[.int .u64 l] 151) = W0 at hA ⊢
  have HA0 : Aside (RandAt b R w W0 d) := hA
  clear hA HA
  obtain ⟨i0, hi0⟩ : ∃ i0, i0 + 1 = a + q * 2 := ⟨a + q * 2 - 1, by omega⟩
  have w3 : IntKind.i64.wrap ((a : Int) + (q : Int) * 2 - 1) = (i0 : Int) := wrap_small _ (by omega) (by omega) (by omega)
  have w4 : (a : Int) + (q : Int) * 2 - 1 = (i0 : Int) := by omega
  have w5 : IntKind.u64.wrap ((M : Int) - 1) = (M : Int) - 1 := by simp [IntKind.wrap, IntKind.bits, IntKind.signed]; omega
  go_wp2
  go_loopw [9] (fun v wr => ∃ (t x : Nat) (d1 : Array Int), v = .int .i64 x ∧ x = i0 + t ∧ t ≤ 3 ∧ d1.size = N ∧ PermIn a B d d1 ∧ RandAt b R w wr d1) (fun v _ => N + 10 - (intOf v).toNat)
  case atStart => exact ⟨0, i0, d, by go_num, by omega, by omega, hN, permIn_refl _ _ _, HA0.out⟩
  case round =>
    obtain ⟨t, x, d1, rfl, hx, ht, hs1, hP, hG⟩ := hrel
    have hxN : x < N := by omega
    have hxa : a ≤ x := by omega
    have hxx : x + 1 = i0 + (t + 1) := by omega
    have HP : Aside (PermIn a B d d1) := hP
    have HG : Aside (RandAt b R w wr d1) := hG
    clear hP hG
    by_cases ht3 : t = 3
    · have g1 : ¬ (x : Int) ≤ (a : Int) + (q : Int) * 2 + 1 := by omega
      go_wp2
      go_end0
      exact ⟨rfl, d1, HP.out, HG.out.at_⟩
    · have g1 : (x : Int) ≤ (a : Int) + (q : Int) * 2 + 1 := by omega
      obtain ⟨x0, hx0⟩ := HG.out.st
      have hxB : x < B := by omega
      have HXX : Aside (x + 1 = i0 + (t + 1)) := hxx
      clear hx hxx hi0 w3 w4
      have HN1 : Aside (Calls Yba.prog 63 #[.pointer (some ⟨R, 0, none⟩)] wr fun e w' => ∃ (v : Int) (q : Nat), e = .returned (.int .u64 v) ∧ 0 ≤ v ∧ v < 18446744073709551616 ∧ w' = UW wr R q v) := by
        have := next_walk R 0 x0 wr hx0 HG.out.free
        rw [← UW.self hx0] at this
        exact this
      clear hx0
      go_wp2_with fail
      refine HN1.out.mono ?_
      rintro e w2 ⟨v, qn, rfl, hv0, hv1, rfl⟩
      obtain ⟨vn, rfl⟩ := Int.eq_ofNat_of_zero_le hv0
      have hG2 : RandAt b R w (UW wr R qn vn) d1 := HG.out.next qn vn
      obtain ⟨o, ho⟩ : ∃ o, o = vn &&& (M - 1) := ⟨_, rfl⟩
      have ho1 : o ≤ M - 1 := by rw [ho]; exact Nat.and_le_right
      have hand : bits .and .u64 (vn : Int) ((M : Int) - 1) = (o : Int) := by
        have e : ((M : Int) - 1) = ((M - 1 : Nat) : Int) := by omega
        rw [e, ho]
        exact u64_and_nat vn (M - 1) (by omega) (by omega)
      have w6 : IntKind.i64.wrap (o : Int) = (o : Int) := wrap_small _ rfl (by omega) (by omega)
      clear ho
      generalize UW wr R qn vn = w2 at hG2 ⊢
      have HG2 : Aside (RandAt b R w w2 d1) := hG2
      have HR2 : Aside (Row32 w2 b d1) := hG2.at_.row
      clear hG2 HG HN1
      by_cases hol : l ≤ o
      · have hol' : (l : Int) ≤ (o : Int) := by omega
        obtain ⟨o2, hyo⟩ : ∃ o2, o2 = o - l := ⟨_, rfl⟩
        have w7 : IntKind.i64.wrap ((o : Int) - (l : Int)) = (o2 : Int) := wrap_small _ (by omega) (by omega) (by omega)
        have ho2 : o2 < l := by omega
        clear hyo
        obtain ⟨y, hyo⟩ : ∃ y, y = a + o2 := ⟨_, rfl⟩
        have hya : a ≤ y := by omega
        have hy : y < N := by omega
        have hyB : y < B := by omega
        have w8 : IntKind.i64.wrap ((a : Int) + (o2 : Int)) = (y : Int) := wrap_small _ (by omega) (by omega) (by omega)
        clear hyo
        have c1 := fun n => RW.cell HR2.out rfl n x (by omega)
        have c2 := fun n => RW.cell HR2.out rfl n y (by omega)
        have f1 := fun n => RW.frozen HR2.out d1 n x (by omega)
        have f2 := fun n => RW.frozen HR2.out d1 n y (by omega)
        have e1 := fun n => RW.swp w2 b n d1 x y (by omega) (by omega)
        have HP2 : Aside (PermIn a B d (swp d1 x y)) := permIn_trans _ _ _ _ _ HP.out (swp_permIn d1 a B x y (by omega) (by omega) (by omega) (by omega) (by omega))
        have HAT : Aside (∀ n, RandAt b R w (RW w2 b n (swp d1 x y)) (swp d1 x y)) := fun n => HG2.out.row (by rw [size_swp]) n
        rw [RW.self HR2.out]
        by_cases hxy : x = y
        · subst hxy
          clear c2 f2
          generalize d1[x]! = u at c1 e1
          go_wp2
          go_region
          rw [RW.drew]
          go_wp2
          go_roundw
          case rel => exact ⟨t + 1, x + 1, _, by go_num, HXX.out, by omega, by rw [size_swp]; exact hs1, HP2.out, HAT.out _⟩
          case measure => simp [intOf]; omega
        · have hyx : ¬ y = x := fun e => hxy e.symm
          generalize d1[x]! = u at c1 e1
          generalize d1[y]! = z at c2 e1
          go_wp2
          go_region
          rw [RW.drew]
          go_wp2
          go_roundw
          case rel => exact ⟨t + 1, x + 1, _, by go_num, HXX.out, by omega, by rw [size_swp]; exact hs1, HP2.out, HAT.out _⟩
          case measure => simp [intOf]; omega
      · have hol' : ¬ (l : Int) ≤ (o : Int) := by omega
        obtain ⟨o2, hyo⟩ : ∃ o2, o2 = o := ⟨_, rfl⟩
        subst hyo
        have ho2 : o2 < l := by omega
        obtain ⟨y, hyo⟩ : ∃ y, y = a + o2 := ⟨_, rfl⟩
        have hya : a ≤ y := by omega
        have hy : y < N := by omega
        have hyB : y < B := by omega
        have w8 : IntKind.i64.wrap ((a : Int) + (o2 : Int)) = (y : Int) := wrap_small _ (by omega) (by omega) (by omega)
        clear hyo
        have c1 := fun n => RW.cell HR2.out rfl n x (by omega)
        have c2 := fun n => RW.cell HR2.out rfl n y (by omega)
        have f1 := fun n => RW.frozen HR2.out d1 n x (by omega)
        have f2 := fun n => RW.frozen HR2.out d1 n y (by omega)
        have e1 := fun n => RW.swp w2 b n d1 x y (by omega) (by omega)
        have HP2 : Aside (PermIn a B d (swp d1 x y)) := permIn_trans _ _ _ _ _ HP.out (swp_permIn d1 a B x y (by omega) (by omega) (by omega) (by omega) (by omega))
        have HAT : Aside (∀ n, RandAt b R w (RW w2 b n (swp d1 x y)) (swp d1 x y)) := fun n => HG2.out.row (by rw [size_swp]) n
        rw [RW.self HR2.out]
        by_cases hxy : x = y
        · subst hxy
          clear c2 f2
          generalize d1[x]! = u at c1 e1
          go_wp2
          go_region
          rw [RW.drew]
          go_wp2
          go_roundw
          case rel => exact ⟨t + 1, x + 1, _, by go_num, HXX.out, by omega, by rw [size_swp]; exact hs1, HP2.out, HAT.out _⟩
          case measure => simp [intOf]; omega
        · have hyx : ¬ y = x := fun e => hxy e.symm
          generalize d1[x]! = u at c1 e1
          generalize d1[y]! = z at c2 e1
          go_wp2
          go_region
          rw [RW.drew]
          go_wp2
          go_roundw
          case rel => exact ⟨t + 1, x + 1, _, by go_num, HXX.out, by omega, by rw [size_swp]; exact hs1, HP2.out, HAT.out _⟩
          case measure => simp [intOf]; omega
end Go.Proofs.Ybulkbxxk
