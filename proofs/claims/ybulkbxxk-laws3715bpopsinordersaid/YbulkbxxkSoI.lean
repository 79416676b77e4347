/-
  slices.Sort at []int32: order2Ordered, medianOrdered, medianAdjacentOrdered, choosePivotOrdered: what is said of them: some index of the range; the row stays.
-/
import Derived.Test.YbulkbxxkSoC
namespace Go.Proofs.Ybulkbxxk
open Go.RowKit Go.Sort
set_option linter.unusedVariables false

/-- The world w with the counter in block S at s, n draws on. -/
def SW (w : World) (S n s : Nat) : World := (w.setCell ⟨S, 0, none⟩ (.int .i64 s)).drewN n
structure SwapAt (w : World) (S b N : Nat) (d : Array Int) : Prop where
  row : Row32 w b d
  size : d.size = N
  ne : S ≠ b
  has : ∃ v, w.cell? ⟨S, 0, none⟩ = some v
  free : w.frozen? ⟨S, 0, none⟩ = false
theorem SW.cellS {w : World} {S b N : Nat} {d : Array Int} (h : SwapAt w S b N d) (n s : Nat) : (SW w S n s).cell? ⟨S, 0, none⟩ = some (.int .i64 s) := by
  obtain ⟨v, hv⟩ := h.has
  exact World.cell?_setCell_same (w := w) _ _ hv
theorem SW.freeS {w : World} {S b N : Nat} {d : Array Int} (h : SwapAt w S b N d) (n s : Nat) : (SW w S n s).frozen? ⟨S, 0, none⟩ = false := by
  show (w.setCell ⟨S, 0, none⟩ (.int .i64 s)).frozen? ⟨S, 0, none⟩ = _
  simp [h.free]
theorem SW.cell {w : World} {S b N : Nat} {d : Array Int} (h : SwapAt w S b N d) (n s j : Nat) (hj : j < N) : (SW w S n s).cell? ⟨b, j, none⟩ = some (.int .i32 d[j]!) := by
  have := (h.row j (by have := h.size; omega)).1
  rw [Nat.zero_add] at this
  show (w.setCell ⟨S, 0, none⟩ (.int .i64 s)).cell? ⟨b, j, none⟩ = _
  rw [← this]
  exact World.cell?_of_block (Below.heap_setCell _ _ _ _ (fun e => h.ne e.symm))
theorem SW.set {w : World} (S n s t : Nat) : (SW w S n s).setCell ⟨S, 0, none⟩ (.int .i64 t) = SW w S n t := by
  unfold SW
  show ((w.setCell ⟨S, 0, none⟩ (.int .i64 s)).setCell ⟨S, 0, none⟩ (.int .i64 t)).drewN n = _
  rw [setCell_eq, setCell_eq, setCell_eq, mapBlock_mapBlock]
  congr 2
  funext c
  simp
theorem SW.drewN (w : World) (S n s q : Nat) : (SW w S n s).drewN q = SW w S (n + q) s := by
  simp [SW, World.drewN, Nat.add_assoc]

set_option maxRecDepth 100000 in
set_option maxHeartbeats 1000000 in
theorem order2_walk (b cap i j N S n s : Nat) (d : Array Int) (w : World) (H : SwapAt w S b N d) (hi : i < N) (hj : j < N) (hs : s ≤ 1000) (vi vj : Int) (ei : vi = i) (ej : vj = j) :
    Calls Yba.prog 68 #[.slice (some ⟨b, 0, none⟩) N cap, .int .i64 vi, .int .i64 vj, .pointer (some ⟨S, 0, none⟩)] (SW w S n s) fun e w' => ∃ x y n' s', e = .returned (.tuple #[.int .i64 (x : Nat), .int .i64 (y : Nat)]) ∧ (x = i ∧ y = j ∨ x = j ∧ y = i) ∧ s' ≤ s + 1 ∧ w' = SW w S n' s' := by
  subst ei ej
  have c1 := fun n => SW.cell H n s i hi
  have c2 := fun n => SW.cell H n s j hj
  have c3 := fun n => SW.cellS H n s
  have f3 := fun n => SW.freeS H n s
  have e3 := fun n => SW.set (w := w) S n s (s + 1)
  clear H
  by_cases hl : d[j]! < d[i]!
  · have hd : decide (d[j]! < d[i]!) = true := decide_eq_true hl
    generalize d[i]! = x at c1 hd hl
    generalize d[j]! = y at c2 hd hl
    go_enter Yba.func68, Yba.ntmps68
    go_wp2
    go_quiet ((go_at_call 47; exact Calls.quiet_of_same (less32 _ _ _)))
    rw [SW.drewN]
    go_wp2
    go_ret2
    refine ⟨j, i, n + nq, s + 1, rfl, Or.inr ⟨rfl, rfl⟩, Nat.le_refl _, ?_⟩
    rw [← e3]
    simp
  · have hd : decide (d[j]! < d[i]!) = false := decide_eq_false hl
    generalize d[i]! = x at c1 hd hl
    generalize d[j]! = y at c2 hd hl
    go_enter Yba.func68, Yba.ntmps68
    go_wp2
    go_quiet ((go_at_call 47; exact Calls.quiet_of_same (less32 _ _ _)))
    rw [SW.drewN]
    go_wp2
    go_ret2
    exact ⟨i, j, n + nq, s, rfl, Or.inl ⟨rfl, rfl⟩, by omega, rfl⟩

set_option maxRecDepth 100000 in
set_option maxHeartbeats 1000000 in
theorem median_walk (b cap i j k N S n s : Nat) (d : Array Int) (w : World) (H : SwapAt w S b N d) (hi : i < N) (hj : j < N) (hk : k < N) (hs : s ≤ 900) (vi vj vk : Int) (ei : vi = i) (ej : vj = j) (ek : vk = k) :
    Calls Yba.prog 65 #[.slice (some ⟨b, 0, none⟩) N cap, .int .i64 vi, .int .i64 vj, .int .i64 vk, .pointer (some ⟨S, 0, none⟩)] (SW w S n s) fun e w' => ∃ x n' s', e = .returned (.int .i64 (x : Nat)) ∧ (x = i ∨ x = j ∨ x = k) ∧ s' ≤ s + 3 ∧ w' = SW w S n' s' := by
  subst ei ej ek
  have HO : Aside (∀ (i j n s : Nat), i < N → j < N → s ≤ 1000 → Calls Yba.prog 68 #[.slice (some ⟨b, 0, none⟩) N cap, .int .i64 i, .int .i64 j, .pointer (some ⟨S, 0, none⟩)] (SW w S n s) fun e w' => ∃ x y n' s', e = .returned (.tuple #[.int .i64 (x : Nat), .int .i64 (y : Nat)]) ∧ (x = i ∧ y = j ∨ x = j ∧ y = i) ∧ s' ≤ s + 1 ∧ w' = SW w S n' s') :=
    fun i j n s hi hj hs => order2_walk b cap i j N S n s d w H hi hj hs _ _ rfl rfl
  clear H
  go_enter Yba.func65, Yba.ntmps65
  go_wp2_with fail
  refine (HO.out i j n s hi hj (by omega)).mono ?_
  rintro e w1 ⟨x1, y1, n1, s1, rfl, h1, hs1, rfl⟩
  go_wp2_with fail
  refine (HO.out y1 k n1 s1 (by omega) hk (by omega)).mono ?_
  rintro e w1 ⟨x2, y2, n2, s2, rfl, h2, hs2, rfl⟩
  go_wp2_with fail
  refine (HO.out x1 x2 n2 s2 (by omega) (by omega) (by omega)).mono ?_
  rintro e w1 ⟨x3, y3, n3, s3, rfl, h3, hs3, rfl⟩
  go_wp2
  go_ret
  exact ⟨y3, n3, s3, rfl, by omega, by omega, rfl⟩

set_option maxRecDepth 100000 in
set_option maxHeartbeats 1000000 in
theorem adj_walk (b cap i N S n s : Nat) (d : Array Int) (w : World) (H : SwapAt w S b N d) (hi : 1 ≤ i) (hi2 : i + 1 < N) (hm : N ≤ 1024) (hs : s ≤ 900) (vi : Int) (ei : vi = i) :
    Calls Yba.prog 64 #[.slice (some ⟨b, 0, none⟩) N cap, .int .i64 vi, .pointer (some ⟨S, 0, none⟩)] (SW w S n s) fun e w' => ∃ x n' s', e = .returned (.int .i64 (x : Nat)) ∧ i - 1 ≤ x ∧ x ≤ i + 1 ∧ s' ≤ s + 3 ∧ w' = SW w S n' s' := by
  subst ei
  obtain ⟨k, rfl⟩ : ∃ k, i = k + 1 := ⟨i - 1, by omega⟩
  have HO : Aside (∀ (vi vj vk : Int), vi = (k : Nat) → vj = (k + 1 : Nat) → vk = (k + 2 : Nat) → Calls Yba.prog 65 #[.slice (some ⟨b, 0, none⟩) N cap, .int .i64 vi, .int .i64 vj, .int .i64 vk, .pointer (some ⟨S, 0, none⟩)] (SW w S n s) fun e w' => ∃ x n' s', e = .returned (.int .i64 (x : Nat)) ∧ (x = k ∨ x = k + 1 ∨ x = k + 2) ∧ s' ≤ s + 3 ∧ w' = SW w S n' s') :=
    fun vi vj vk e1 e2 e3 => median_walk b cap k (k + 1) (k + 2) N S n s d w H (by omega) (by omega) (by omega) hs _ _ _ e1 e2 e3
  clear H
  go_enter Yba.func64, Yba.ntmps64
  go_wp2_with fail
  refine (HO.out _ _ _ (by omega) (by omega) (by omega)).mono ?_
  rintro e w1 ⟨x1, n1, s1, rfl, h1, hs1, rfl⟩
  go_wp2
  go_ret
  exact ⟨x1, n1, s1, rfl, by omega, by omega, by omega, rfl⟩

set_option maxRecDepth 100000 in
set_option maxHeartbeats 2000000 in
theorem pivot_walk (b cap a B N : Nat) (d : Array Int) (w : World) (h : Row32 w b d) (hN : d.size = N) (hB : B ≤ N) (hm : N ≤ 1024) (ha : a + 12 < B) :
    Calls Yba.prog 44 #[.slice (some ⟨b, 0, none⟩) N cap, .int .i64 a, .int .i64 B] w fun e w' => ∃ p t : Nat, e = .returned (.tuple #[.int .i64 p, .int .i64 t]) ∧ a ≤ p ∧ p < B ∧ t ≤ 2 ∧ At b w w' d := by
  have hb : b < w.heap.size := Row32.lt h (by omega)
  obtain ⟨W, hW⟩ : ∃ W, W = w.alloc (.cells #[.int .i64 0] 3) := ⟨_, rfl⟩
  obtain ⟨S, hS⟩ : ∃ S, S = w.heap.size := ⟨_, rfl⟩
  have cS : W.cell? ⟨S, 0, none⟩ = some (.int .i64 0) := by rw [hW, hS]; simp
  have H : SwapAt W S b N d := by
    refine ⟨fun j hj => ?_, hN, by omega, ⟨_, cS⟩, by rw [hW, hS]; simp⟩
    have := h j hj
    rw [hW]
    refine ⟨(World.cell?_of_block (Below.heap_alloc w _ b hb)).trans this.1, (World.frozen?_of_block (Below.heap_alloc w _ b hb)).trans this.2⟩
  have hSW : W = SW W S 0 0 := by
    show W = W.setCell ⟨S, 0, none⟩ (.int .i64 0)
    rw [setCell_eq, mapBlock_id]
    intro c e fr hc
    rw [hW, hS] at hc
    have h1 : (w.alloc (.cells #[.int .i64 0] 3)).heap[w.heap.size]? = some (.cells #[.int .i64 0] 3) := by
      show (w.heap.push _)[w.heap.size]? = _
      simp
    rw [h1] at hc
    injection hc with hc
    injection hc with hc _ _
    rw [← hc]
    rfl
  have HAT : Aside (∀ n s, At b w (SW W S n s) d) := by
    intro n s
    refine ⟨⟨by rw [hW]; rfl, by rw [hW]; rfl, by rw [hW]; rfl, ?_, fun k hk _ => ?_⟩, fun j hj => ?_⟩
    · rw [hW]
      show w.heap.size ≤ ((w.heap.push _).modify S _).size
      simp
    · show (W.setCell ⟨S, 0, none⟩ (.int .i64 s)).heap[k]? = _
      rw [Below.heap_setCell _ _ _ _ (by show k ≠ S; omega), hW]
      exact Below.heap_alloc w _ k hk
    · have h1 := SW.cell H n s j (by omega)
      have h2 := (H.row j hj).2
      refine ⟨by rw [Nat.zero_add]; exact h1, ?_⟩
      show (W.setCell ⟨S, 0, none⟩ (.int .i64 s)).frozen? _ = false
      rw [World.frozen?_setCell]; exact h2
  have HM : Aside (∀ (i j k n s : Nat) (vi vj vk : Int), i < N → j < N → k < N → s ≤ 900 → vi = i → vj = j → vk = k → Calls Yba.prog 65 #[.slice (some ⟨b, 0, none⟩) N cap, .int .i64 vi, .int .i64 vj, .int .i64 vk, .pointer (some ⟨S, 0, none⟩)] (SW W S n s) fun e w' => ∃ x n' s', e = .returned (.int .i64 (x : Nat)) ∧ (x = i ∨ x = j ∨ x = k) ∧ s' ≤ s + 3 ∧ w' = SW W S n' s') :=
    fun i j k n s vi vj vk hi hj hk hs e1 e2 e3 => median_walk b cap i j k N S n s d W H hi hj hk hs vi vj vk e1 e2 e3
  have HJ : Aside (∀ (i n s : Nat) (vi : Int), 1 ≤ i → i + 1 < N → s ≤ 900 → vi = i → Calls Yba.prog 64 #[.slice (some ⟨b, 0, none⟩) N cap, .int .i64 vi, .pointer (some ⟨S, 0, none⟩)] (SW W S n s) fun e w' => ∃ x n' s', e = .returned (.int .i64 (x : Nat)) ∧ i - 1 ≤ x ∧ x ≤ i + 1 ∧ s' ≤ s + 3 ∧ w' = SW W S n' s') :=
    fun i n s vi h1 h2 hs e => adj_walk b cap i N S n s d W H h1 h2 hm hs vi e
  have c3 := fun n s => SW.cellS H n s
  obtain ⟨l, hl⟩ : ∃ l, l = B - a := ⟨_, rfl⟩
  obtain ⟨q, hq⟩ : ∃ q, q = l / 4 := ⟨_, rfl⟩
  have w1 : IntKind.i64.wrap ((B : Int) - (a : Int)) = (l : Int) := wrap_small _ (by omega) (by omega) (by omega)
  have w2 : (l : Int) / 4 = (q : Int) := by omega
  have w3 : (l : Int).tdiv 4 = (q : Int) := by rw [Int.tdiv_eq_ediv_of_nonneg (by omega)]; exact w2
  have q1 : 3 ≤ q := by omega
  have q2 : a + q * 3 + 1 < B := by omega
  have q3 : 4 * q ≤ l := by omega
  have l8 : (8 : Int) ≤ (l : Int) := by omega
  have HA : Aside (w.alloc (.cells #[.int .i64 0] 3) = SW W S 0 0) := by
    show w.alloc (.cells #[.int .i64 0] 3) = SW W S 0 0
    rw [← hW]; exact hSW
  have HSz : Aside (w.heap.size = S) := hS.symm
  clear h H cS hW hSW hS
  by_cases h50 : 50 ≤ l
  · have h50' : (50 : Int) ≤ (l : Int) := by omega
    have q4 : 12 ≤ q := by omega
    clear hq hl
    go_enter Yba.func44, Yba.ntmps44
    go_wp2_with fail
    rw [HA.out, HSz.out]
    refine (HJ.out (a + q) 0 0 _ (by omega) (by omega) (by omega) (by omega)).mono ?_
    rintro e w1 ⟨x1, n1, s1, rfl, h1, h1', hs1, rfl⟩
    go_wp2_with fail
    refine (HJ.out (a + q * 2) n1 s1 _ (by omega) (by omega) (by omega) (by omega)).mono ?_
    rintro e w1 ⟨x2, n2, s2, rfl, h2, h2', hs2, rfl⟩
    go_wp2_with fail
    refine (HJ.out (a + q * 3) n2 s2 _ (by omega) (by omega) (by omega) (by omega)).mono ?_
    rintro e w1 ⟨x3, n3, s3, rfl, h3, h3', hs3, rfl⟩
    go_wp2_with fail
    refine (HM.out x1 x2 x3 n3 s3 _ _ _ (by omega) (by omega) (by omega) (by omega) rfl rfl rfl).mono ?_
    rintro e w1 ⟨x4, n4, s4, rfl, h4, hs4, rfl⟩
    by_cases z0 : s4 = 0
    · have z0' : (s4 : Int) = 0 := by omega
      go_wp2
      go_ret2
      exact ⟨x4, 1, rfl, by omega, by omega, by omega, HAT.out _ _⟩
    · have z0' : ¬ (s4 : Int) = 0 := by omega
      by_cases z1 : s4 = 12
      · have z1' : (s4 : Int) = 12 := by omega
        go_wp2
        go_ret2
        exact ⟨x4, 2, rfl, by omega, by omega, by omega, HAT.out _ _⟩
      · have z1' : ¬ (s4 : Int) = 12 := by omega
        go_wp2
        go_ret2
        exact ⟨x4, 0, rfl, by omega, by omega, by omega, HAT.out _ _⟩
  · have h50' : ¬ (50 : Int) ≤ (l : Int) := by omega
    clear hq hl
    go_enter Yba.func44, Yba.ntmps44
    go_wp2_with fail
    rw [HA.out, HSz.out]
    refine (HM.out (a + q) (a + q * 2) (a + q * 3) 0 0 _ _ _ (by omega) (by omega) (by omega) (by omega) (by omega) (by omega) (by omega)).mono ?_
    rintro e w1 ⟨x4, n4, s4, rfl, h4, hs4, rfl⟩
    by_cases z0 : s4 = 0
    · have z0' : (s4 : Int) = 0 := by omega
      go_wp2
      go_ret2
      exact ⟨x4, 1, rfl, by omega, by omega, by omega, HAT.out _ _⟩
    · have z0' : ¬ (s4 : Int) = 0 := by omega
      by_cases z1 : s4 = 12
      · have z1' : (s4 : Int) = 12 := by omega
        go_wp2
        go_ret2
        exact ⟨x4, 2, rfl, by omega, by omega, by omega, HAT.out _ _⟩
      · have z1' : ¬ (s4 : Int) = 12 := by omega
        go_wp2
        go_ret2
        exact ⟨x4, 0, rfl, by omega, by omega, by omega, HAT.out _ _⟩
end Go.Proofs.Ybulkbxxk
