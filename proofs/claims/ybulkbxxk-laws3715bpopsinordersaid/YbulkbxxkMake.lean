/-
  The walk of zzs3715bmake.
-/
import Derived.Test.YbulkbxxkHeapP
namespace Go.Proofs.Ybulkbxxk
open Go.RowKit Go.Sort
set_option linter.unusedVariables false

/-- The intervals 0 .. n-1 over the elements z. -/
def ivs (z : List Int) (n : Nat) : Array Iv := ((List.range n).map fun i => (i, z.getD i 0)).toArray
def ivCells (z : List Int) (n : Nat) : List Value := (List.range n).flatMap fun i => enc (i, z.getD i 0)
theorem ivs_size (z : List Int) (n : Nat) : (ivs z n).size = n := by simp [ivs]
theorem ivs_get (z : List Int) (n i : Nat) (h : i < n) : (ivs z n)[i]! = (i, z.getD i 0) := by simp [ivs, h]
theorem ivCells_succ (z : List Int) (n : Nat) : ivCells z (n + 1) = ivCells z n ++ enc (n, z.getD n 0) := by simp [ivCells, List.range_succ]
theorem ivCells_len (z : List Int) (n : Nat) : (ivCells z n).length = n * 5 := by
  induction n with
  | zero => rfl
  | succ n ih => rw [ivCells_succ, List.length_append, ih, enc_len]; omega
theorem ivCells_get (z : List Int) : ∀ (n i c : Nat), i < n → c < 5 → (ivCells z n)[i * 5 + c]? = some (enc (i, z.getD i 0))[c]! := by
  intro n
  induction n with
  | zero => intro i c hi; omega
  | succ n ih =>
    intro i c hi hc
    rw [ivCells_succ]
    by_cases h : i < n
    · rw [List.getElem?_append_left (by rw [ivCells_len]; omega)]
      exact ih i c h hc
    · obtain rfl : i = n := by omega
      rw [List.getElem?_append_right (by rw [ivCells_len]; omega), ivCells_len, show i * 5 + c - i * 5 = c by omega, List.getElem?_eq_getElem (by rw [enc_len]; exact hc), getElem!_pos _ _ (by rw [enc_len]; exact hc)]

theorem Yba.info47 : (Yba.prog.info? 47).map (fun i => (i.zero, i.size, i.bytes)) = some (some (.agg #[.int .u64 0, .int .u64 0, .int .u64 0, .int .u64 0, .int .i32 0]), 5, 40) := by kernel_rfl

theorem holdsK_of_owns {w : World} {base g cap n : Nat} {z : List Int} (h : w.ownsRow base 47 5 (.slice (some ⟨g, 0, none⟩) n cap) n (ivCells z n)) : HoldsK enc 5 w g 0 (ivs z n) := by
  refine holdsK_of_cells fun i c hi hc => ?_
  rw [ivs_size] at hi
  rw [ivs_get z n i hi]
  exact ⟨(h.cellAt (i * 5 + c) (by omega)).trans (ivCells_get z n i c hi hc), h.frozenAt (i * 5 + c)⟩

theorem lt_of_owns {w : World} {base g cap n size : Nat} {e : TypeId} {xs : List Value} (h : w.ownsRow base e size (.slice (some ⟨g, 0, none⟩) n cap) n xs) : g < w.heap.size := by
  rcases h.2 with ⟨h1, _⟩ | ⟨g', cap', cur, hv, _, hh, _⟩
  · simp at h1
  · simp at hv
    obtain ⟨rfl, _⟩ := hv
    exact (Array.getElem?_eq_some_iff.1 hh).1

set_option maxRecDepth 100000 in
set_option maxHeartbeats 1000000 in
theorem make_any (xb xo cap n : Nat) (z : List Int) (w : World) (hn : n ≤ 1024) (hn1 : 1 ≤ n) (hx : xb < w.heap.size) (hz : ∀ i, i < n → w.cell? ⟨xb, xo + i, none⟩ = some (.int .i32 (z.getD i 0))) :
    Calls Yba.prog 16 #[.slice (some ⟨xb, xo, none⟩) n cap] w fun e w' => ∃ g, e = .returned (.slice (some ⟨g, 0, none⟩) n n) ∧ w.heap.size ≤ g ∧ g < w'.heap.size ∧ HoldsK enc 5 w' g 0 (ivs z n) ∧ Below w.heap.size w w' := by
  obtain ⟨i0, hi, hz0, hz1, hz2⟩ := info_parts Yba.info47
  go_enter Yba.func16, Yba.ntmps16
  go_wp2_with (at_make; refine wpList_make_own w rfl (.const (.int .i64 0)) (.tmp 6) 41 rfl w.heap.size 47 i0 _ 5 Yba.underlying41 hi hz0 hz1 .i64 .i64 n n rfl rfl rfl (by rw [hz2]; omega) (by unfold maxLen; omega) (Nat.le_refl _) ?_; intro w1 hown1 hgrow1)
  have hb1 := (Below.refl w.heap.size w).grown hgrow1 (Nat.le_refl _) (fun k h => by cases h)
  have hsz1 : w.heap.size < w1.heap.size := lt_of_owns hown1
  clear hgrow1
  obtain ⟨B, hB⟩ : ∃ B, B = w.heap.size := ⟨_, rfl⟩
  rw [← hB] at hown1 hb1 hsz1 hx ⊢
  have HB : Hid (B = w.heap.size) := hB
  clear hB
  go_loopw [3, 4] (fun v i wr => ∃ k : Nat, k ≤ n ∧ i = .int .i64 k ∧ v = .slice (some ⟨B, 0, none⟩) k n ∧ wr.ownsRow B 47 5 (.slice (some ⟨B, 0, none⟩) k n) k (ivCells z k) ∧ Below B w wr ∧ B < wr.heap.size) (fun _ i _ => n - (intOf i).toNat)
  case atStart => exact ⟨0, Nat.zero_le _, rfl, rfl, hown1, hb1, hsz1⟩
  case round =>
    obtain ⟨k, hk, rfl, rfl, hown, hb, hsz⟩ := hrel
    clear hown1 hb1 hsz1
    by_cases hlt : k < n
    · have hc : wr.cell? ⟨xb, xo + k, none⟩ = some (.int .i32 (z.getD k 0)) := (hb.cell (by exact hx)).trans (hz k hlt)
      generalize hy : z.getD k 0 = y at hc
      have HY : Hid (z.getD k 0 = y) := hy
      clear hz hy
      have hw : ∀ (j : Nat) (u : Value), (enc (k, y))[j]? = some u → (wr.alloc (.cells #[.int .u64 0, .int .u64 k, .int .u64 0, .int .u64 k, .int .i32 y] 47)).cell? (Addr.add ⟨wr.heap.size, 0, none⟩ j) = some u := by
        intro j u hj
        rw [show Addr.add ⟨wr.heap.size, 0, none⟩ j = (⟨wr.heap.size, j, none⟩ : Addr) from by simp [Addr.add]; intro h; simp [h]]
        simpa [enc] using hj
      have HW : Hid (∀ (j : Nat) (u : Value), (enc (k, y))[j]? = some u → (wr.alloc (.cells #[.int .u64 0, .int .u64 k, .int .u64 0, .int .u64 k, .int .i32 y] 47)).cell? (Addr.add ⟨wr.heap.size, 0, none⟩ j) = some u) := hw
      clear hw
      go_wp2_with (at_builtin; refine wpList_append_fits _ rfl (.tmp 14) (.tmp 26) 41 rfl B 47 i0 5 Yba.underlying41 hi hz1 B k n _ rfl (hown.alloc _) ⟨wr.heap.size, 0, none⟩ 1 1 (enc (k, y)) rfl rfl HW.out (by intro u hu; simp [enc] at hu; rcases hu with rfl | rfl | rfl | rfl | rfl <;> rfl) (by omega) ?_; intro w2 hown2 hgrow2)
      have hb2 : Below B w w2 := (hb.alloc (Nat.le_of_lt hsz) _).grown hgrow2 (by simp; omega) (fun k h => by cases h; exact Nat.le_refl _)
      have hsz2 : B < w2.heap.size := lt_of_owns hown2
      clear hgrow2 hown hb hsz
      go_roundw
      case rel => exact ⟨k + 1, by omega, by go_num, rfl, by rw [ivCells_succ, HY.out]; exact hown2, hb2, hsz2⟩
      case measure => simp [intOf]; omega
    · obtain rfl : k = n := by omega
      have hH := holdsK_of_owns hown
      go_wp2
      go_ret
      exact ⟨B, rfl, by rw [HB.out]; exact Nat.le_refl _, hsz, hH, by rw [← HB.out]; exact hb⟩
end Go.Proofs.Ybulkbxxk
