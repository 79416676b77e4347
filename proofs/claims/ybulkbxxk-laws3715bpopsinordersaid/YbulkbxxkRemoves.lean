/-
  The walk of LawS3715BRemovesFirst.
-/
import Derived.Test.YbulkbxxkPlain
namespace Go.Proofs.Ybulkbxxk
open Go.RowKit Go.Sort
set_option linter.unusedVariables false

theorem Yba.info4 : (Yba.prog.info? 4).map (fun i => (i.zero, i.size, i.bytes)) = some (some (.bool false), 1, 1) := by kernel_rfl

theorem wrap_u64_small (m : Nat) (h : m + 1 ≤ 1024) : IntKind.u64.wrap ((m : Int) + 1) = (m : Int) + 1 := by simp [IntKind.wrap, IntKind.bits, IntKind.signed]; omega

theorem cell_set_ne (w : World) (b o b' o' : Nat) (v : Value) (h : b ≠ b' ∨ o ≠ o') : (w.setCell ⟨b, o, none⟩ v).cell? ⟨b', o', none⟩ = w.cell? ⟨b', o', none⟩ :=
  World.cell?_setCell_other _ _ _ _ (by intro e; simp at e; rcases h with h | h; exact h e.1; exact h e.2)

/-- What the loop over the rest knows. -/
structure SeenAt (B : Nat) (w : World) (H g S m k : Nat) (D : Array Iv) (wr : World) : Prop where
  cell : wr.cell? ⟨H, 0, none⟩ = some (.slice (some ⟨g, 0, none⟩) m (m + 1))
  holds : HoldsK enc 5 wr g 0 D
  seen : ∀ id, id < m + 1 → wr.cell? ⟨S, id, none⟩ = some (.bool (metB D k id)) ∧ wr.frozen? ⟨S, id, none⟩ = false
  below : Below B w wr

theorem SeenAt.step {B : Nat} {w : World} {H g S m k : Nat} {D : Array Iv} {wr : World} (h : SeenAt B w H g S m k D wr) (hHS : H ≠ S) (hgS : g ≠ S) (hS : B ≤ S) (hk : k < D.size) (q : Nat) (hlt : D[k]!.1 < m + 1) :
    SeenAt B w H g S m (k + 1) D ((wr.drewN q).setCell ⟨S, D[k]!.1, none⟩ (.bool true)) := by
  refine ⟨?_, ?_, ?_, ?_⟩
  · rw [cell_set_ne _ _ _ _ _ _ (Or.inl (fun e => hHS e.symm))]
    exact h.cell
  · refine holdsK_block (w := wr) h.holds ?_
    rw [Below.heap_setCell _ _ _ _ (by exact hgS)]
    rfl
  · intro id hid
    refine ⟨?_, by rw [World.frozen?_setCell]; exact (h.seen id hid).2⟩
    by_cases e : id = D[k]!.1
    · subst e
      rw [World.cell?_setCell_same (wr.drewN q) _ _ (u := .bool (metB D k D[k]!.1)) (h.seen _ hid).1, metB_succ D k _ hk]
      simp
    · rw [cell_set_ne _ _ _ _ _ _ (Or.inr (fun e2 => e e2.symm)), metB_succ D k _ hk, decide_eq_false e, Bool.or_false]
      exact (h.seen id hid).1
  · have hb : Below B w (wr.drewN q) := h.below.trans ⟨rfl, rfl, rfl, Nat.le_refl _, fun _ _ => rfl⟩
    exact hb.setCell (p := ⟨S, D[k]!.1, none⟩) hS _

set_option maxRecDepth 100000 in
set_option maxHeartbeats 1000000 in
theorem removes_main (xb xo cap m : Nat) (z : List Int) (w : World) (hn : m + 1 ≤ 1024) (hx : xb < w.heap.size) (hz : ∀ i, i < m + 1 → w.cell? ⟨xb, xo + i, none⟩ = some (.int .i32 (z.getD i 0))) (hcap : m + 1 ≤ cap) :
    Calls Yba.prog 6 #[.slice (some ⟨xb, xo, none⟩) (m + 1) cap] w fun e w' => e = .returned (.bool true) ∧ Below w.heap.size w w' := by
  have HM : Hid (Calls Yba.prog 16 #[.slice (some ⟨xb, xo, none⟩) (m + 1) cap] w fun e w' => ∃ g, e = .returned (.slice (some ⟨g, 0, none⟩) (m + 1) (m + 1)) ∧ w.heap.size ≤ g ∧ g < w'.heap.size ∧ HoldsK enc 5 w' g 0 (ivs z (m + 1)) ∧ Below w.heap.size w w') := make_any xb xo cap (m + 1) z w hn (by omega) hx hz
  have HZ : Hid (∀ i, i < m + 1 → w.cell? ⟨xb, xo + i, none⟩ = some (.int .i32 (z.getD i 0))) := hz
  have t1 : decide (1024 < (m : Int) + 1) = false := by simp; omega
  have t2 : ((m : Int) + 1 == 0) = false := by rw [beq_eq_false_iff_ne]; omega
  obtain ⟨i0, hi, hz0, hz1, hz2⟩ := info_parts Yba.info4
  have hmk := fun (w : World) => run_make (P := Yba.prog) w 50 4 i0 (.bool false) Yba.underlying50 hi hz0 .i64 .i64 ((m : Int) + 1) ((m : Int) + 1) (by omega) (by omega) (by rw [hz2]; omega) (by omega)
  rw [hz1] at hmk
  clear hi hz0 hz1 hz2 hz
  go_enter Yba.func6, Yba.ntmps6
  go_wp2_with (go_at_call 16; refine (HM.out).mono ?_; rintro e w1 ⟨g, rfl, hg, hgl, hH1, hb1⟩)
  have hpop := pop_any w1.heap.size g (m + 1) m (ivs z (m + 1)) (w1.alloc (Obj.cells #[Value.slice (some { block := g, off := 0 }) (m + 1) (m + 1)] 41)) (by omega) (by simp; omega) (by simp) (by simp)
    (holdsK_block hH1 (Below.heap_alloc _ _ _ hgl)) (ivs_size _ _) (Nat.le_refl _) hn
  refine hpop.mono ?_
  rintro e w2 ⟨rfl, hc2, hf2, hH2, hsz2, ho2⟩
  clear hpop
  have hb2 : Below w.heap.size w w2 := (hb1.alloc (by have := hb1.size; omega) _).trans (ho2.below (by simp; have := hb1.size; omega) (fun k hk => by rcases hk with rfl | rfl; exact hb1.size; exact hg))
  clear ho2 hb1 hH1 HM
  have hsz2' : w2.heap.size = w1.heap.size + 1 := by rw [hsz2]; simp
  clear hsz2 hf2
  obtain ⟨D, hD⟩ : ∃ D, D = popF (ivs z (m + 1)) := ⟨_, rfl⟩
  have hDs : D.size = m := by rw [hD, popF_size, ivs_size]; rfl
  rw [← hD] at hH2
  have HD : Hid (D = popF (ivs z (m + 1))) := hD
  clear hD
  have hstart : SeenAt w.heap.size w w1.heap.size g (w1.heap.size + 1) m 0 D (w2.alloc (Obj.cells (madeCells #[Value.bool false] (m + 1)) 4)) := by
    refine ⟨?_, holdsK_block hH2 (Below.heap_alloc _ _ _ (by omega)), ?_, hb2.alloc (by omega) _⟩
    · rw [World.cell?_alloc_past _ _ _ (by omega)]; exact hc2
    · intro id hid
      rw [metB_zero, ← hsz2']
      refine ⟨?_, by simp⟩
      simp [madeCells, hid, Nat.mod_one]
  have HST : Hid (SeenAt w.heap.size w w1.heap.size g (w1.heap.size + 1) m 0 D (w2.alloc (Obj.cells (madeCells #[Value.bool false] (m + 1)) 4))) := hstart
  clear hstart hb2 hH2
  go_wp2_with fail
  have hHS : w1.heap.size ≠ w1.heap.size + 1 := by omega
  have hgS : g ≠ w1.heap.size + 1 := by omega
  have hSB : w.heap.size ≤ w1.heap.size + 1 := by omega
  generalize w1.heap.size = H at *
  clear hc2 hsz2' hgl
  go_loopw [6] (fun vi wr => ∃ k : Nat, k ≤ m ∧ vi = .int .i64 k ∧ SeenAt w.heap.size w H g (H + 1) m k D wr) (fun vi _ => m - (intOf vi).toNat)
  case atStart => exact ⟨0, Nat.zero_le _, rfl, HST.out⟩
  case round =>
    obtain ⟨k, hk, rfl, hS⟩ := hrel
    have hcH := hS.cell
    by_cases hlt : k < m
    · obtain ⟨id, hid1, hid2, hDk⟩ := popped_at z (m + 1) k (by omega) (by omega)
      have hnew := metB_new z (m + 1) k (by omega) (by omega)
      rw [hDk, ← HD.out] at hnew
      rw [← HD.out] at hDk
      obtain ⟨-, a1, -, a3, a4, -⟩ := cellsA hS.holds k (by omega)
      rw [hDk] at a1 a3 a4
      obtain ⟨s1, s2⟩ := hS.seen id hid2
      rw [show metB D k id = false from hnew] at s1
      have hel : wr.cell? ⟨xb, xo + id, none⟩ = some (.int .i32 (z.getD id 0)) := (hS.below.cell (by exact hx)).trans (HZ.out id hid2)
      generalize hy : z.getD id 0 = y at *
      have q3 : (id : Int) < (m : Int) + 1 := by omega
      have q2 : decide (IntKind.u64.wrap ((m : Int) + 1) ≤ (id : Int)) = false := by rw [wrap_u64_small m hn]; simp; omega
      have q1 : ((id : Int) == 0) = false := by rw [beq_eq_false_iff_ne]; omega
      have HSS : Hid (∀ q, SeenAt w.heap.size w H g (H + 1) m (k + 1) D ((wr.drewN q).setCell ⟨H + 1, id, none⟩ (.bool true))) := by
        intro q
        have := hS.step hHS hgS hSB (by omega) q (by rw [hDk]; exact hid2)
        rwa [hDk] at this
      have HDK : Hid (D[k]! = (id, y)) := hDk
      clear hDk hnew hS HST hy
      go_wp2_with fail
      go_quiet (fail)
      go_wp2
      go_roundw
      case rel => exact ⟨k + 1, by omega, by go_num, HSS.out _⟩
      case measure => simp [intOf]; omega
    · obtain rfl : k = m := by omega
      go_wp2
      go_ret
      exact ⟨rfl, hS.below⟩
end Go.Proofs.Ybulkbxxk
