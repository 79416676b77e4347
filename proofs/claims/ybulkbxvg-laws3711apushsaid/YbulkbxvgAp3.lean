/-
  backlog.push where it turns to indexed.
-/
import Derived.Test.YbulkbxvgAp2
namespace Go.Proofs.Ybulkbxvg
open Go.RowKit
set_option linter.unusedVariables false
attribute [local go_sem] neqMap eqlMap mkMap


set_option maxRecDepth 100000 in
set_option maxHeartbeats 4000000 in
theorem push_C0 (B BB k : Nat) (fifo idx : Bool) (vs vp vm : Value) (held : Nat) (va : Value) (xs : List Value) (id f t : Nat) (w : World)
    (bb : w.heap[BB]? = some (.cells (bbCells fifo vs k idx vp vm held va) 29 (0, 0))) (os : w.ownsRow B 41 6 vs k xs) (d1 : vs.ownBlock ≠ some BB) (hB : B ≤ BB) (hk : k + 1 ≤ 2000) (POST : World → Prop) (I : Nat → World → Prop) (hi : idx = false) (hf : fifo = false) (h32 : 32 < k + 1)
    (hC0 : ∀ w1 vs', Pre1 B BB k f t fifo idx vs vp vm held va (xs ++ encS id f t) w w1 vs' (k + 1) → I 0 (w1.setCell ⟨BB, 3, none⟩ (.bool true)))
    (hst : ∀ j w1, j < k + 1 → I j w1 → Calls Yba.prog 6 #[.pointer (some ⟨BB, 0, none⟩), .int .i64 j] w1 fun e w' => e = .returned (.tuple #[]) ∧ I (j + 1) w')
    (hend : ∀ w1, I (k + 1) w1 → POST w1) :
    Calls Yba.prog 4 #[.pointer (some ⟨BB, 0, none⟩), .agg #[.int .u64 id, .int .i64 f, .int .i64 t, .slice none 0 0]] w fun e w' => e = .returned (.tuple #[]) ∧ POST w' := by
  subst hi hf
  have h32' : (32 : Int) < (k : Int) + 1 := by omega
  have HC0 : Aside (∀ w1 vs', Pre1 B BB k f t false false vs vp vm held va (xs ++ encS id f t) w w1 vs' (k + 1) → I 0 (w1.setCell ⟨BB, 3, none⟩ (.bool true))) := hC0
  have HST : Aside (∀ (j : Nat) (w1 : World) (vj : Int), vj = j → j < k + 1 → I j w1 → Calls Yba.prog 6 #[.pointer (some ⟨BB, 0, none⟩), .int .i64 vj] w1 fun e w' => e = .returned (.tuple #[]) ∧ I (j + 1) w') := fun j w1 vj e h1 h2 => by subst e; exact hst j w1 h1 h2
  have HEN : Aside (∀ w1, I (k + 1) w1 → POST w1) := hend
  clear hC0 hst hend
  obtain ⟨i0, hi0, hz0, hz1, hz2⟩ := info_parts Yba.info41
  obtain ⟨W, hW⟩ : ∃ W, W = w.alloc (.cells #[.int .u64 id, .int .i64 f, .int .i64 t, .slice none 0 0] 37) := ⟨_, rfl⟩
  obtain ⟨Q, hQ⟩ : ∃ Q, Q = w.heap.size := ⟨_, rfl⟩
  have hbl := heap_lt bb
  have bW : W.heap[BB]? = some (.cells (bbCells false vs k false vp vm held va) 29 (0, 0)) := by rw [hW]; exact (Below.heap_alloc w _ BB hbl).trans bb
  have cB : W.cell? ⟨BB, 1, none⟩ = some vs := cell_at bW 1
  have fB : W.frozen? ⟨BB, 1, none⟩ = false := free_at bW 1
  have cQ : W.heap[Q]? = some (.cells #[.int .u64 id, .int .i64 f, .int .i64 t, .slice none 0 0] 37 (0, 0)) := by rw [hW, hQ]; exact heap_alloc_new w _
  have q0 : W.cell? ⟨Q, 0, none⟩ = some (.int .u64 id) := cell_at cQ 0
  have q1 : W.cell? ⟨Q, 1, none⟩ = some (.int .i64 f) := cell_at cQ 1
  have q2 : W.cell? ⟨Q, 2, none⟩ = some (.int .i64 t) := cell_at cQ 2
  have q3 : W.cell? ⟨Q, 3, none⟩ = some (.slice none 0 0) := cell_at cQ 3
  have hO : W.ownsRow B 41 6 vs k xs := by rw [hW]; exact os.alloc _
  have sW : W.heap.size = Q + 1 := by rw [hW, hQ]; simp
  have HWW : Aside (w.alloc (.cells #[.int .u64 id, .int .i64 f, .int .i64 t, .slice none 0 0] 37) = W) := hW.symm
  have HQ : Aside (w.heap.size = Q) := hQ.symm
  have HOW : Aside (Only (fun b => b = BB ∨ vs.ownBlock = some b) w W) := by
    show Only (fun b => b = BB ∨ vs.ownBlock = some b) w W
    rw [hW]; exact (Only.refl _ w).alloc _
  have HO : Aside (W.ownsRow B 41 6 vs k xs) := hO
  have HV : Aside (vs.ownBlock ≠ some BB) := d1
  have HO0 : Aside (w.ownsRow B 41 6 vs k xs) := os
  have hBQ : BB < Q := by omega
  have hBW : BB < W.heap.size := by omega
  have HBB : Aside (W.heap[BB]? = some (.cells (bbCells false vs k false vp vm held va) 29 (0, 0))) := bW
  clear hW hQ hO bW cQ d1 os bb
  have kB : ∀ (o : Obj), (W.alloc o).cell? ⟨BB, 1, none⟩ = some vs := fun o => (World.cell?_of_block (Below.heap_alloc W o BB hBW)).trans cB
  have HN : ∀ (o : Obj), (W.alloc o).heap[Q + 1]? = some o := fun o => by rw [← sW]; exact heap_alloc_new W o
  have HFIN : Aside (∀ (o : Obj) (g cap : Nat) (w1 : World), w1.ownsRow B 41 6 (.slice (some ⟨g, 0, none⟩) (k + 1) cap) (k + 1) (xs ++ encS id f t) → (W.alloc o).drew.grownBy w1 vs.ownBlock → (vs.ownBlock = some g ∨ g = W.heap.size + 1) →
      Pre1 B BB k f t false false vs vp vm held va (xs ++ encS id f t) w (w1.setCell ⟨BB, 1, none⟩ (.slice (some ⟨g, 0, none⟩) (k + 1) cap)) (.slice (some ⟨g, 0, none⟩) (k + 1) cap) k) := by
    intro o g cap w1 ho hg ha
    have gB : g ≠ BB := by
      rcases ha with e | e
      · intro x; subst x; exact HV.out e
      · omega
    have eB : w1.heap[BB]? = W.heap[BB]? := (hg.block BB (by simp; omega) (Ne.symm HV.out)).trans (Below.heap_alloc W _ BB hBW)
    refine ⟨heap_set (eB.trans HBB.out) 1 _, owns_block ho (fun b hb => ?_), ?_, ?_, ?_, ?_, ?_, ?_⟩
    · injection hb with hb
      have hb' : g = b := hb
      subst hb'
      exact heap_set_ne _ _ _ _ _ gB
    · exact (((HOW.out.alloc o).drewN 1).grown hg (fun b hb => Or.inl (Or.inr hb))).setCell (p := ⟨BB, 1, none⟩) (Or.inl (Or.inl rfl)) _
    · rcases ha with e | e
      · left; rw [e]; rfl
      · right
        intro b hb
        injection hb with hb
        have hb' : g = b := hb
        rw [HQ.out]; omega
    · intro e; injection e with e; exact gB e
    · rw [HQ.out]
      have hq := hg.cell_far ⟨Q, 1, none⟩ (by simp; omega) (fun e => by have := (owns_lt HO0.out Q e.symm).2; rw [HQ.out] at this; omega)
      rw [World.cell?_of_block (heap_set_ne _ _ _ _ _ (by show Q ≠ BB; omega)), hq]
      exact (World.cell?_of_block (Below.heap_alloc W o Q (by omega))).trans q1
    · rw [HQ.out]
      have hq := hg.cell_far ⟨Q, 2, none⟩ (by simp; omega) (fun e => by have := (owns_lt HO0.out Q e.symm).2; rw [HQ.out] at this; omega)
      rw [World.cell?_of_block (heap_set_ne _ _ _ _ _ (by show Q ≠ BB; omega)), hq]
      exact (World.cell?_of_block (Below.heap_alloc W o Q (by omega))).trans q2
    · exact hbl
  go_enter Yba.func4, Yba.ntmps4
  go_upto_region 1 with fail
  rw [HWW.out, HQ.out]
  go_cut [] (fun wx => ∃ vs', Pre1 B BB k f t false false vs vp vm held va (xs ++ encS id f t) w wx vs' k)
  case first =>
    go_region_law
      ((refine step_append_lies _ (by rfl) _ _ _ (by rfl) B 41 i0 _ 6 64 Yba.underlying24 hi0 hz0 hz1 hz2 rfl (by omega) vs k xs (by rfl) ((HO.out.alloc _).drew)
          ⟨Q + 1, 0, none⟩ 1 1 (encS id f t) (by rfl) (by rfl) (World.news_of_block (cs := #[.int .u64 id, .int .i64 f, .int .i64 t, .slice none 0 0, .int .i64 0, .pointer none]) (t := 41) (fr := (0, 0)) (HN _)) (by intro u hu; simp [encS] at hu; rcases hu with rfl | rfl | rfl | rfl | rfl | rfl <;> rfl)
          (by omega) (by unfold maxLen; omega) (by omega) (by simp; omega) (W.heap.size + 1) (by simp) ?_; intro g cap w1 hown1 hgrow hat hlt
        have hcB : w1.cell? ⟨BB, 1, none⟩ = some vs := (hgrow.cell_far ⟨BB, 1, none⟩ (by simp; omega) (Ne.symm HV.out)).trans (kB _)
        have hfr : w1.frozen? ⟨BB, 1, none⟩ = false := (hgrow.frozen_far ⟨BB, 1, none⟩ (by simp; omega) (Ne.symm HV.out)).trans ((World.frozen?_of_block (Below.heap_alloc W _ BB hBW)).trans fB)))
    all_goals
      go_wp2_with fail
      go_meet
      exact ⟨_, HFIN.out _ _ _ _ hown1 hgrow hat⟩
  case rest =>
  obtain ⟨vs', hP⟩ := hcut
  clear HFIN kB HN q0 q1 q2 q3 cB fB HO HOW HV HBB HWW
  have r2 : wc.cell? ⟨BB, 2, none⟩ = some (.int .i64 k) := cell_at hP.bb 2
  have g2 : wc.frozen? ⟨BB, 2, none⟩ = false := free_at hP.bb 2
  have hP2 := hP.count
  obtain ⟨g, cap, rfl⟩ := owns_form hP.os (by omega)
  have r1 : (wc.setCell ⟨BB, 2, none⟩ (.int .i64 ((k : Int) + 1))).cell? ⟨BB, 1, none⟩ = some (.slice (some ⟨g, 0, none⟩) (k + 1) cap) := cell_at hP2.bb 1
  have r3 : (wc.setCell ⟨BB, 2, none⟩ (.int .i64 ((k : Int) + 1))).cell? ⟨BB, 3, none⟩ = some (.bool false) := cell_at hP2.bb 3
  have r0 : (wc.setCell ⟨BB, 2, none⟩ (.int .i64 ((k : Int) + 1))).cell? ⟨BB, 0, none⟩ = some (.bool false) := cell_at hP2.bb 0
  have r2' : (wc.setCell ⟨BB, 2, none⟩ (.int .i64 ((k : Int) + 1))).cell? ⟨BB, 2, none⟩ = some (.int .i64 ((k : Int) + 1)) := cell_at hP2.bb 2
  have f3 : (wc.setCell ⟨BB, 2, none⟩ (.int .i64 ((k : Int) + 1))).frozen? ⟨BB, 3, none⟩ = false := free_at hP2.bb 3
  have f5 : (wc.setCell ⟨BB, 2, none⟩ (.int .i64 ((k : Int) + 1))).frozen? ⟨BB, 5, none⟩ = false := free_at hP2.bb 5
  have HP : Aside (Pre1 B BB k f t false false vs vp vm held va (xs ++ encS id f t) w (wc.setCell ⟨BB, 2, none⟩ (.int .i64 ((k : Int) + 1))) (.slice (some ⟨g, 0, none⟩) (k + 1) cap) (k + 1)) := hP2
  clear hP hP2
  go_upto_region 3 with fail
  generalize wc.setCell ⟨BB, 2, none⟩ (.int .i64 ((k : Int) + 1)) = w1 at *
  have s1 : (w1.setCell ⟨BB, 3, none⟩ (.bool true)).cell? ⟨BB, 1, none⟩ = some (.slice (some ⟨g, 0, none⟩) (k + 1) cap) := cell_at (heap_set HP.out.bb 3 (.bool true)) 1
  have s0 : (w1.setCell ⟨BB, 3, none⟩ (.bool true)).cell? ⟨BB, 0, none⟩ = some (.bool false) := cell_at (heap_set HP.out.bb 3 (.bool true)) 0
  have HI0 : Aside (I 0 (w1.setCell ⟨BB, 3, none⟩ (.bool true))) := HC0.out _ _ HP.out
  clear HQ HO0 HC0
  go_wp2_with fail
  generalize (w1.setCell ⟨BB, 3, none⟩ (.bool true)) = W5 at HI0 ⊢
  go_loopw [62, 5] (fun vi _ wr => ∃ (j : Nat), vi = .int .i64 j ∧ j ≤ k + 1 ∧ I j wr) (fun vi _ _ => k + 1 - (intOf vi).toNat)
  case atStart => exact ⟨0, rfl, Nat.zero_le _, HI0.out⟩
  case round =>
    obtain ⟨j, rfl, hj, hI⟩ := hrel
    have HI : Aside (I j wr) := hI
    clear hI HI0
    by_cases hjk : j < k + 1
    · have hjk' : (j : Int) < (k : Int) + 1 := by omega
      go_wp2_with fail
      refine (HST.out j _ _ rfl hjk HI.out).mono ?_
      rintro e w2 ⟨rfl, hI2⟩
      have HI2 : Aside (I (j + 1) w2) := hI2
      clear hI2
      go_wp2_with fail
      go_roundw
      case rel => exact ⟨j + 1, by go_num, by omega, HI2.out⟩
      case measure => simp [intOf]; omega
    · have hjk' : ¬ (j : Int) < (k : Int) + 1 := by omega
      obtain rfl : j = k + 1 := by omega
      have HPO : Aside (POST wr) := HEN.out _ HI.out
      go_wp2_with fail
      go_end0
      exact ⟨rfl, HPO.out⟩

set_option maxRecDepth 100000 in
set_option maxHeartbeats 4000000 in
theorem push_C1 (B BB k : Nat) (fifo idx : Bool) (vs vp vm : Value) (held : Nat) (va : Value) (xs : List Value) (id f t : Nat) (w : World)
    (bb : w.heap[BB]? = some (.cells (bbCells fifo vs k idx vp vm held va) 29 (0, 0))) (os : w.ownsRow B 41 6 vs k xs) (d1 : vs.ownBlock ≠ some BB) (hB : B ≤ BB) (hk : k + 1 ≤ 2000) (POST : World → Prop) (I : Nat → World → Prop) (hi : idx = false) (hf : fifo = true) (h32 : 32 < k + 1)
    (hC0 : ∀ w1 vs', Pre1 B BB k f t fifo idx vs vp vm held va (xs ++ encS id f t) w w1 vs' (k + 1) → I 0 (((w1.setCell ⟨BB, 3, none⟩ (.bool true)).alloc (.map #[] 0)).setCell ⟨BB, 5, none⟩ (.map (some w1.heap.size))))
    (hst : ∀ j w1, j < k + 1 → I j w1 → Calls Yba.prog 6 #[.pointer (some ⟨BB, 0, none⟩), .int .i64 j] w1 fun e w' => e = .returned (.tuple #[]) ∧ I (j + 1) w')
    (hend : ∀ w1, I (k + 1) w1 → POST w1) :
    Calls Yba.prog 4 #[.pointer (some ⟨BB, 0, none⟩), .agg #[.int .u64 id, .int .i64 f, .int .i64 t, .slice none 0 0]] w fun e w' => e = .returned (.tuple #[]) ∧ POST w' := by
  subst hi hf
  have h32' : (32 : Int) < (k : Int) + 1 := by omega
  have HC0 : Aside (∀ w1 vs', Pre1 B BB k f t true false vs vp vm held va (xs ++ encS id f t) w w1 vs' (k + 1) → I 0 (((w1.setCell ⟨BB, 3, none⟩ (.bool true)).alloc (.map #[] 0)).setCell ⟨BB, 5, none⟩ (.map (some w1.heap.size)))) := hC0
  have HST : Aside (∀ (j : Nat) (w1 : World) (vj : Int), vj = j → j < k + 1 → I j w1 → Calls Yba.prog 6 #[.pointer (some ⟨BB, 0, none⟩), .int .i64 vj] w1 fun e w' => e = .returned (.tuple #[]) ∧ I (j + 1) w') := fun j w1 vj e h1 h2 => by subst e; exact hst j w1 h1 h2
  have HEN : Aside (∀ w1, I (k + 1) w1 → POST w1) := hend
  clear hC0 hst hend
  obtain ⟨i0, hi0, hz0, hz1, hz2⟩ := info_parts Yba.info41
  obtain ⟨W, hW⟩ : ∃ W, W = w.alloc (.cells #[.int .u64 id, .int .i64 f, .int .i64 t, .slice none 0 0] 37) := ⟨_, rfl⟩
  obtain ⟨Q, hQ⟩ : ∃ Q, Q = w.heap.size := ⟨_, rfl⟩
  have hbl := heap_lt bb
  have bW : W.heap[BB]? = some (.cells (bbCells true vs k false vp vm held va) 29 (0, 0)) := by rw [hW]; exact (Below.heap_alloc w _ BB hbl).trans bb
  have cB : W.cell? ⟨BB, 1, none⟩ = some vs := cell_at bW 1
  have fB : W.frozen? ⟨BB, 1, none⟩ = false := free_at bW 1
  have cQ : W.heap[Q]? = some (.cells #[.int .u64 id, .int .i64 f, .int .i64 t, .slice none 0 0] 37 (0, 0)) := by rw [hW, hQ]; exact heap_alloc_new w _
  have q0 : W.cell? ⟨Q, 0, none⟩ = some (.int .u64 id) := cell_at cQ 0
  have q1 : W.cell? ⟨Q, 1, none⟩ = some (.int .i64 f) := cell_at cQ 1
  have q2 : W.cell? ⟨Q, 2, none⟩ = some (.int .i64 t) := cell_at cQ 2
  have q3 : W.cell? ⟨Q, 3, none⟩ = some (.slice none 0 0) := cell_at cQ 3
  have hO : W.ownsRow B 41 6 vs k xs := by rw [hW]; exact os.alloc _
  have sW : W.heap.size = Q + 1 := by rw [hW, hQ]; simp
  have HWW : Aside (w.alloc (.cells #[.int .u64 id, .int .i64 f, .int .i64 t, .slice none 0 0] 37) = W) := hW.symm
  have HQ : Aside (w.heap.size = Q) := hQ.symm
  have HOW : Aside (Only (fun b => b = BB ∨ vs.ownBlock = some b) w W) := by
    show Only (fun b => b = BB ∨ vs.ownBlock = some b) w W
    rw [hW]; exact (Only.refl _ w).alloc _
  have HO : Aside (W.ownsRow B 41 6 vs k xs) := hO
  have HV : Aside (vs.ownBlock ≠ some BB) := d1
  have HO0 : Aside (w.ownsRow B 41 6 vs k xs) := os
  have hBQ : BB < Q := by omega
  have hBW : BB < W.heap.size := by omega
  have HBB : Aside (W.heap[BB]? = some (.cells (bbCells true vs k false vp vm held va) 29 (0, 0))) := bW
  clear hW hQ hO bW cQ d1 os bb
  have kB : ∀ (o : Obj), (W.alloc o).cell? ⟨BB, 1, none⟩ = some vs := fun o => (World.cell?_of_block (Below.heap_alloc W o BB hBW)).trans cB
  have HN : ∀ (o : Obj), (W.alloc o).heap[Q + 1]? = some o := fun o => by rw [← sW]; exact heap_alloc_new W o
  have HFIN : Aside (∀ (o : Obj) (g cap : Nat) (w1 : World), w1.ownsRow B 41 6 (.slice (some ⟨g, 0, none⟩) (k + 1) cap) (k + 1) (xs ++ encS id f t) → (W.alloc o).drew.grownBy w1 vs.ownBlock → (vs.ownBlock = some g ∨ g = W.heap.size + 1) →
      Pre1 B BB k f t true false vs vp vm held va (xs ++ encS id f t) w (w1.setCell ⟨BB, 1, none⟩ (.slice (some ⟨g, 0, none⟩) (k + 1) cap)) (.slice (some ⟨g, 0, none⟩) (k + 1) cap) k) := by
    intro o g cap w1 ho hg ha
    have gB : g ≠ BB := by
      rcases ha with e | e
      · intro x; subst x; exact HV.out e
      · omega
    have eB : w1.heap[BB]? = W.heap[BB]? := (hg.block BB (by simp; omega) (Ne.symm HV.out)).trans (Below.heap_alloc W _ BB hBW)
    refine ⟨heap_set (eB.trans HBB.out) 1 _, owns_block ho (fun b hb => ?_), ?_, ?_, ?_, ?_, ?_, ?_⟩
    · injection hb with hb
      have hb' : g = b := hb
      subst hb'
      exact heap_set_ne _ _ _ _ _ gB
    · exact (((HOW.out.alloc o).drewN 1).grown hg (fun b hb => Or.inl (Or.inr hb))).setCell (p := ⟨BB, 1, none⟩) (Or.inl (Or.inl rfl)) _
    · rcases ha with e | e
      · left; rw [e]; rfl
      · right
        intro b hb
        injection hb with hb
        have hb' : g = b := hb
        rw [HQ.out]; omega
    · intro e; injection e with e; exact gB e
    · rw [HQ.out]
      have hq := hg.cell_far ⟨Q, 1, none⟩ (by simp; omega) (fun e => by have := (owns_lt HO0.out Q e.symm).2; rw [HQ.out] at this; omega)
      rw [World.cell?_of_block (heap_set_ne _ _ _ _ _ (by show Q ≠ BB; omega)), hq]
      exact (World.cell?_of_block (Below.heap_alloc W o Q (by omega))).trans q1
    · rw [HQ.out]
      have hq := hg.cell_far ⟨Q, 2, none⟩ (by simp; omega) (fun e => by have := (owns_lt HO0.out Q e.symm).2; rw [HQ.out] at this; omega)
      rw [World.cell?_of_block (heap_set_ne _ _ _ _ _ (by show Q ≠ BB; omega)), hq]
      exact (World.cell?_of_block (Below.heap_alloc W o Q (by omega))).trans q2
    · exact hbl
  go_enter Yba.func4, Yba.ntmps4
  go_upto_region 1 with fail
  rw [HWW.out, HQ.out]
  go_cut [] (fun wx => ∃ vs', Pre1 B BB k f t true false vs vp vm held va (xs ++ encS id f t) w wx vs' k)
  case first =>
    go_region_law
      ((refine step_append_lies _ (by rfl) _ _ _ (by rfl) B 41 i0 _ 6 64 Yba.underlying24 hi0 hz0 hz1 hz2 rfl (by omega) vs k xs (by rfl) ((HO.out.alloc _).drew)
          ⟨Q + 1, 0, none⟩ 1 1 (encS id f t) (by rfl) (by rfl) (World.news_of_block (cs := #[.int .u64 id, .int .i64 f, .int .i64 t, .slice none 0 0, .int .i64 0, .pointer none]) (t := 41) (fr := (0, 0)) (HN _)) (by intro u hu; simp [encS] at hu; rcases hu with rfl | rfl | rfl | rfl | rfl | rfl <;> rfl)
          (by omega) (by unfold maxLen; omega) (by omega) (by simp; omega) (W.heap.size + 1) (by simp) ?_; intro g cap w1 hown1 hgrow hat hlt
        have hcB : w1.cell? ⟨BB, 1, none⟩ = some vs := (hgrow.cell_far ⟨BB, 1, none⟩ (by simp; omega) (Ne.symm HV.out)).trans (kB _)
        have hfr : w1.frozen? ⟨BB, 1, none⟩ = false := (hgrow.frozen_far ⟨BB, 1, none⟩ (by simp; omega) (Ne.symm HV.out)).trans ((World.frozen?_of_block (Below.heap_alloc W _ BB hBW)).trans fB)))
    all_goals
      go_wp2_with fail
      go_meet
      exact ⟨_, HFIN.out _ _ _ _ hown1 hgrow hat⟩
  case rest =>
  obtain ⟨vs', hP⟩ := hcut
  clear HFIN kB HN q0 q1 q2 q3 cB fB HO HOW HV HBB HWW
  have r2 : wc.cell? ⟨BB, 2, none⟩ = some (.int .i64 k) := cell_at hP.bb 2
  have g2 : wc.frozen? ⟨BB, 2, none⟩ = false := free_at hP.bb 2
  have hP2 := hP.count
  obtain ⟨g, cap, rfl⟩ := owns_form hP.os (by omega)
  have r1 : (wc.setCell ⟨BB, 2, none⟩ (.int .i64 ((k : Int) + 1))).cell? ⟨BB, 1, none⟩ = some (.slice (some ⟨g, 0, none⟩) (k + 1) cap) := cell_at hP2.bb 1
  have r3 : (wc.setCell ⟨BB, 2, none⟩ (.int .i64 ((k : Int) + 1))).cell? ⟨BB, 3, none⟩ = some (.bool false) := cell_at hP2.bb 3
  have r0 : (wc.setCell ⟨BB, 2, none⟩ (.int .i64 ((k : Int) + 1))).cell? ⟨BB, 0, none⟩ = some (.bool true) := cell_at hP2.bb 0
  have r2' : (wc.setCell ⟨BB, 2, none⟩ (.int .i64 ((k : Int) + 1))).cell? ⟨BB, 2, none⟩ = some (.int .i64 ((k : Int) + 1)) := cell_at hP2.bb 2
  have f3 : (wc.setCell ⟨BB, 2, none⟩ (.int .i64 ((k : Int) + 1))).frozen? ⟨BB, 3, none⟩ = false := free_at hP2.bb 3
  have f5 : (wc.setCell ⟨BB, 2, none⟩ (.int .i64 ((k : Int) + 1))).frozen? ⟨BB, 5, none⟩ = false := free_at hP2.bb 5
  have HP : Aside (Pre1 B BB k f t true false vs vp vm held va (xs ++ encS id f t) w (wc.setCell ⟨BB, 2, none⟩ (.int .i64 ((k : Int) + 1))) (.slice (some ⟨g, 0, none⟩) (k + 1) cap) (k + 1)) := hP2
  clear hP hP2
  go_upto_region 3 with fail
  generalize wc.setCell ⟨BB, 2, none⟩ (.int .i64 ((k : Int) + 1)) = w1 at *
  have s1 : (w1.setCell ⟨BB, 3, none⟩ (.bool true)).cell? ⟨BB, 1, none⟩ = some (.slice (some ⟨g, 0, none⟩) (k + 1) cap) := cell_at (heap_set HP.out.bb 3 (.bool true)) 1
  have s0 : (w1.setCell ⟨BB, 3, none⟩ (.bool true)).cell? ⟨BB, 0, none⟩ = some (.bool true) := cell_at (heap_set HP.out.bb 3 (.bool true)) 0
  have HI0 : Aside (I 0 (((w1.setCell ⟨BB, 3, none⟩ (.bool true)).alloc (.map #[] 0)).setCell ⟨BB, 5, none⟩ (.map (some w1.heap.size)))) := HC0.out _ _ HP.out
  have s5 : (w1.setCell ⟨BB, 3, none⟩ (.bool true)).cell? ⟨BB, 5, none⟩ = some vm := cell_at (heap_set HP.out.bb 3 (.bool true)) 5
  have t5 : (w1.setCell ⟨BB, 3, none⟩ (.bool true)).frozen? ⟨BB, 5, none⟩ = false := free_at (heap_set HP.out.bb 3 (.bool true)) 5
  have hbl1 : BB < (w1.setCell ⟨BB, 3, none⟩ (.bool true)).heap.size := heap_lt (heap_set HP.out.bb 3 (.bool true))
  have u5 : ∀ o, ((w1.setCell ⟨BB, 3, none⟩ (.bool true)).alloc o).cell? ⟨BB, 5, none⟩ = some vm := fun o => (World.cell?_of_block (Below.heap_alloc _ o BB hbl1)).trans s5
  have u5' : ∀ o, ((w1.setCell ⟨BB, 3, none⟩ (.bool true)).alloc o).frozen? ⟨BB, 5, none⟩ = false := fun o => (World.frozen?_of_block (Below.heap_alloc _ o BB hbl1)).trans t5
  have u1 : (((w1.setCell ⟨BB, 3, none⟩ (.bool true)).alloc (.map #[] 0)).setCell ⟨BB, 5, none⟩ (.map (some w1.heap.size))).cell? ⟨BB, 1, none⟩ = some (.slice (some ⟨g, 0, none⟩) (k + 1) cap) := cell_at (heap_set ((Below.heap_alloc _ _ BB hbl1).trans (heap_set HP.out.bb 3 (.bool true))) 5 _) 1
  clear HQ HO0 HC0
  go_wp2_with fail
  generalize (((w1.setCell ⟨BB, 3, none⟩ (.bool true)).alloc (.map #[] 0)).setCell ⟨BB, 5, none⟩ (.map (some w1.heap.size))) = W5 at HI0 ⊢
  go_loopw [62, 5] (fun vi _ wr => ∃ (j : Nat), vi = .int .i64 j ∧ j ≤ k + 1 ∧ I j wr) (fun vi _ _ => k + 1 - (intOf vi).toNat)
  case atStart => exact ⟨0, rfl, Nat.zero_le _, HI0.out⟩
  case round =>
    obtain ⟨j, rfl, hj, hI⟩ := hrel
    have HI : Aside (I j wr) := hI
    clear hI HI0
    by_cases hjk : j < k + 1
    · have hjk' : (j : Int) < (k : Int) + 1 := by omega
      go_wp2_with fail
      refine (HST.out j _ _ rfl hjk HI.out).mono ?_
      rintro e w2 ⟨rfl, hI2⟩
      have HI2 : Aside (I (j + 1) w2) := hI2
      clear hI2
      go_wp2_with fail
      go_roundw
      case rel => exact ⟨j + 1, by go_num, by omega, HI2.out⟩
      case measure => simp [intOf]; omega
    · have hjk' : ¬ (j : Int) < (k : Int) + 1 := by omega
      obtain rfl : j = k + 1 := by omega
      have HPO : Aside (POST wr) := HEN.out _ HI.out
      go_wp2_with fail
      go_end0
      exact ⟨rfl, HPO.out⟩
end Go.Proofs.Ybulkbxvg
