/-
  backlog.push.
-/
import Derived.Test.YbulkbxvgAp1
namespace Go.Proofs.Ybulkbxvg
open Go.RowKit
set_option linter.unusedVariables false
attribute [local go_sem] neqMap eqlMap mkMap

def encS (id f t : Nat) : List Value := [.int .u64 id, .int .i64 f, .int .i64 t, .slice none 0 0, .int .i64 0, .pointer none]
theorem Yba.info41 : (Yba.prog.info? 41).map (fun i => (i.zero, i.size, i.bytes)) = some (some (.agg #[.int .u64 0, .int .i64 0, .int .i64 0, .slice none 0 0, .int .i64 0, .pointer none]), 6, 64) := by kernel_rfl

/-- Behind the append (and, at cnt = k + 1, behind 'count++'). -/
structure Pre1 (B BB k f t : Nat) (fifo idx : Bool) (vs vp vm : Value) (held : Nat) (va : Value) (xs : List Value) (w wx : World) (vs' : Value) (cnt : Nat) : Prop where
  bb : wx.heap[BB]? = some (.cells (bbCells fifo vs' cnt idx vp vm held va) 29 (0, 0))
  os : wx.ownsRow B 41 6 vs' (k + 1) xs
  only : Only (fun b => b = BB ∨ vs.ownBlock = some b) w wx
  new : vs'.ownBlock = vs.ownBlock ∨ ∀ g, vs'.ownBlock = some g → w.heap.size ≤ g
  ne : vs'.ownBlock ≠ some BB
  q1 : wx.cell? ⟨w.heap.size, 1, none⟩ = some (.int .i64 f)
  q2 : wx.cell? ⟨w.heap.size, 2, none⟩ = some (.int .i64 t)
  lt : BB < w.heap.size
theorem Pre1.count {B BB k f t : Nat} {fifo idx : Bool} {vs vp vm : Value} {held : Nat} {va : Value} {xs : List Value} {w wx : World} {vs' : Value} (h : Pre1 B BB k f t fifo idx vs vp vm held va xs w wx vs' k) :
    Pre1 B BB k f t fifo idx vs vp vm held va xs w (wx.setCell ⟨BB, 2, none⟩ (.int .i64 ((k : Int) + 1))) vs' (k + 1) := by
  refine ⟨heap_set h.bb 2 _, owns_block h.os (fun b hb => heap_set_ne _ _ _ _ _ (fun e => h.ne (by rw [← e]; exact hb))), h.only.setCell (p := ⟨BB, 2, none⟩) (Or.inl (Or.inl rfl)) _, h.new, h.ne, (World.cell?_of_block (heap_set_ne _ _ _ _ _ (by show w.heap.size ≠ BB; have := h.lt; omega))).trans h.q1, (World.cell?_of_block (heap_set_ne _ _ _ _ _ (by show w.heap.size ≠ BB; have := h.lt; omega))).trans h.q2, h.lt⟩

set_option maxRecDepth 100000 in
set_option maxHeartbeats 4000000 in
theorem push_B (B BB k : Nat) (fifo idx : Bool) (vs vp vm : Value) (held : Nat) (va : Value) (xs : List Value) (id f t : Nat) (w : World)
    (bb : w.heap[BB]? = some (.cells (bbCells fifo vs k idx vp vm held va) 29 (0, 0))) (os : w.ownsRow B 41 6 vs k xs) (d1 : vs.ownBlock ≠ some BB) (hB : B ≤ BB) (hk : k + 1 ≤ 2000) (POST : World → Prop) (hi : idx = false) (hf : fifo = false) (h32 : k + 1 ≤ 32)
    (hN : ∀ w1 vs', Pre1 B BB k f t fifo idx vs vp vm held va (xs ++ encS id f t) w w1 vs' (k + 1) → POST w1) :
    Calls Yba.prog 4 #[.pointer (some ⟨BB, 0, none⟩), .agg #[.int .u64 id, .int .i64 f, .int .i64 t, .slice none 0 0]] w fun e w' => e = .returned (.tuple #[]) ∧ POST w' := by
  subst hi hf
  have h32' : ¬ (32 : Int) < (k : Int) + 1 := by omega
  have HNN : Aside (∀ w1 vs', Pre1 B BB k f t false false vs vp vm held va (xs ++ encS id f t) w w1 vs' (k + 1) → POST w1) := hN
  clear hN
  obtain ⟨i0, hi0, hz0, hz1, hz2⟩ := info_parts Yba.info41
  obtain ⟨W, hW⟩ : ∃ W, W = w.alloc (.cells #[.int .u64 id, .int .i64 f, .int .i64 t, .slice none 0 0] 37) := ⟨_, rfl⟩
  obtain ⟨Q, hQ⟩ : ∃ Q, Q = w.heap.size := ⟨_, rfl⟩
  have hbl := heap_lt bb
  have bW : W.heap[BB]? = some (.cells (bbCells false vs k false vp vm held va) 29 (0, 0)) := by rw [hW]; exact (Below.heap_alloc w _ BB hbl).trans bb
  have cB : W.cell? ⟨BB, 1, none⟩ = some vs := cell_at bW 1
  have fB : W.frozen? ⟨BB, 1, none⟩ = false := free_at bW 1
  have cQ : W.heap[Q]? = some (.cells #[.int .u64 id, .int .i64 f, .int .i64 t, .slice none 0 0] 37 (0, 0)) := by rw [hW, hQ]; exact heap_alloc_new w _
  have q0 : W.cell? ⟨Q, 0, none⟩ = some (.int .u64 id) := cell_at cQ 0
  have q1 : W.cell? ⟨Q, 1, none⟩ = some (.int .i64 f) := cell_at cQ 1
  have q2 : W.cell? ⟨Q, 2, none⟩ = some (.int .i64 t) := cell_at cQ 2
  have q3 : W.cell? ⟨Q, 3, none⟩ = some (.slice none 0 0) := cell_at cQ 3
  have hO : W.ownsRow B 41 6 vs k xs := by rw [hW]; exact os.alloc _
  have sW : W.heap.size = Q + 1 := by rw [hW, hQ]; simp
  have HWW : Aside (w.alloc (.cells #[.int .u64 id, .int .i64 f, .int .i64 t, .slice none 0 0] 37) = W) := hW.symm
  have HQ : Aside (w.heap.size = Q) := hQ.symm
  have HOW : Aside (Only (fun b => b = BB ∨ vs.ownBlock = some b) w W) := by
    show Only (fun b => b = BB ∨ vs.ownBlock = some b) w W
    rw [hW]; exact (Only.refl _ w).alloc _
  have HO : Aside (W.ownsRow B 41 6 vs k xs) := hO
  have HV : Aside (vs.ownBlock ≠ some BB) := d1
  have HO0 : Aside (w.ownsRow B 41 6 vs k xs) := os
  have hBQ : BB < Q := by omega
  have hBW : BB < W.heap.size := by omega
  have HBB : Aside (W.heap[BB]? = some (.cells (bbCells false vs k false vp vm held va) 29 (0, 0))) := bW
  clear hW hQ hO bW cQ d1 os bb
  have kB : ∀ (o : Obj), (W.alloc o).cell? ⟨BB, 1, none⟩ = some vs := fun o => (World.cell?_of_block (Below.heap_alloc W o BB hBW)).trans cB
  have HN : ∀ (o : Obj), (W.alloc o).heap[Q + 1]? = some o := fun o => by rw [← sW]; exact heap_alloc_new W o
  have HFIN : Aside (∀ (o : Obj) (g cap : Nat) (w1 : World), w1.ownsRow B 41 6 (.slice (some ⟨g, 0, none⟩) (k + 1) cap) (k + 1) (xs ++ encS id f t) → (W.alloc o).drew.grownBy w1 vs.ownBlock → (vs.ownBlock = some g ∨ g = W.heap.size + 1) →
      Pre1 B BB k f t false false vs vp vm held va (xs ++ encS id f t) w (w1.setCell ⟨BB, 1, none⟩ (.slice (some ⟨g, 0, none⟩) (k + 1) cap)) (.slice (some ⟨g, 0, none⟩) (k + 1) cap) k) := by
    intro o g cap w1 ho hg ha
    have gB : g ≠ BB := by
      rcases ha with e | e
      · intro x; subst x; exact HV.out e
      · omega
    have eB : w1.heap[BB]? = W.heap[BB]? := (hg.block BB (by simp; omega) (Ne.symm HV.out)).trans (Below.heap_alloc W _ BB hBW)
    refine ⟨heap_set (eB.trans HBB.out) 1 _, owns_block ho (fun b hb => ?_), ?_, ?_, ?_, ?_, ?_, ?_⟩
    · injection hb with hb
      have hb' : g = b := hb
      subst hb'
      exact heap_set_ne _ _ _ _ _ gB
    · exact (((HOW.out.alloc o).drewN 1).grown hg (fun b hb => Or.inl (Or.inr hb))).setCell (p := ⟨BB, 1, none⟩) (Or.inl (Or.inl rfl)) _
    · rcases ha with e | e
      · left; rw [e]; rfl
      · right
        intro b hb
        injection hb with hb
        have hb' : g = b := hb
        rw [HQ.out]; omega
    · intro e; injection e with e; exact gB e
    · rw [HQ.out]
      have hq := hg.cell_far ⟨Q, 1, none⟩ (by simp; omega) (fun e => by have := (owns_lt HO0.out Q e.symm).2; rw [HQ.out] at this; omega)
      rw [World.cell?_of_block (heap_set_ne _ _ _ _ _ (by show Q ≠ BB; omega)), hq]
      exact (World.cell?_of_block (Below.heap_alloc W o Q (by omega))).trans q1
    · rw [HQ.out]
      have hq := hg.cell_far ⟨Q, 2, none⟩ (by simp; omega) (fun e => by have := (owns_lt HO0.out Q e.symm).2; rw [HQ.out] at this; omega)
      rw [World.cell?_of_block (heap_set_ne _ _ _ _ _ (by show Q ≠ BB; omega)), hq]
      exact (World.cell?_of_block (Below.heap_alloc W o Q (by omega))).trans q2
    · exact hbl
  go_enter Yba.func4, Yba.ntmps4
  go_upto_region 1 with fail
  rw [HWW.out, HQ.out]
  go_cut [] (fun wx => ∃ vs', Pre1 B BB k f t false false vs vp vm held va (xs ++ encS id f t) w wx vs' k)
  case first =>
    go_region_law
      ((refine step_append_lies _ (by rfl) _ _ _ (by rfl) B 41 i0 _ 6 64 Yba.underlying24 hi0 hz0 hz1 hz2 rfl (by omega) vs k xs (by rfl) ((HO.out.alloc _).drew)
          ⟨Q + 1, 0, none⟩ 1 1 (encS id f t) (by rfl) (by rfl) (World.news_of_block (cs := #[.int .u64 id, .int .i64 f, .int .i64 t, .slice none 0 0, .int .i64 0, .pointer none]) (t := 41) (fr := (0, 0)) (HN _)) (by intro u hu; simp [encS] at hu; rcases hu with rfl | rfl | rfl | rfl | rfl | rfl <;> rfl)
          (by omega) (by unfold maxLen; omega) (by omega) (by simp; omega) (W.heap.size + 1) (by simp) ?_; intro g cap w1 hown1 hgrow hat hlt
        have hcB : w1.cell? ⟨BB, 1, none⟩ = some vs := (hgrow.cell_far ⟨BB, 1, none⟩ (by simp; omega) (Ne.symm HV.out)).trans (kB _)
        have hfr : w1.frozen? ⟨BB, 1, none⟩ = false := (hgrow.frozen_far ⟨BB, 1, none⟩ (by simp; omega) (Ne.symm HV.out)).trans ((World.frozen?_of_block (Below.heap_alloc W _ BB hBW)).trans fB)))
    all_goals
      go_wp2_with fail
      go_meet
      exact ⟨_, HFIN.out _ _ _ _ hown1 hgrow hat⟩
  case rest =>
  obtain ⟨vs', hP⟩ := hcut
  clear HFIN kB HN q0 q1 q2 q3 cB fB HO HOW HV HBB HWW
  have r2 : wc.cell? ⟨BB, 2, none⟩ = some (.int .i64 k) := cell_at hP.bb 2
  have g2 : wc.frozen? ⟨BB, 2, none⟩ = false := free_at hP.bb 2
  have hP2 := hP.count
  obtain ⟨g, cap, rfl⟩ := owns_form hP.os (by omega)
  have r1 : (wc.setCell ⟨BB, 2, none⟩ (.int .i64 ((k : Int) + 1))).cell? ⟨BB, 1, none⟩ = some (.slice (some ⟨g, 0, none⟩) (k + 1) cap) := cell_at hP2.bb 1
  have r3 : (wc.setCell ⟨BB, 2, none⟩ (.int .i64 ((k : Int) + 1))).cell? ⟨BB, 3, none⟩ = some (.bool false) := cell_at hP2.bb 3
  have r0 : (wc.setCell ⟨BB, 2, none⟩ (.int .i64 ((k : Int) + 1))).cell? ⟨BB, 0, none⟩ = some (.bool false) := cell_at hP2.bb 0
  have r2' : (wc.setCell ⟨BB, 2, none⟩ (.int .i64 ((k : Int) + 1))).cell? ⟨BB, 2, none⟩ = some (.int .i64 ((k : Int) + 1)) := cell_at hP2.bb 2
  have f3 : (wc.setCell ⟨BB, 2, none⟩ (.int .i64 ((k : Int) + 1))).frozen? ⟨BB, 3, none⟩ = false := free_at hP2.bb 3
  have f5 : (wc.setCell ⟨BB, 2, none⟩ (.int .i64 ((k : Int) + 1))).frozen? ⟨BB, 5, none⟩ = false := free_at hP2.bb 5
  have HP : Aside (Pre1 B BB k f t false false vs vp vm held va (xs ++ encS id f t) w (wc.setCell ⟨BB, 2, none⟩ (.int .i64 ((k : Int) + 1))) (.slice (some ⟨g, 0, none⟩) (k + 1) cap) (k + 1)) := hP2
  clear hP hP2
  go_upto_region 3 with fail
  generalize wc.setCell ⟨BB, 2, none⟩ (.int .i64 ((k : Int) + 1)) = w1 at *
  clear HQ HO0
  go_wp2_with fail
  go_end0
  exact ⟨rfl, HNN.out _ _ HP.out⟩

set_option maxRecDepth 100000 in
set_option maxHeartbeats 4000000 in
theorem push_A (B BB k : Nat) (fifo idx : Bool) (vs vp vm : Value) (held : Nat) (va : Value) (xs : List Value) (id f t : Nat) (w : World)
    (bb : w.heap[BB]? = some (.cells (bbCells fifo vs k idx vp vm held va) 29 (0, 0))) (os : w.ownsRow B 41 6 vs k xs) (d1 : vs.ownBlock ≠ some BB) (hB : B ≤ BB) (hk : k + 1 ≤ 2000) (POST : World → Prop) (hi : idx = true)
    (hN : ∀ w1 vs', Pre1 B BB k f t fifo idx vs vp vm held va (xs ++ encS id f t) w w1 vs' (k + 1) → Calls Yba.prog 6 #[.pointer (some ⟨BB, 0, none⟩), .int .i64 k] w1 fun e w' => e = .returned (.tuple #[]) ∧ POST w') :
    Calls Yba.prog 4 #[.pointer (some ⟨BB, 0, none⟩), .agg #[.int .u64 id, .int .i64 f, .int .i64 t, .slice none 0 0]] w fun e w' => e = .returned (.tuple #[]) ∧ POST w' := by
  subst hi
  have HNN : Aside (∀ w1 vs' (vk : Int), vk = k → Pre1 B BB k f t fifo true vs vp vm held va (xs ++ encS id f t) w w1 vs' (k + 1) → Calls Yba.prog 6 #[.pointer (some ⟨BB, 0, none⟩), .int .i64 vk] w1 fun e w' => e = .returned (.tuple #[]) ∧ POST w') := fun w1 vs' vk e h => by subst e; exact hN w1 vs' h
  clear hN
  obtain ⟨i0, hi0, hz0, hz1, hz2⟩ := info_parts Yba.info41
  obtain ⟨W, hW⟩ : ∃ W, W = w.alloc (.cells #[.int .u64 id, .int .i64 f, .int .i64 t, .slice none 0 0] 37) := ⟨_, rfl⟩
  obtain ⟨Q, hQ⟩ : ∃ Q, Q = w.heap.size := ⟨_, rfl⟩
  have hbl := heap_lt bb
  have bW : W.heap[BB]? = some (.cells (bbCells fifo vs k true vp vm held va) 29 (0, 0)) := by rw [hW]; exact (Below.heap_alloc w _ BB hbl).trans bb
  have cB : W.cell? ⟨BB, 1, none⟩ = some vs := cell_at bW 1
  have fB : W.frozen? ⟨BB, 1, none⟩ = false := free_at bW 1
  have cQ : W.heap[Q]? = some (.cells #[.int .u64 id, .int .i64 f, .int .i64 t, .slice none 0 0] 37 (0, 0)) := by rw [hW, hQ]; exact heap_alloc_new w _
  have q0 : W.cell? ⟨Q, 0, none⟩ = some (.int .u64 id) := cell_at cQ 0
  have q1 : W.cell? ⟨Q, 1, none⟩ = some (.int .i64 f) := cell_at cQ 1
  have q2 : W.cell? ⟨Q, 2, none⟩ = some (.int .i64 t) := cell_at cQ 2
  have q3 : W.cell? ⟨Q, 3, none⟩ = some (.slice none 0 0) := cell_at cQ 3
  have hO : W.ownsRow B 41 6 vs k xs := by rw [hW]; exact os.alloc _
  have sW : W.heap.size = Q + 1 := by rw [hW, hQ]; simp
  have HWW : Aside (w.alloc (.cells #[.int .u64 id, .int .i64 f, .int .i64 t, .slice none 0 0] 37) = W) := hW.symm
  have HQ : Aside (w.heap.size = Q) := hQ.symm
  have HOW : Aside (Only (fun b => b = BB ∨ vs.ownBlock = some b) w W) := by
    show Only (fun b => b = BB ∨ vs.ownBlock = some b) w W
    rw [hW]; exact (Only.refl _ w).alloc _
  have HO : Aside (W.ownsRow B 41 6 vs k xs) := hO
  have HV : Aside (vs.ownBlock ≠ some BB) := d1
  have HO0 : Aside (w.ownsRow B 41 6 vs k xs) := os
  have hBQ : BB < Q := by omega
  have hBW : BB < W.heap.size := by omega
  have HBB : Aside (W.heap[BB]? = some (.cells (bbCells fifo vs k true vp vm held va) 29 (0, 0))) := bW
  clear hW hQ hO bW cQ d1 os bb
  have kB : ∀ (o : Obj), (W.alloc o).cell? ⟨BB, 1, none⟩ = some vs := fun o => (World.cell?_of_block (Below.heap_alloc W o BB hBW)).trans cB
  have HN : ∀ (o : Obj), (W.alloc o).heap[Q + 1]? = some o := fun o => by rw [← sW]; exact heap_alloc_new W o
  have HFIN : Aside (∀ (o : Obj) (g cap : Nat) (w1 : World), w1.ownsRow B 41 6 (.slice (some ⟨g, 0, none⟩) (k + 1) cap) (k + 1) (xs ++ encS id f t) → (W.alloc o).drew.grownBy w1 vs.ownBlock → (vs.ownBlock = some g ∨ g = W.heap.size + 1) →
      Pre1 B BB k f t fifo true vs vp vm held va (xs ++ encS id f t) w (w1.setCell ⟨BB, 1, none⟩ (.slice (some ⟨g, 0, none⟩) (k + 1) cap)) (.slice (some ⟨g, 0, none⟩) (k + 1) cap) k) := by
    intro o g cap w1 ho hg ha
    have gB : g ≠ BB := by
      rcases ha with e | e
      · intro x; subst x; exact HV.out e
      · omega
    have eB : w1.heap[BB]? = W.heap[BB]? := (hg.block BB (by simp; omega) (Ne.symm HV.out)).trans (Below.heap_alloc W _ BB hBW)
    refine ⟨heap_set (eB.trans HBB.out) 1 _, owns_block ho (fun b hb => ?_), ?_, ?_, ?_, ?_, ?_, ?_⟩
    · injection hb with hb
      have hb' : g = b := hb
      subst hb'
      exact heap_set_ne _ _ _ _ _ gB
    · exact (((HOW.out.alloc o).drewN 1).grown hg (fun b hb => Or.inl (Or.inr hb))).setCell (p := ⟨BB, 1, none⟩) (Or.inl (Or.inl rfl)) _
    · rcases ha with e | e
      · left; rw [e]; rfl
      · right
        intro b hb
        injection hb with hb
        have hb' : g = b := hb
        rw [HQ.out]; omega
    · intro e; injection e with e; exact gB e
    · rw [HQ.out]
      have hq := hg.cell_far ⟨Q, 1, none⟩ (by simp; omega) (fun e => by have := (owns_lt HO0.out Q e.symm).2; rw [HQ.out] at this; omega)
      rw [World.cell?_of_block (heap_set_ne _ _ _ _ _ (by show Q ≠ BB; omega)), hq]
      exact (World.cell?_of_block (Below.heap_alloc W o Q (by omega))).trans q1
    · rw [HQ.out]
      have hq := hg.cell_far ⟨Q, 2, none⟩ (by simp; omega) (fun e => by have := (owns_lt HO0.out Q e.symm).2; rw [HQ.out] at this; omega)
      rw [World.cell?_of_block (heap_set_ne _ _ _ _ _ (by show Q ≠ BB; omega)), hq]
      exact (World.cell?_of_block (Below.heap_alloc W o Q (by omega))).trans q2
    · exact hbl
  go_enter Yba.func4, Yba.ntmps4
  go_upto_region 1 with fail
  rw [HWW.out, HQ.out]
  go_cut [] (fun wx => ∃ vs', Pre1 B BB k f t fifo true vs vp vm held va (xs ++ encS id f t) w wx vs' k)
  case first =>
    go_region_law
      ((refine step_append_lies _ (by rfl) _ _ _ (by rfl) B 41 i0 _ 6 64 Yba.underlying24 hi0 hz0 hz1 hz2 rfl (by omega) vs k xs (by rfl) ((HO.out.alloc _).drew)
          ⟨Q + 1, 0, none⟩ 1 1 (encS id f t) (by rfl) (by rfl) (World.news_of_block (cs := #[.int .u64 id, .int .i64 f, .int .i64 t, .slice none 0 0, .int .i64 0, .pointer none]) (t := 41) (fr := (0, 0)) (HN _)) (by intro u hu; simp [encS] at hu; rcases hu with rfl | rfl | rfl | rfl | rfl | rfl <;> rfl)
          (by omega) (by unfold maxLen; omega) (by omega) (by simp; omega) (W.heap.size + 1) (by simp) ?_; intro g cap w1 hown1 hgrow hat hlt
        have hcB : w1.cell? ⟨BB, 1, none⟩ = some vs := (hgrow.cell_far ⟨BB, 1, none⟩ (by simp; omega) (Ne.symm HV.out)).trans (kB _)
        have hfr : w1.frozen? ⟨BB, 1, none⟩ = false := (hgrow.frozen_far ⟨BB, 1, none⟩ (by simp; omega) (Ne.symm HV.out)).trans ((World.frozen?_of_block (Below.heap_alloc W _ BB hBW)).trans fB)))
    all_goals
      go_wp2_with fail
      go_meet
      exact ⟨_, HFIN.out _ _ _ _ hown1 hgrow hat⟩
  case rest =>
  obtain ⟨vs', hP⟩ := hcut
  clear HFIN kB HN q0 q1 q2 q3 cB fB HO HOW HV HBB HWW
  have r2 : wc.cell? ⟨BB, 2, none⟩ = some (.int .i64 k) := cell_at hP.bb 2
  have g2 : wc.frozen? ⟨BB, 2, none⟩ = false := free_at hP.bb 2
  have hP2 := hP.count
  obtain ⟨g, cap, rfl⟩ := owns_form hP.os (by omega)
  have r1 : (wc.setCell ⟨BB, 2, none⟩ (.int .i64 ((k : Int) + 1))).cell? ⟨BB, 1, none⟩ = some (.slice (some ⟨g, 0, none⟩) (k + 1) cap) := cell_at hP2.bb 1
  have r3 : (wc.setCell ⟨BB, 2, none⟩ (.int .i64 ((k : Int) + 1))).cell? ⟨BB, 3, none⟩ = some (.bool true) := cell_at hP2.bb 3
  have r0 : (wc.setCell ⟨BB, 2, none⟩ (.int .i64 ((k : Int) + 1))).cell? ⟨BB, 0, none⟩ = some (.bool fifo) := cell_at hP2.bb 0
  have r2' : (wc.setCell ⟨BB, 2, none⟩ (.int .i64 ((k : Int) + 1))).cell? ⟨BB, 2, none⟩ = some (.int .i64 ((k : Int) + 1)) := cell_at hP2.bb 2
  have f3 : (wc.setCell ⟨BB, 2, none⟩ (.int .i64 ((k : Int) + 1))).frozen? ⟨BB, 3, none⟩ = false := free_at hP2.bb 3
  have f5 : (wc.setCell ⟨BB, 2, none⟩ (.int .i64 ((k : Int) + 1))).frozen? ⟨BB, 5, none⟩ = false := free_at hP2.bb 5
  have HP : Aside (Pre1 B BB k f t fifo true vs vp vm held va (xs ++ encS id f t) w (wc.setCell ⟨BB, 2, none⟩ (.int .i64 ((k : Int) + 1))) (.slice (some ⟨g, 0, none⟩) (k + 1) cap) (k + 1)) := hP2
  clear hP hP2
  go_upto_region 3 with fail
  generalize wc.setCell ⟨BB, 2, none⟩ (.int .i64 ((k : Int) + 1)) = w1 at *
  clear HQ HO0
  go_wp2_with fail
  refine (HNN.out _ _ _ (by omega) HP.out).mono ?_
  rintro e w2 ⟨rfl, hpost⟩
  have HPO : Aside (POST w2) := hpost
  clear hpost
  go_wp2_with fail
  go_end0
  exact ⟨rfl, HPO.out⟩

set_option maxRecDepth 100000 in
set_option maxHeartbeats 4000000 in
theorem push_D (B BB k : Nat) (fifo idx : Bool) (vs vp vm : Value) (held : Nat) (va : Value) (xs : List Value) (id f t : Nat) (w : World)
    (bb : w.heap[BB]? = some (.cells (bbCells fifo vs k idx vp vm held va) 29 (0, 0))) (os : w.ownsRow B 41 6 vs k xs) (d1 : vs.ownBlock ≠ some BB) (hB : B ≤ BB) (hk : k + 1 ≤ 2000) (POST : World → Prop) (o : Nat) (hi : idx = false) (hf : fifo = true) (h32 : k + 1 ≤ 32)
    (hOL : ∀ w1 vs', Pre1 B BB k f t fifo idx vs vp vm held va (xs ++ encS id f t) w w1 vs' (k + 1) → Calls Yba.prog 7 #[.pointer (some ⟨BB, 0, none⟩), .int .i64 f, .int .i64 t] w1 fun e w' => e = .returned (.tuple #[.int .i64 o, .bool true]) ∧ w' = w1)
    (hD1 : o = k → ∀ w1 vs', Pre1 B BB k f t fifo idx vs vp vm held va (xs ++ encS id f t) w w1 vs' (k + 1) → POST w1)
    (hD2 : o ≠ k → ∀ w1 g cap, Pre1 B BB k f t fifo idx vs vp vm held va (xs ++ encS id f t) w w1 (.slice (some ⟨g, 0, none⟩) (k + 1) cap) (k + 1) → POST (w1.setCell ⟨g, k * 6 + 4, none⟩ (.int .i64 1))) :
    Calls Yba.prog 4 #[.pointer (some ⟨BB, 0, none⟩), .agg #[.int .u64 id, .int .i64 f, .int .i64 t, .slice none 0 0]] w fun e w' => e = .returned (.tuple #[]) ∧ POST w' := by
  subst hi hf
  have h32' : ¬ (32 : Int) < (k : Int) + 1 := by omega
  have HOL : Aside (∀ w1 vs', Pre1 B BB k f t true false vs vp vm held va (xs ++ encS id f t) w w1 vs' (k + 1) → Calls Yba.prog 7 #[.pointer (some ⟨BB, 0, none⟩), .int .i64 f, .int .i64 t] w1 fun e w' => e = .returned (.tuple #[.int .i64 o, .bool true]) ∧ w' = w1) := hOL
  have HD1 : Aside (o = k → ∀ w1 vs', Pre1 B BB k f t true false vs vp vm held va (xs ++ encS id f t) w w1 vs' (k + 1) → POST w1) := hD1
  have HD2 : Aside (o ≠ k → ∀ w1 g cap, Pre1 B BB k f t true false vs vp vm held va (xs ++ encS id f t) w w1 (.slice (some ⟨g, 0, none⟩) (k + 1) cap) (k + 1) → POST (w1.setCell ⟨g, k * 6 + 4, none⟩ (.int .i64 1))) := hD2
  clear hOL hD1 hD2
  obtain ⟨i0, hi0, hz0, hz1, hz2⟩ := info_parts Yba.info41
  obtain ⟨W, hW⟩ : ∃ W, W = w.alloc (.cells #[.int .u64 id, .int .i64 f, .int .i64 t, .slice none 0 0] 37) := ⟨_, rfl⟩
  obtain ⟨Q, hQ⟩ : ∃ Q, Q = w.heap.size := ⟨_, rfl⟩
  have hbl := heap_lt bb
  have bW : W.heap[BB]? = some (.cells (bbCells true vs k false vp vm held va) 29 (0, 0)) := by rw [hW]; exact (Below.heap_alloc w _ BB hbl).trans bb
  have cB : W.cell? ⟨BB, 1, none⟩ = some vs := cell_at bW 1
  have fB : W.frozen? ⟨BB, 1, none⟩ = false := free_at bW 1
  have cQ : W.heap[Q]? = some (.cells #[.int .u64 id, .int .i64 f, .int .i64 t, .slice none 0 0] 37 (0, 0)) := by rw [hW, hQ]; exact heap_alloc_new w _
  have q0 : W.cell? ⟨Q, 0, none⟩ = some (.int .u64 id) := cell_at cQ 0
  have q1 : W.cell? ⟨Q, 1, none⟩ = some (.int .i64 f) := cell_at cQ 1
  have q2 : W.cell? ⟨Q, 2, none⟩ = some (.int .i64 t) := cell_at cQ 2
  have q3 : W.cell? ⟨Q, 3, none⟩ = some (.slice none 0 0) := cell_at cQ 3
  have hO : W.ownsRow B 41 6 vs k xs := by rw [hW]; exact os.alloc _
  have sW : W.heap.size = Q + 1 := by rw [hW, hQ]; simp
  have HWW : Aside (w.alloc (.cells #[.int .u64 id, .int .i64 f, .int .i64 t, .slice none 0 0] 37) = W) := hW.symm
  have HQ : Aside (w.heap.size = Q) := hQ.symm
  have HOW : Aside (Only (fun b => b = BB ∨ vs.ownBlock = some b) w W) := by
    show Only (fun b => b = BB ∨ vs.ownBlock = some b) w W
    rw [hW]; exact (Only.refl _ w).alloc _
  have HO : Aside (W.ownsRow B 41 6 vs k xs) := hO
  have HV : Aside (vs.ownBlock ≠ some BB) := d1
  have HO0 : Aside (w.ownsRow B 41 6 vs k xs) := os
  have hBQ : BB < Q := by omega
  have hBW : BB < W.heap.size := by omega
  have HBB : Aside (W.heap[BB]? = some (.cells (bbCells true vs k false vp vm held va) 29 (0, 0))) := bW
  clear hW hQ hO bW cQ d1 os bb
  have kB : ∀ (o : Obj), (W.alloc o).cell? ⟨BB, 1, none⟩ = some vs := fun o => (World.cell?_of_block (Below.heap_alloc W o BB hBW)).trans cB
  have HN : ∀ (o : Obj), (W.alloc o).heap[Q + 1]? = some o := fun o => by rw [← sW]; exact heap_alloc_new W o
  have HFIN : Aside (∀ (o : Obj) (g cap : Nat) (w1 : World), w1.ownsRow B 41 6 (.slice (some ⟨g, 0, none⟩) (k + 1) cap) (k + 1) (xs ++ encS id f t) → (W.alloc o).drew.grownBy w1 vs.ownBlock → (vs.ownBlock = some g ∨ g = W.heap.size + 1) →
      Pre1 B BB k f t true false vs vp vm held va (xs ++ encS id f t) w (w1.setCell ⟨BB, 1, none⟩ (.slice (some ⟨g, 0, none⟩) (k + 1) cap)) (.slice (some ⟨g, 0, none⟩) (k + 1) cap) k) := by
    intro o g cap w1 ho hg ha
    have gB : g ≠ BB := by
      rcases ha with e | e
      · intro x; subst x; exact HV.out e
      · omega
    have eB : w1.heap[BB]? = W.heap[BB]? := (hg.block BB (by simp; omega) (Ne.symm HV.out)).trans (Below.heap_alloc W _ BB hBW)
    refine ⟨heap_set (eB.trans HBB.out) 1 _, owns_block ho (fun b hb => ?_), ?_, ?_, ?_, ?_, ?_, ?_⟩
    · injection hb with hb
      have hb' : g = b := hb
      subst hb'
      exact heap_set_ne _ _ _ _ _ gB
    · exact (((HOW.out.alloc o).drewN 1).grown hg (fun b hb => Or.inl (Or.inr hb))).setCell (p := ⟨BB, 1, none⟩) (Or.inl (Or.inl rfl)) _
    · rcases ha with e | e
      · left; rw [e]; rfl
      · right
        intro b hb
        injection hb with hb
        have hb' : g = b := hb
        rw [HQ.out]; omega
    · intro e; injection e with e; exact gB e
    · rw [HQ.out]
      have hq := hg.cell_far ⟨Q, 1, none⟩ (by simp; omega) (fun e => by have := (owns_lt HO0.out Q e.symm).2; rw [HQ.out] at this; omega)
      rw [World.cell?_of_block (heap_set_ne _ _ _ _ _ (by show Q ≠ BB; omega)), hq]
      exact (World.cell?_of_block (Below.heap_alloc W o Q (by omega))).trans q1
    · rw [HQ.out]
      have hq := hg.cell_far ⟨Q, 2, none⟩ (by simp; omega) (fun e => by have := (owns_lt HO0.out Q e.symm).2; rw [HQ.out] at this; omega)
      rw [World.cell?_of_block (heap_set_ne _ _ _ _ _ (by show Q ≠ BB; omega)), hq]
      exact (World.cell?_of_block (Below.heap_alloc W o Q (by omega))).trans q2
    · exact hbl
  go_enter Yba.func4, Yba.ntmps4
  go_upto_region 1 with fail
  rw [HWW.out, HQ.out]
  go_cut [] (fun wx => ∃ vs', Pre1 B BB k f t true false vs vp vm held va (xs ++ encS id f t) w wx vs' k)
  case first =>
    go_region_law
      ((refine step_append_lies _ (by rfl) _ _ _ (by rfl) B 41 i0 _ 6 64 Yba.underlying24 hi0 hz0 hz1 hz2 rfl (by omega) vs k xs (by rfl) ((HO.out.alloc _).drew)
          ⟨Q + 1, 0, none⟩ 1 1 (encS id f t) (by rfl) (by rfl) (World.news_of_block (cs := #[.int .u64 id, .int .i64 f, .int .i64 t, .slice none 0 0, .int .i64 0, .pointer none]) (t := 41) (fr := (0, 0)) (HN _)) (by intro u hu; simp [encS] at hu; rcases hu with rfl | rfl | rfl | rfl | rfl | rfl <;> rfl)
          (by omega) (by unfold maxLen; omega) (by omega) (by simp; omega) (W.heap.size + 1) (by simp) ?_; intro g cap w1 hown1 hgrow hat hlt
        have hcB : w1.cell? ⟨BB, 1, none⟩ = some vs := (hgrow.cell_far ⟨BB, 1, none⟩ (by simp; omega) (Ne.symm HV.out)).trans (kB _)
        have hfr : w1.frozen? ⟨BB, 1, none⟩ = false := (hgrow.frozen_far ⟨BB, 1, none⟩ (by simp; omega) (Ne.symm HV.out)).trans ((World.frozen?_of_block (Below.heap_alloc W _ BB hBW)).trans fB)))
    all_goals
      go_wp2_with fail
      go_meet
      exact ⟨_, HFIN.out _ _ _ _ hown1 hgrow hat⟩
  case rest =>
  obtain ⟨vs', hP⟩ := hcut
  clear HFIN kB HN q0 q1 q2 q3 cB fB HO HOW HV HBB HWW
  have r2 : wc.cell? ⟨BB, 2, none⟩ = some (.int .i64 k) := cell_at hP.bb 2
  have g2 : wc.frozen? ⟨BB, 2, none⟩ = false := free_at hP.bb 2
  have hP2 := hP.count
  obtain ⟨g, cap, rfl⟩ := owns_form hP.os (by omega)
  have r1 : (wc.setCell ⟨BB, 2, none⟩ (.int .i64 ((k : Int) + 1))).cell? ⟨BB, 1, none⟩ = some (.slice (some ⟨g, 0, none⟩) (k + 1) cap) := cell_at hP2.bb 1
  have r3 : (wc.setCell ⟨BB, 2, none⟩ (.int .i64 ((k : Int) + 1))).cell? ⟨BB, 3, none⟩ = some (.bool false) := cell_at hP2.bb 3
  have r0 : (wc.setCell ⟨BB, 2, none⟩ (.int .i64 ((k : Int) + 1))).cell? ⟨BB, 0, none⟩ = some (.bool true) := cell_at hP2.bb 0
  have r2' : (wc.setCell ⟨BB, 2, none⟩ (.int .i64 ((k : Int) + 1))).cell? ⟨BB, 2, none⟩ = some (.int .i64 ((k : Int) + 1)) := cell_at hP2.bb 2
  have f3 : (wc.setCell ⟨BB, 2, none⟩ (.int .i64 ((k : Int) + 1))).frozen? ⟨BB, 3, none⟩ = false := free_at hP2.bb 3
  have f5 : (wc.setCell ⟨BB, 2, none⟩ (.int .i64 ((k : Int) + 1))).frozen? ⟨BB, 5, none⟩ = false := free_at hP2.bb 5
  have HP : Aside (Pre1 B BB k f t true false vs vp vm held va (xs ++ encS id f t) w (wc.setCell ⟨BB, 2, none⟩ (.int .i64 ((k : Int) + 1))) (.slice (some ⟨g, 0, none⟩) (k + 1) cap) (k + 1)) := hP2
  clear hP hP2
  go_upto_region 3 with fail
  generalize wc.setCell ⟨BB, 2, none⟩ (.int .i64 ((k : Int) + 1)) = w1 at *
  have q1' : w1.cell? ⟨Q, 1, none⟩ = some (.int .i64 f) := by have := HP.out.q1; rwa [HQ.out] at this
  have q2' : w1.cell? ⟨Q, 2, none⟩ = some (.int .i64 t) := by have := HP.out.q2; rwa [HQ.out] at this
  obtain ⟨y, hy⟩ : ∃ y, w1.cell? ⟨g, k * 6 + 4, none⟩ = some y := by
    have h1 := HP.out.os.cellAt (k * 6 + 4) (by omega)
    exact ⟨_, h1.trans (List.getElem?_eq_getElem (by rw [HP.out.os.1]; omega))⟩
  have fy : w1.frozen? ⟨g, k * 6 + 4, none⟩ = false := HP.out.os.frozenAt _
  clear HQ HO0
  go_wp2_with fail
  refine (HOL.out _ _ HP.out).mono ?_
  rintro e w2 ⟨rfl, rfl⟩
  by_cases hok : o = k
  · have HPO : Aside (POST w2) := HD1.out hok _ _ HP.out
    have hok' : (o : Int) = (k : Int) := by omega
    clear hok
    go_wp2_with fail
    go_end0
    exact ⟨rfl, HPO.out⟩
  · have HPO : Aside (POST (w2.setCell ⟨g, k * 6 + 4, none⟩ (.int .i64 1))) := HD2.out hok _ _ _ HP.out
    have hok' : ¬ (o : Int) = (k : Int) := by omega
    go_wp2_with fail
    go_end0
    exact ⟨rfl, HPO.out⟩
end Go.Proofs.Ybulkbxvg
