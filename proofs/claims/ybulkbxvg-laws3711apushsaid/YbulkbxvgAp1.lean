/-
  backlog.len, backlog.index where the backlog keeps no queues.
-/
import Derived.Test.YbulkbxvgAp0
namespace Go.Proofs.Ybulkbxvg
open Go.RowKit
set_option linter.unusedVariables false

attribute [local go_sem] neqMap eqlMap
theorem Yba.info3 : (Yba.prog.info? 3).map (fun i => (i.zero, i.size, i.bytes)) = some (some (.int .i64 0), 1, 8) := by kernel_rfl

/-- The backlog's block. -/
def bbCells (fifo : Bool) (vs : Value) (cnt : Nat) (idx : Bool) (vp vm : Value) (held : Nat) (va : Value) : Array Value := #[.bool fifo, vs, .int .i64 cnt, .bool idx, vp, vm, .int .i64 held, .bool false, va]

set_option maxHeartbeats 400000 in
theorem len_walk (BB : Nat) (w : World) (cnt : Nat) (hc : w.cell? ⟨BB, 2, none⟩ = some (.int .i64 cnt)) : Calls Yba.prog 5 #[.pointer (some ⟨BB, 0, none⟩)] w fun e w' => e = .returned (.int .i64 cnt) ∧ w' = w := by
  go_enter Yba.func5, Yba.ntmps5
  go_wp2
  go_ret
  exact ⟨rfl, rfl⟩

/-- No queues: the block, the slots' row, the pool's. -/
structure R0 (B BB : Nat) (w : World) (fifo idx : Bool) (cnt : Nat) (vs vp : Value) (n m : Nat) (xs ps : List Value) : Prop where
  bb : w.heap[BB]? = some (.cells (bbCells fifo vs cnt idx vp (.map none) 0 (.slice none 0 0)) 29 (0, 0))
  os : w.ownsRow B 41 6 vs n xs
  op : w.ownsRow B 3 1 vp m ps
  d1 : vs.ownBlock ≠ some BB
  d2 : vp.ownBlock ≠ some BB
  d3 : ∀ g, vs.ownBlock = some g → vp.ownBlock ≠ some g
  hB : B ≤ BB
def foot (BB : Nat) (vs vp : Value) (b : Nat) : Prop := b = BB ∨ vs.ownBlock = some b ∨ vp.ownBlock = some b

set_option maxRecDepth 100000 in
set_option maxHeartbeats 2000000 in
theorem index_nf (B BB cnt n m i : Nat) (idx : Bool) (vs vp : Value) (xs ps : List Value) (w : World) (h : R0 B BB w false idx cnt vs vp n m xs ps) (hi : i < n) (hm : m + 1 ≤ 2000) (hn : n ≤ 2000) :
    Calls Yba.prog 6 #[.pointer (some ⟨BB, 0, none⟩), .int .i64 i] w fun e w' => e = .returned (.tuple #[]) ∧ ∃ vp', R0 B BB w' false idx cnt vs vp' n (m + 1) (xs.set (i * 6 + 4) (.int .i64 m)) (ps ++ [.int .i64 i]) ∧ Only (foot BB vs vp) w w' ∧ (vp'.ownBlock = vp.ownBlock ∨ ∀ g, vp'.ownBlock = some g → w.heap.size ≤ g) := by
  obtain ⟨i0, hi0, hz0, hz1, hz2⟩ := info_parts Yba.info3
  obtain ⟨g, cap, hvs⟩ := owns_form h.os (by omega)
  obtain ⟨p, pc, hvp⟩ := owns_slice h.op
  have cells := fun k => cell_at h.bb k
  have c0 : w.cell? ⟨BB, 0, none⟩ = some (.bool false) := cells 0
  have c1 : w.cell? ⟨BB, 1, none⟩ = some vs := cells 1
  have c4 : w.cell? ⟨BB, 4, none⟩ = some vp := cells 4
  have c5 : w.cell? ⟨BB, 5, none⟩ = some (.map none) := cells 5
  have f4 : w.frozen? ⟨BB, 4, none⟩ = false := free_at h.bb 4
  obtain ⟨y, hy⟩ : ∃ y, w.cell? ⟨g, i * 6 + 4, none⟩ = some y := by
    have := h.os
    rw [hvs] at this
    have e := this.cellAt (i * 6 + 4) (by omega)
    exact ⟨xs[i * 6 + 4]'(by rw [h.os.1]; omega), e.trans (List.getElem?_eq_getElem _)⟩
  have fy : w.frozen? ⟨g, i * 6 + 4, none⟩ = false := by have := h.os; rw [hvs] at this; exact this.frozenAt _
  have hlen : m ≤ 2000 := by omega
  have HH : Aside (R0 B BB w false idx cnt vs vp n m xs ps) := h
  clear h cells
  subst hvs hvp
  have HR1 : Aside (∀ q, R0 B BB ((w.setCell ⟨g, i * 6 + 4, none⟩ (.int .i64 m)).drewN q) false idx cnt (.slice (some ⟨g, 0, none⟩) n cap) (.slice p m pc) n m (xs.set (i * 6 + 4) (.int .i64 m)) ps ∧ Only (foot BB (.slice (some ⟨g, 0, none⟩) n cap) (.slice p m pc)) w ((w.setCell ⟨g, i * 6 + 4, none⟩ (.int .i64 m)).drewN q)) := fun q => by
    have h := HH.out
    have gB : BB ≠ g := fun e => h.d1 (by rw [e]; rfl)
    refine ⟨⟨(heap_set_ne _ _ _ _ _ gB).trans h.bb, owns_set h.os (i * 6 + 4) _ (by omega), owns_block h.op (fun b hb => heap_set_ne _ _ _ _ _ (fun e => h.d3 g rfl (by rw [← e]; exact hb))), h.d1, h.d2, h.d3, h.hB⟩, ?_⟩
    exact ((Only.refl _ w).setCell (p := ⟨g, i * 6 + 4, none⟩) (Or.inl (Or.inr (Or.inl rfl))) _).drewN q
  go_enter Yba.func6, Yba.ntmps6
  go_upto_region 3 with fail
  go_cut [] (fun wx => R0 B BB wx false idx cnt (.slice (some ⟨g, 0, none⟩) n cap) (.slice p m pc) n m (xs.set (i * 6 + 4) (.int .i64 m)) ps ∧ Only (foot BB (.slice (some ⟨g, 0, none⟩) n cap) (.slice p m pc)) w wx)
  case first =>
    go_region
    all_goals
      go_wp2_with fail
      go_meet
      exact HR1.out 1
  case rest =>
  obtain ⟨hR, hO⟩ := hcut
  have d4 : wc.cell? ⟨BB, 4, none⟩ = some (.slice p m pc) := cell_at hR.bb 4
  have e4 : wc.frozen? ⟨BB, 4, none⟩ = false := free_at hR.bb 4
  have hbl := heap_lt hR.bb
  have HR : Aside (R0 B BB wc false idx cnt (.slice (some ⟨g, 0, none⟩) n cap) (.slice p m pc) n m (xs.set (i * 6 + 4) (.int .i64 m)) ps) := hR
  have HO : Aside (Only (foot BB (.slice (some ⟨g, 0, none⟩) n cap) (.slice p m pc)) w wc) := hO
  clear hR hO c0 c1 c4 c5 f4 hy fy HR1
  have HN : ∀ (o : Obj), (wc.alloc o).heap[wc.heap.size]? = some o := fun o => heap_alloc_new wc o
  have k4 : ∀ o, (wc.alloc o).cell? ⟨BB, 4, none⟩ = some (.slice p m pc) := fun o => (World.cell?_of_block (Below.heap_alloc wc o BB hbl)).trans d4
  have l4 : ∀ o, (wc.alloc o).frozen? ⟨BB, 4, none⟩ = false := fun o => (World.frozen?_of_block (Below.heap_alloc wc o BB hbl)).trans e4
  go_wp2_with (at_builtin; refine wpList_append_lies _ rfl _ _ 25 rfl B 3 i0 _ 1 8 Yba.underlying25 hi0 hz0 hz1 hz2 rfl (by omega) (.slice p m pc) m ps rfl (HR.out.op.alloc _) ⟨wc.heap.size, 0, none⟩ 1 1 [.int .i64 i] rfl rfl (World.news_of_block (cs := #[.int .i64 i]) (t := 3) (fr := (0, 0)) (HN _)) (by intro u hu; simp at hu; rw [hu]; rfl) (by omega) (by unfold maxLen; omega) (by omega) (by simp; have := HR.out.hB; omega) (wc.heap.size + 1) (by simp) ?_; intro g2 cap2 w1 hown hgrow hat hlt; have hc4 := (hgrow.cell_far ⟨BB, 4, none⟩ (by simp; omega) (Ne.symm HR.out.d2)).trans (k4 _); have hf4 := (hgrow.frozen_far ⟨BB, 4, none⟩ (by simp; omega) (Ne.symm HR.out.d2)).trans (l4 _))
  go_end0
  have h := HR.out
  have hg2 : g2 ≠ BB := by
    rcases hat with e | e
    · intro x; subst x; exact h.d2 e
    · omega
  have hgl := owns_lt h.os g rfl
  have gB : g ≠ BB := fun e => h.d1 (by rw [← e]; rfl)
  have hgg : g2 ≠ g := by
    rcases hat with e | e
    · intro x; subst x; exact h.d3 g2 rfl e
    · omega
  have eg : w1.heap[g]? = wc.heap[g]? := (hgrow.block g (by simp; omega) (fun e => h.d3 g rfl e.symm)).trans (Below.heap_alloc wc _ g hgl.2)
  have eB : w1.heap[BB]? = wc.heap[BB]? := (hgrow.block BB (by simp; omega) (Ne.symm h.d2)).trans (Below.heap_alloc wc _ BB hbl)
  refine ⟨rfl, .slice (some ⟨g2, 0, none⟩) (m + 1) cap2, ⟨?_, ?_, ?_, h.d1, ?_, ?_, h.hB⟩, ?_, ?_⟩
  · exact heap_set (eB.trans h.bb) 4 _
  · exact owns_block h.os (fun b hb => by
      injection hb with hb
      have hb' : g = b := hb
      subst hb'
      exact (heap_set_ne _ _ _ _ _ gB).trans eg)
  · exact owns_block hown (fun b hb => by
      injection hb with hb
      have hb' : g2 = b := hb
      subst hb'
      exact heap_set_ne _ _ _ _ _ hg2)
  · intro e; injection e with e; exact hg2 e
  · intro b hb e
    injection hb with hb
    injection e with e
    exact hgg (e.trans hb.symm)
  · refine ((HO.out.alloc _).grown hgrow (fun k hk => Or.inl (Or.inr (Or.inr hk)))).setCell (p := ⟨BB, 4, none⟩) (Or.inl (Or.inl rfl)) _
  · rcases hat with e | e
    · left; rw [e]; rfl
    · right
      intro b hb
      injection hb with hb
      have hb' : g2 = b := hb
      have := HO.out.size
      omega
end Go.Proofs.Ybulkbxvg
