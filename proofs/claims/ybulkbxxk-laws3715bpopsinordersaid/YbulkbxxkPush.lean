/-
  The walk of (*byElement).push.
-/
import Derived.Test.YbulkbxxkOrd
import Derived.Deep.RegionHeldLaw
import Derived.Deep.RegionLaw
import Derived.Deep.AppendLies
import Derived.Laws.Pointers
import Derived.Deep.CutRange
import Derived.Deep.Cut
import Derived.Deep.DeepCutAuto
namespace Go.Proofs.Ybulkbxxk
open Go.RowKit Go.Sort
set_option linter.unusedVariables false

def cellsOf (d : Array Iv) : List Value := d.toList.flatMap enc
theorem cellsOf_len (d : Array Iv) : (cellsOf d).length = d.size * 5 := by
  have : ∀ l : List Iv, (l.flatMap enc).length = l.length * 5 := by
    intro l
    induction l with
    | nil => rfl
    | cons x l ih => rw [List.flatMap_cons, List.length_append, ih, enc_len, List.length_cons]; omega
  unfold cellsOf; rw [this, Array.length_toList]
theorem cellsOf_push (d : Array Iv) (x : Iv) : cellsOf (d.push x) = cellsOf d ++ enc x := by simp [cellsOf]
theorem cellsOf_list_get : ∀ (l : List Iv) (i c : Nat) (hi : i < l.length), c < 5 → (l.flatMap enc)[i * 5 + c]? = some (enc l[i])[c]!
  | x :: l, 0, c, hi, hc => by
    rw [List.flatMap_cons, Nat.zero_mul, Nat.zero_add, List.getElem?_append_left (by rw [enc_len]; exact hc)]
    rw [List.getElem?_eq_getElem (by rw [enc_len]; exact hc)]
    simp only [List.getElem_cons_zero]
    rw [getElem!_pos _ _ (by rw [enc_len]; exact hc)]
  | x :: l, i + 1, c, hi, hc => by
    rw [List.flatMap_cons, List.getElem?_append_right (by rw [enc_len]; omega), enc_len, show (i + 1) * 5 + c - 5 = i * 5 + c by omega]
    rw [cellsOf_list_get l i c (by simpa using hi) hc]
    rfl
theorem cellsOf_get (d : Array Iv) (i c : Nat) (hi : i < d.size) (hc : c < 5) : (cellsOf d)[i * 5 + c]? = some (enc d[i]!)[c]! := by
  unfold cellsOf
  rw [cellsOf_list_get d.toList i c (by simpa using hi) hc, getElem!_pos d i hi]
  simp
theorem holds_of_owns {w : World} {base g cap n : Nat} {d : Array Iv} (h : w.ownsRow base 47 5 (.slice (some ⟨g, 0, none⟩) n cap) n (cellsOf d)) (hn : d.size = n) : HoldsK enc 5 w g 0 d :=
  holdsK_of_cells fun i c hi hc => ⟨(h.cellAt (i * 5 + c) (by omega)).trans (cellsOf_get d i c hi hc), h.frozenAt (i * 5 + c)⟩
/-- The row stays one's own where its cells are laid anew. -/
theorem owns_PW {w : World} {base g cap n q : Nat} {d d2 : Array Iv} (h : w.ownsRow base 47 5 (.slice (some ⟨g, 0, none⟩) n cap) n (cellsOf d)) (hn : d.size = n) (hs : d2.size = d.size) : (PW w g q d2).ownsRow base 47 5 (.slice (some ⟨g, 0, none⟩) n cap) n (cellsOf d2) := by
  have hH := holds_of_owns h hn
  have hH2 : HoldsK enc 5 (PW w g q d2) g 0 d2 := PW.holds hH hs
  rcases h.2 with ⟨h1, _⟩ | ⟨g', cap', cur, hv, hb, hh, hle, hmax, hsz, htk⟩
  · simp at h1
  · simp at hv
    obtain ⟨rfl, rfl⟩ := hv
    have hh2 : (PW w g q d2).heap[g]? = some (.cells (putCells id 0 (flatK enc 5 d2) cur) 47 (0, 0)) := by
      show (w.heap.modify g _)[g]? = _
      rw [Array.getElem?_modify, if_pos rfl, hh]
      rfl
    have hsz2 : (putCells id 0 (flatK enc 5 d2) cur).size = cur.size := by simp [putCells]
    refine ⟨by rw [cellsOf_len, hs, hn], Or.inr ⟨g, cap, _, rfl, hb, hh2, hle, hmax, by rw [hsz2, hsz], ?_⟩⟩
    apply List.ext_getElem?
    intro k
    by_cases hk : k < n * 5
    · rw [List.getElem?_take_of_lt hk]
      have hc := (hH2.cell (i := k / 5) (c := k % 5) (by omega) (by omega)).1
      rw [Nat.zero_add, show k / 5 * 5 + k % 5 = k by omega] at hc
      have e1 : (PW w g q d2).cell? ⟨g, k, none⟩ = (putCells id 0 (flatK enc 5 d2) cur)[k]? := by
        simp [World.cell?, hh2]
      rw [e1] at hc
      have e2 := cellsOf_get d2 (k / 5) (k % 5) (by omega) (by omega)
      rw [show k / 5 * 5 + k % 5 = k by omega] at e2
      rw [e2]
      simpa using hc
    · rw [List.getElem?_eq_none (by simp; omega), List.getElem?_eq_none (by rw [cellsOf_len]; omega)]

theorem alloc_drew_cell (W : World) (o : Obj) (a : Addr) (h : a.block < W.heap.size) : (W.alloc o).drew.cell? a = W.cell? a := World.cell?_of_block (Below.heap_alloc W o a.block h)
theorem alloc_drew_frozen (W : World) (o : Obj) (a : Addr) (h : a.block < W.heap.size) : (W.alloc o).drew.frozen? a = W.frozen? a := World.frozen?_of_block (Below.heap_alloc W o a.block h)

theorem owns_block {w w' : World} {base g cap n : Nat} {xs : List Value} (h : w.ownsRow base 47 5 (.slice (some ⟨g, 0, none⟩) n cap) n xs) (hb : w'.heap[g]? = w.heap[g]?) : w'.ownsRow base 47 5 (.slice (some ⟨g, 0, none⟩) n cap) n xs := by
  refine ⟨h.1, ?_⟩
  rcases h.2 with h1 | ⟨g', cap', cur, hv, h2, hh, h3⟩
  · exact Or.inl h1
  · injection hv with e1 e2 e3
    injection e1 with e1
    injection e1 with e1 _ _
    subst e1
    exact Or.inr ⟨g, cap', cur, by rw [e3], h2, hb.trans hh, h3⟩
theorem owns_lt {w : World} {base n : Nat} {v : Value} {xs : List Value} (h : w.ownsRow base 47 5 v n xs) : ∀ k, v.ownBlock = some k → base ≤ k ∧ k < w.heap.size := by
  intro k hk
  rcases h.2 with ⟨h1, _⟩ | ⟨g', cap', cur, hv, h2, hh, h3⟩
  · subst h1; cases hk
  · subst hv
    injection hk with hk
    have e : g' = k := hk
    subst e
    exact ⟨h2, (Array.getElem?_eq_some_iff.1 hh).1⟩
theorem owns_cap {w : World} {base g cap n : Nat} {xs : List Value} (h : w.ownsRow base 47 5 (.slice (some ⟨g, 0, none⟩) n cap) n xs) : n ≤ cap := by
  rcases h.2 with ⟨h1, _⟩ | ⟨g', cap', cur, hv, h2, hh, h3, _⟩
  · simp at h1
  · simp at hv
    obtain ⟨rfl, rfl⟩ := hv
    exact h3

/-- The heap that h points to: block H holds the slice; its row is one's own and holds d. -/
structure HeapIs (base H : Nat) (w0 w : World) (g cap n : Nat) (d : Array Iv) : Prop where
  cell : w.cell? ⟨H, 0, none⟩ = some (.slice (some ⟨g, 0, none⟩) n cap)
  free : w.frozen? ⟨H, 0, none⟩ = false
  own : w.ownsRow base 47 5 (.slice (some ⟨g, 0, none⟩) n cap) n (cellsOf d)
  ne : g ≠ H
  lt : H < w.heap.size
  below : Below base w0 w

set_option maxRecDepth 100000 in
set_option maxHeartbeats 4000000 in
theorem push_any (H n base : Nat) (v : Value) (d : Array Iv) (x1 : Nat) (x2 : Int) (w : World) (hc : w.cell? ⟨H, 0, none⟩ = some v) (hf : w.frozen? ⟨H, 0, none⟩ = false) (hown : w.ownsRow base 47 5 v n (cellsOf d)) (hn : d.size = n) (hH : H < w.heap.size) (hbH : base ≤ H) (hvH : v.ownBlock ≠ some H) (hn1 : n + 1 ≤ 1024) :
    Calls Yba.prog 12 #[.pointer (some ⟨H, 0, none⟩), .agg #[.int .u64 0, .int .u64 x1, .int .u64 0, .int .u64 x1, .int .i32 x2]] w fun e w' => e = .returned (.tuple #[]) ∧ ∃ g cap, HeapIs base H w w' g cap (n + 1) (pushF d (x1, x2)) := by
  obtain ⟨i0, hi, hz0, hz1, hz2⟩ := info_parts Yba.info47
  obtain ⟨W, hW⟩ : ∃ W, W = w.alloc (.cells #[.int .u64 0, .int .u64 x1, .int .u64 0, .int .u64 x1, .int .i32 x2] 47) := ⟨_, rfl⟩
  obtain ⟨Q, hQ⟩ : ∃ Q, Q = w.heap.size := ⟨_, rfl⟩
  have cH : W.cell? ⟨H, 0, none⟩ = some v := by rw [hW]; exact (World.cell?_of_block (Below.heap_alloc w _ H hH)).trans hc
  have fH : W.frozen? ⟨H, 0, none⟩ = false := by rw [hW]; exact (World.frozen?_of_block (Below.heap_alloc w _ H hH)).trans hf
  have cQ : ∀ j u, (enc (x1, x2))[j]? = some u → W.cell? ⟨Q, j, none⟩ = some u := fun j u hu => by rw [hW, hQ]; simpa [enc] using hu
  have c0 := cQ 0 _ rfl
  have c1 := cQ 1 _ rfl
  have c2 := cQ 2 _ rfl
  have c3 := cQ 3 _ rfl
  have c4 := cQ 4 _ rfl
  have hO : W.ownsRow base 47 5 v n (cellsOf d) := by rw [hW]; exact hown.alloc _
  have sW : W.heap.size = Q + 1 := by rw [hW, hQ]; simp
  have bW : Below base w W := by rw [hW]; exact (Below.refl _ _).alloc (by omega) _
  have HWW : Aside (w.alloc (.cells #[.int .u64 0, .int .u64 x1, .int .u64 0, .int .u64 x1, .int .i32 x2] 47) = W) := hW.symm
  have HQ : Aside (w.heap.size = Q) := hQ.symm
  have hHQ : H < Q := by omega
  have HO : Aside (W.ownsRow base 47 5 v n (cellsOf d)) := hO
  have HBW : Aside (Below base w W) := bW
  have HV : Aside (v.ownBlock ≠ some H) := hvH
  have HVQ : Aside (v.ownBlock ≠ some Q) := by
    show v.ownBlock ≠ some Q
    intro e
    rcases hown.2 with ⟨h1, _⟩ | ⟨g', cap', cur, hv, hg, hh, _⟩
    · subst h1; cases e
    · subst hv
      injection e with e
      have := (Array.getElem?_eq_some_iff.1 hh).1
      have e' : g' = Q := e
      omega
  clear hW hQ hO bW cQ hvH hown hc hf
  have lH := World.block_lt_of_cell? W _ cH
  have lQ := World.block_lt_of_cell? W _ c0
  have nH : ¬ H = W.heap.size := by simp at lH; omega
  have nH' : ¬ W.heap.size = H := by omega
  have nQ : ¬ Q = W.heap.size := by omega
  have nQ' : ¬ W.heap.size = Q := by omega
  go_enter Yba.func12, Yba.ntmps12
  go_upto_region 1 with fail
  rw [HWW.out, HQ.out]
  have kH : ∀ (o : Obj), (W.alloc o).cell? ⟨H, 0, none⟩ = some v := fun o => (alloc_drew_cell W o ⟨H, 0, none⟩ lH).trans cH
  have HN : ∀ (o : Obj), (W.alloc o).heap[Q + 1]? = some o := fun o => by rw [← sW]; exact heap_alloc_new W o
  have HFIN : Aside (∀ (o : Obj) (g cap : Nat) (w1 : World), w1.ownsRow base 47 5 (.slice (some ⟨g, 0, none⟩) (n + 1) cap) (n + 1) (cellsOf d ++ enc (x1, x2)) → (W.alloc o).drew.grownBy w1 v.ownBlock → (v.ownBlock = some g ∨ g = W.heap.size + 1) →
      w1.cell? ⟨H, 0, none⟩ = some v → w1.frozen? ⟨H, 0, none⟩ = false → HeapIs base H w (w1.setCell ⟨H, 0, none⟩ (.slice (some ⟨g, 0, none⟩) (n + 1) cap)) g cap (n + 1) (d.push (x1, x2))) := by
    intro o g cap w1 ho hg ha h1 h2
    have gH : g ≠ H := by
      rcases ha with e | e
      · intro e2; subst e2; exact HV.out e
      · omega
    have b1 : Below base w w1 := (HBW.out.alloc (by omega) o).drew.grown hg (by simp; omega) (fun k hk => (owns_lt HO.out k hk).1)
    have s1 : W.heap.size ≤ w1.heap.size := by have := hg.size; simp at this; omega
    refine ⟨World.cell?_setCell_same _ _ _ h1, by rw [World.frozen?_setCell]; exact h2, ?_, gH, ?_, ?_⟩
    · rw [cellsOf_push]; exact owns_block ho (Below.heap_setCell _ _ _ _ gH)
    · rw [World.size_setCell]; omega
    · exact b1.setCell hbH _
  go_cut [] (fun wx => ∃ g cap, HeapIs base H w wx g cap (n + 1) (d.push (x1, x2)))
  case first =>
   go_region_law
     ((refine step_append_lies _ (by rfl) _ _ _ (by rfl) base 47 i0 _ 5 40 Yba.underlying41 hi hz0 hz1 hz2 rfl (by omega) v n (cellsOf d) (by rfl) ((HO.out.alloc _).drew)
         ⟨Q + 1, 0, none⟩ 1 1 (enc (x1, x2)) (by rfl) (by rfl) (World.news_of_block (cs := #[.int .u64 0, .int .u64 x1, .int .u64 0, .int .u64 x1, .int .i32 x2]) (t := 47) (fr := (0, 0)) (HN _)) (by intro u hu; simp [enc] at hu; rcases hu with rfl | rfl | rfl | rfl | rfl <;> rfl)
         (by omega) (by unfold maxLen; omega) (by omega) (by simp; omega) (W.heap.size + 1) (by simp) ?_; intro g cap w1 hown1 hgrow hat hlt
       have hcH : w1.cell? ⟨H, 0, none⟩ = some v := (hgrow.cell_far ⟨H, 0, none⟩ (by simp; omega) (Ne.symm HV.out)).trans (kH _)
       have hfr : w1.frozen? ⟨H, 0, none⟩ = false := (hgrow.frozen_far ⟨H, 0, none⟩ (by simp; omega) (Ne.symm HV.out)).trans ((alloc_drew_frozen W _ _ lH).trans fH)))
   all_goals
     go_wp2_with fail
     go_meet
     exact ⟨_, _, HFIN.out _ _ _ _ hown1 hgrow hat hcH hfr⟩
  case rest =>
  obtain ⟨g, cap, hJ⟩ := hcut
  have HJ : Aside (HeapIs base H w wc g cap (n + 1) (d.push (x1, x2))) := hJ
  have cJ := hJ.cell
  have hs1 : (d.push (x1, x2)).size = n + 1 := by rw [Array.size_push, hn]
  clear hJ HFIN kH HN cH fH c0 c1 c2 c3 c4 lH lQ HO HBW HV HVQ HWW
  by_cases h0 : n = 0
  · subst h0
    have HP : Aside (pushF d (x1, x2) = d.push (x1, x2)) := by
      show pushF d (x1, x2) = _
      unfold pushF; rw [hn, if_neg (by omega)]
    go_wp2_with fail
    go_end0
    exact ⟨rfl, g, cap, by rw [HP.out]; exact HJ.out⟩
  · have HP : Aside (pushF d (x1, x2) = fixF (d.push (x1, x2)) n) := by
      show pushF d (x1, x2) = _
      unfold pushF; rw [hn, if_pos (by omega)]
    have h1 : (1 : Int) < (n : Int) + 1 := by omega
    have HFX : Aside (∀ (vi : Int), vi = n → Calls Yba.prog 28 #[.iface 115 (.pointer (some ⟨H, 0, none⟩)), .int .i64 vi] wc fun e w' => e = .returned (.tuple #[]) ∧ ∃ q, w' = PW wc g q (fixF (d.push (x1, x2)) n)) := fun vi e => by
      subst e
      exact fix_any H g cap (n + 1) n (d.push (x1, x2)) wc (fun e => HJ.out.ne e.symm) (owns_lt HJ.out.own g rfl).2 HJ.out.cell (holds_of_owns HJ.out.own hs1) hs1 (by omega) (owns_cap HJ.out.own) (by omega)
    go_wp2_with fail
    refine (HFX.out _ (by omega)).mono ?_
    rintro e w3 ⟨rfl, q, rfl⟩
    go_wp2_with fail
    go_end0
    refine ⟨rfl, g, cap, ?_⟩
    rw [HP.out]
    have j := HJ.out
    exact ⟨by rw [PW.cell _ _ _ _ _ (fun e => j.ne e.symm)]; exact j.cell, by rw [PW.frozen _ _ _ _ _ (fun e => j.ne e.symm)]; exact j.free, owns_PW j.own hs1 (fixF_size _ _), j.ne, by rw [size_PW]; exact j.lt,
      j.below.trans ⟨rfl, rfl, rfl, by rw [size_PW]; exact Nat.le_refl _, fun k hk => heap_PW wc g q k _ (by have := (owns_lt j.own g rfl).1; omega)⟩⟩
end Go.Proofs.Ybulkbxxk
