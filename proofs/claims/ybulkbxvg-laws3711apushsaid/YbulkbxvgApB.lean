/-
  What the law keeps beside its backlog.
-/
import Derived.Test.YbulkbxvgApA
namespace Go.Proofs.Ybulkbxvg
open Go.RowKit
set_option linter.unusedVariables false

theorem R0.keep {B BB : Nat} {w wx : World} {fifo idx : Bool} {cnt : Nat} {vs vp : Value} {n m : Nat} {xs ps : List Value} {lab : Nat → Nat} (h : R0 B BB w fifo idx cnt vs vp n m xs ps) (hl : LB B BB w lab vs vp) (hk : ∀ b, lab b ≠ 0 → wx.heap[b]? = w.heap[b]?) (hs : w.heap.size ≤ wx.heap.size) :
    R0 B BB wx fifo idx cnt vs vp n m xs ps ∧ LB B BB wx lab vs vp :=
  ⟨⟨(hk _ (by rw [hl.lb]; omega)).trans h.bb, owns_block h.os (fun g e => hk _ (by rw [hl.ls g e]; omega)), owns_block h.op (fun g e => hk _ (by rw [hl.la g e]; omega)), h.d1, h.d2, h.d3, h.hB⟩, hl.lb, hl.ls, hl.la, fun b hb => ⟨(hl.lt b hb).1, Nat.lt_of_lt_of_le (hl.lt b hb).2 hs⟩⟩
theorem ST.keep {B BB : Nat} {F T : Nat → Nat} {fifo : Bool} {k : Nat} {lab : Nat → Nat} {w wx : World} (h : ST B BB F T fifo k lab w) (hk : ∀ b, lab b ≠ 0 → wx.heap[b]? = w.heap[b]?) (hs : w.heap.size ≤ wx.heap.size) : ST B BB F T fifo k lab wx := by
  rcases h with ⟨hf, hk2, vs, vp, xs, hr, hsl, hl⟩ | ⟨hf, hk2, vs, vp, xs, hr, hsl, hl⟩ | ⟨hf, hk2, vs, xs, hr, hsl, hl⟩ | ⟨hf, hk2, M, vs, va, qb, qv, xs, es, clock, hq⟩
  · obtain ⟨h1, h2⟩ := hr.keep hl hk hs
    exact Or.inl ⟨hf, hk2, vs, vp, xs, h1, hsl, h2⟩
  · obtain ⟨h1, h2⟩ := hr.keep hl hk hs
    exact Or.inr (Or.inl ⟨hf, hk2, vs, vp, xs, h1, hsl, h2⟩)
  · obtain ⟨h1, h2⟩ := hr.keep hl hk hs
    exact Or.inr (Or.inr (Or.inl ⟨hf, hk2, vs, xs, h1, hsl, h2⟩))
  · exact Or.inr (Or.inr (Or.inr ⟨hf, hk2, M, vs, va, qb, qv, xs, es, clock, hq.keep hk hs⟩))
/-- What every state shows of the block. -/
theorem ST.shows {B BB : Nat} {F T : Nat → Nat} {fifo : Bool} {k : Nat} {lab : Nat → Nat} {w : World} (h : ST B BB F T fifo k lab w) : ∃ p cap vp vm held va, w.heap[BB]? = some (.cells (bbCells fifo (.slice p k cap) k (decide (32 < k)) vp vm held va) 29 (0, 0)) := by
  rcases h with ⟨hf, hk2, vs, vp, xs, hr, hsl, hl⟩ | ⟨hf, hk2, vs, vp, xs, hr, hsl, hl⟩ | ⟨hf, hk2, vs, xs, hr, hsl, hl⟩ | ⟨hf, hk2, M, vs, va, qb, qv, xs, es, clock, hq⟩
  · obtain ⟨p, cap, rfl⟩ := owns_slice hr.os
    rw [decide_eq_false (by omega), hf]
    exact ⟨p, cap, _, _, _, _, hr.bb⟩
  · obtain ⟨p, cap, rfl⟩ := owns_slice hr.os
    rw [decide_eq_true (by omega), hf]
    exact ⟨p, cap, _, _, _, _, hr.bb⟩
  · obtain ⟨p, cap, rfl⟩ := owns_slice hr.os
    rw [decide_eq_false (by omega), hf]
    exact ⟨p, cap, _, _, _, _, hr.bb⟩
  · obtain ⟨p, cap, rfl⟩ := owns_slice hq.os
    rw [decide_eq_true (by omega), hf]
    exact ⟨p, cap, _, _, _, _, hq.bb⟩
theorem ST.labs {B BB : Nat} {F T : Nat → Nat} {fifo : Bool} {k : Nat} {lab : Nat → Nat} {w : World} (h : ST B BB F T fifo k lab w) : lab BB = 1 ∧ ∀ b, lab b ≠ 0 → B ≤ b ∧ b < w.heap.size := by
  rcases h with ⟨hf, hk2, vs, vp, xs, hr, hsl, hl⟩ | ⟨hf, hk2, vs, vp, xs, hr, hsl, hl⟩ | ⟨hf, hk2, vs, xs, hr, hsl, hl⟩ | ⟨hf, hk2, M, vs, va, qb, qv, xs, es, clock, hq⟩
  · exact ⟨hl.lb, hl.lt⟩
  · exact ⟨hl.lb, hl.lt⟩
  · exact ⟨hl.lb, hl.lt⟩
  · exact ⟨hq.lb, hq.lt⟩

/-- A block of n numbers, of which the first k are told. -/
def RowN (w : World) (b n : Nat) (f : Nat → Nat) (k : Nat) : Prop := ∃ cs t, w.heap[b]? = some (.cells cs t (0, 0)) ∧ cs.size = n ∧ ∀ j, j < k → cs[j]? = some (.int .i64 (f j))
theorem RowN.keep {w wx : World} {b n : Nat} {f : Nat → Nat} {k : Nat} (h : RowN w b n f k) (hk : wx.heap[b]? = w.heap[b]?) : RowN wx b n f k := by
  obtain ⟨cs, t, h1, h2, h3⟩ := h
  exact ⟨cs, t, hk.trans h1, h2, h3⟩
theorem RowN.get {w : World} {b n : Nat} {f : Nat → Nat} {k : Nat} (h : RowN w b n f k) {j : Nat} (hj : j < k) : w.cell? ⟨b, j, none⟩ = some (.int .i64 (f j)) := by
  obtain ⟨cs, t, h1, h2, h3⟩ := h
  exact (cell_at h1 j).trans (h3 j hj)
theorem RowN.free {w : World} {b n : Nat} {f : Nat → Nat} {k : Nat} (h : RowN w b n f k) (j : Nat) : w.frozen? ⟨b, j, none⟩ = false := by
  obtain ⟨cs, t, h1, h2, h3⟩ := h
  exact free_at h1 j
theorem RowN.room {w : World} {b n : Nat} {f : Nat → Nat} {k : Nat} (h : RowN w b n f k) {j : Nat} (hj : j < n) : ∃ y, w.cell? ⟨b, j, none⟩ = some y := by
  obtain ⟨cs, t, h1, h2, h3⟩ := h
  exact ⟨cs[j]'(by omega), (cell_at h1 j).trans (Array.getElem?_eq_getElem _)⟩
theorem RowN.put {w : World} {b n : Nat} {f : Nat → Nat} {k : Nat} (h : RowN w b n f k) (hk : k < n) : RowN (w.setCell ⟨b, k, none⟩ (.int .i64 (f k))) b n f (k + 1) := by
  obtain ⟨cs, t, h1, h2, h3⟩ := h
  refine ⟨_, t, heap_set h1 k _, by simpa using h2, fun j hj => ?_⟩
  rw [Array.getElem?_setIfInBounds]
  by_cases e : k = j
  · subst e; rw [if_pos rfl, if_pos (by omega)]
  · rw [if_neg e]; exact h3 j (by omega)
theorem RowN.set {w : World} {b n : Nat} {f f' : Nat → Nat} {k : Nat} (h : RowN w b n f k) {i : Nat} (hi : i < n) (v : Nat) (hf : ∀ j, j < k → f' j = upd f i v j) : RowN (w.setCell ⟨b, i, none⟩ (.int .i64 v)) b n f' k := by
  obtain ⟨cs, t, h1, h2, h3⟩ := h
  refine ⟨_, t, heap_set h1 i _, by simpa using h2, fun j hj => ?_⟩
  rw [Array.getElem?_setIfInBounds, hf j hj]
  by_cases e : i = j
  · subst e; rw [if_pos rfl, if_pos (by omega), upd_same]
  · rw [if_neg e, upd_ne _ _ _ (Ne.symm e)]; exact h3 j hj
theorem RowN.lt {w : World} {b n : Nat} {f : Nat → Nat} {k : Nat} (h : RowN w b n f k) : b < w.heap.size := by
  obtain ⟨cs, t, h1, h2, h3⟩ := h
  exact heap_lt h1

def plc (F T : Nat → Nat) (fifo : Bool) (j : Nat) : Nat := if fifo then pf F T j else 0
def sc (F T : Nat → Nat) (k c : Nat) : Nat := (ixs (chn F T) c k).length

/-- The law's rows: k rounds are told in them. -/
structure LR (B SN PL CH FR TO n : Nat) (F T : Nat → Nat) (fifo : Bool) (k : Nat) (vfo : Value) (lab : Nat → Nat) (wx : World) : Prop where
  sn : RowN wx SN 16 (sc F T k) 16
  pl : RowN wx PL n (plc F T fifo) k
  ch : RowN wx CH n (chn F T) k
  fr : RowN wx FR n F k
  tt : RowN wx TO n T k
  fw : wx.ownsRow B 3 1 vfo (fo (chn F T) k).length (ints (fo (chn F T) k))
  l0 : ∀ b, b = SN ∨ b = PL ∨ b = CH ∨ b = FR ∨ b = TO → lab b = 0
  lf : ∀ g, vfo.ownBlock = some g → lab g = 0 ∧ g ≠ SN ∧ g ≠ PL ∧ g ≠ CH ∧ g ≠ FR ∧ g ≠ TO
  lt : ∀ b, b = SN ∨ b = PL ∨ b = CH ∨ b = FR ∨ b = TO → B ≤ b
theorem LR.keep {B SN PL CH FR TO n : Nat} {F T : Nat → Nat} {fifo : Bool} {k : Nat} {vfo : Value} {lab : Nat → Nat} {w wx : World} (h : LR B SN PL CH FR TO n F T fifo k vfo lab w) (hk : ∀ b, b < w.heap.size → lab b = 0 → wx.heap[b]? = w.heap[b]?) : LR B SN PL CH FR TO n F T fifo k vfo lab wx :=
  ⟨h.sn.keep (hk _ h.sn.lt (h.l0 _ (by simp))), h.pl.keep (hk _ h.pl.lt (h.l0 _ (by simp))), h.ch.keep (hk _ h.ch.lt (h.l0 _ (by simp))), h.fr.keep (hk _ h.fr.lt (h.l0 _ (by simp))), h.tt.keep (hk _ h.tt.lt (h.l0 _ (by simp))), owns_block h.fw (fun g e => hk _ (owns_lt h.fw g e).2 (h.lf g e).1), h.l0, h.lf, h.lt⟩
theorem LR.relab {B SN PL CH FR TO n : Nat} {F T : Nat → Nat} {fifo : Bool} {k : Nat} {vfo : Value} {lab lab' : Nat → Nat} {w : World} (h : LR B SN PL CH FR TO n F T fifo k vfo lab w) (hl : ∀ b, b < w.heap.size → lab' b = lab b) : LR B SN PL CH FR TO n F T fifo k vfo lab' w := by
  refine ⟨h.sn, h.pl, h.ch, h.fr, h.tt, h.fw, ?_, ?_, h.lt⟩
  · rintro b (e | e | e | e | e)
    · rw [hl b (by rw [e]; exact h.sn.lt)]; exact h.l0 b (by simp [e])
    · rw [hl b (by rw [e]; exact h.pl.lt)]; exact h.l0 b (by simp [e])
    · rw [hl b (by rw [e]; exact h.ch.lt)]; exact h.l0 b (by simp [e])
    · rw [hl b (by rw [e]; exact h.fr.lt)]; exact h.l0 b (by simp [e])
    · rw [hl b (by rw [e]; exact h.tt.lt)]; exact h.l0 b (by simp [e])
  · intro g e
    have := h.lf g e
    rw [hl g (owns_lt h.fw g e).2]; exact this

/-- Between rounds. -/
structure LW (B BB SN PL CH FR TO n : Nat) (F T : Nat → Nat) (fifo : Bool) (w : World) (k : Nat) (vfo : Value) (lab : Nat → Nat) (wx : World) : Prop where
  st : ST B BB F T fifo k lab wx
  lr : LR B SN PL CH FR TO n F T fifo k vfo lab wx
  be : Below B w wx
theorem LW.keep {B BB SN PL CH FR TO n : Nat} {F T : Nat → Nat} {fifo : Bool} {w : World} {k : Nat} {vfo : Value} {lab : Nat → Nat} {wx wy : World} (h : LW B BB SN PL CH FR TO n F T fifo w k vfo lab wx) (ho : Only (fun _ => False) wx wy) : LW B BB SN PL CH FR TO n F T fifo w k vfo lab wy :=
  ⟨h.st.keep (fun b hb => ho.block b (h.st.labs.2 b hb).2 (fun x => x)) ho.size, h.lr.keep (fun b hb _ => ho.block b hb (fun x => x)), h.be.trans (ho.below (by have := h.st.labs; have := this.2 BB (by omega); omega) (fun _ x => x.elim))⟩

/-- One round: the law's rows (c the channel, vfo' the list of first channels), then push. -/
theorem LR.round {B SN PL CH FR TO n : Nat} {F T : Nat → Nat} {fifo : Bool} {k : Nat} {vfo vfo' : Value} {lab : Nat → Nat} {w w1 : World} (h : LR B SN PL CH FR TO n F T fifo k vfo lab w) (hk : k < n) (hd : SN ≠ PL ∧ SN ≠ CH ∧ SN ≠ FR ∧ SN ≠ TO ∧ PL ≠ CH ∧ PL ≠ FR ∧ PL ≠ TO ∧ CH ≠ FR ∧ CH ≠ TO ∧ FR ≠ TO) (hc : chn F T k < 16)
    (ho : Only (fun b => vfo.ownBlock = some b) w w1) (hf : w1.ownsRow B 3 1 vfo' (fo (chn F T) (k + 1)).length (ints (fo (chn F T) (k + 1)))) (hn : vfo'.ownBlock = vfo.ownBlock ∨ ∀ g, vfo'.ownBlock = some g → w.heap.size ≤ g) (hlt : ∀ b, lab b ≠ 0 → b < w.heap.size)
    (p v : Int) (hp : p = plc F T fifo k) (hv : v = sc F T k (chn F T k) + 1) (W : World) (hW : W = ((((w1.setCell ⟨SN, chn F T k, none⟩ (.int .i64 v)).setCell ⟨CH, k, none⟩ (.int .i64 (chn F T k))).setCell ⟨PL, k, none⟩ (.int .i64 p)).setCell ⟨FR, k, none⟩ (.int .i64 (F k))).setCell ⟨TO, k, none⟩ (.int .i64 (T k))) :
    LR B SN PL CH FR TO n F T fifo (k + 1) vfo' lab W ∧ Only (fun b => lab b = 0 ∧ B ≤ b) w W := by
  obtain ⟨n1, n2, n3, n4, n5, n6, n7, n8, n9, n10⟩ := hd
  have f1 : ∀ b, b = SN ∨ b = PL ∨ b = CH ∨ b = FR ∨ b = TO → ∀ g, vfo'.ownBlock = some g → g ≠ b := by
    intro b hb g e x
    subst x
    rcases hn with y | y
    · obtain ⟨_, z1, z2, z3, z4, z5⟩ := h.lf g (by rw [← y]; exact e)
      rcases hb with x | x | x | x | x <;> contradiction
    · have z := y g e
      rcases hb with x | x | x | x | x
      · have := h.sn.lt; omega
      · have := h.pl.lt; omega
      · have := h.ch.lt; omega
      · have := h.fr.lt; omega
      · have := h.tt.lt; omega
  have k1 : ∀ b, b < w.heap.size → b = SN ∨ b = PL ∨ b = CH ∨ b = FR ∨ b = TO → w1.heap[b]? = w.heap[b]? := fun b hb hx => ho.block b hb (fun e => by
    obtain ⟨_, z1, z2, z3, z4, z5⟩ := h.lf b e
    rcases hx with x | x | x | x | x <;> contradiction)
  have sn1 := h.sn.keep (k1 _ h.sn.lt (by simp))
  have pl1 := h.pl.keep (k1 _ h.pl.lt (by simp))
  have ch1 := h.ch.keep (k1 _ h.ch.lt (by simp))
  have fr1 := h.fr.keep (k1 _ h.fr.lt (by simp))
  have tt1 := h.tt.keep (k1 _ h.tt.lt (by simp))
  have hv' : v = ((sc F T k (chn F T k) + 1 : Nat) : Int) := by rw [hv]; rfl
  have hsc : ∀ j, j < 16 → sc F T (k + 1) j = upd (sc F T k) (chn F T k) (sc F T k (chn F T k) + 1) j := by
    intro j hj
    unfold sc
    rw [ixs]
    by_cases e : chn F T k = j
    · subst e; rw [if_pos rfl, upd_same]; simp
    · rw [if_neg e, upd_ne _ _ _ (Ne.symm e)]
  subst hp hv'
  generalize e1 : w1.setCell ⟨SN, chn F T k, none⟩ (.int .i64 ((sc F T k (chn F T k) + 1 : Nat) : Int)) = W1 at hW
  generalize e2 : W1.setCell ⟨CH, k, none⟩ (.int .i64 (chn F T k)) = W2 at hW
  generalize e3 : W2.setCell ⟨PL, k, none⟩ (.int .i64 (plc F T fifo k)) = W3 at hW
  generalize e4 : W3.setCell ⟨FR, k, none⟩ (.int .i64 (F k)) = W4 at hW
  have s1 : ∀ b, b ≠ SN → W1.heap[b]? = w1.heap[b]? := fun b hb => by rw [← e1]; exact heap_set_ne _ _ _ _ _ hb
  have s2 : ∀ b, b ≠ CH → W2.heap[b]? = W1.heap[b]? := fun b hb => by rw [← e2]; exact heap_set_ne _ _ _ _ _ hb
  have s3 : ∀ b, b ≠ PL → W3.heap[b]? = W2.heap[b]? := fun b hb => by rw [← e3]; exact heap_set_ne _ _ _ _ _ hb
  have s4 : ∀ b, b ≠ FR → W4.heap[b]? = W3.heap[b]? := fun b hb => by rw [← e4]; exact heap_set_ne _ _ _ _ _ hb
  have s5 : ∀ b, b ≠ TO → W.heap[b]? = W4.heap[b]? := fun b hb => by rw [hW]; exact heap_set_ne _ _ _ _ _ hb
  refine ⟨⟨?_, ?_, ?_, ?_, ?_, ?_, h.l0, ?_, h.lt⟩, ?_⟩
  · have : RowN W1 SN 16 (sc F T (k + 1)) 16 := by rw [← e1]; exact sn1.set hc _ hsc
    exact this.keep (by rw [s5 _ n4, s4 _ n3, s3 _ n1, s2 _ n2])
  · have : RowN W3 PL n (plc F T fifo) (k + 1) := by rw [← e3]; exact RowN.put (pl1.keep (by rw [s2 _ n5, s1 _ (Ne.symm n1)])) hk
    exact this.keep (by rw [s5 _ n7, s4 _ n6])
  · have : RowN W2 CH n (chn F T) (k + 1) := by rw [← e2]; exact RowN.put (ch1.keep (by rw [s1 _ (Ne.symm n2)])) hk
    exact this.keep (by rw [s5 _ n9, s4 _ n8, s3 _ (Ne.symm n5)])
  · have : RowN W4 FR n F (k + 1) := by rw [← e4]; exact RowN.put (fr1.keep (by rw [s3 _ (Ne.symm n6), s2 _ (Ne.symm n8), s1 _ (Ne.symm n3)])) hk
    exact this.keep (by rw [s5 _ n10])
  · rw [hW]; exact RowN.put (tt1.keep (by rw [s4 _ (Ne.symm n10), s3 _ (Ne.symm n7), s2 _ (Ne.symm n9), s1 _ (Ne.symm n4)])) hk
  · refine owns_block hf (fun g e => ?_)
    rw [s5 _ (f1 TO (by simp) g e), s4 _ (f1 FR (by simp) g e), s3 _ (f1 PL (by simp) g e), s2 _ (f1 CH (by simp) g e), s1 _ (f1 SN (by simp) g e)]
  · intro g e
    refine ⟨?_, f1 SN (by simp) g e, f1 PL (by simp) g e, f1 CH (by simp) g e, f1 FR (by simp) g e, f1 TO (by simp) g e⟩
    rcases hn with y | y
    · exact (h.lf g (by rw [← y]; exact e)).1
    · have z := y g e
      rcases Nat.eq_zero_or_pos (lab g) with x | x
      · exact x
      · have := hlt g (by omega)
        omega
  · have ho' : Only (fun b => lab b = 0 ∧ B ≤ b) w w1 := ho.mono (fun b _ e => ⟨(h.lf b e).1, (owns_lt h.fw b e).1⟩)
    rw [hW, ← e4, ← e3, ← e2, ← e1]
    exact ((((ho'.setCell (p := ⟨SN, chn F T k, none⟩) (Or.inl ⟨h.l0 SN (by simp), h.lt SN (by simp)⟩) _).setCell (p := ⟨CH, k, none⟩) (Or.inl ⟨h.l0 CH (by simp), h.lt CH (by simp)⟩) _).setCell (p := ⟨PL, k, none⟩) (Or.inl ⟨h.l0 PL (by simp), h.lt PL (by simp)⟩) _).setCell (p := ⟨FR, k, none⟩) (Or.inl ⟨h.l0 FR (by simp), h.lt FR (by simp)⟩) _).setCell (p := ⟨TO, k, none⟩) (Or.inl ⟨h.l0 TO (by simp), h.lt TO (by simp)⟩) _

theorem mem_sc (F T : Nat → Nat) (c : Nat) : ∀ k, c ∈ fo (chn F T) k ↔ 0 < sc F T k c := by
  intro k
  constructor
  · intro h
    obtain ⟨j, hj, e⟩ := fo_of_mem _ _ _ h
    have : ∀ m, j < m → 0 < sc F T m c := by
      intro m
      induction m with
      | zero => intro h; omega
      | succ m ih =>
        intro h
        unfold sc
        rw [ixs]
        by_cases e2 : chn F T m = c
        · rw [if_pos e2]; simp
        · rw [if_neg e2]
          exact ih (by
            by_cases e3 : j = m
            · subst e3; exact absurd e e2
            · omega)
    exact this k hj
  · intro h
    by_cases m : c ∈ fo (chn F T) k
    · exact m
    · unfold sc at h
      rw [ixs_not _ _ _ m] at h
      simp at h

def wantP (F T : Nat → Nat) (fifo bx : Bool) (j : Nat) : Nat := if !fifo && bx then j else plc F T fifo j
/-- What every state shows of the slots. -/
theorem ST.view {B BB : Nat} {F T : Nat → Nat} {fifo : Bool} {k : Nat} {lab : Nat → Nat} {w : World} (h : ST B BB F T fifo k lab w) :
    ∃ vs xs Q vp vm held va, w.heap[BB]? = some (.cells (bbCells fifo vs k (decide (32 < k)) vp vm held va) 29 (0, 0)) ∧ w.ownsRow B 41 6 vs k xs ∧ Slots xs k F T (wantP F T fifo (decide (32 < k))) Q := by
  rcases h with ⟨hf, hk2, vs, vp, xs, hr, hsl, hl⟩ | ⟨hf, hk2, vs, vp, xs, hr, hsl, hl⟩ | ⟨hf, hk2, vs, xs, hr, hsl, hl⟩ | ⟨hf, hk2, M, vs, va, qb, qv, xs, es, clock, hq⟩
  · rw [decide_eq_false (by omega), hf]
    exact ⟨vs, xs, _, _, _, _, _, hr.bb, hr.os, hsl.same (fun j hj => by simp [wantP, plc, pn]) (fun _ _ => rfl)⟩
  · rw [decide_eq_true (by omega), hf]
    exact ⟨vs, xs, _, _, _, _, _, hr.bb, hr.os, hsl.same (fun j hj => by simp [wantP, pn, hj]) (fun _ _ => rfl)⟩
  · rw [decide_eq_false (by omega), hf]
    exact ⟨vs, xs, _, _, _, _, _, hr.bb, hr.os, hsl.same (fun j hj => by simp [wantP, plc]) (fun _ _ => rfl)⟩
  · rw [decide_eq_true (by omega), hf]
    exact ⟨vs, xs, _, _, _, _, _, hq.bb, hq.os, hq.sl.same (fun j hj => by simp [wantP, plc]) (fun _ _ => rfl)⟩
/-- No queues. -/
theorem ST.plain {B BB : Nat} {F T : Nat → Nat} {fifo : Bool} {k : Nat} {lab : Nat → Nat} {w : World} (h : ST B BB F T fifo k lab w) (hx : (fifo && decide (32 < k)) = false) :
    ∃ vs xs vp m P, w.heap[BB]? = some (.cells (bbCells fifo vs k (decide (32 < k)) vp (.map none) 0 (.slice none 0 0)) 29 (0, 0)) ∧ w.ownsRow B 41 6 vs k xs ∧ Slots xs k F T P (fun _ => .pointer none) ∧ w.ownsRow B 3 1 vp m (ints (List.range m)) ∧ m = if !fifo && decide (32 < k) then k else 0 := by
  rcases h with ⟨hf, hk2, vs, vp, xs, hr, hsl, hl⟩ | ⟨hf, hk2, vs, vp, xs, hr, hsl, hl⟩ | ⟨hf, hk2, vs, xs, hr, hsl, hl⟩ | ⟨hf, hk2, M, vs, va, qb, qv, xs, es, clock, hq⟩
  · rw [decide_eq_false (by omega), hf]
    exact ⟨vs, xs, vp, 0, _, hr.bb, hr.os, hsl, hr.op, rfl⟩
  · rw [decide_eq_true (by omega), hf]
    exact ⟨vs, xs, vp, k, _, hr.bb, hr.os, hsl, hr.op, rfl⟩
  · rw [decide_eq_false (by omega), hf]
    exact ⟨vs, xs, _, 0, _, hr.bb, hr.os, hsl, hr.op, rfl⟩
  · rw [hf, decide_eq_true hk2] at hx
    cases hx
theorem ST.pool {B BB : Nat} {F T : Nat → Nat} {fifo : Bool} {k : Nat} {lab : Nat → Nat} {w : World} (h : ST B BB F T fifo k lab w) :
    ∃ vs vp vm held va m, w.heap[BB]? = some (.cells (bbCells fifo vs k (decide (32 < k)) vp vm held va) 29 (0, 0)) ∧ w.ownsRow B 3 1 vp m (ints (List.range m)) ∧ m = if !fifo && decide (32 < k) then k else 0 := by
  rcases h with ⟨hf, hk2, vs, vp, xs, hr, hsl, hl⟩ | ⟨hf, hk2, vs, vp, xs, hr, hsl, hl⟩ | ⟨hf, hk2, vs, xs, hr, hsl, hl⟩ | ⟨hf, hk2, M, vs, va, qb, qv, xs, es, clock, hq⟩
  · rw [decide_eq_false (by omega), hf]
    exact ⟨vs, vp, _, _, _, 0, hr.bb, hr.op, rfl⟩
  · rw [decide_eq_true (by omega), hf]
    exact ⟨vs, vp, _, _, _, k, hr.bb, hr.op, rfl⟩
  · rw [decide_eq_false (by omega), hf]
    exact ⟨vs, _, _, _, _, 0, hr.bb, hr.op, rfl⟩
  · rw [decide_eq_true (by omega), hf]
    exact ⟨vs, _, _, _, _, 0, hq.bb, ⟨rfl, Or.inl ⟨rfl, rfl⟩⟩, rfl⟩
theorem ints_range_get {m j : Nat} (h : j < m) : (ints (List.range m))[j]? = some (.int .i64 j) := by
  simp [ints, h]
theorem ST.queues {B BB : Nat} {F T : Nat → Nat} {fifo : Bool} {k : Nat} {lab : Nat → Nat} {w : World} (h : ST B BB F T fifo k lab w) (hx : (fifo && decide (32 < k)) = true) : fifo = true ∧ S2 B BB F T k k lab w := by
  have h1 : fifo = true ∧ 32 < k := by simpa using hx
  rcases h with ⟨hf, hk2, h⟩ | ⟨hf, hk2, h⟩ | ⟨hf, hk2, h⟩ | ⟨hf, hk2, h⟩
  · rw [h1.1] at hf; cases hf
  · rw [h1.1] at hf; cases hf
  · omega
  · exact ⟨hf, h⟩
end Go.Proofs.Ybulkbxvg
