/-
  The backlog with its queues, on FIFO channels: what lies where, and how it changes.
-/
import Derived.Test.YbulkbxvgAp1
import Derived.Test.YbulkbxvgAp5
namespace Go.Proofs.Ybulkbxvg
open Go.RowKit
set_option linter.unusedVariables false

def chn (F T : Nat → Nat) (i : Nat) : Nat := F i * 4 + T i
def ixs (C : Nat → Nat) (c : Nat) : Nat → List Nat
  | 0 => []
  | k + 1 => if C k = c then ixs C c k ++ [k] else ixs C c k
def fo (C : Nat → Nat) : Nat → List Nat
  | 0 => []
  | k + 1 => if C k ∈ fo C k then fo C k else fo C k ++ [C k]
def upd {α : Type} (f : Nat → α) (a : Nat) (b : α) (x : Nat) : α := if x = a then b else f x
theorem upd_same {α : Type} (f : Nat → α) (a : Nat) (b : α) : upd f a b a = b := if_pos rfl
theorem upd_ne {α : Type} (f : Nat → α) (a : Nat) (b : α) {x : Nat} (h : x ≠ a) : upd f a b x = f x := if_neg h
def qptr (b : Nat) : Value := .pointer (some ⟨b, 0, none⟩)
def ints (l : List Nat) : List Value := l.map fun (i : Nat) => Value.int .i64 i

/-- The slots' cells. -/
def Slots (xs : List Value) (n : Nat) (F T P : Nat → Nat) (Q : Nat → Value) : Prop :=
  ∀ j, j < n → xs[j * 6]? = some (.int .u64 ((j : Int) + 1)) ∧ xs[j * 6 + 1]? = some (.int .i64 (F j)) ∧ xs[j * 6 + 2]? = some (.int .i64 (T j)) ∧ xs[j * 6 + 3]? = some (.slice none 0 0) ∧ xs[j * 6 + 4]? = some (.int .i64 (P j)) ∧ xs[j * 6 + 5]? = some (Q j)
theorem Slots.setQ {xs : List Value} {n i : Nat} {F T P : Nat → Nat} {Q : Nat → Value} (h : Slots xs n F T P Q) (hl : xs.length = n * 6) (hi : i < n) (v : Value) : Slots (xs.set (i * 6 + 5) v) n F T P (upd Q i v) := by
  intro j hj
  obtain ⟨h0, h1, h2, h3, h4, h5⟩ := h j hj
  simp only [List.getElem?_set]
  refine ⟨?_, ?_, ?_, ?_, ?_, ?_⟩
  · rw [if_neg (by omega)]; exact h0
  · rw [if_neg (by omega)]; exact h1
  · rw [if_neg (by omega)]; exact h2
  · rw [if_neg (by omega)]; exact h3
  · rw [if_neg (by omega)]; exact h4
  · by_cases e : j = i
    · subst e; rw [if_pos rfl, upd_same]; simp; omega
    · rw [if_neg (by omega), upd_ne _ _ _ e]; exact h5
theorem Slots.setP {xs : List Value} {n i : Nat} {F T P : Nat → Nat} {Q : Nat → Value} (h : Slots xs n F T P Q) (hl : xs.length = n * 6) (hi : i < n) (p : Nat) : Slots (xs.set (i * 6 + 4) (.int .i64 p)) n F T (upd P i p) Q := by
  intro j hj
  obtain ⟨h0, h1, h2, h3, h4, h5⟩ := h j hj
  simp only [List.getElem?_set]
  refine ⟨?_, ?_, ?_, ?_, ?_, ?_⟩
  · rw [if_neg (by omega)]; exact h0
  · rw [if_neg (by omega)]; exact h1
  · rw [if_neg (by omega)]; exact h2
  · rw [if_neg (by omega)]; exact h3
  · by_cases e : j = i
    · subst e; rw [if_pos rfl, upd_same]; simp; omega
    · rw [if_neg (by omega), upd_ne _ _ _ e]; exact h4
  · rw [if_neg (by omega)]; exact h5
theorem Slots.same {xs : List Value} {n : Nat} {F T P P' : Nat → Nat} {Q Q' : Nat → Value} (h : Slots xs n F T P Q) (hP : ∀ j, j < n → P' j = P j) (hQ : ∀ j, j < n → Q' j = Q j) : Slots xs n F T P' Q' := by
  intro j hj
  rw [hP j hj, hQ j hj]; exact h j hj
theorem Slots.app {xs : List Value} {n id f t : Nat} {F T P : Nat → Nat} {Q : Nat → Value} (h : Slots xs n F T P Q) (hl : xs.length = n * 6) (hid : id = n + 1) (hf : f = F n) (ht : t = T n) (hP : P n = 0) (hQ : Q n = .pointer none) :
    Slots (xs ++ [.int .u64 id, .int .i64 f, .int .i64 t, .slice none 0 0, .int .i64 0, .pointer none]) (n + 1) F T P Q := by
  subst hid hf ht
  intro j hj
  by_cases e : j = n
  · subst e
    simp only [List.getElem?_append, hl]
    refine ⟨?_, ?_, ?_, ?_, ?_, ?_⟩
    · rw [if_neg (by omega), show j * 6 - j * 6 = 0 by omega]; simp
    · rw [if_neg (by omega), show j * 6 + 1 - j * 6 = 1 by omega]; simp
    · rw [if_neg (by omega), show j * 6 + 2 - j * 6 = 2 by omega]; simp
    · rw [if_neg (by omega), show j * 6 + 3 - j * 6 = 3 by omega]; simp
    · rw [if_neg (by omega), show j * 6 + 4 - j * 6 = 4 by omega, hP]; simp
    · rw [if_neg (by omega), show j * 6 + 5 - j * 6 = 5 by omega, hQ]; simp
  · obtain ⟨h0, h1, h2, h3, h4, h5⟩ := h j (by omega)
    simp only [List.getElem?_append, hl]
    refine ⟨?_, ?_, ?_, ?_, ?_, ?_⟩ <;> (rw [if_pos (by omega)]; assumption)

/-- The backlog with queues: L the channels that have one, in their order; ne slots lie in queues. -/
structure FQ (B BB M : Nat) (F T P : Nat → Nat) (w : World) (lab : Nat → Nat) (cnt ne : Nat) (L : List Nat) (vs va : Value) (qb : Nat → Nat) (qv : Nat → Value) (xs : List Value) (es : Array MapEntry) (clock : Nat) : Prop where
  bb : w.heap[BB]? = some (.cells (bbCells true vs cnt true (.slice none 0 0) (.map (some M)) L.length va) 29 (0, 0))
  os : w.ownsRow B 41 6 vs cnt xs
  sl : Slots xs cnt F T P (fun j => if j < ne then qptr (qb (chn F T j)) else .pointer none)
  mp : w.heap[M]? = some (.map es clock)
  en : Ents es.toList (L.map fun c => (c / 4, c % 4, qb c))
  oa : w.ownsRow B 39 1 va L.length (L.map fun c => qptr (qb c))
  qs : ∀ c, c ∈ L → w.heap[qb c]? = some (.cells #[qv c, .int .i64 (L.idxOf c)] 45 (0, 0)) ∧ w.ownsRow B 3 1 (qv c) (ixs (chn F T) c ne).length (ints (ixs (chn F T) c ne))
  lb : lab BB = 1
  lm : lab M = 2
  ls : ∀ g, vs.ownBlock = some g → lab g = 3
  la : ∀ g, va.ownBlock = some g → lab g = 4
  lq : ∀ c, c ∈ L → lab (qb c) = 5 + 2 * c ∧ ∀ g, (qv c).ownBlock = some g → lab g = 6 + 2 * c
  lt : ∀ b, lab b ≠ 0 → B ≤ b ∧ b < w.heap.size
  nd : L.Nodup
  sm : L.length ≤ 2000

theorem FQ.keep {B BB M : Nat} {F T P : Nat → Nat} {w wx : World} {lab : Nat → Nat} {cnt ne : Nat} {L : List Nat} {vs va : Value} {qb : Nat → Nat} {qv : Nat → Value} {xs : List Value} {es : Array MapEntry} {clock : Nat} (h : FQ B BB M F T P w lab cnt ne L vs va qb qv xs es clock)
    (hk : ∀ b, lab b ≠ 0 → wx.heap[b]? = w.heap[b]?) (hs : w.heap.size ≤ wx.heap.size) : FQ B BB M F T P wx lab cnt ne L vs va qb qv xs es clock := by
  refine ⟨(hk _ (by rw [h.lb]; omega)).trans h.bb, owns_block h.os (fun g e => hk _ (by rw [h.ls g e]; omega)), h.sl, (hk _ (by rw [h.lm]; omega)).trans h.mp, h.en, owns_block h.oa (fun g e => hk _ (by rw [h.la g e]; omega)), fun c hc => ⟨(hk _ (by rw [(h.lq c hc).1]; omega)).trans (h.qs c hc).1, owns_block (h.qs c hc).2 (fun g e => hk _ (by rw [(h.lq c hc).2 g e]; omega))⟩, h.lb, h.lm, h.ls, h.la, h.lq, fun b hb => ⟨(h.lt b hb).1, Nat.lt_of_lt_of_le (h.lt b hb).2 hs⟩, h.nd, h.sm⟩

/-- The back of a queue. -/
theorem FQ.back {B BB M : Nat} {F T P : Nat → Nat} {w : World} {lab : Nat → Nat} {cnt i : Nat} {L : List Nat} {g cap : Nat} {va : Value} {qb : Nat → Nat} {qv : Nat → Value} {xs : List Value} {es : Array MapEntry} {clock : Nat} (h : FQ B BB M F T P w lab cnt i L (.slice (some ⟨g, 0, none⟩) cnt cap) va qb qv xs es clock)
    {c : Nat} (hc : c = chn F T i) (hL : c ∈ L) (hi : i < cnt) (o : Obj) (g2 cap2 : Nat) (w1 : World) (hown : w1.ownsRow B 3 1 (.slice (some ⟨g2, 0, none⟩) ((ixs (chn F T) c i).length + 1) cap2) ((ixs (chn F T) c i).length + 1) (ints (ixs (chn F T) c i) ++ [.int .i64 i])) (hgrow : (w.alloc o).grownBy w1 (qv c).ownBlock) (hat : (qv c).ownBlock = some g2 ∨ g2 = w.heap.size + 1) :
    FQ B BB M F T P ((w1.setCell ⟨qb c, 0, none⟩ (.slice (some ⟨g2, 0, none⟩) ((ixs (chn F T) c i).length + 1) cap2)).setCell ⟨g, i * 6 + 5, none⟩ (qptr (qb c))) (upd lab g2 (6 + 2 * c)) cnt (i + 1) L (.slice (some ⟨g, 0, none⟩) cnt cap) va qb (upd qv c (.slice (some ⟨g2, 0, none⟩) ((ixs (chn F T) c i).length + 1) cap2)) (xs.set (i * 6 + 5) (qptr (qb c))) es clock
    ∧ Only (fun b => lab b ≠ 0) w ((w1.setCell ⟨qb c, 0, none⟩ (.slice (some ⟨g2, 0, none⟩) ((ixs (chn F T) c i).length + 1) cap2)).setCell ⟨g, i * 6 + 5, none⟩ (qptr (qb c))) ∧ ∀ b, b < w.heap.size → upd lab g2 (6 + 2 * c) b = lab b := by
  generalize hV : (Value.slice (some ⟨g2, 0, none⟩) ((ixs (chn F T) c i).length + 1) cap2) = V at *
  have hVo : V.ownBlock = some g2 := by rw [← hV]; rfl
  generalize hW : (w1.setCell ⟨qb c, 0, none⟩ V).setCell ⟨g, i * 6 + 5, none⟩ (qptr (qb c)) = W
  have hqc := h.lq c hL
  have hlg : lab g = 3 := h.ls g rfl
  have lab_g2 : lab g2 = 6 + 2 * c ∨ g2 = w.heap.size + 1 := by rcases hat with e | e; exact Or.inl (hqc.2 g2 e); exact Or.inr e
  have hg2 : ∀ b, lab b ≠ 0 → lab b ≠ 6 + 2 * c → b ≠ g2 := by
    intro b h1 h2 e
    subst e
    have := (h.lt b h1).2
    rcases lab_g2 with x | x
    · exact h2 x
    · omega
  have hlab : ∀ b, lab b ≠ 0 → upd lab g2 (6 + 2 * c) b = lab b := by
    intro b hb
    by_cases e : b = g2
    · subst e
      rw [upd_same]
      have := (h.lt b hb).2
      rcases lab_g2 with x | x
      · exact x.symm
      · omega
    · exact upd_ne _ _ _ e
  have keep1 : ∀ b, lab b ≠ 0 → lab b ≠ 6 + 2 * c → w1.heap[b]? = w.heap[b]? := fun b h1 h2 => (hgrow.block b (by have := (h.lt b h1).2; simp; omega) (fun e => h2 (hqc.2 b e.symm))).trans (Below.heap_alloc w o b (h.lt b h1).2)
  have keep : ∀ b, lab b ≠ 0 → lab b ≠ 6 + 2 * c → b ≠ qb c → b ≠ g → W.heap[b]? = w.heap[b]? := by
    intro b h1 h2 h3 h4
    rw [← hW, heap_set_ne _ _ _ _ _ h4, heap_set_ne _ _ _ _ _ h3]
    exact keep1 b h1 h2
  have hqg : qb c ≠ g := fun e => by rw [e, hlg] at hqc; omega
  have sz : w.heap.size + 1 ≤ W.heap.size := by
    rw [← hW, World.size_setCell, World.size_setCell]
    have := hgrow.size
    simpa using this
  have hx : ixs (chn F T) c (i + 1) = ixs (chn F T) c i ++ [i] := by rw [ixs, if_pos hc.symm]
  refine ⟨⟨?_, ?_, ?_, ?_, h.en, ?_, ?_, ?_, ?_, ?_, ?_, ?_, ?_, h.nd, h.sm⟩, ?_, ?_⟩
  · exact (keep _ (by rw [h.lb]; omega) (by rw [h.lb]; omega) (fun e => by have := h.lb; rw [e, hqc.1] at this; omega) (fun e => by have := h.lb; rw [e, hlg] at this; omega)).trans h.bb
  · rw [← hW]
    refine owns_set (owns_block h.os (fun b e => ?_)) _ _ (by omega)
    have hb : lab b = 3 := h.ls b e
    rw [heap_set_ne _ _ _ _ _ (fun e => by subst e; rw [hqc.1] at hb; omega)]
    exact keep1 b (by omega) (by omega)
  · refine (Slots.setQ h.sl (h.os.1.trans (by omega)) hi _).same (fun _ _ => rfl) (fun j hj => ?_)
    by_cases e : j = i
    · subst e; rw [upd_same, if_pos (by omega), ← hc]
    · rw [upd_ne _ _ _ e]
      by_cases e2 : j < i
      · rw [if_pos e2, if_pos (by omega)]
      · rw [if_neg e2, if_neg (by omega)]
  · exact (keep _ (by rw [h.lm]; omega) (by rw [h.lm]; omega) (fun e => by have := h.lm; rw [e, hqc.1] at this; omega) (fun e => by have := h.lm; rw [e, hlg] at this; omega)).trans h.mp
  · refine owns_block h.oa (fun b e => ?_)
    have hb : lab b = 4 := h.la b e
    exact keep b (by omega) (by omega) (fun e => by subst e; rw [hqc.1] at hb; omega) (fun e => by subst e; omega)
  · intro c' hc'
    by_cases e : c' = c
    · subst e
      rw [upd_same, hx]
      constructor
      · rw [← hW, heap_set_ne _ _ _ _ _ hqg]
        have e1 := keep1 (qb c') (by rw [hqc.1]; omega) (by rw [hqc.1]; omega)
        exact (heap_set (e1.trans (h.qs c' hL).1) 0 _)
      · have : w1.ownsRow B 3 1 V (ixs (chn F T) c' i ++ [i]).length (ints (ixs (chn F T) c' i ++ [i])) := by
          simpa [ints] using hown
        refine owns_block this (fun b e => ?_)
        rw [hVo] at e
        injection e with e
        subst e
        have e1 : g2 ≠ qb c' := fun e => hg2 (qb c') (by rw [hqc.1]; omega) (by rw [hqc.1]; omega) e.symm
        have e2 : g2 ≠ g := fun e => hg2 g (by omega) (by omega) e.symm
        rw [← hW, heap_set_ne _ _ _ _ _ e2, heap_set_ne _ _ _ _ _ e1]
    · rw [upd_ne _ _ _ e, show ixs (chn F T) c' (i + 1) = ixs (chn F T) c' i by rw [ixs, if_neg (by rw [← hc]; exact fun x => e x.symm)]]
      have hq' := h.lq c' hc'
      refine ⟨(keep _ (by rw [hq'.1]; omega) (by rw [hq'.1]; omega) (fun x => ?_) (fun x => ?_)).trans (h.qs c' hc').1, owns_block (h.qs c' hc').2 (fun b hb => ?_)⟩
      · have := hq'.1; rw [x, hqc.1] at this; omega
      · have := hq'.1; rw [x, hlg] at this; omega
      · have hb' := hq'.2 b hb
        exact keep b (by omega) (by omega) (fun x => by subst x; rw [hqc.1] at hb'; omega) (fun x => by subst x; omega)
  · rw [hlab _ (by rw [h.lb]; omega)]; exact h.lb
  · rw [hlab _ (by rw [h.lm]; omega)]; exact h.lm
  · intro b hb; rw [hlab _ (by rw [h.ls b hb]; omega)]; exact h.ls b hb
  · intro b hb; rw [hlab _ (by rw [h.la b hb]; omega)]; exact h.la b hb
  · intro c' hc'
    have hq' := h.lq c' hc'
    refine ⟨by rw [hlab _ (by rw [hq'.1]; omega)]; exact hq'.1, ?_⟩
    intro b hb
    by_cases e : c' = c
    · subst e
      rw [upd_same, hVo] at hb
      injection hb with hb
      subst hb
      exact upd_same _ _ _
    · rw [upd_ne _ _ _ e] at hb
      rw [hlab _ (by rw [hq'.2 b hb]; omega)]; exact hq'.2 b hb
  · intro b hb
    by_cases e : b = g2
    · subst e
      have := owns_lt hown b hVo
      refine ⟨this.1, ?_⟩
      rw [← hW, World.size_setCell, World.size_setCell]
      exact this.2
    · rw [upd_ne _ _ _ e] at hb
      have := h.lt b hb
      exact ⟨this.1, by omega⟩
  · rw [← hW]
    refine Only.setCell (Only.setCell (Only.grown ((Only.refl _ w).alloc o) hgrow (fun k hk => Or.inl ?_)) (p := ⟨qb c, 0, none⟩) (Or.inl ?_) _) (p := ⟨g, i * 6 + 5, none⟩) (Or.inl ?_) _
    · show lab k ≠ 0; rw [hqc.2 k hk]; omega
    · show lab (qb c) ≠ 0; rw [hqc.1]; omega
    · show lab g ≠ 0; rw [hlg]; omega
  · intro b hb
    by_cases e : b = g2
    · subst e
      rw [upd_same]
      rcases lab_g2 with x | x
      · exact x.symm
      · omega
    · exact upd_ne _ _ _ e
end Go.Proofs.Ybulkbxvg
