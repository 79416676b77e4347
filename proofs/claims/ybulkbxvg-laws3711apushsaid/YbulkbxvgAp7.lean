/-
  A new queue.
-/
import Derived.Test.YbulkbxvgAp6
namespace Go.Proofs.Ybulkbxvg
open Go.RowKit
set_option linter.unusedVariables false

theorem posOf_mem (qb : Nat → Nat) (c : Nat) : ∀ (L : List Nat) (i : Nat), c ∈ L → ∃ j, posOf (L.map fun c => (c / 4, c % 4, qb c)) (c / 4) (c % 4) i = some (j, qptr (qb c))
  | [], i, h => by cases h
  | x :: r, i, h => by
    simp only [List.map_cons, posOf]
    by_cases e : c / 4 = x / 4 ∧ c % 4 = x % 4
    · have : c = x := by omega
      subst this
      rw [if_pos e]; exact ⟨i, rfl⟩
    · rw [if_neg e]
      have : c ≠ x := fun x' => e (by rw [x']; exact ⟨rfl, rfl⟩)
      exact posOf_mem qb c r (i + 1) (by simpa [this] using h)
theorem posOf_not (qb : Nat → Nat) (c : Nat) : ∀ (L : List Nat) (i : Nat), c ∉ L → posOf (L.map fun c => (c / 4, c % 4, qb c)) (c / 4) (c % 4) i = none
  | [], i, h => rfl
  | x :: r, i, h => by
    simp only [List.map_cons, posOf]
    have h1 : c ≠ x ∧ c ∉ r := by simpa using h
    rw [if_neg (by omega)]
    exact posOf_not qb c r (i + 1) h1.2
theorem qOf_mem (qb : Nat → Nat) (c : Nat) (L : List Nat) (h : c ∈ L) : qOf (L.map fun c => (c / 4, c % 4, qb c)) (c / 4) (c % 4) = qptr (qb c) := by
  obtain ⟨j, e⟩ := posOf_mem qb c L 0 h
  unfold qOf
  rw [e]
theorem qOf_not (qb : Nat → Nat) (c : Nat) (L : List Nat) (h : c ∉ L) : qOf (L.map fun c => (c / 4, c % 4, qb c)) (c / 4) (c % 4) = .pointer none := by
  unfold qOf
  rw [posOf_not qb c L 0 h]

/-- While a new queue is made at Q. -/
structure MQ (lab : Nat → Nat) (BB M Q : Nat) (w wx : World) (cb : Array Value) (es : Array MapEntry) (clock : Nat) (cq : Array Value) : Prop where
  bb : wx.heap[BB]? = some (.cells cb 29 (0, 0))
  mp : wx.heap[M]? = some (.map es clock)
  qq : wx.heap[Q]? = some (.cells cq 45 (0, 0))
  kp : ∀ b, lab b ≠ 0 → b ≠ BB → b ≠ M → wx.heap[b]? = w.heap[b]?
  only : Only (fun b => lab b ≠ 0) w wx
  qn : Q = w.heap.size
  lb : lab BB = 1
  lm : lab M = 2
  lt : ∀ b, lab b ≠ 0 → b < w.heap.size
theorem MQ.drew {lab : Nat → Nat} {BB M Q : Nat} {w wx : World} {cb : Array Value} {es : Array MapEntry} {clock : Nat} {cq : Array Value} (h : MQ lab BB M Q w wx cb es clock cq) (n : Nat) : MQ lab BB M Q w (wx.drewN n) cb es clock cq :=
  ⟨h.bb, h.mp, h.qq, h.kp, h.only.drewN n, h.qn, h.lb, h.lm, h.lt⟩
theorem MQ.setB {lab : Nat → Nat} {BB M Q : Nat} {w wx : World} {cb : Array Value} {es : Array MapEntry} {clock : Nat} {cq : Array Value} (h : MQ lab BB M Q w wx cb es clock cq) (k : Nat) (v : Value) : MQ lab BB M Q w (wx.setCell ⟨BB, k, none⟩ v) (cb.setIfInBounds k v) es clock cq := by
  refine ⟨heap_set h.bb k v, (heap_set_ne _ _ _ _ _ (fun e => by have := h.lm; rw [e, h.lb] at this; omega)).trans h.mp, (heap_set_ne _ _ _ _ _ (fun e => by have := h.lt BB (by rw [h.lb]; omega); rw [← e, h.qn] at this; omega)).trans h.qq, fun b h1 h2 h3 => (heap_set_ne _ _ _ _ _ h2).trans (h.kp b h1 h2 h3), h.only.setCell (p := ⟨BB, k, none⟩) (Or.inl ?_) v, h.qn, h.lb, h.lm, h.lt⟩
  show lab BB ≠ 0
  rw [h.lb]; omega
theorem MQ.setQ {lab : Nat → Nat} {BB M Q : Nat} {w wx : World} {cb : Array Value} {es : Array MapEntry} {clock : Nat} {cq : Array Value} (h : MQ lab BB M Q w wx cb es clock cq) (k : Nat) (v : Value) : MQ lab BB M Q w (wx.setCell ⟨Q, k, none⟩ v) cb es clock (cq.setIfInBounds k v) := by
  have hn : ∀ b, lab b ≠ 0 → b ≠ Q := fun b hb e => by have := h.lt b hb; rw [e, h.qn] at this; omega
  refine ⟨(heap_set_ne _ _ _ _ _ (hn _ (by rw [h.lb]; omega))).trans h.bb, (heap_set_ne _ _ _ _ _ (hn _ (by rw [h.lm]; omega))).trans h.mp, heap_set h.qq k v, fun b h1 h2 h3 => (heap_set_ne _ _ _ _ _ (hn b h1)).trans (h.kp b h1 h2 h3), h.only.setCell (p := ⟨Q, k, none⟩) (Or.inr ?_) v, h.qn, h.lb, h.lm, h.lt⟩
  show w.heap.size ≤ Q
  rw [h.qn]; omega
theorem MQ.setM {lab : Nat → Nat} {BB M Q : Nat} {w wx : World} {cb : Array Value} {es : Array MapEntry} {clock : Nat} {cq : Array Value} (h : MQ lab BB M Q w wx cb es clock cq) (es' : Array MapEntry) (clock' : Nat) : MQ lab BB M Q w { wx with heap := wx.heap.setIfInBounds M (.map es' clock') } cb es' clock' cq := by
  have hm : M < wx.heap.size := heap_lt h.mp
  have hn : ∀ b, b ≠ M → ({ wx with heap := wx.heap.setIfInBounds M (.map es' clock') } : World).heap[b]? = wx.heap[b]? := fun b hb => by
    show (wx.heap.setIfInBounds M _)[b]? = _
    rw [Array.getElem?_setIfInBounds, if_neg (Ne.symm hb)]
  refine ⟨(hn _ (fun e => by have := h.lm; rw [← e, h.lb] at this; omega)).trans h.bb, ?_, (hn _ (fun e => by have := h.lt M (by rw [h.lm]; omega); rw [← e, h.qn] at this; omega)).trans h.qq, fun b h1 h2 h3 => (hn b h3).trans (h.kp b h1 h2 h3), ⟨h.only.os, h.only.tape, h.only.output, ?_, ?_⟩, h.qn, h.lb, h.lm, h.lt⟩
  · show (wx.heap.setIfInBounds M _)[M]? = _
    rw [Array.getElem?_setIfInBounds, if_pos rfl, if_pos hm]
  · show w.heap.size ≤ (wx.heap.setIfInBounds M _).size
    rw [Array.size_setIfInBounds]; exact h.only.size
  · intro k hk hk2
    rw [hn k (fun e => hk2 (by rw [e, h.lm]; omega))]
    exact h.only.block k hk hk2

theorem FQ.new {B BB M : Nat} {F T P : Nat → Nat} {w wx : World} {lab : Nat → Nat} {cnt i : Nat} {L : List Nat} {vs va : Value} {qb : Nat → Nat} {qv : Nat → Value} {xs : List Value} {es : Array MapEntry} {clock : Nat} (h : FQ B BB M F T P w lab cnt i L vs va qb qv xs es clock)
    {c Q : Nat} (hL : c ∉ L) (hx : ixs (chn F T) c i = []) (hj : ∀ j, j < i → chn F T j ∈ L) (h16 : L.length + 1 ≤ 2000)
    (hm : MQ lab BB M Q w wx (bbCells true vs cnt true (.slice none 0 0) (.map (some M)) (L.length + 1) va) (es.push { key := chKey (c / 4) (c % 4), val := qptr Q, born := clock }) (clock + 1) #[.slice none 0 0, .int .i64 L.length])
    (o : Obj) (g2 cap2 : Nat) (w1 : World) (hown : w1.ownsRow B 39 1 (.slice (some ⟨g2, 0, none⟩) (L.length + 1) cap2) (L.length + 1) ((L.map fun c => qptr (qb c)) ++ [qptr Q])) (hgrow : (wx.alloc o).grownBy w1 va.ownBlock) (hat : va.ownBlock = some g2 ∨ g2 = wx.heap.size + 1) :
    FQ B BB M F T P (w1.setCell ⟨BB, 8, none⟩ (.slice (some ⟨g2, 0, none⟩) (L.length + 1) cap2)) (upd (upd lab Q (5 + 2 * c)) g2 4) cnt i (L ++ [c]) vs (.slice (some ⟨g2, 0, none⟩) (L.length + 1) cap2) (upd qb c Q) (upd qv c (.slice none 0 0)) xs (es.push { key := chKey (c / 4) (c % 4), val := qptr Q, born := clock }) (clock + 1)
    ∧ Only (fun b => lab b ≠ 0) w (w1.setCell ⟨BB, 8, none⟩ (.slice (some ⟨g2, 0, none⟩) (L.length + 1) cap2)) ∧ ∀ b, b < w.heap.size → upd (upd lab Q (5 + 2 * c)) g2 4 b = lab b := by
  generalize hV : (Value.slice (some ⟨g2, 0, none⟩) (L.length + 1) cap2) = V at *
  have hVo : V.ownBlock = some g2 := by rw [← hV]; rfl
  generalize hW : w1.setCell ⟨BB, 8, none⟩ V = W
  have szx := hm.only.size
  have hQ : Q = w.heap.size := hm.qn
  have hQx : Q < wx.heap.size := heap_lt hm.qq
  have lab_g2 : lab g2 = 4 ∨ wx.heap.size < g2 := by rcases hat with e | e; exact Or.inl (h.la g2 e); right; omega
  have hg2 : ∀ b, lab b ≠ 0 → lab b ≠ 4 → b ≠ g2 := by
    intro b h1 h2 e
    subst e
    have := (h.lt b h1).2
    rcases lab_g2 with x | x
    · exact h2 x
    · omega
  have g2Q : Q ≠ g2 := by
    rcases hat with e | e
    · intro x
      have h1 := h.la g2 e
      have := (h.lt g2 (by omega)).2
      omega
    · omega
  have labQ : ∀ b, lab b ≠ 0 → b ≠ Q := fun b hb e => by have := (h.lt b hb).2; omega
  have hlab : ∀ b, lab b ≠ 0 → upd (upd lab Q (5 + 2 * c)) g2 4 b = lab b := by
    intro b hb
    by_cases e : b = g2
    · subst e
      rw [upd_same]
      have := (h.lt b hb).2
      rcases lab_g2 with x | x
      · exact x.symm
      · omega
    · rw [upd_ne _ _ _ e, upd_ne _ _ _ (labQ b hb)]
  have keepx : ∀ b, b < wx.heap.size → va.ownBlock ≠ some b → b ≠ BB → W.heap[b]? = wx.heap[b]? := by
    intro b h1 h2 h3
    rw [← hW, heap_set_ne _ _ _ _ _ h3]
    exact (hgrow.block b (by simp; omega) (fun e => h2 e.symm)).trans (Below.heap_alloc wx o b h1)
  have hvl : ∀ b, lab b ≠ 4 → va.ownBlock ≠ some b := fun b hb e => hb (h.la b e)
  have keep : ∀ b, lab b ≠ 0 → lab b ≠ 4 → lab b ≠ 1 → lab b ≠ 2 → W.heap[b]? = w.heap[b]? := fun b h1 h2 h3 h4 =>
    (keepx b (by have := (h.lt b h1).2; omega) (hvl b h2) (fun e => h3 (by rw [e]; exact h.lb))).trans (hm.kp b h1 (fun e => h3 (by rw [e]; exact h.lb)) (fun e => h4 (by rw [e]; exact h.lm)))
  have szW : wx.heap.size + 1 ≤ W.heap.size := by
    rw [← hW, World.size_setCell]
    have := hgrow.size
    simpa using this
  have hlen : (L ++ [c]).length = L.length + 1 := by simp
  have qbL : ∀ c', c' ∈ L → upd qb c Q c' = qb c' := fun c' hc' => upd_ne _ _ _ (fun e => hL (e ▸ hc'))
  have mapL : ∀ {α : Type} (f : Nat → Nat → α), (L ++ [c]).map (fun c' => f c' (upd qb c Q c')) = (L.map fun c' => f c' (qb c')) ++ [f c Q] := by
    intro α f
    rw [List.map_append, List.map_cons, List.map_nil, upd_same]
    congr 1
    exact List.map_congr_left (fun c' hc' => by rw [qbL c' hc'])
  have nd' : (L ++ [c]).Nodup := by
    rw [List.nodup_append]
    exact ⟨h.nd, by simp, fun a ha b hb => by rw [List.mem_singleton.1 hb]; exact fun e => hL (e ▸ ha)⟩
  refine ⟨⟨?_, ?_, ?_, ?_, ?_, ?_, ?_, ?_, ?_, ?_, ?_, ?_, ?_, nd', by rw [hlen]; exact h16⟩, ?_, ?_⟩
  · rw [← hW, hlen]
    have e : w1.heap[BB]? = wx.heap[BB]? := (hgrow.block BB (by have := (h.lt BB (by rw [h.lb]; omega)).2; simp; omega) (fun e => hvl BB (by rw [h.lb]; omega) e.symm)).trans (Below.heap_alloc wx o BB (by have := (h.lt BB (by rw [h.lb]; omega)).2; omega))
    exact heap_set (e.trans hm.bb) 8 V
  · exact owns_block h.os (fun b e => keep b (by rw [h.ls b e]; omega) (by rw [h.ls b e]; omega) (by rw [h.ls b e]; omega) (by rw [h.ls b e]; omega))
  · refine h.sl.same (fun _ _ => rfl) (fun j hjc => ?_)
    by_cases e : j < i
    · rw [if_pos e, if_pos e, qbL _ (hj j e)]
    · rw [if_neg e, if_neg e]
  · exact (keepx M (by have := (h.lt M (by rw [h.lm]; omega)).2; omega) (hvl M (by rw [h.lm]; omega)) (fun e => by have := h.lm; rw [e, h.lb] at this; omega)).trans hm.mp
  · rw [mapL (fun c' q => (c' / 4, c' % 4, q))]
    exact Ents.push h.en _ _ _ _
  · rw [mapL (fun c' q => qptr q), hlen]
    refine owns_block hown (fun b e => ?_)
    rw [hVo] at e
    injection e with e
    subst e
    rw [← hW, heap_set_ne _ _ _ _ _ (fun e => hg2 BB (by rw [h.lb]; omega) (by rw [h.lb]; omega) e.symm)]
  · intro c' hc'
    by_cases e : c' = c
    · subst e
      rw [upd_same, upd_same, hx]
      refine ⟨?_, ?_⟩
      · have e0 : va.ownBlock ≠ some Q := fun e => by
          have h1 := h.la Q e
          have := (h.lt Q (by omega)).2
          omega
        have e1 : Q ≠ BB := fun e => labQ BB (by rw [h.lb]; omega) e.symm
        rw [keepx Q hQx e0 e1, hm.qq, List.idxOf_append, if_neg hL]
        simp
      · exact ⟨rfl, Or.inl ⟨rfl, rfl⟩⟩
    · have hcL : c' ∈ L := by simpa [e] using hc'
      have hq' := h.lq c' hcL
      rw [upd_ne _ _ _ e, upd_ne _ _ _ e, List.idxOf_append, if_pos hcL]
      refine ⟨(keep _ (by rw [hq'.1]; omega) (by rw [hq'.1]; omega) (by rw [hq'.1]; omega) (by rw [hq'.1]; omega)).trans (h.qs c' hcL).1, owns_block (h.qs c' hcL).2 (fun b hb => ?_)⟩
      have hb' := hq'.2 b hb
      exact keep b (by omega) (by omega) (by omega) (by omega)
  · rw [hlab _ (by rw [h.lb]; omega)]; exact h.lb
  · rw [hlab _ (by rw [h.lm]; omega)]; exact h.lm
  · intro b hb; rw [hlab _ (by rw [h.ls b hb]; omega)]; exact h.ls b hb
  · intro b hb
    rw [hVo] at hb
    injection hb with hb
    subst hb
    exact upd_same _ _ _
  · intro c' hc'
    by_cases e : c' = c
    · subst e
      rw [upd_same, upd_same]
      refine ⟨by rw [upd_ne _ _ _ g2Q, upd_same], ?_⟩
      intro b hb
      cases hb
    · have hcL : c' ∈ L := by simpa [e] using hc'
      have hq' := h.lq c' hcL
      rw [upd_ne _ _ _ e, upd_ne _ _ _ e]
      refine ⟨by rw [hlab _ (by rw [hq'.1]; omega)]; exact hq'.1, ?_⟩
      intro b hb
      rw [hlab _ (by rw [hq'.2 b hb]; omega)]; exact hq'.2 b hb
  · intro b hb
    by_cases e : b = g2
    · subst e
      have := owns_lt hown b hVo
      refine ⟨this.1, ?_⟩
      rw [← hW, World.size_setCell]
      exact this.2
    · rw [upd_ne _ _ _ e] at hb
      by_cases e2 : b = Q
      · subst e2
        exact ⟨by have := (h.lt BB (by rw [h.lb]; omega)); omega, by omega⟩
      · rw [upd_ne _ _ _ e2] at hb
        have := h.lt b hb
        exact ⟨this.1, by omega⟩
  · rw [← hW]
    refine Only.setCell (Only.grown (hm.only.alloc o) hgrow (fun k hk => Or.inl ?_)) (p := ⟨BB, 8, none⟩) (Or.inl ?_) _
    · show lab k ≠ 0; rw [h.la k hk]; omega
    · show lab BB ≠ 0; rw [h.lb]; omega
  · intro b hb
    by_cases e : b = g2
    · subst e
      rw [upd_same]
      rcases lab_g2 with x | x
      · exact x.symm
      · omega
    · rw [upd_ne _ _ _ e, upd_ne _ _ _ (by omega)]
end Go.Proofs.Ybulkbxvg
