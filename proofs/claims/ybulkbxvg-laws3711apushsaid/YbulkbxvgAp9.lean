/-
  backlog.push, from state to state.
-/
import Derived.Test.YbulkbxvgAp3
import Derived.Test.YbulkbxvgAp4
import Derived.Test.YbulkbxvgAp8
namespace Go.Proofs.Ybulkbxvg
open Go.RowKit
set_option linter.unusedVariables false
attribute [local go_sem] neqMap eqlMap

set_option maxRecDepth 100000 in
set_option maxHeartbeats 2000000 in
theorem index_f (B BB M : Nat) (F T P : Nat → Nat) (w : World) (lab : Nat → Nat) (cnt i : Nat) (vs va : Value) (qb : Nat → Nat) (qv : Nat → Value) (xs : List Value) (es : Array MapEntry) (clock : Nat) (h : FQ B BB M F T P w lab cnt i (fo (chn F T) i) vs va qb qv xs es clock) (hi : i < cnt) (hn : cnt ≤ 1900) (hF : F i < 4) (hT : T i < 4) :
    Calls Yba.prog 6 #[.pointer (some ⟨BB, 0, none⟩), .int .i64 i] w fun e w' => e = .returned (.tuple #[]) ∧ ∃ va' qb' qv' xs' es' clock' lab', FQ B BB M F T P w' lab' cnt (i + 1) (fo (chn F T) (i + 1)) vs va' qb' qv' xs' es' clock' ∧ Only (fun b => lab b ≠ 0) w w' ∧ ∀ b, b < w.heap.size → lab' b = lab b := by
  have c5 : w.cell? ⟨BB, 5, none⟩ = some (.map (some M)) := cell_at h.bb 5
  have HE := enq B BB M F T P w lab cnt i vs va qb qv xs es clock h hi hn hF hT
  have HEE : Aside (Calls Yba.prog 8 #[.pointer (some ⟨BB, 0, none⟩), .int .i64 i] w fun e w' => e = .returned (.tuple #[]) ∧ ∃ va' qb' qv' xs' es' clock' lab', FQ B BB M F T P w' lab' cnt (i + 1) (fo (chn F T) (i + 1)) vs va' qb' qv' xs' es' clock' ∧ Only (fun b => lab b ≠ 0) w w' ∧ ∀ b, b < w.heap.size → lab' b = lab b) := HE
  clear HE h hF hT
  go_enter Yba.func6, Yba.ntmps6
  go_wp2_with fail
  refine HEE.out.mono ?_
  rintro e w2 ⟨rfl, va', qb', qv', xs', es', clock', lab', hQ, hO, hl⟩
  have c0 : w2.cell? ⟨BB, 0, none⟩ = some (.bool true) := cell_at hQ.bb 0
  have HQ : Aside (FQ B BB M F T P w2 lab' cnt (i + 1) (fo (chn F T) (i + 1)) vs va' qb' qv' xs' es' clock') := hQ
  have HO : Aside (Only (fun b => lab b ≠ 0) w w2) := hO
  have HL : Aside (∀ b, b < w.heap.size → lab' b = lab b) := hl
  clear hQ hO hl c5
  go_wp2_with fail
  go_end0
  exact ⟨rfl, va', qb', qv', xs', es', clock', lab', HQ.out, HO.out, HL.out⟩

/-- The labels of a backlog without queues. -/
structure LB (B BB : Nat) (w : World) (lab : Nat → Nat) (vs vp : Value) : Prop where
  lb : lab BB = 1
  ls : ∀ g, vs.ownBlock = some g → lab g = 3
  la : ∀ g, vp.ownBlock = some g → lab g = 4
  lt : ∀ b, lab b ≠ 0 → B ≤ b ∧ b < w.heap.size

/-- What push's first part leaves. -/
theorem Pre1.labels {B BB k f t : Nat} {fifo idx : Bool} {vs vp vm : Value} {held : Nat} {va : Value} {xs : List Value} {w wx : World} {vs' : Value} {cnt : Nat} (h : Pre1 B BB k f t fifo idx vs vp vm held va xs w wx vs' cnt) {lab : Nat → Nat} (lb : lab BB = 1) (ls : ∀ g, vs.ownBlock = some g → lab g = 3) (lt : ∀ b, lab b ≠ 0 → B ≤ b ∧ b < w.heap.size) :
    ∃ lab' : Nat → Nat, (∀ b, b < w.heap.size → lab' b = lab b) ∧ (∀ g, vs'.ownBlock = some g → lab' g = 3) ∧ (∀ b, lab b ≠ 0 → lab' b = lab b) ∧ (∀ b, lab' b ≠ 0 → B ≤ b ∧ b < wx.heap.size) ∧ Only (fun b => lab b ≠ 0) w wx ∧ ∀ b, lab b ≠ 0 → lab b ≠ 1 → lab b ≠ 3 → wx.heap[b]? = w.heap[b]? := by
  obtain ⟨g, cap, hv⟩ := owns_form h.os (by omega)
  have hg : vs'.ownBlock = some g := by rw [hv]; rfl
  have lg : lab g = 3 ∨ w.heap.size ≤ g := by
    rcases h.new with e | e
    · exact Or.inl (ls g (by rw [← e]; exact hg))
    · exact Or.inr (e g hg)
  have hag : ∀ b, b < w.heap.size → upd lab g 3 b = lab b := by
    intro b hb
    by_cases e : b = g
    · subst e
      rw [upd_same]
      rcases lg with x | x
      · exact x.symm
      · omega
    · exact upd_ne _ _ _ e
  refine ⟨upd lab g 3, hag, ?_, fun b hb => hag b (lt b hb).2, ?_, h.only.mono ?_, ?_⟩
  · intro b hb
    rw [hg] at hb
    injection hb with hb
    subst hb
    exact upd_same _ _ _
  · intro b hb
    by_cases e : b = g
    · subst e
      exact owns_lt h.os b hg
    · rw [upd_ne _ _ _ e] at hb
      have := lt b hb
      have := h.only.size
      omega
  · rintro b hb (e | e)
    · show lab b ≠ 0
      rw [e, lb]; omega
    · show lab b ≠ 0
      rw [ls b e]; omega
  · intro b h1 h2 h3
    refine h.only.block b (lt b h1).2 ?_
    rintro (e | e)
    · exact h2 (by rw [e]; exact lb)
    · exact h3 (ls b e)

def pf (F T : Nat → Nat) (j : Nat) : Nat := if j < 32 ∧ chn F T j ∈ fo (chn F T) j then 1 else 0
def pn (m j : Nat) : Nat := if j < m then j else 0

/-- Not FIFO: m messages lie in the pool. -/
def S0 (B BB : Nat) (F T : Nat → Nat) (idx : Bool) (k m : Nat) (lab : Nat → Nat) (w : World) : Prop :=
  ∃ vs vp xs, R0 B BB w false idx k vs vp k m xs (ints (List.range m)) ∧ Slots xs k F T (pn m) (fun _ => .pointer none) ∧ LB B BB w lab vs vp
/-- FIFO, few. -/
def S1 (B BB : Nat) (F T : Nat → Nat) (k : Nat) (lab : Nat → Nat) (w : World) : Prop :=
  ∃ vs xs, R0 B BB w true false k vs (.slice none 0 0) k 0 xs [] ∧ Slots xs k F T (pf F T) (fun _ => .pointer none) ∧ LB B BB w lab vs (.slice none 0 0)
/-- FIFO, indexed: ne of k messages lie in queues. -/
def S2 (B BB : Nat) (F T : Nat → Nat) (k ne : Nat) (lab : Nat → Nat) (w : World) : Prop :=
  ∃ M vs va qb qv xs es clock, FQ B BB M F T (pf F T) w lab k ne (fo (chn F T) ne) vs va qb qv xs es clock
def ST (B BB : Nat) (F T : Nat → Nat) (fifo : Bool) (k : Nat) (lab : Nat → Nat) (w : World) : Prop :=
  (fifo = false ∧ k ≤ 32 ∧ S0 B BB F T false k 0 lab w) ∨ (fifo = false ∧ 32 < k ∧ S0 B BB F T true k k lab w) ∨ (fifo = true ∧ k ≤ 32 ∧ S1 B BB F T k lab w) ∨ (fifo = true ∧ 32 < k ∧ S2 B BB F T k k lab w)
/-- From one state to another. -/
def Goes (lab : Nat → Nat) (w : World) (S : (Nat → Nat) → World → Prop) (w' : World) : Prop := ∃ lab', S lab' w' ∧ Only (fun b => lab b ≠ 0) w w' ∧ ∀ b, b < w.heap.size → lab' b = lab b
theorem Goes.trans {lab : Nat → Nat} {w : World} {S S' : (Nat → Nat) → World → Prop} {w1 w2 : World} {l1 : Nat → Nat} (ho : Only (fun b => lab b ≠ 0) w w1) (hl : ∀ b, b < w.heap.size → l1 b = lab b) (h : Goes l1 w1 S' w2) : Goes lab w S' w2 := by
  obtain ⟨l2, h2, ho2, hl2⟩ := h
  exact ⟨l2, h2, ho.trans2 ho2 hl, fun b hb => (hl2 b (by have := ho.size; omega)).trans (hl b hb)⟩

/-- Behind push's first part, no queues. -/
theorem Pre1.S0' {B BB k f t : Nat} {fifo idx : Bool} {vs vp : Value} {xs : List Value} {w wx : World} {vs' : Value} {m : Nat} {ps : List Value} {lab : Nat → Nat} (h : Pre1 B BB k f t fifo idx vs vp (.map none) 0 (.slice none 0 0) (xs ++ encS (k + 1) f t) w wx vs' (k + 1)) (hr : R0 B BB w fifo idx k vs vp k m xs ps) (hl : LB B BB w lab vs vp) :
    ∃ lab' : Nat → Nat, R0 B BB wx fifo idx (k + 1) vs' vp (k + 1) m (xs ++ encS (k + 1) f t) ps ∧ LB B BB wx lab' vs' vp ∧ Only (fun b => lab b ≠ 0) w wx ∧ ∀ b, b < w.heap.size → lab' b = lab b := by
  obtain ⟨lab', h1, h2, h3, h4, h5, h6⟩ := h.labels hl.lb hl.ls hl.lt
  have hp : ∀ g, vp.ownBlock = some g → lab' g = 4 := fun g e => by rw [h3 g (by rw [hl.la g e]; omega)]; exact hl.la g e
  refine ⟨lab', ⟨h.bb, h.os, owns_block hr.op (fun g e => h6 g (by rw [hl.la g e]; omega) (by rw [hl.la g e]; omega) (by rw [hl.la g e]; omega)), h.ne, hr.d2, ?_, hr.hB⟩, ⟨by rw [h3 BB (by rw [hl.lb]; omega)]; exact hl.lb, h2, hp, h4⟩, h5, h1⟩
  intro g e e2
  have := h2 g e
  rw [hp g e2] at this
  omega

theorem index_S0 (B BB : Nat) (F T : Nat → Nat) (k m : Nat) (lab : Nat → Nat) (w : World) (h : S0 B BB F T true k m lab w) (hm : m < k) (hk : k ≤ 1900) :
    Calls Yba.prog 6 #[.pointer (some ⟨BB, 0, none⟩), .int .i64 m] w fun e w' => e = .returned (.tuple #[]) ∧ Goes lab w (S0 B BB F T true k (m + 1)) w' := by
  obtain ⟨vs, vp, xs, hr, hs, hl⟩ := h
  refine (index_nf B BB k k m m true vs vp xs _ w hr hm (by omega) (by omega)).mono ?_
  rintro e w' ⟨rfl, vp', hr', ho, hn⟩
  refine ⟨rfl, ?_⟩
  have hp := owns_form hr'.op (by omega)
  obtain ⟨g, cap, hg⟩ := hp
  have hgo : vp'.ownBlock = some g := by rw [hg]; rfl
  have lg : lab g = 4 ∨ w.heap.size ≤ g := by
    rcases hn with e | e
    · exact Or.inl (hl.la g (by rw [← e]; exact hgo))
    · exact Or.inr (e g hgo)
  have hag : ∀ b, b < w.heap.size → upd lab g 4 b = lab b := by
    intro b hb
    by_cases e : b = g
    · subst e
      rw [upd_same]
      rcases lg with x | x
      · exact x.symm
      · omega
    · exact upd_ne _ _ _ e
  refine ⟨upd lab g 4, ⟨vs, vp', _, ?_, (hs.setP (hr.os.1.trans (by omega)) hm m).same (fun j hj => ?_) (fun _ _ => rfl), ⟨?_, ?_, ?_, ?_⟩⟩, ho.mono ?_, hag⟩
  · have : ints (List.range (m + 1)) = ints (List.range m) ++ [.int .i64 m] := by simp [ints, List.range_succ]
    rw [this]; exact hr'
  · unfold pn
    by_cases e : j = m
    · subst e; rw [upd_same, if_pos (by omega)]
    · rw [upd_ne _ _ _ e]
      by_cases e2 : j < m
      · rw [if_pos e2, if_pos (by omega)]
      · rw [if_neg e2, if_neg (by omega)]
  · rw [hag BB (hl.lt BB (by rw [hl.lb]; omega)).2]; exact hl.lb
  · intro b hb
    have e := hl.ls b hb
    rw [hag b (hl.lt b (by omega)).2]; exact e
  · intro b hb
    rw [hgo] at hb
    injection hb with hb
    subst hb
    exact upd_same _ _ _
  · intro b hb
    by_cases e : b = g
    · subst e
      exact owns_lt hr'.op b hgo
    · rw [upd_ne _ _ _ e] at hb
      have := hl.lt b hb
      have := ho.size
      omega
  · rintro b hb (e | e | e)
    · show lab b ≠ 0
      rw [e, hl.lb]; omega
    · show lab b ≠ 0
      rw [hl.ls b e]; omega
    · show lab b ≠ 0
      rw [hl.la b e]; omega
end Go.Proofs.Ybulkbxvg
