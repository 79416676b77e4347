/-
  What the law's last loops read.
-/
import Derived.Test.YbulkbxvgApB
import Derived.Lib.Builder
namespace Go.Proofs.Ybulkbxvg
open Go.RowKit
set_option linter.unusedVariables false

theorem ixs_at (C : Nat → Nat) (c i : Nat) (hc : C i = c) : ∀ n, i < n → (ixs C c n)[(ixs C c i).length]? = some i := by
  intro n
  induction n with
  | zero => intro h; omega
  | succ n ih =>
    intro h
    rw [ixs]
    by_cases e : i = n
    · subst e
      rw [if_pos hc]
      simp
    · have h1 := ih (by omega)
      by_cases m : C n = c
      · rw [if_pos m, List.getElem?_append_left]
        · exact h1
        · exact (List.getElem?_eq_some_iff.1 h1).1
      · rw [if_neg m]; exact h1
theorem fo_nodup (C : Nat → Nat) : ∀ n, (fo C n).Nodup
  | 0 => List.nodup_nil
  | n + 1 => by
    rw [fo]
    by_cases m : C n ∈ fo C n
    · rw [if_pos m]; exact fo_nodup C n
    · rw [if_neg m, List.nodup_append]
      exact ⟨fo_nodup C n, by simp, fun a ha b hb => by rw [List.mem_singleton.1 hb]; exact fun e => m (e ▸ ha)⟩
theorem ints_get {l : List Nat} {j x : Nat} (h : l[j]? = some x) : (ints l)[j]? = some (.int .i64 x) := by
  unfold ints
  rw [List.getElem?_map, h]
  rfl
theorem idx_at {l : List Nat} (hn : l.Nodup) {j x : Nat} (h : l[j]? = some x) : l.idxOf x = j := by
  obtain ⟨hj, e⟩ := List.getElem?_eq_some_iff.1 h
  rw [← e]
  exact hn.idxOf_getElem j hj

/-- The backlog with its queues and the law's rows. -/
structure QW (B M SN PL CH FR TO n : Nat) (F T : Nat → Nat) (w : World) (lab : Nat → Nat) (vs va : Value) (qb : Nat → Nat) (qv : Nat → Value) (xs : List Value) (es : Array MapEntry) (clock : Nat) (vfo : Value) (wx : World) : Prop where
  fq : FQ B B M F T (pf F T) wx lab n n (fo (chn F T) n) vs va qb qv xs es clock
  lr : LR B SN PL CH FR TO n F T true n vfo lab wx
  be : Below B w wx
theorem QW.keep {B M SN PL CH FR TO n : Nat} {F T : Nat → Nat} {w : World} {lab : Nat → Nat} {vs va : Value} {qb : Nat → Nat} {qv : Nat → Value} {xs : List Value} {es : Array MapEntry} {clock : Nat} {vfo : Value} {wx wy : World} {PB : Nat} (h : QW B M SN PL CH FR TO n F T w lab vs va qb qv xs es clock vfo wx) (ho : Only (fun b => b = PB) wx wy)
    (hp : B ≤ PB ∧ lab PB = 0 ∧ PB ≠ SN ∧ PB ≠ PL ∧ PB ≠ CH ∧ PB ≠ FR ∧ PB ≠ TO ∧ vfo.ownBlock ≠ some PB) : QW B M SN PL CH FR TO n F T w lab vs va qb qv xs es clock vfo wy := by
  obtain ⟨p0, p1, p2, p3, p4, p5, p6, p7⟩ := hp
  have hb : ∀ b, b < wx.heap.size → b ≠ PB → wy.heap[b]? = wx.heap[b]? := fun b h1 h2 => ho.block b h1 h2
  refine ⟨h.fq.keep (fun b h1 => hb b (h.fq.lt b h1).2 (fun e => by rw [e] at h1; exact h1 p1)) ho.size, ⟨h.lr.sn.keep (hb _ h.lr.sn.lt (Ne.symm p2)), h.lr.pl.keep (hb _ h.lr.pl.lt (Ne.symm p3)), h.lr.ch.keep (hb _ h.lr.ch.lt (Ne.symm p4)), h.lr.fr.keep (hb _ h.lr.fr.lt (Ne.symm p5)), h.lr.tt.keep (hb _ h.lr.tt.lt (Ne.symm p6)), owns_block h.lr.fw (fun g e => hb _ (owns_lt h.lr.fw g e).2 (fun x => p7 (by rw [← x]; exact e))), h.lr.l0, h.lr.lf, h.lr.lt⟩, h.be.trans (ho.below ?_ (fun b x => by rw [x]; exact p0))⟩
  have := h.fq.lt B (by rw [h.fq.lb]; omega)
  omega
theorem QW.size {B M SN PL CH FR TO n : Nat} {F T : Nat → Nat} {w : World} {lab : Nat → Nat} {vs va : Value} {qb : Nat → Nat} {qv : Nat → Value} {xs : List Value} {es : Array MapEntry} {clock : Nat} {vfo : Value} {wx : World} (h : QW B M SN PL CH FR TO n F T w lab vs va qb qv xs es clock vfo wx) : es.size = (fo (chn F T) n).length := by
  have := congrArg List.length h.fq.en
  simpa using this

theorem Yba.info45 : (Yba.prog.info? 45).map (fun i => i.size) = some 2 := by kernel_rfl
/-- Equal pointers. -/
theorem neqPtr (a : Addr) (w : World) : (binOp .neq 39 (.pointer (some a)) (.pointer (some a))).run Yba.prog w = .ok (.bool false) w := by
  obtain ⟨j, hj, _⟩ := Option.map_eq_some_iff.1 Yba.info45
  exact Go.Lib.run_neq_ptr_same w a Yba.underlying39 hj
/-- The queue of channel c, as the loops read it. -/
theorem QW.queue {B M SN PL CH FR TO n : Nat} {F T : Nat → Nat} {w : World} {lab : Nat → Nat} {vs va : Value} {qb : Nat → Nat} {qv : Nat → Value} {xs : List Value} {es : Array MapEntry} {clock : Nat} {vfo : Value} {wx : World} (h : QW B M SN PL CH FR TO n F T w lab vs va qb qv xs es clock vfo wx) {c : Nat} (hc : c ∈ fo (chn F T) n) :
    (∀ q, (Instr.lookup 26 (.map (some M)) (.agg #[.int .i64 ((c / 4 : Nat) : Int), .int .i64 ((c % 4 : Nat) : Int)]) false).run Yba.prog (wx.drewN q) = .ok (.pointer (some ⟨qb c, 0, none⟩)) (wx.drewN q)) ∧
    (∃ p cap, wx.cell? ⟨qb c, 0, none⟩ = some (.slice p (sc F T n c) cap) ∧ wx.cell? ⟨qb c, 1, none⟩ = some (.int .i64 ((fo (chn F T) n).idxOf c)) ∧ ∀ (j x : Nat), (ixs (chn F T) c n)[j]? = some x → ∃ g, p = some ⟨g, 0, none⟩ ∧ wx.cell? ⟨g, j, none⟩ = some (.int .i64 x)) := by
  refine ⟨fun q => ?_, ?_⟩
  · have := look_run (w := wx.drewN q) h.fq.mp h.fq.en (c / 4) (c % 4)
    rw [qOf_mem qb c _ hc] at this
    exact this
  · obtain ⟨h1, h2⟩ := h.fq.qs c hc
    obtain ⟨p, cap, e⟩ := owns_slice h2
    refine ⟨p, cap, ?_, cell_at h1 1, fun j x hx => ?_⟩
    · have := cell_at h1 0
      rw [this, e]; rfl
    · have hj : j < (ixs (chn F T) c n).length := (List.getElem?_eq_some_iff.1 hx).1
      obtain ⟨g, cap', e'⟩ := owns_form h2 (by omega)
      rw [e] at e'
      injection e' with e1 e2 e3
      subst e1
      rw [e] at h2
      exact ⟨g, rfl, (h2.cellAt j (by omega)).trans (ints_get hx)⟩
end Go.Proofs.Ybulkbxvg
