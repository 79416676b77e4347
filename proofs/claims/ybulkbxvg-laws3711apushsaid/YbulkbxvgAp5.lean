/-
  A map of channels to queues: the look-up and the update, as run.
-/
import Derived.Test.YbulkbxvgAp0
import Derived.Laws.StructEq
import Derived.MapKept
namespace Go.Proofs.Ybulkbxvg
open Go.RowKit
set_option linter.unusedVariables false

def chKey (f t : Nat) : Value := .agg #[.int .i64 f, .int .i64 t]
theorem eqCh (a b c d : Nat) (w : World) : (Op.equal 43 (chKey a b) (chKey c d)).run Yba.prog w = .ok (decide (a = c ∧ b = d)) w := by
  have u3 := Yba.underlying3
  have a3 := Yba.isAgg3
  have z3 := Yba.sizeOf3
  have hS : Yba.prog.underlying 43 = some (.struct (Yba.prog.fieldsOf 43)) := by kernel_rfl
  have hp : Yba.prog.stoodInHeld 43 = false := by kernel_rfl
  show (Op.equalIn 10000 43 (chKey a b) (chKey c d)).run Yba.prog w = _
  unfold chKey
  rw [show (10000 : Nat) = 9999 + 1 from rfl, run_equalIn_agg w 9999 43 _ _ hS hp]
  simp only [Program.fieldsOf, Yba.underlying43]
  go_simp
  by_cases h1 : a = c <;> by_cases h2 : b = d <;> simp [h1, h2] <;> omega

theorem ckInt (e : Bool) (n : Nat) (x : Int) (w : World) : (Instr.checkKey e (n + 1) 3 (.int .i64 x)).run Yba.prog w = .ok () w := by
  have u3 := run_underlying Yba.underlying3 w
  rw [Instr.checkKey]
  simp only [Sem.run_bind, u3, Result.andThen_ok]
  rfl
theorem ckCh (e : Bool) (a b : Nat) (w : World) : (Instr.checkKey e 10000 43 (chKey a b)).run Yba.prog w = .ok () w := by
  have u3 := run_underlying Yba.underlying3
  have a3 := Yba.isAgg3
  have z3 := Yba.sizeOf3
  have u43 := run_underlying Yba.underlying43
  unfold chKey
  rw [show (10000 : Nat) = 9998 + 1 + 1 from rfl, Instr.checkKey]
  go_simp
  rw [show (9999 : Nat) = 9998 + 1 from rfl, ckInt]
  simp only [Result.andThen_ok]
  rw [ckInt]

/-- What a map of channels holds, in its order: (from, to, the queue's block). -/
def Ents (es : List MapEntry) (l : List (Nat × Nat × Nat)) : Prop := es.map (fun e => (e.key, e.val)) = l.map fun x => (chKey x.1 x.2.1, Value.pointer (some ⟨x.2.2, 0, none⟩))
def posOf : List (Nat × Nat × Nat) → Nat → Nat → Nat → Option (Nat × Value)
  | [], _, _, _ => none
  | x :: r, f, t, i => if f = x.1 ∧ t = x.2.1 then some (i, .pointer (some ⟨x.2.2, 0, none⟩)) else posOf r f t (i + 1)
theorem findCh (f t : Nat) : ∀ (es : List MapEntry) (l : List (Nat × Nat × Nat)) (i : Nat) (w : World), Ents es l → (Instr.findAsking 43 (chKey f t) es i).run Yba.prog w = .ok (posOf l f t i) w
  | [], [], i, w, h => rfl
  | [], x :: l, i, w, h => by cases h
  | e :: es, [], i, w, h => by cases h
  | e :: es, x :: l, i, w, h => by
    unfold Ents at h
    simp only [List.map_cons, List.cons.injEq, Prod.mk.injEq] at h
    obtain ⟨⟨hk, hv⟩, hr⟩ := h
    rw [Instr.findAsking]
    simp only [Sem.run_bind, hk, eqCh, Result.andThen_ok]
    rw [posOf]
    by_cases c : f = x.1 ∧ t = x.2.1
    · rw [if_pos c, decide_eq_true c, hv]; rfl
    · rw [if_neg c, decide_eq_false c]
      exact findCh f t es l (i + 1) w hr
theorem keyCh (f t : Nat) (es : List MapEntry) (l : List (Nat × Nat × Nat)) (w : World) (h : Ents es l) : (Instr.findKey 43 (chKey f t) es).run Yba.prog w = .ok (posOf l f t 0) w := by
  have u43 := run_underlying Yba.underlying43 w
  unfold Instr.findKey
  simp only [Sem.run_bind, u43, Result.andThen_ok]
  cases es with
  | nil =>
    cases l with
    | nil => rfl
    | cons x l => cases h
  | cons e es =>
    have hn : ∀ fs, Instr.findNow (.struct fs) (chKey f t) (e :: es) 0 = none := fun fs => rfl
    rw [hn]
    exact findCh f t (e :: es) l 0 w h

/-- The queue of a channel. -/
def qOf (l : List (Nat × Nat × Nat)) (f t : Nat) : Value := match posOf l f t 0 with | some x => x.2 | none => .pointer none
theorem look_run {M : Nat} {es : Array MapEntry} {clock : Nat} {l : List (Nat × Nat × Nat)} {w : World} (hb : w.heap[M]? = some (.map es clock)) (h : Ents es.toList l) (f t : Nat) : (Instr.lookup 26 (.map (some M)) (chKey f t) false).run Yba.prog w = .ok (qOf l f t) w := by
  have u26 := run_underlying Yba.underlying26 w
  have z39 : (zeroValue 39).run Yba.prog w = .ok (.pointer none) w := Yba.zeroValue39 w
  unfold Instr.lookup
  simp only [Sem.run_bind, u26, Result.andThen_ok, MapKept.run_getObj_map hb, Sem.run_pure, ckCh, keyCh f t es.toList l w h]
  unfold qOf
  cases hp : posOf l f t 0 with
  | some x => rfl
  | none => simp [z39]
theorem upd_run {M : Nat} {es : Array MapEntry} {clock : Nat} {l : List (Nat × Nat × Nat)} {w : World} (hb : w.heap[M]? = some (.map es clock)) (h : Ents es.toList l) (f t : Nat) (v : Value) (hn : posOf l f t 0 = none) :
    (Instr.mapUpdate 26 (.map (some M)) (chKey f t) v).run Yba.prog w = .ok () { w with heap := w.heap.setIfInBounds M (.map (es.push { key := chKey f t, val := v, born := clock }) (clock + 1)) } := by
  have u26 := run_underlying Yba.underlying26 w
  unfold Instr.mapUpdate
  simp only [Sem.run_bind, u26, Result.andThen_ok, MapKept.run_getObj_map hb, ckCh, keyCh f t es.toList l w h, hn, MapKept.run_setObj_map _ hb]
theorem Ents.push {es : Array MapEntry} {l : List (Nat × Nat × Nat)} (h : Ents es.toList l) (f t q clock : Nat) : Ents (es.push { key := chKey f t, val := .pointer (some ⟨q, 0, none⟩), born := clock }).toList (l ++ [(f, t, q)]) := by
  unfold Ents at h ⊢
  simp [h]
end Go.Proofs.Ybulkbxvg
