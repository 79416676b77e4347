/-
  Rows and blocks of the call's own: small laws for the backlog's walks.
-/
import Derived.Test.YbulkbxvgRows
import Derived.WalkKit
import Derived.WalkSpells
import Derived.WalkLawsBesides
import Derived.BigQuiet
import Derived.BigRegion
import Derived.Deep.QuietTactic
import Derived.RegionTactic
import Derived.Below
import Derived.OwnWalk
import Derived.Laws.Pointers
import Derived.Deep.RegionLaw
import Derived.Deep.AppendLies
import Derived.Deep.CutRange
import Derived.Deep.DeepCutAuto
import Derived.Deep.CutBlock
import Derived.Sort.Row
import Derived.Laws.Cover3
namespace Go.Proofs.Ybulkbxvg
open Go.RowKit
set_option linter.unusedVariables false

theorem wrap_small {z : Int} (y : Int) (h : z = y) (h1 : 0 ≤ y) (h2 : y ≤ 1000000) : IntKind.i64.wrap z = y := by
  subst h
  simp [IntKind.wrap, IntKind.bits, IntKind.signed]; omega
theorem heap_lt {w : World} {b : Nat} {o : Obj} (h : w.heap[b]? = some o) : b < w.heap.size := (Array.getElem?_eq_some_iff.1 h).1
theorem cell_at {w : World} {b : Nat} {c : Array Value} {t : TypeId} {fr : Nat × Nat} (h : w.heap[b]? = some (.cells c t fr)) (k : Nat) : w.cell? ⟨b, k, none⟩ = c[k]? := by simp [World.cell?, h]
theorem free_at {w : World} {b : Nat} {c : Array Value} {t : TypeId} (h : w.heap[b]? = some (.cells c t (0, 0))) (k : Nat) : w.frozen? ⟨b, k, none⟩ = false := by simp [World.frozen?, h]
theorem heap_set {w : World} {b : Nat} {c : Array Value} {t : TypeId} {fr : Nat × Nat} (h : w.heap[b]? = some (.cells c t fr)) (k : Nat) (v : Value) : (w.setCell ⟨b, k, none⟩ v).heap[b]? = some (.cells (c.setIfInBounds k v) t fr) := by
  rw [Sort.setCell_eq]
  show (w.heap.modify b _)[b]? = _
  rw [Array.getElem?_modify, if_pos rfl, h]
  rfl
theorem heap_set_ne (w : World) (b k b' : Nat) (v : Value) (h : b' ≠ b) : (w.setCell ⟨b, k, none⟩ v).heap[b']? = w.heap[b']? := Below.heap_setCell _ _ _ _ h

/-- w' is w, but for the blocks in S and for new ones. -/
structure Only (S : Nat → Prop) (w w' : World) : Prop where
  os : w'.os = w.os
  tape : w'.tape = w.tape
  output : w'.output = w.output
  size : w.heap.size ≤ w'.heap.size
  block : ∀ k, k < w.heap.size → ¬ S k → w'.heap[k]? = w.heap[k]?
theorem Only.refl (S : Nat → Prop) (w : World) : Only S w w := ⟨rfl, rfl, rfl, Nat.le_refl _, fun _ _ _ => rfl⟩
theorem Only.trans {S : Nat → Prop} {a b c : World} (h : Only S a b) (k : Only S b c) : Only S a c :=
  ⟨k.os.trans h.os, k.tape.trans h.tape, k.output.trans h.output, Nat.le_trans h.size k.size, fun i hi hn => (k.block i (Nat.lt_of_lt_of_le hi h.size) hn).trans (h.block i hi hn)⟩
theorem Only.mono {S T : Nat → Prop} {a b : World} (h : Only S a b) (hs : ∀ k, k < a.heap.size → S k → T k) : Only T a b := ⟨h.os, h.tape, h.output, h.size, fun k hk hn => h.block k hk (fun x => hn (hs k hk x))⟩
theorem Only.setCell {S : Nat → Prop} {a w : World} (h : Only S a w) {p : Addr} (hp : S p.block ∨ a.heap.size ≤ p.block) (u : Value) : Only S a (w.setCell p u) :=
  ⟨h.os, h.tape, h.output, by rw [World.size_setCell]; exact h.size, fun k hk hn => (Below.heap_setCell _ _ _ _ (fun e => by rcases hp with hp | hp; exact hn (e ▸ hp); omega)).trans (h.block k hk hn)⟩
theorem Only.alloc {S : Nat → Prop} {a w : World} (h : Only S a w) (o : Obj) : Only S a (w.alloc o) :=
  h.trans ⟨rfl, rfl, rfl, by simp, fun k hk _ => Below.heap_alloc _ _ _ hk⟩
theorem Only.drewN {S : Nat → Prop} {a w : World} (h : Only S a w) (n : Nat) : Only S a (w.drewN n) := ⟨h.os, h.tape, h.output, h.size, h.block⟩
theorem Only.grown {S : Nat → Prop} {a w w' : World} {row : Option Nat} (h : Only S a w) (hg : w.grownBy w' row) (hr : ∀ k, row = some k → S k ∨ a.heap.size ≤ k) : Only S a w' :=
  ⟨hg.os.trans h.os, hg.tape.trans h.tape, hg.output.trans h.output, Nat.le_trans h.size hg.size, fun k hk hn => (hg.block k (Nat.lt_of_lt_of_le hk h.size) (fun e => by rcases hr k e.symm with x | x; exact hn x; omega)).trans (h.block k hk hn)⟩
theorem Only.below {S : Nat → Prop} {B : Nat} {w w' : World} (h : Only S w w') (hB : B ≤ w.heap.size) (hS : ∀ k, S k → B ≤ k) : Below B w w' :=
  ⟨h.os, h.tape, h.output, h.size, fun k hk => h.block k (by omega) (fun s => by have := hS k s; omega)⟩

theorem owns_block {w w' : World} {B : Nat} {e : TypeId} {sz n : Nat} {v : Value} {xs : List Value} (h : w.ownsRow B e sz v n xs) (hb : ∀ g, v.ownBlock = some g → w'.heap[g]? = w.heap[g]?) : w'.ownsRow B e sz v n xs := by
  refine ⟨h.1, ?_⟩
  rcases h.2 with h1 | ⟨g, cap, cur, hv, h2, hh, h3⟩
  · exact Or.inl h1
  · subst hv
    exact Or.inr ⟨g, cap, cur, rfl, h2, (hb g rfl).trans hh, h3⟩
theorem owns_lt {w : World} {B : Nat} {e : TypeId} {sz n : Nat} {v : Value} {xs : List Value} (h : w.ownsRow B e sz v n xs) : ∀ k, v.ownBlock = some k → B ≤ k ∧ k < w.heap.size := by
  intro k hk
  rcases h.2 with ⟨h1, _⟩ | ⟨g', cap', cur, hv, h2, hh, h3⟩
  · subst h1; cases hk
  · subst hv
    injection hk with hk
    have e : g' = k := hk
    subst e
    exact ⟨h2, heap_lt hh⟩
theorem owns_form {w : World} {B : Nat} {e : TypeId} {sz n : Nat} {v : Value} {xs : List Value} (h : w.ownsRow B e sz v n xs) (hn : 0 < n) : ∃ g cap, v = .slice (some ⟨g, 0, none⟩) n cap := by
  rcases h.2 with ⟨_, h1⟩ | ⟨g, cap, cur, hv, _⟩
  · omega
  · exact ⟨g, cap, hv⟩
/-- The length, whatever the slice. -/
theorem owns_slice {w : World} {B : Nat} {e : TypeId} {sz n : Nat} {v : Value} {xs : List Value} (h : w.ownsRow B e sz v n xs) : ∃ p cap, v = .slice p n cap := by
  rcases h.2 with ⟨h0, h1⟩ | ⟨g, cap, cur, hv, _⟩
  · subst h1; exact ⟨_, _, h0⟩
  · exact ⟨_, _, hv⟩
theorem owns_set {w : World} {B : Nat} {e : TypeId} {sz n g cap : Nat} {xs : List Value} (h : w.ownsRow B e sz (.slice (some ⟨g, 0, none⟩) n cap) n xs) (k : Nat) (v : Value) (hk : k < n * sz) :
    (w.setCell ⟨g, k, none⟩ v).ownsRow B e sz (.slice (some ⟨g, 0, none⟩) n cap) n (xs.set k v) := by
  refine ⟨by rw [List.length_set]; exact h.1, ?_⟩
  rcases h.2 with ⟨h1, _⟩ | ⟨g', cap', cur, hv, h2, hh, h3, h4, h5, h6⟩
  · simp at h1
  · simp at hv
    obtain ⟨rfl, rfl⟩ := hv
    refine Or.inr ⟨g, cap, _, rfl, h2, heap_set hh k v, h3, h4, by simpa using h5, ?_⟩
    rw [← h6, Array.toList_setIfInBounds, List.take_set]
theorem neqMap (m : Option Nat) (w : World) : (binOp .neq 26 (.map m) (.map none)).run Yba.prog w = .ok (.bool (!m.isNone)) w := run_neq_map_nil w 26 43 39 m Yba.underlying26
theorem mkMap (w : World) : (Instr.makeMap 26 none).run Yba.prog w = .ok (.map (some w.heap.size)) (w.alloc (.map #[] 0)) := by
  first | rfl | simp [Instr.makeMap, newObj]
theorem eqlMap (m : Option Nat) (w : World) : (binOp .eql 26 (.map m) (.map none)).run Yba.prog w = .ok (.bool m.isNone) w := by
  simp [binOp, run_equal_map_nil w 26 43 39 m Yba.underlying26]
end Go.Proofs.Ybulkbxvg
