/-
  The walk of LawS3715BPopsInOrder: what its loops know.
-/
import Derived.Test.YbulkbxxkPops
import Derived.Test.YbulkbxxkPush
import Derived.Test.YbulkbxxkRemoves
namespace Go.Proofs.Ybulkbxxk
open Go.RowKit Go.Sort
set_option linter.unusedVariables false

/-- The heap while it is filled. -/
structure Filled (B H : Nat) (w0 wr : World) (v : Value) (k : Nat) (z : List Int) (d : Array Iv) : Prop where
  cell : wr.cell? ⟨H, 0, none⟩ = some v
  free : wr.frozen? ⟨H, 0, none⟩ = false
  own : wr.ownsRow B 47 5 v k (cellsOf d)
  size : d.size = k
  lt : H < wr.heap.size
  nb : v.ownBlock ≠ some H
  below : Below B w0 wr
  heap : HeapO d
  perm : d.toList.Perm ((List.range k).map fun i => (i, z.getD i 0))
theorem Filled.push {B H : Nat} {w0 wr w' : World} {v : Value} {k g cap : Nat} {z : List Int} {d : Array Iv} (h : Filled B H w0 wr v k z d) (j : HeapIs B H wr w' g cap (k + 1) (pushF d (k, z.getD k 0))) :
    Filled B H w0 w' (.slice (some ⟨g, 0, none⟩) (k + 1) cap) (k + 1) z (pushF d (k, z.getD k 0)) :=
  ⟨j.cell, j.free, j.own, by rw [pushF_size, h.size], j.lt, fun e => j.ne (by injection e with e), h.below.trans j.below, pushF_heap h.heap _, push_start h.perm⟩

/-- While it is emptied. -/
structure PopAt (B H g cap g2 S : Nat) (w0 : World) (n k L : Nat) (z : List Int) (s : Array Int) (d : Array Iv) (wr : World) : Prop where
  cell : wr.cell? ⟨H, 0, none⟩ = some (.slice (some ⟨g, 0, none⟩) L cap)
  free : wr.frozen? ⟨H, 0, none⟩ = false
  row : HoldsK enc 5 wr g 0 d
  want : Row32 wr g2 s
  seen : ∀ id, id < n → wr.cell? ⟨S, id, none⟩ = some (.bool (gone d id)) ∧ wr.frozen? ⟨S, id, none⟩ = false
  ltH : H < wr.heap.size
  ltg : g < wr.heap.size
  lt2 : g2 < wr.heap.size
  ltS : S < wr.heap.size
  below : Below B w0 wr
  pops : Pops n k z s d
/-- All that PopAt says hangs on four blocks. -/
theorem PopAt.move {B H g cap g2 S : Nat} {w0 : World} {n k L : Nat} {z : List Int} {s : Array Int} {d : Array Iv} {wr w' : World} (h : PopAt B H g cap g2 S w0 n k L z s d wr)
    (hH : w'.heap[H]? = wr.heap[H]?) (hg : w'.heap[g]? = wr.heap[g]?) (h2 : w'.heap[g2]? = wr.heap[g2]?) (hS : w'.heap[S]? = wr.heap[S]?) (hsz : wr.heap.size ≤ w'.heap.size) (hb : Below B w0 w') : PopAt B H g cap g2 S w0 n k L z s d w' :=
  ⟨(World.cell?_of_block hH).trans h.cell, (World.frozen?_of_block hH).trans h.free, holdsK_block h.row hg, h.want.of_block h2, fun id hid => ⟨(World.cell?_of_block hS).trans (h.seen id hid).1, (World.frozen?_of_block hS).trans (h.seen id hid).2⟩,
    Nat.lt_of_lt_of_le h.ltH hsz, Nat.lt_of_lt_of_le h.ltg hsz, Nat.lt_of_lt_of_le h.lt2 hsz, Nat.lt_of_lt_of_le h.ltS hsz, hb, h.pops⟩
theorem PopAt.alloc {B H g cap g2 S : Nat} {w0 : World} {n k L : Nat} {z : List Int} {s : Array Int} {d : Array Iv} {wr : World} (h : PopAt B H g cap g2 S w0 n k L z s d wr) (hB : B ≤ H) (o : Obj) : PopAt B H g cap g2 S w0 n k L z s d (wr.alloc o) :=
  h.move (Below.heap_alloc _ _ _ h.ltH) (Below.heap_alloc _ _ _ h.ltg) (Below.heap_alloc _ _ _ h.lt2) (Below.heap_alloc _ _ _ h.ltS) (by simp) (h.below.alloc (by have := h.ltH; omega) o)
theorem PopAt.drewN {B H g cap g2 S : Nat} {w0 : World} {n k L : Nat} {z : List Int} {s : Array Int} {d : Array Iv} {wr : World} (h : PopAt B H g cap g2 S w0 n k L z s d wr) (q : Nat) : PopAt B H g cap g2 S w0 n k L z s d (wr.drewN q) :=
  h.move rfl rfl rfl rfl (Nat.le_refl _) (h.below.trans ⟨rfl, rfl, rfl, Nat.le_refl _, fun _ _ => rfl⟩)
/-- One pop, behind 'seen[id] = true'. -/
theorem PopAt.pop {B H g cap g2 S : Nat} {w0 : World} {n k L : Nat} {z : List Int} {s : Array Int} {d : Array Iv} {wr w' : World} (h : PopAt B H g cap g2 S w0 n k (L + 1) z s d wr) (hs : SortedIn ltInt 0 n s) (hsz : s.size = n) (hk : k < n)
    (hHg : H ≠ g) (hH2 : H ≠ g2) (hHS : H ≠ S) (hg2 : g ≠ g2) (hgS : g ≠ S) (h2S : g2 ≠ S) (hBH : B ≤ H) (hBg : B ≤ g) (hBS : B ≤ S)
    (c : w'.cell? ⟨H, 0, none⟩ = some (.slice (some ⟨g, 0, none⟩) L cap)) (f : w'.frozen? ⟨H, 0, none⟩ = false) (r : HoldsK enc 5 w' g 0 (popF d)) (hw : w'.heap.size = (wr.setCell ⟨S, d[0]!.1, none⟩ (.bool true)).heap.size)
    (o : Only (fun k => k = H ∨ k = g) (wr.setCell ⟨S, d[0]!.1, none⟩ (.bool true)) w') : PopAt B H g cap g2 S w0 n (k + 1) L z s (popF d) w' := by
  rw [World.size_setCell] at hw
  have hid : d[0]!.1 < n := (h.pops.mem _ (get_mem d 0 (by have := h.pops.size; omega))).1
  have b2 : w'.heap[g2]? = wr.heap[g2]? := (o.block g2 (by rw [World.size_setCell]; exact h.lt2) (by omega)).trans (Below.heap_setCell _ _ _ _ (by show g2 ≠ S; omega))
  have bS : w'.heap[S]? = (wr.setCell ⟨S, d[0]!.1, none⟩ (.bool true)).heap[S]? := o.block S (by rw [World.size_setCell]; exact h.ltS) (by omega)
  refine ⟨c, f, r, h.want.of_block b2, fun id hi => ⟨?_, ?_⟩, by rw [hw]; exact h.ltH, by rw [hw]; exact h.ltg, by rw [hw]; exact h.lt2, by rw [hw]; exact h.ltS, ?_, h.pops.pop hs hsz hk⟩
  · rw [World.cell?_of_block (w := wr.setCell ⟨S, d[0]!.1, none⟩ (.bool true)) bS, h.pops.gone_pop hk id]
    by_cases e : id = d[0]!.1
    · subst e
      rw [World.cell?_setCell_same wr _ _ (h.seen _ hid).1]
      simp
    · rw [cell_set_ne _ _ _ _ _ _ (Or.inr (fun e2 => e e2.symm)), decide_eq_false e, Bool.or_false]
      exact (h.seen id hi).1
  · rw [World.frozen?_of_block (w := wr.setCell ⟨S, d[0]!.1, none⟩ (.bool true)) bS, World.frozen?_setCell]
    exact (h.seen id hi).2
  · have hb : Below B w0 (wr.setCell ⟨S, d[0]!.1, none⟩ (.bool true)) := h.below.setCell (p := ⟨S, d[0]!.1, none⟩) hBS _
    exact hb.trans (o.below (by rw [World.size_setCell]; have := h.ltH; omega) (fun k hk => by rcases hk with rfl | rfl <;> assumption))
/-- The call of pop behind 'seen[id] = true'. -/
theorem PopAt.call {B H g cap g2 S : Nat} {w0 : World} {n k L : Nat} {z : List Int} {s : Array Int} {d : Array Iv} {wr : World} (h : PopAt B H g cap g2 S w0 n k (L + 1) z s d wr) (hs : SortedIn ltInt 0 n s) (hsz : s.size = n) (hk : k < n)
    (hHg : H ≠ g) (hH2 : H ≠ g2) (hHS : H ≠ S) (hg2 : g ≠ g2) (hgS : g ≠ S) (h2S : g2 ≠ S) (hBH : B ≤ H) (hBg : B ≤ g) (hBS : B ≤ S) (hcap : n ≤ cap) (hn : n ≤ 1024) (hL : L + 1 + k = n) :
    Calls Yba.prog 15 #[.pointer (some ⟨H, 0, none⟩)] (wr.setCell ⟨S, d[0]!.1, none⟩ (.bool true)) fun e w' => e = .returned (.tuple #[]) ∧ PopAt B H g cap g2 S w0 n (k + 1) L z s (popF d) w' := by
  have hds : d.size = L + 1 := by have := h.pops.size; omega
  refine (pop_any H g cap L d _ hHg (by rw [World.size_setCell]; exact h.ltg) ?_ ?_ ?_ hds (by omega) (by omega)).mono ?_
  · exact (World.cell?_of_block (Below.heap_setCell _ _ _ _ (by exact hHS))).trans h.cell
  · rw [World.frozen?_setCell]; exact h.free
  · exact holdsK_block h.row (Below.heap_setCell _ _ _ _ (by exact hgS))
  · rintro e w' ⟨he, c, f, r, hw, o⟩
    exact ⟨he, h.pop hs hsz hk hHg hH2 hHS hg2 hgS h2S hBH hBg hBS c f r hw o⟩
end Go.Proofs.Ybulkbxxk
