/-
  container/heap over addrmatch.byElement: the plain functions (down, up, fix) and the walks of Len, Less, Swap, heap.down, heap.up, heap.Fix, pop.
  An interval is a pair (its number, its element): five cells.
-/
import Derived.Test.YbulkbxxkRows
import Derived.WalkKit
import Derived.WalkSpells
import Derived.WalkLawsBesides
import Derived.BigQuiet
import Derived.Deep.QuietTactic
import Derived.RegionTactic
import Derived.ChangeAlike
import Derived.Shelf.SlSortFuncK.RowK2
namespace Go.Proofs.Ybulkbxxk
open Go.RowKit Go.Sort
set_option linter.unusedVariables false

abbrev Iv := Nat × Int
def enc (x : Iv) : List Value := [.int .u64 0, .int .u64 x.1, .int .u64 0, .int .u64 x.1, .int .i32 x.2]
theorem enc_len (x : Iv) : (enc x).length = 5 := rfl
def lt (x y : Iv) : Bool := decide (x.2 < y.2)

def downF : Nat → Array Iv → Nat → Nat → Array Iv × Nat
  | 0, d, i, _ => (d, i)
  | f + 1, d, i, n =>
    if n ≤ 2 * i + 1 then (d, i) else
      let j := if 2 * i + 2 < n ∧ lt d[2 * i + 2]! d[2 * i + 1]! = true then 2 * i + 2 else 2 * i + 1
      if lt d[j]! d[i]! = true then downF f (swp d i j) j n else (d, i)

def upF : Nat → Array Iv → Nat → Array Iv
  | 0, d, _ => d
  | f + 1, d, j =>
    if (j - 1) / 2 = j then d else
      if lt d[j]! d[(j - 1) / 2]! = true then upF f (swp d ((j - 1) / 2) j) ((j - 1) / 2) else d

/-- heap.Fix: down from i; where that moved nothing, up from i. -/
def fixF (d : Array Iv) (i : Nat) : Array Iv :=
  let r := downF (d.size - i) d i d.size
  if i < r.2 then r.1 else upF i r.1 i

set_option maxHeartbeats 400000 in
theorem len_any (p : Option Addr) (n c : Nat) (w : World) :
    Calls Yba.prog 88 #[.slice p n c] w fun e w' => e = .returned (.int .i64 n) ∧ w' = w := by
  go_enter Yba.func88, Yba.ntmps88
  go_wp2
  go_ret
  exact ⟨rfl, rfl⟩

theorem cellE {w : World} {b : Nat} {d : Array Iv} (h : HoldsK enc 5 w b 0 d) (i : Nat) (hi : i < d.size) : w.cell? ⟨b, i * 5 + 4, none⟩ = some (.int .i32 d[i]!.2) := by
  have := (h.cell hi (show 4 < 5 by omega)).1
  rw [Nat.zero_add] at this
  exact this

set_option maxHeartbeats 400000 in
theorem less_any (b cap : Nat) (d : Array Iv) (w : World) (hH : HoldsK enc 5 w b 0 d) (i j : Nat) (hi : i < d.size) (hj : j < d.size) (hs : d.size ≤ cap) (hc : d.size ≤ 1024) :
    Calls Yba.prog 89 #[.slice (some ⟨b, 0, none⟩) d.size cap, .int .i64 i, .int .i64 j] w fun e w' => e = .returned (.bool (lt d[i]! d[j]!)) ∧ ∃ q, w' = w.drewN q := by
  have c1 := cellE hH i hi
  have c2 := cellE hH j hj
  unfold lt
  generalize d[i]!.2 = x at *
  generalize d[j]!.2 = y at *
  clear hH
  go_enter Yba.func89, Yba.ntmps89
  go_wp2
  go_quiet (fail)
  go_wp2
  go_ret
  exact ⟨rfl, _, rfl⟩

theorem cellsA {w : World} {b : Nat} {d : Array Iv} (h : HoldsK enc 5 w b 0 d) (i : Nat) (hi : i < d.size) :
    w.cell? ⟨b, i * 5, none⟩ = some (.int .u64 0) ∧ w.cell? ⟨b, i * 5 + 1, none⟩ = some (.int .u64 d[i]!.1) ∧ w.cell? ⟨b, i * 5 + 2, none⟩ = some (.int .u64 0) ∧ w.cell? ⟨b, i * 5 + 3, none⟩ = some (.int .u64 d[i]!.1) ∧ w.cell? ⟨b, i * 5 + 4, none⟩ = some (.int .i32 d[i]!.2) ∧
    w.frozen? ⟨b, i * 5, none⟩ = false ∧ w.frozen? ⟨b, i * 5 + 1, none⟩ = false ∧ w.frozen? ⟨b, i * 5 + 2, none⟩ = false ∧ w.frozen? ⟨b, i * 5 + 3, none⟩ = false ∧ w.frozen? ⟨b, i * 5 + 4, none⟩ = false := by
  have h0 := h.cell hi (show 0 < 5 by omega)
  have h1 := h.cell hi (show 1 < 5 by omega)
  have h2 := h.cell hi (show 2 < 5 by omega)
  have h3 := h.cell hi (show 3 < 5 by omega)
  have h4 := h.cell hi (show 4 < 5 by omega)
  rw [Nat.zero_add] at h0 h1 h2 h3 h4
  exact ⟨h0.1, h1.1, h2.1, h3.1, h4.1, h0.2, h1.2, h2.2, h3.2, h4.2⟩

set_option maxHeartbeats 1000000 in
theorem swap_raw (b cap n : Nat) (w : World) (i j : Nat) (hi : i < n) (hj : j < n) (xi xj : Nat) (yi yj : Int)
    (a0 : w.cell? ⟨b, i * 5, none⟩ = some (.int .u64 0)) (a1 : w.cell? ⟨b, i * 5 + 1, none⟩ = some (.int .u64 xi)) (a2 : w.cell? ⟨b, i * 5 + 2, none⟩ = some (.int .u64 0)) (a3 : w.cell? ⟨b, i * 5 + 3, none⟩ = some (.int .u64 xi)) (a4 : w.cell? ⟨b, i * 5 + 4, none⟩ = some (.int .i32 yi))
    (f0 : w.frozen? ⟨b, i * 5, none⟩ = false) (f1 : w.frozen? ⟨b, i * 5 + 1, none⟩ = false) (f2 : w.frozen? ⟨b, i * 5 + 2, none⟩ = false) (f3 : w.frozen? ⟨b, i * 5 + 3, none⟩ = false) (f4 : w.frozen? ⟨b, i * 5 + 4, none⟩ = false)
    (b0 : w.cell? ⟨b, j * 5, none⟩ = some (.int .u64 0)) (b1 : w.cell? ⟨b, j * 5 + 1, none⟩ = some (.int .u64 xj)) (b2 : w.cell? ⟨b, j * 5 + 2, none⟩ = some (.int .u64 0)) (b3 : w.cell? ⟨b, j * 5 + 3, none⟩ = some (.int .u64 xj)) (b4 : w.cell? ⟨b, j * 5 + 4, none⟩ = some (.int .i32 yj))
    (g0 : w.frozen? ⟨b, j * 5, none⟩ = false) (g1 : w.frozen? ⟨b, j * 5 + 1, none⟩ = false) (g2 : w.frozen? ⟨b, j * 5 + 2, none⟩ = false) (g3 : w.frozen? ⟨b, j * 5 + 3, none⟩ = false) (g4 : w.frozen? ⟨b, j * 5 + 4, none⟩ = false) :
    Calls Yba.prog 31 #[.slice (some ⟨b, 0, none⟩) n cap, .int .i64 i, .int .i64 j] w fun e w' => e = .returned (.tuple #[]) ∧ ∃ q, w' = ((w.setCells b (i * 5) (enc (xj, yj))).setCells b (j * 5) (enc (xi, yi))).drewN q := by
  by_cases hne : i = j
  · subst hne
    obtain rfl : xi = xj := by have := a1.symm.trans b1; simp at this; omega
    obtain rfl : yi = yj := by have := a4.symm.trans b4; simp at this; omega
    clear b0 b1 b2 b3 b4 g0 g1 g2 g3 g4
    go_enter Yba.func31, Yba.ntmps31
    go_wp2
    go_region
    go_end0
    exact ⟨rfl, 1, rfl⟩
  · have hne1 : ¬ j = i := fun h => hne h.symm
    go_enter Yba.func31, Yba.ntmps31
    go_wp2
    go_region
    go_end0
    exact ⟨rfl, 1, rfl⟩

theorem swap_any (b cap : Nat) (d : Array Iv) (w : World) (hH : HoldsK enc 5 w b 0 d) (i j : Nat) (hi : i < d.size) (hj : j < d.size) :
    Calls Yba.prog 31 #[.slice (some ⟨b, 0, none⟩) d.size cap, .int .i64 i, .int .i64 j] w fun e w' => e = .returned (.tuple #[]) ∧ ∃ q, w' = putRowK enc 5 (Sort.ahead w q) b 0 (swp d i j) := by
  obtain ⟨a0, a1, a2, a3, a4, f0, f1, f2, f3, f4⟩ := cellsA hH i hi
  obtain ⟨b0, b1, b2, b3, b4, g0, g1, g2, g3, g4⟩ := cellsA hH j hj
  refine (swap_raw b cap d.size w i j hi hj _ _ _ _ a0 a1 a2 a3 a4 f0 f1 f2 f3 f4 b0 b1 b2 b3 b4 g0 g1 g2 g3 g4).mono ?_
  rintro e w' ⟨he, q, rfl⟩
  refine ⟨he, q, ?_⟩
  have h := putRowK_swp enc 5 enc_len w b 0 d i j hi hj
  rw [putRowK_self enc 5 w b 0 d hH, Nat.zero_add, Nat.zero_add] at h
  show ((w.setCells b (i * 5) (enc d[j]!)).setCells b (j * 5) (enc d[i]!)).drewN q = _
  rw [h]
  have h2 := putRowK_drewN enc 5 w 0 q b 0 (swp d i j)
  rw [Nat.zero_add] at h2
  exact h2
end Go.Proofs.Ybulkbxxk
