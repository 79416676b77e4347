/-
  The facts that the walks ask, at this program; slices.Clone and slices.SortFunc in the walks' words.
-/
import Derived.Test.YbulkbxzaOrd
import Derived.Stop.BytesEq
namespace Go.Proofs.Ybulkbxza
open Go.RowKit Go.Sort Go.Lib Go.Shelf
set_option linter.unusedVariables false

def Z20 : Array Value := #[.int .u8 0, .int .u8 0, .int .u8 0, .int .u8 0, .int .u8 0, .int .u8 0, .int .u8 0, .int .u8 0, .int .u8 0, .int .u8 0, .int .u8 0, .int .u8 0, .int .u8 0, .int .u8 0, .int .u8 0, .int .u8 0, .int .u8 0, .int .u8 0, .int .u8 0, .int .u8 0]

theorem eqIn (x y : ID) (w : World) : (Op.equalIn 10000 23 (.agg (enc x).toArray) (.agg (enc y).toArray)).run Yba.prog w = .ok (decide (x = y)) w := by
  have h := run_equalIn_bytes (P := Yba.prog) w 9998 23 5 20 Yba.underlying23 Yba.underlying5 Yba.sizeOf5 (bs x) (bs y) (bs_len x) (bs_len y)
  have e : (bs x == bs y) = decide (x = y) := by
    rw [Bool.eq_iff_iff, beq_iff_eq, decide_eq_true_iff]
    exact ⟨bs_inj, fun h => by rw [h]⟩
  rw [e] at h
  exact h

theorem at20 : At Yba.prog 20 Z20 where
  mixed := by kernel_rfl
  funcs := rfl
  t3 := Yba.underlying3
  a3 := Yba.isAgg3
  z3 := Yba.sizeOf3
  v3 := Yba.zeroValue3
  t4 := Yba.underlying4
  a4 := Yba.isAgg4
  z4 := Yba.sizeOf4
  v4 := Yba.zeroValue4
  a23 := Yba.isAgg23
  z23 := Yba.sizeOf23
  v23 := Yba.zeroValue23
  q23 := eqIn
  zl := rfl
  t24 := Yba.underlying24
  a24 := Yba.isAgg24
  z24 := Yba.sizeOf24
  v24 := Yba.zeroValue24
  t28 := Yba.underlying28
  a28 := Yba.isAgg28
  z28 := Yba.sizeOf28
  t29 := Yba.underlying29
  a29 := Yba.isAgg29
  z29 := Yba.sizeOf29
  t49 := rfl
  a49 := Yba.isAgg49
  z49 := Yba.sizeOf49
  v49 := fun _ => rfl
  t58 := Yba.underlying58
  a58 := Yba.isAgg58
  z58 := Yba.sizeOf58
  t54 := Yba.underlying54
  zf := fun _ _ _ => rfl
  ge23 := fun _ _ _ _ _ => by kernel_rfl
  gn23 := fun _ _ _ _ _ => by kernel_rfl
  k0 := by decide
  hk := enc_len
  c8 := acmp_any
  c16 := bcmp_any

theorem info23 : (Yba.prog.info? 23).map (fun i => (i.zero, i.size, i.bytes)) = some (some (.agg Z20), 20, 20) := by kernel_rfl

def cloneID_ren : Go.Shelf.Ren := ⟨fun | 41 => 6 | n => n, fun | 22 => 24 | 23 => 23 | 4 => 4 | n => n, fun n => n⟩
theorem cloneID : SlLaysE0.n41 Yba.prog cloneID_ren :=
  { mixed := by kernel_rfl,
    f41 := ⟨Yba.f6.name, by decide, Yba.func6.trans (congrArg some (by kernel_rfl))⟩,
    t4 := Yba.underlying4,
    a4 := Yba.isAgg4,
    z4 := Yba.sizeOf4,
    v4 := Yba.zeroValue4,
    t22 := Yba.underlying24,
    a22 := Yba.isAgg24,
    z22 := Yba.sizeOf24,
    v22 := Yba.zeroValue24 }

/-- The flat cells of a row that holds l. -/
theorem cells_of_holds {w : World} {b : Nat} {l : List ID} (h : HoldsK enc 20 w b 0 l.toArray) : ∀ j u, (cellsL l)[j]? = some u → w.cell? ⟨b, 0 + j, none⟩ = some u := by
  intro j u hj
  have hjl : j < (cellsL l).length := (List.getElem?_eq_some_iff.1 hj).1
  rw [cellsL_len] at hjl
  have h1 : j / 20 < l.length := by omega
  have h2 := cellsL_get l (j / 20) (j % 20) h1 (by omega)
  rw [show j / 20 * 20 + j % 20 = j by omega, hj] at h2
  have h3 := (h.cell (i := j / 20) (c := j % 20) (by simpa using h1) (by omega)).1
  rw [show 0 + j / 20 * 20 + j % 20 = 0 + j by omega] at h3
  rw [h3, h2]
  simp

theorem clone_any (b c : Nat) (l : List ID) (w : World) (hl : l.length ≤ 2000) (h : HoldsK enc 20 w b 0 l.toArray) :
    Calls Yba.prog 6 #[.slice (some ⟨b, 0, none⟩) l.length c] w fun e w' => ∃ g cap, e = .returned (.slice (some ⟨g, 0, none⟩) l.length cap) ∧ w.heap.size ≤ g ∧ g < w'.heap.size ∧ HoldsK enc 20 w' g 0 l.toArray ∧ Below w.heap.size w w' := by
  obtain ⟨i0, hi, hz0, hz1, hz2⟩ := info_parts info23
  refine (AnyE.slices_Clone cloneID i0 (.agg Z20) 20 20 hi hz0 hz1 hz2 rfl (by decide) Yba.sizeOf23 b 0 l.length c (cellsL l) w (cellsL_len l) (by unfold maxLen; omega) (by omega) (cells_of_holds h) (cellsL_oneCell l)).mono ?_
  rintro e w' ⟨v, rfl, hown, hne, hb⟩
  obtain ⟨g, cap, rfl, h1, h2, _⟩ := ownsRow_shape hown hne
  exact ⟨g, cap, rfl, h1, h2, holdsK_of_owns hown, hb⟩

/-- w' is w, but for the blocks in S and for new ones. -/
structure Only (S : Nat → Prop) (w w' : World) : Prop where
  os : w'.os = w.os
  tape : w'.tape = w.tape
  output : w'.output = w.output
  size : w.heap.size ≤ w'.heap.size
  block : ∀ k, k < w.heap.size → ¬ S k → w'.heap[k]? = w.heap[k]?
theorem Only.below {S : Nat → Prop} {B : Nat} {w w' : World} (h : Only S w w') (hB : B ≤ w.heap.size) (hS : ∀ k, S k → B ≤ k) : Below B w w' :=
  ⟨h.os, h.tape, h.output, h.size, fun k hk => h.block k (by omega) (fun s => by have := hS k s; omega)⟩
theorem holdsK_block {w w' : World} {b : Nat} {d : Array ID} {k : Nat} (h : HoldsK enc k w b 0 d) (hb : w'.heap[b]? = w.heap[b]?) : HoldsK enc k w' b 0 d := by
  intro j hj
  have := h j hj
  exact ⟨(World.cell?_of_block (w := w) (by exact hb)).trans this.1, (World.frozen?_of_block (w := w) (by exact hb)).trans this.2⟩

theorem only_sortWorld (w : World) (b n : Nat) (d : Array ID) (os : Array Obj) : Only (fun j => j = b) w (sortWorldK enc 20 w b 0 n d os) := by
  unfold sortWorldK
  refine ⟨rfl, rfl, rfl, ?_, fun j hj hn => ?_⟩
  · rw [size_grow, size_putRowK]; exact Nat.le_add_right _ _
  · rw [heap_grow_old _ _ (by rw [size_putRowK]; exact hj)]
    show (w.heap.modify b _)[j]? = _
    rw [Array.getElem?_modify, if_neg (fun e => hn e.symm)]

theorem sort_any (b cap : Nat) (d : Array ID) (w : World) (hH : HoldsK enc 20 w b 0 d) (hb : b < w.heap.size) (hs : d.size ≤ 2000) :
    Calls Yba.prog 7 #[.slice (some ⟨b, 0, none⟩) d.size cap, .func (.func 8) #[] #[]] w fun e w' => e = .returned (.tuple #[]) ∧ ∃ d' : Array ID, d'.size = d.size ∧ d'.toList.Perm d.toList ∧ SortedIn (ltOf cf) 0 d'.size d' ∧ HoldsK enc 20 w' b 0 d' ∧ Only (fun j => j = b) w w' := by
  have eg : ∀ args w, (callFunc 8 args).run Yba.prog w = .ok (.enter 8 args) w := enters_of Yba.func8 (by kernel_rfl) rfl
  have h := AnyQ.slices_SortFunc sortID 20 Yba.isAgg23 Yba.sizeOf23 enc enc_len enc_one cf swoID 8 #[] b 0 cap d w eg (acmp_lays b 0 d.size w) hH hb (by omega)
  refine Calls.mono h ?_
  rintro e w' ⟨he, d', n, os, hp, hso, rfl⟩
  have hsz : d'.size = d.size := hp.1
  refine ⟨he, d', hsz, ?_, by rw [hsz]; exact hso, holdsK_sortWorldK_c enc 20 w b 0 d d' n os hH hb hsz, only_sortWorld w b n d' os⟩
  have := hp.2.2
  have e1 : d'.extract 0 d.size = d' := by rw [← hsz]; simp
  rw [e1] at this
  simpa using this
end Go.Proofs.Ybulkbxza
