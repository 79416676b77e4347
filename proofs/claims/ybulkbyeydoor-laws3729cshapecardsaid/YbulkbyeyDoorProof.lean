/-
  LawS3729CShape: the row out of its walk; the tied card.
-/
import Derived.Test.YbulkbyeyDoorWl
import Derived.Test.YbulkbyeyDoorCards
import Derived.Test.YbulkbyeyDoorTie
import Derived.ChangeSame
import Derived.ChangeVars
import Derived.JoinedOf
import Derived.RowKit
import Derived.LaidLaws
import Derived.LaidHandle
import Derived.SevenTiedAt
import Derived.OpenShut
import Derived.WalkSmall
import Derived.Laws.Cover2
namespace Go.Proofs.YbulkbyeyDoor
open Go.ChangeShapes Go.WideShapes Go.RowKit

theorem Ybad.own : ownKnob Ybad.prog.godebug = none := by kernel_rfl
theorem Ybad.g1 : Ybad.prog.globalNamed "example.com/hilbertree/hilbertree.atanPoly" = some 1 := by kernel_rfl
theorem Ybad.g2 : Ybad.prog.globalNamed "example.com/hilbertree/hilbertree.atanEighths" = some 2 := by kernel_rfl
theorem Ybad.t1 : (Ybad.prog.globals[1]?).map (·.type) = some 68 := by kernel_rfl
theorem Ybad.t2 : (Ybad.prog.globals[2]?).map (·.type) = some 69 := by kernel_rfl
theorem Ybad.u68 : Ybad.prog.underlying 68 = some (.array 6 22) := by kernel_rfl
theorem Ybad.u69 : Ybad.prog.underlying 69 = some (.array 9 22) := by kernel_rfl
theorem Ybad.c68 : Ybad.prog.cellsOf 68 = 6 := by kernel_rfl
theorem Ybad.c69 : Ybad.prog.cellsOf 69 = 9 := by kernel_rfl
theorem Ybad.c22 : Ybad.prog.cellsOf 22 = 1 := by kernel_rfl

theorem float_of_trod {H : Type} {enc : TypeId × Value → H} {P : Program} {w : World} {base : Nat} {sp : Nat → Bool} {held : Bool} {fuel : Nat} {t : TypeId} {k : FloatKind} {c : Value} {y : DataW H × List MemPlace}
    (ht : P.underlying t = some (.float k)) (h : DataW.trod enc P w base sp held fuel t [c] = some y) : ∃ n, c = .float k n ∧ y = (.lit (.float k n), []) := by
  cases fuel with
  | zero => simp [DataW.trod] at h
  | succ fuel =>
    cases c <;> simp [DataW.trod, ht] at h
    rename_i k' n
    obtain ⟨⟨rfl, _⟩, rfl⟩ := h
    exact ⟨n, rfl, rfl⟩

theorem arr_of_trod {H : Type} {enc : TypeId × Value → H} {w : World} {base : Nat} {sp : Nat → Bool} {held : Bool} {fuel n : Nat} {t : TypeId} {cs : List Value} {bs : List Nat} {p : List MemPlace}
    (ht : Ybad.prog.underlying t = some (.array n 22)) (hc : Ybad.prog.cellsOf t = n) (h : DataW.trod enc Ybad.prog w base sp held fuel t cs = some (.agg (bs.map fun b => .lit (.float .f64 b)), p)) : cs = bs.map (Value.float .f64) := by
  obtain ⟨xs, m, _, hx, hl, hn, hg⟩ := DataW.trod_array ht h
  injection hx with e1 e2
  injection e1 with e1
  have lb : bs.length = n := by
    have := congrArg List.length e1
    simp at this
    omega
  apply List.ext_getElem?
  intro i
  by_cases hi : i < n
  · have h1 := hg i hi
    rw [Ybad.c22, Nat.mul_one] at h1
    have hci : i < cs.length := by omega
    have e3 : (cs.drop i).take 1 = [cs[i]] := by
      rw [List.drop_eq_getElem_cons hci, List.take_succ_cons, List.take_zero]
    rw [e3] at h1
    have hxi : i < xs.length := by omega
    rw [List.getElem?_eq_getElem hxi] at h1
    obtain ⟨b, f1, f2⟩ := float_of_trod Ybad.underlying22 h1
    have e4 := congrArg (·[i]?) e1
    simp only [List.getElem?_map, List.getElem?_eq_getElem hxi, List.getElem?_eq_getElem (show i < bs.length by omega), Option.map_some, Option.some.injEq] at e4
    rw [f2] at e4
    have e5 : bs[i] = b := by injection e4 with e4; injection e4
    rw [List.getElem?_eq_getElem hci, f1, List.getElem?_map, List.getElem?_eq_getElem (show i < bs.length by omega), Option.map_some, e5]
  · rw [List.getElem?_eq_none (by omega), List.getElem?_eq_none (by simp; omega)]

def bs1 : List Nat := [4590207312512236308, 13814587147885025094, 4592670820000712476, 13817687028148020370, 4596373779694328218, 13823048456275842389]
def bs2 : List Nat := [0, 4619708073670868611, 4624091320661237806, 4626479230031574343, 4628170614843514308, 4629701174556054853, 4630385794100093500, 4630993220972911864, 4631530004285489152]
def cells1 : Array Value := (bs1.map (Value.float .f64)).toArray
def cells2 : Array Value := (bs2.map (Value.float .f64)).toArray
abbrev laidL : List (String × DataW Unit) := [("example.com/hilbertree/hilbertree.atanEighths", Rows.laid_example_com_hilbertree_hilbertree_atanEighths), ("example.com/hilbertree/hilbertree.atanPoly", Rows.laid_example_com_hilbertree_hilbertree_atanPoly)]

theorem cells_of_laid {W : World} (h : laidMetH Ybad.prog laidL W) : W.var? Ybad.prog "example.com/hilbertree/hilbertree.atanPoly" = some cells1 ∧ W.var? Ybad.prog "example.com/hilbertree/hilbertree.atanEighths" = some cells2 := by
  have h' : laidMet Ybad.prog laidL W := h
  obtain ⟨ps, ⟨ga, ta, csa, fa, pa, qa, hga, hta, hva, hda, ⟨gb, tb, csb, fb, pb, qb, hgb, htb, hvb, hdb, _, _⟩, _⟩, _⟩ := h'
  obtain rfl := Option.some.inj (Ybad.g2.symm.trans hga)
  obtain rfl := Option.some.inj (Ybad.g1.symm.trans hgb)
  obtain rfl := Option.some.inj (Ybad.t2.symm.trans hta)
  obtain rfl := Option.some.inj (Ybad.t1.symm.trans htb)
  have e2 := arr_of_trod (bs := bs2) Ybad.u69 Ybad.c69 hda
  have e1 := arr_of_trod (bs := bs1) Ybad.u68 Ybad.c68 hdb
  refine ⟨hvb.trans ?_, hva.trans ?_⟩
  · rw [← Array.toArray_toList (xs := csb), e1]; rfl
  · rw [← Array.toArray_toList (xs := csa), e2]; rfl

theorem tab_of_vars {W : World} (h1 : W.var? Ybad.prog "example.com/hilbertree/hilbertree.atanPoly" = some cells1) (h2 : W.var? Ybad.prog "example.com/hilbertree/hilbertree.atanEighths" = some cells2) : Tab W := by
  have k1 : ∀ i, i < 6 → bs1[i]? = some (cw i) := by decide +kernel
  have k2 : ∀ i, i < 9 → bs2[i]? = some (RE i) := by decide +kernel
  refine ⟨fun i hi => ?_, fun i hi => ?_⟩
  · rw [World.var?_cell Ybad.g1 h1 i, cells1, List.getElem?_toArray, List.getElem?_map, k1 i hi]; rfl
  · rw [World.var?_cell Ybad.g2 h2 i, cells2, List.getElem?_toArray, List.getElem?_map, k2 i hi]; rfl

abbrev table1 {H : Type} : DataW H := .agg (bs1.map fun b => .lit (.float .f64 b))
abbrev table2 {H : Type} : DataW H := .agg (bs2.map fun b => .lit (.float .f64 b))
theorem reads1 {H : Type} (enc : TypeId × Value → H) (W : World) (sp : Nat → Bool) : DataW.trod enc Ybad.prog W 0 sp true 3 68 cells1.toList = some (table1, []) := by kernel_rfl
theorem reads2 {H : Type} (enc : TypeId × Value → H) (W : World) (sp : Nat → Bool) : DataW.trod enc Ybad.prog W 0 sp true 3 69 cells2.toList = some (table2, []) := by kernel_rfl

/-- A world that meets the condition: both tables laid. -/
noncomputable def laidWorld (os : Os) : World :=
  let w0 := World.holding Ybad.prog os ⟨#[], #[], []⟩
  { w0 with heap := (w0.heap.modify 1 fun
      | .cells _ t frozen => .cells cells1 t frozen
      | o => o).modify 2 fun
      | .cells _ t frozen => .cells cells2 t frozen
      | o => o }
theorem laidWorld_met (os : Os) (args : Array Value) : laidMetH Ybad.prog laidL ((laidWorld os).forCall (fun _ _ => 0) ⟨#[], args, []⟩).memory := by
  have h : laidMet Ybad.prog laidL ((laidWorld os).forCall (fun _ _ => 0) ⟨#[], args, []⟩).memory := laidMet_of_run' 3 (by kernel_rfl) (by kernel_rfl)
  exact h

set_option maxRecDepth 100000 in
theorem law_lifted (os : Os) (started : os.Started) (H : Type) (enc : TypeId × Value → H) :
    ReturnsInHanded {} Ybad.checked os 5 .any (fun w args => (Rows.lawS3729CShapeSpec.pre enc Ybad.prog Ybad.f5 [] false w args ∧ laidMetH Ybad.prog laidL w) ∧ sizedMet enc Ybad.prog Ybad.f5 (OpenSpec.ofChange Rows.lawS3729CShapeSpec) false w args)
      (Rows.lawS3729CShapeSpec.post enc Ybad.prog Ybad.f5 false true false false) := by
  refine returnsInHanded_of_change_and (C := Ybad.checked) (X := fun w _ => laidMetH Ybad.prog laidL w) (fun _ _ _ hh h => h.of_heap hh) Ybad.own started (by kernel_rfl) Ybad.func5
    (ChangeSpec.witness_at (enc := enc) (C := Ybad.checked) (os := os) (X := fun w _ => laidMetH Ybad.prog laidL w) false (laidWorld os) #[.float .f64 0, .float .f64 0, .float .f64 0] 8 rfl (by kernel_rfl) (by kernel_rfl) (by kernel_rfl) (by kernel_rfl) (by kernel_rfl) (laidWorld_met os _)) ?_
  intro W base args ds gs before hval0 hW _ _ hL _
  have hval : ∀ (j : Nat) t v, Ybad.f5.params[j]? = some t → args[j]? = some v → Value.okWide Ybad.prog W .any base t v := hval0
  have hW' := hW
  obtain ⟨p, q, hA0, hV0, rfl, hfz, hnd⟩ := hW
  have hA : DataW.TrodAll enc Ybad.prog W 0 (fun _ => true) true Ybad.f5.params.toList args.toList ds p := hA0
  have hV : DataW.TrodVars enc Ybad.prog W (fun _ => true) ["example.com/hilbertree/hilbertree.atanPoly", "example.com/hilbertree/hilbertree.atanEighths"] gs q := hV0
  rw [Ybad.params5] at hA hval
  obtain ⟨v0, v1, v2, d0, d1, d2, p0, p1, p2, rfl, rfl, rfl, h0, h1, h2⟩ := trodAll_three hA
  obtain ⟨x, rfl, rfl, rfl, wx⟩ := open_float Ybad.underlying22 (hval 0 22 v0 rfl rfl) h0
  obtain ⟨y, rfl, rfl, rfl, wy⟩ := open_float Ybad.underlying22 (hval 1 22 v1 rfl rfl) h1
  obtain ⟨z, rfl, rfl, rfl, wz⟩ := open_float Ybad.underlying22 (hval 2 22 v2 rfl rfl) h2
  obtain ⟨l1, l2⟩ := cells_of_laid hL
  obtain ⟨ga, ta, csa, fa, da, pa, gb, tb, csb, fb, db, pb, rfl, hga, hta, hva, hda, hgb, htb, hvb, hdb, rfl⟩ := trodVars_two hV
  obtain rfl := Option.some.inj (Ybad.g1.symm.trans hga)
  obtain rfl := Option.some.inj (Ybad.g2.symm.trans hgb)
  obtain rfl := Option.some.inj (Ybad.t1.symm.trans hta)
  obtain rfl := Option.some.inj (Ybad.t2.symm.trans htb)
  obtain rfl : csa = cells1 := Option.some.inj (hva.symm.trans l1)
  obtain rfl : csb = cells2 := Option.some.inj (hvb.symm.trans l2)
  obtain ⟨rfl, rfl⟩ := DataW.Trod.unique (v := .agg cells1) ⟨fa, hda⟩ ⟨3, reads1 enc W _⟩
  obtain ⟨rfl, rfl⟩ := DataW.Trod.unique (v := .agg cells2) ⟨fb, hdb⟩ ⟨3, reads2 enc W _⟩
  clear hA0 hV0 hval0
  have hsz : 2 < W.heap.size := by
    have h3 := World.var?_cell Ybad.g2 hvb 0
    rcases Nat.lt_or_ge 2 W.heap.size with h | h
    · exact h
    · exfalso
      have e : W.heap[2]? = none := Array.getElem?_eq_none h
      simp [World.cell?, e, cells2, bs2] at h3
  have wx' : x < 2 ^ 64 := by simpa [Lit.wf] using wx
  have wy' : y < 2 ^ 64 := by simpa [Lit.wf] using wy
  have wz' : z < 2 ^ 64 := by simpa [Lit.wf] using wz
  refine (law_walk wx' wy' wz' W (tab_of_vars hva hvb) hsz).mono fun e W' ⟨he, bel⟩ => ?_
  subst he
  have hva' := var?_below bel hga (by omega) hva
  have hvb' := var?_below bel hgb (by omega) hvb
  exact ⟨_, rfl, _, _, _, [], _, _, hW', trodAll_mk1 (shut_bool Ybad.underlying4 true), trodAll_mk3 (shut_float Ybad.underlying22 wx) (shut_float Ybad.underlying22 wy) (shut_float Ybad.underlying22 wz),
    ⟨1, 68, cells1, 3, [], _, hga, hta, hva', reads1 enc W' _, ⟨2, 69, cells2, 3, [], _, hgb, htb, hvb', reads2 enc W' _, rfl, rfl⟩, rfl⟩, bel.frame _, fun h => by cases h⟩

theorem row_holds : Rows.LawS3729CShapeSaid :=
  OpenClaim.holds_of_wide 5 Ybad.f5 rfl rfl rfl rfl rfl rfl rfl ⟨rfl, rfl, rfl, rfl, rfl⟩ rfl rfl rfl rfl rfl (by kernel_rfl) Ybad.func5 (by kernel_rfl)
    (of_decide_eq_true (by kernel_rfl)) (by unfold Func.isWrapper; first | (rw [if_pos (by decide +kernel)]; kernel_rfl) | (rw [if_neg (by decide +kernel)]; exact ⟨rfl, rfl⟩))
    (fun os started H enc _ => law_lifted os started H enc)

theorem lawS3729CShape_card : Rows.LawS3729CShapeCardSaid :=
  Claim7.holds_tied_plain_at .later [] [.data, .widerDeep] true (true, "014f93b2c4414d334a7f504469b0e0b79481aaac49ef9200816985ddbc2720cd") false
    row_holds (fun _ h => by cases h) (by kernel_rfl) (fun _ h => by cases h) lawS3729CShape_row_tie rfl ⟨rfl, rfl⟩ (by kernel_rfl) rfl
    (fun f fn hf hfn => by
      obtain rfl : f = 5 := Option.some.inj ((show Ybad.prog.funcNamed "example.com/hilbertree/hilbertree.LawS3729CShape" = some 5 by kernel_rfl).symm.trans hf) |>.symm
      obtain rfl : fn = Ybad.f5 := (Option.some.inj (Ybad.func5.symm.trans hfn)).symm
      exact ⟨by kernel_rfl, fun j t ht => by
        rw [Ybad.params5] at ht
        have h3 : t = 22 := by
          rcases j with _ | _ | _ | j
          · simpa using ht.symm
          · simpa using ht.symm
          · simpa using ht.symm
          · simp at ht
        subst h3
        exact (show Ybad.prog.wantsStandIn 22 = false by kernel_rfl)⟩)
    (by kernel_rfl)
end Go.Proofs.YbulkbyeyDoor
