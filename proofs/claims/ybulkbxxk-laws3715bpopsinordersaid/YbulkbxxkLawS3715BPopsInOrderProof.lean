/-
  The law LawS3715BPopsInOrder: the row out of its walk.
-/
import Derived.Test.YbulkbxxkLaw5W
import Derived.Test.YbulkbxxkZero
import Derived.WalkKit
import Derived.ProofKit
import Derived.OpenShut
import Derived.ShutString
import Derived.ChangeOld
import Derived.Below
namespace Go.Proofs.Ybulkbxxk.lawS3715BPopsInOrder
open Go.ChangeShapes Go.WideShapes Go.ChangeAt Go.RowKit
open Go.ChangeMaps (open_string shut_string)
set_option linter.unusedVariables false

theorem own : ownKnob Yba.prog.godebug = none := by kernel_rfl
theorem laidOut : laidOutB Yba.prog = true := by kernel_rfl

/-- WHAT THE WALK IS TOLD OF A SLICE OF INTEGERS THAT CAME IN: it is nil; or it leads to a row of 'cap' cells, the numbers 'zs' (the first 'len' are its elements, the rest its spare room), each fitting its kind. -/
def IsRow (k : IntKind) (w : World) (a : Option Addr) (len cap : Nat) (zs : List Int) : Prop :=
  (a = none ∧ len = 0 ∧ cap = 0 ∧ zs = []) ∨
  ∃ x, a = some x ∧ len ≤ cap ∧ cap ≤ maxLen ∧ zs.length = cap ∧ (∀ i, i < zs.length → w.cell? (x.add i) = some (.int k (zs.getD i 0))) ∧ ∀ n ∈ zs, (Lit.int k n).wf = true

/-! ### The walk -/
set_option maxRecDepth 100000 in
set_option maxHeartbeats 2000000 in
theorem walk_zero (a0 : Option Addr) (cap0 : Nat) (w : World) : Calls Yba.prog 5 #[.slice a0 0 cap0] w fun e w' => e = .returned (.bool true) ∧ Below w.heap.size w w' := by
  obtain ⟨i0, hi, hz0, hz1, hz2⟩ := info_parts Yba.info4
  have hmk := fun (w : World) => run_make (P := Yba.prog) w 50 4 i0 (.bool false) Yba.underlying50 hi hz0 .i64 .i64 (0 : Int) (0 : Int) (by omega) (by omega) (by rw [hz2]; omega) (by omega)
  rw [hz1] at hmk
  clear hi hz0 hz1 hz2
  obtain ⟨W, hW⟩ : ∃ W, W = w.alloc (.cells #[.slice none 0 0] 41) := ⟨_, rfl⟩
  obtain ⟨H, hH⟩ : ∃ H, H = w.heap.size := ⟨_, rfl⟩
  have cH : W.cell? ⟨H, 0, none⟩ = some (.slice none 0 0) := by rw [hW, hH]; simp
  have HB : Aside (Below H w W) := by
    show Below H w W
    rw [hW]; exact (Below.refl _ _).alloc (by omega) _
  have sW : H < W.heap.size := by rw [hW, hH]; simp
  have HWW : Aside (w.alloc (.cells #[.slice none 0 0] 41) = W) := hW.symm
  have HH : Aside (w.heap.size = H) := hH.symm
  rw [← hH]
  clear hW hH
  go_enter Yba.func5, Yba.ntmps5
  go_wp2_with fail
  rw [HWW.out, HH.out]
  go_loop [5] (fun vi => vi = .int .i64 0) (fun _ => 0)
  case atStart => rfl
  case round =>
    subst hrel
    go_wp2_with fail
    refine (clone_zero a0 cap0 W).mono ?_
    rintro e w1 ⟨⟨p', c', rfl⟩, hb1⟩
    have c1 : w1.cell? ⟨H, 0, none⟩ = some (.slice none 0 0) := (hb1.cell sW).trans cH
    have HB1 : Aside (Below H w w1) := HB.out.trans (hb1.mono (by omega))
    have s1 : H < w1.heap.size := Nat.lt_of_lt_of_le sW hb1.size
    clear hb1
    go_wp2_with fail
    refine (sort_zero p' c' w1).mono ?_
    rintro e w2 ⟨rfl, rfl⟩
    have c2 : (w2.alloc (.cells (madeCells #[.bool false] 0) 4)).cell? ⟨H, 0, none⟩ = some (.slice none 0 0) := (World.cell?_of_block (Below.heap_alloc w2 _ H s1)).trans c1
    have HB2 : Aside (Below H w (w2.alloc (.cells (madeCells #[.bool false] 0) 4))) := HB1.out.alloc (by omega) _
    go_wp2_with fail
    have e0 : madeCells (Value.bool false).cells 0 = madeCells #[.bool false] 0 := rfl
    go_loop [8] (fun vi => vi = .int .i64 0) (fun _ => 0)
    case atStart => rfl
    case round =>
      subst hrel
      go_wp2_with fail
      go_ret
      exact ⟨rfl, HB2.out⟩

theorem walk (a0 : Option Addr) (len0 cap0 : Nat) (z0 : List Int) (w : World) (w0 : IsRow .i32 w a0 len0 cap0 z0) :
    Calls Yba.prog 5 #[.slice a0 len0 cap0] w fun e w' => e = .returned (.bool true) ∧ Below w.heap.size w w' := by
  by_cases h0 : len0 = 0
  · subst h0
    exact walk_zero a0 cap0 w
  · by_cases h1 : 1024 < len0
    · go_enter Yba.func5, Yba.ntmps5
      have h2 : (1024 : Int) < len0 := by omega
      go_wp2
      go_ret
      exact ⟨rfl, Below.refl _ _⟩
    · rcases w0 with ⟨_, hl, _⟩ | ⟨x, rfl, hlc, hcm, hzl, hcell, _⟩
      · exact absurd hl h0
      · obtain ⟨b, off, rfl, hc⟩ := ints_at hcell (by omega)
        refine pops_main b off cap0 len0 z0 w (by omega) (by omega) ?_ (fun i hi => hc i (by omega))
        have := hc 0 (by omega)
        rcases Nat.lt_or_ge b w.heap.size with h | h
        · exact h
        · simp [World.cell?, Array.getElem?_eq_none h] at this

/-! ### The row's step -/
set_option maxRecDepth 100000 in
theorem lifted (os : Os) (started : os.Started) (H : Type) (enc : TypeId × Value → H) :
    ReturnsInHanded {} Yba.checked os 5 .any (Rows.lawS3715BPopsInOrderSpec.pre6 enc Yba.prog Yba.f5 Rows.lawS3715BPopsInOrderRow.domain false) (Rows.lawS3715BPopsInOrderSpec.post enc Yba.prog Yba.f5 false true false false) := by
  refine returnsInHanded_of_change (C := Yba.checked) own started (by kernel_rfl) Yba.func5
    (ChangeSpec.witness6 (enc := enc) (C := Yba.checked) false ⟨#[], #[.slice none 0 0], []⟩ 8 (by kernel_rfl) (by kernel_rfl) (by kernel_rfl) (by kernel_rfl)) ?_
  intro W base args ds gs before hval0 hW hcnd _
  have hval : ∀ (j : Nat) t v, Yba.f5.params[j]? = some t → args[j]? = some v → Value.okWide Yba.prog W .any base t v := hval0
  have hW' := hW
  obtain ⟨p, q, hA0, hV, rfl, hfz, hnd⟩ := hW
  have hA : DataW.TrodAll enc Yba.prog W 0 (fun _ => true) true Yba.f5.params.toList args.toList ds p := hA0
  rw [Yba.params5] at hA hval
  obtain ⟨v0, vs0, d0, ds0, p0, q0, hargs, rfl, rfl, h0, r0⟩ := trodAll_cons hA
  obtain ⟨rfl, rfl, rfl⟩ := trodAll_nil r0
  obtain rfl : args = #[v0] := by cases args; simp_all
  obtain ⟨rfl, rfl⟩ := trodVars_none hV
  obtain ⟨a0, len0, cap0, rfl⟩ := okWide_slice Yba.underlying39 (hval 0 39 v0 rfl rfl)
  have k0 := h0
  have lt0 : ∀ x ∈ p0, x.block < W.heap.size := by obtain ⟨m, hm⟩ := k0; exact DataW.trod_lt m _ _ _ hm
  obtain ⟨z0, w0⟩ : ∃ zs, IsRow .i32 W a0 len0 cap0 zs := by
    obtain ⟨fuel, hf⟩ := h0
    rcases open_ints Yba.underlying39 Yba.underlying21 (by kernel_rfl) hf with ⟨hcs, _⟩ | ⟨x, l, c, zs, hcs, _, hl, hm, hz, _, hcell, hwz⟩
    · simp [Value.cells] at hcs
      obtain ⟨rfl, rfl, rfl⟩ := hcs
      exact ⟨[], .inl ⟨rfl, rfl, rfl, rfl⟩⟩
    · simp [Value.cells] at hcs
      obtain ⟨rfl, rfl, rfl⟩ := hcs
      exact ⟨zs, .inr ⟨_, rfl, hl, hm, by simpa using hz, hcell, hwz⟩⟩
  clear hA0 hval0
  refine (walk a0 len0 cap0 z0 W w0).mono fun e W' ⟨he, bel⟩ => ?_
  subst he
  exact ⟨_, rfl, _, _, _, [], _, [], hW', trodAll_mk1 (shut_bool Yba.underlying4 _), (trodAll_cons_mk (Below.trod laidOut (by kernel_rfl) (of_decide_eq_true (by kernel_rfl)) k0 bel lt0) trodAll_mk0), rfl, bel.frame _, fun h => by cases h⟩

theorem over : Rows.lawS3715BPopsInOrderRow.holds Yba.pinned (OpenSpec.ofChange Rows.lawS3715BPopsInOrderSpec) :=
  OpenClaim.holds_of_wide 5 Yba.f5 rfl rfl rfl rfl rfl rfl rfl ⟨rfl, rfl, rfl, rfl, rfl⟩ rfl rfl rfl rfl rfl (by kernel_rfl) Yba.func5 (by kernel_rfl)
    (of_decide_eq_true (by kernel_rfl)) (by unfold Func.isWrapper; first | (rw [if_pos (by decide +kernel)]; kernel_rfl) | (rw [if_neg (by decide +kernel)]; exact ⟨rfl, rfl⟩))
    (fun os started H enc _ => lifted os started H enc)

/-- ████ THE STATEMENT ████ -/
theorem proved : Rows.LawS3715BPopsInOrderSaid := over
end Go.Proofs.Ybulkbxxk.lawS3715BPopsInOrder
