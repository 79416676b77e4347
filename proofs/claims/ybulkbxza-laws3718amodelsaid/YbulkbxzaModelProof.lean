/-
  The law LawS3718AModel: the row out of its walk.
-/
import Derived.Test.YbulkbxzaOpen
import Derived.Test.YbulkbxzaLaw3
import Derived.Below
namespace Go.Proofs.Ybulkbxza.lawS3718AModel
open Go.ChangeShapes Go.WideShapes Go.ChangeAt Go.RowKit
set_option linter.unusedVariables false

theorem own : ownKnob Yba.prog.godebug = none := by kernel_rfl
theorem laidOut : laidOutB Yba.prog = true := by kernel_rfl

set_option maxHeartbeats 400000 in
theorem walk (x : ID) (r : List ID) (ao : Option Addr) (cap : Nat) (T : ID) (w : World) (hR : RestAt w ao cap r) :
    Calls Yba.prog 3 #[.agg (enc x).toArray, .slice ao r.length cap, .agg (enc T).toArray] w fun e w' => e = .returned (.bool true) ∧ Below w.heap.size w w' := by
  by_cases h1 : r.length ≤ 1024
  · exact law3_main callees x r ao cap T w h1 hR
  · have h2 : (1024 : Int) < r.length := by omega
    clear hR
    go_enter Yba.func3, Yba.ntmps3
    go_wp2
    go_ret
    exact ⟨rfl, ((Below.refl _ _).alloc (Nat.le_refl _) _).alloc (by simp) _⟩

set_option maxRecDepth 100000 in
theorem lifted (os : Os) (started : os.Started) (H : Type) (e : TypeId × Value → H) :
    ReturnsInHanded {} Yba.checked os 3 .any (Rows.lawS3718AModelSpec.pre6 e Yba.prog Yba.f3 Rows.lawS3718AModelRow.domain false) (Rows.lawS3718AModelSpec.post e Yba.prog Yba.f3 false true false false) := by
  refine returnsInHanded_of_change (C := Yba.checked) own started (by kernel_rfl) Yba.func3
    (ChangeSpec.witness6 (enc := e) (C := Yba.checked) false ⟨#[], #[.agg Z20, .slice none 0 0, .agg Z20], []⟩ 8 (by kernel_rfl) (by kernel_rfl) (by kernel_rfl) (by kernel_rfl)) ?_
  intro W base args ds gs before hval0 hW hcnd _
  have hval : ∀ (j : Nat) t v, Yba.f3.params[j]? = some t → args[j]? = some v → Value.okWide Yba.prog W .any base t v := hval0
  have hW' := hW
  obtain ⟨p, q, hA0, hV, rfl, hfz, hnd⟩ := hW
  have hA : DataW.TrodAll e Yba.prog W 0 (fun _ => true) true Yba.f3.params.toList args.toList ds p := hA0
  rw [Yba.params3] at hA hval
  obtain ⟨v0, vs0, d0, ds0, p0, q0, hargs, rfl, rfl, h0, r0⟩ := trodAll_cons hA
  obtain ⟨v1, vs1, d1, ds1, p1, q1, rfl, rfl, rfl, h1, r1⟩ := trodAll_cons r0
  obtain ⟨v2, vs2, d2, ds2, p2, q2, rfl, rfl, rfl, h2, r2⟩ := trodAll_cons r1
  obtain ⟨rfl, rfl, rfl⟩ := trodAll_nil r2
  obtain rfl : args = #[v0, v1, v2] := by cases args; simp_all
  obtain ⟨rfl, rfl⟩ := trodVars_none hV
  have k0 := h0
  have k1 := h1
  have k2 := h2
  have lt0 : ∀ x ∈ p0, x.block < W.heap.size := by obtain ⟨m, hm⟩ := k0; exact DataW.trod_lt m _ _ _ hm
  have lt1 : ∀ x ∈ p1, x.block < W.heap.size := by obtain ⟨m, hm⟩ := k1; exact DataW.trod_lt m _ _ _ hm
  have lt2 : ∀ x ∈ p2, x.block < W.heap.size := by obtain ⟨m, hm⟩ := k2; exact DataW.trod_lt m _ _ _ hm
  -- the first: an ID
  obtain ⟨x, rfl⟩ : ∃ x : ID, v0 = .agg (enc x).toArray := by
    have hv := hval 0 23 v0 rfl rfl
    simp only [Value.okWide, Yba.underlying23] at hv
    obtain ⟨cs, rfl, _, _⟩ := hv
    obtain ⟨fuel, hf⟩ := h0
    obtain ⟨y, hy⟩ := id_of_trod hf
    refine ⟨y, ?_⟩
    have : cs.toList = enc y := hy
    rw [← this]
  obtain ⟨a1, len1, cap1, rfl⟩ := okWide_slice Yba.underlying24 (hval 1 24 v1 rfl rfl)
  obtain ⟨rs, hrl, hRest⟩ : ∃ rs : List ID, rs.length = len1 ∧ RestAt W a1 cap1 rs := by
    obtain ⟨fuel, hf⟩ := h1
    exact rest_of_trod hf
  subst hrl
  obtain ⟨y, rfl⟩ : ∃ y : ID, v2 = .agg (enc y).toArray := by
    have hv := hval 2 23 v2 rfl rfl
    simp only [Value.okWide, Yba.underlying23] at hv
    obtain ⟨cs, rfl, _, _⟩ := hv
    obtain ⟨fuel, hf⟩ := h2
    obtain ⟨y, hy⟩ := id_of_trod hf
    refine ⟨y, ?_⟩
    have : cs.toList = enc y := hy
    rw [← this]
  clear hA0 hval0
  refine (walk x rs a1 cap1 y W hRest).mono fun ee W' ⟨he, bel⟩ => ?_
  subst he
  exact ⟨_, rfl, _, _, _, [], _, [], hW', trodAll_mk1 (shut_bool Yba.underlying4 _), (trodAll_cons_mk (Below.trod laidOut (by kernel_rfl) (of_decide_eq_true (by kernel_rfl)) k0 bel lt0) (trodAll_cons_mk (Below.trod laidOut (by kernel_rfl) (of_decide_eq_true (by kernel_rfl)) k1 bel lt1) (trodAll_cons_mk (Below.trod laidOut (by kernel_rfl) (of_decide_eq_true (by kernel_rfl)) k2 bel lt2) trodAll_mk0))), rfl, bel.frame _, fun h => by cases h⟩

theorem over : Rows.lawS3718AModelRow.holds Yba.pinned (OpenSpec.ofChange Rows.lawS3718AModelSpec) :=
  OpenClaim.holds_of_wide 3 Yba.f3 rfl rfl rfl rfl rfl rfl rfl ⟨rfl, rfl, rfl, rfl, rfl⟩ rfl rfl rfl rfl rfl (by kernel_rfl) Yba.func3 (by kernel_rfl)
    (of_decide_eq_true (by kernel_rfl)) (by unfold Func.isWrapper; first | (rw [if_pos (by decide +kernel)]; kernel_rfl) | (rw [if_neg (by decide +kernel)]; exact ⟨rfl, rfl⟩))
    (fun os started H enc _ => lifted os started H enc)

theorem proved : Rows.LawS3718AModelSaid := over
end Go.Proofs.Ybulkbxza.lawS3718AModel
