/-
  The law LawS3711APush: the row out of its walk.
-/
import Derived.Test.YbulkbxvgApC
import Derived.WalkKit
import Derived.ProofKit
import Derived.OpenShut
import Derived.ShutString
import Derived.ChangeOld
import Derived.Below
import Derived.Deep.SlicePairs
namespace Go.Proofs.Ybulkbxvg.lawS3711APush
open Go.ChangeShapes Go.WideShapes Go.ChangeAt Go.RowKit Go.Deep
set_option linter.unusedVariables false

theorem own : ownKnob Yba.prog.godebug = none := by kernel_rfl
theorem laidOut : laidOutB Yba.prog = true := by kernel_rfl

/-- What the walk is told of the slice that came in: n pairs of bytes. -/
def Ops (w : World) (po : Option Addr) (n : Nat) (A D : Nat → Nat) : Prop :=
  n = 0 ∨ ∃ b off, po = some ⟨b, off, none⟩ ∧ b < w.heap.size ∧ ∀ i, i < n → A i < 256 ∧ D i < 256 ∧ w.cell? ⟨b, off + i * 2, none⟩ = some (.int .u8 (A i)) ∧ w.cell? ⟨b, off + i * 2 + 1, none⟩ = some (.int .u8 (D i))

theorem ops_of_trod {H : Type} {e : TypeId × Value → H} {w : World} {base : Nat} {spare : Nat → Bool} {held : Bool} {fuel : Nat} {ao : Option Addr} {len cap : Nat} {x : DataW H × List MemPlace}
    (h : DataW.trod e Yba.prog w base spare held fuel 22 [.slice ao len cap] = some x) : ∃ A D, Ops w ao len A D := by
  rcases open_slice_pairs Yba.underlying22 Yba.underlying32 (by kernel_rfl) rfl rfl (by kernel_rfl) (by kernel_rfl) h with ⟨hcs, _⟩ | ⟨a, len', cap', m, n, V0, V1, D0, D1, P0, P1, hcs, hb, hl, hm, hmm, _, hx⟩
  · simp at hcs
    obtain ⟨rfl, rfl, rfl⟩ := hcs
    exact ⟨fun _ => 0, fun _ => 0, Or.inl rfl⟩
  · simp at hcs
    obtain ⟨rfl, rfl, rfl⟩ := hcs
    by_cases h0 : len = 0
    · exact ⟨fun _ => 0, fun _ => 0, Or.inl h0⟩
    have hlm : len ≤ m := by rw [hmm]; split <;> omega
    have each : ∀ i, i < len → ∃ y : Nat × Nat, y.1 < 256 ∧ y.2 < 256 ∧ w.cell? (a.add (i * 2)) = some (.int .u8 y.1) ∧ w.cell? (a.add (i * 2 + 1)) = some (.int .u8 y.2) := by
      intro i hi
      obtain ⟨h1, h2, t1, t2⟩ := hx i (by omega)
      obtain ⟨n1, hc1, _, hw1⟩ := DataW.trod_int Yba.underlying5 t1
      obtain ⟨n2, hc2, _, hw2⟩ := DataW.trod_int Yba.underlying5 t2
      simp at hc1 hc2
      have b1 := bounds_u8 hw1
      have b2 := bounds_u8 hw2
      refine ⟨(n1.toNat, n2.toNat), by show n1.toNat < 256; omega, by show n2.toNat < 256; omega, ?_, ?_⟩
      · rw [h1, hc1]; congr 2; show n1 = (n1.toNat : Int); omega
      · rw [h2, hc2]; congr 2; show n2 = (n2.toNat : Int); omega
    obtain ⟨f, hf⟩ := choose_lt each
    obtain ⟨b, off, spot⟩ := a
    have hspot : spot = none := by simpa [Addr.add] using World.cell?_spot (hf 0 (by omega)).2.2.1
    subst hspot
    refine ⟨fun i => (f i).1, fun i => (f i).2, Or.inr ⟨b, off, rfl, ?_, fun i hi => ?_⟩⟩
    · have := (hf 0 (by omega)).2.2.1
      rcases Nat.lt_or_ge b w.heap.size with h | h
      · exact h
      · simp [World.cell?, Addr.add, Array.getElem?_eq_none h] at this
    · obtain ⟨q1, q2, q3, q4⟩ := hf i hi
      rw [add_plain] at q3 q4
      exact ⟨q1, q2, q3, q4⟩

set_option maxRecDepth 100000 in
set_option maxHeartbeats 2000000 in
theorem walk (po : Option Addr) (n0 cap0 ex : Nat) (fifo : Bool) (A D : Nat → Nat) (w : World) (hex : ex < 256) (hops : Ops w po n0 A D) :
    Calls Yba.prog 3 #[.slice po n0 cap0, .int .u8 ex, .bool fifo] w fun e w' => e = .returned (.bool true) ∧ Below w.heap.size w w' := by
  by_cases h1 : n0 ≤ 1024
  · exact law_main po n0 cap0 ex fifo A D w h1 hex hops
  · have h2 : (1024 : Int) < n0 := by omega
    clear hops
    go_enter Yba.func3, Yba.ntmps3
    go_wp2
    go_ret
    exact ⟨rfl, Below.refl _ _⟩

/-! ### The row's step -/
set_option maxRecDepth 100000 in
theorem lifted (os : Os) (started : os.Started) (H : Type) (enc : TypeId × Value → H) :
    ReturnsInHanded {} Yba.checked os 3 .any (Rows.lawS3711APushSpec.pre6 enc Yba.prog Yba.f3 Rows.lawS3711APushRow.domain false) (Rows.lawS3711APushSpec.post enc Yba.prog Yba.f3 false true false false) := by
  refine returnsInHanded_of_change (C := Yba.checked) own started (by kernel_rfl) Yba.func3
    (ChangeSpec.witness6 (enc := enc) (C := Yba.checked) false ⟨#[], #[.slice none 0 0, .int .u8 0, .bool false], []⟩ 8 (by kernel_rfl) (by kernel_rfl) (by kernel_rfl) (by kernel_rfl)) ?_
  intro W base args ds gs before hval0 hW hcnd _
  have hval : ∀ (j : Nat) t v, Yba.f3.params[j]? = some t → args[j]? = some v → Value.okWide Yba.prog W .any base t v := hval0
  have hW' := hW
  obtain ⟨p, q, hA0, hV, rfl, hfz, hnd⟩ := hW
  have hA : DataW.TrodAll enc Yba.prog W 0 (fun _ => true) true Yba.f3.params.toList args.toList ds p := hA0
  rw [Yba.params3] at hA hval
  obtain ⟨v0, vs0, d0, ds0, p0, q0, hargs, rfl, rfl, h0, r0⟩ := trodAll_cons hA
  obtain ⟨v1, vs1, d1, ds1, p1, q1, rfl, rfl, rfl, h1, r1⟩ := trodAll_cons r0
  obtain ⟨v2, vs2, d2, ds2, p2, q2, rfl, rfl, rfl, h2, r2⟩ := trodAll_cons r1
  obtain ⟨rfl, rfl, rfl⟩ := trodAll_nil r2
  obtain rfl : args = #[v0, v1, v2] := by cases args; simp_all
  obtain ⟨rfl, rfl⟩ := trodVars_none hV
  have k0 := h0
  have k1 := h1
  have k2 := h2
  have lt0 : ∀ x ∈ p0, x.block < W.heap.size := by obtain ⟨m, hm⟩ := k0; exact DataW.trod_lt m _ _ _ hm
  have lt1 : ∀ x ∈ p1, x.block < W.heap.size := by obtain ⟨m, hm⟩ := k1; exact DataW.trod_lt m _ _ _ hm
  have lt2 : ∀ x ∈ p2, x.block < W.heap.size := by obtain ⟨m, hm⟩ := k2; exact DataW.trod_lt m _ _ _ hm
  obtain ⟨a0, len0, cap0, rfl⟩ := okWide_slice Yba.underlying22 (hval 0 22 v0 rfl rfl)
  obtain ⟨A, D, hops⟩ : ∃ A D, Ops W a0 len0 A D := by
    obtain ⟨fuel, hf⟩ := h0
    exact ops_of_trod hf
  obtain ⟨n1, rfl⟩ := okWide_int Yba.underlying5 (hval 1 5 v1 rfl rfl)
  obtain ⟨ex, hex, rfl⟩ : ∃ ex : Nat, ex < 256 ∧ n1 = (ex : Int) := by
    obtain ⟨fuel, hf⟩ := h1
    obtain ⟨n2, hc, _, hwf⟩ := DataW.trod_int Yba.underlying5 hf
    simp [Value.cells] at hc
    subst hc
    have hb := bounds_u8 hwf
    exact ⟨n1.toNat, by omega, by omega⟩
  obtain ⟨fifo, rfl⟩ := okWide_bool Yba.underlying4 (hval 2 4 v2 rfl rfl)
  clear hA0 hval0
  refine (walk a0 len0 cap0 ex fifo A D W hex hops).mono fun e W' ⟨he, bel⟩ => ?_
  subst he
  exact ⟨_, rfl, _, _, _, [], _, [], hW', trodAll_mk1 (shut_bool Yba.underlying4 _), (trodAll_cons_mk (Below.trod laidOut (by kernel_rfl) (of_decide_eq_true (by kernel_rfl)) k0 bel lt0) (trodAll_cons_mk (Below.trod laidOut (by kernel_rfl) (of_decide_eq_true (by kernel_rfl)) k1 bel lt1) (trodAll_cons_mk (Below.trod laidOut (by kernel_rfl) (of_decide_eq_true (by kernel_rfl)) k2 bel lt2) trodAll_mk0))), rfl, bel.frame _, fun h => by cases h⟩

theorem over : Rows.lawS3711APushRow.holds Yba.pinned (OpenSpec.ofChange Rows.lawS3711APushSpec) :=
  OpenClaim.holds_of_wide 3 Yba.f3 rfl rfl rfl rfl rfl rfl rfl ⟨rfl, rfl, rfl, rfl, rfl⟩ rfl rfl rfl rfl rfl (by kernel_rfl) Yba.func3 (by kernel_rfl)
    (of_decide_eq_true (by kernel_rfl)) (by unfold Func.isWrapper; first | (rw [if_pos (by decide +kernel)]; kernel_rfl) | (rw [if_neg (by decide +kernel)]; exact ⟨rfl, rfl⟩))
    (fun os started H enc _ => lifted os started H enc)

/-- ████ THE STATEMENT ████ -/
theorem proved : Rows.LawS3711APushSaid := over
end Go.Proofs.Ybulkbxvg.lawS3711APush
