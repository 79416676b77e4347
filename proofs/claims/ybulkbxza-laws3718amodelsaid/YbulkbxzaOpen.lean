/-
  IDs and slices of IDs that came in, opened.
-/
import Derived.Test.YbulkbxzaSelf
import Derived.ProofKit
import Derived.OpenShut
import Derived.ShutString
import Derived.ChangeOld
import Derived.Deep.Slices
namespace Go.Proofs.Ybulkbxza
open Go.ChangeShapes Go.WideShapes Go.ChangeAt Go.RowKit Go.Deep
set_option linter.unusedVariables false

theorem cells23 : Yba.prog.cellsOf 23 = 20 := by kernel_rfl
theorem cells5 : Yba.prog.cellsOf 5 = 1 := by kernel_rfl

/-- Twenty cells that read as an ID are an ID's. -/
theorem id_of_trod {H : Type} {e : TypeId × Value → H} {w : World} {base : Nat} {spare : Nat → Bool} {held : Bool} {fuel : Nat} {cs : List Value} {x : DataW H × List MemPlace}
    (h : DataW.trod e Yba.prog w base spare held fuel 23 cs = some x) : ∃ y : ID, cs = enc y := by
  obtain ⟨xs, m, _, _, hl, hxl, hi⟩ := DataW.trod_array Yba.underlying23 h
  rw [cells23] at hl
  rw [cells5] at hi
  have each : ∀ i, i < 20 → ∃ c : UInt8, cs[i]? = some (.int .u8 c.toNat) := by
    intro i hi20
    have h1 := hi i hi20
    rw [Nat.mul_one] at h1
    have hcl : i < cs.length := by omega
    have e1 : (cs.drop i).take 1 = [cs[i]] := by
      rw [List.drop_eq_getElem_cons hcl]; rfl
    rw [e1, List.getElem?_eq_getElem (by omega)] at h1
    obtain ⟨n, hc, _, hwf⟩ := DataW.trod_int Yba.underlying5 h1
    simp at hc
    have hb := bounds_u8 hwf
    refine ⟨UInt8.ofNat n.toNat, ?_⟩
    rw [List.getElem?_eq_getElem hcl, hc]
    congr 2
    simp [UInt8.toNat_ofNat']
    omega
  obtain ⟨f, hf⟩ := choose_lt each
  refine ⟨Vector.ofFn (fun i : Fin 20 => f i), ?_⟩
  apply List.ext_getElem?
  intro i
  by_cases h20 : i < 20
  · rw [hf i h20]
    simp [enc, bs, h20]
  · rw [List.getElem?_eq_none (by omega), List.getElem?_eq_none (by rw [enc_len]; omega)]

theorem add_block (a : Addr) (j : Nat) : (a.add j).block = a.block := by unfold Addr.add; split <;> rfl

/-- A slice of IDs that came in: the members, and where they lie. -/
theorem rest_of_trod {H : Type} {e : TypeId × Value → H} {w : World} {base : Nat} {spare : Nat → Bool} {held : Bool} {fuel : Nat} {ao : Option Addr} {len cap : Nat} {x : DataW H × List MemPlace}
    (h : DataW.trod e Yba.prog w base spare held fuel 24 [.slice ao len cap] = some x) : ∃ r : List ID, r.length = len ∧ RestAt w ao cap r := by
  rcases open_slice Yba.underlying24 h with ⟨hcs, _⟩ | ⟨a, len', cap', m, n, D, Pl, hcs, hb, hl, hm, hmm, _, hx⟩
  · simp at hcs
    obtain ⟨rfl, rfl, rfl⟩ := hcs
    exact ⟨[], rfl, ⟨fun _ => ⟨rfl, rfl⟩, (fun ad ha => by cases ha), (fun ad ha => by cases ha)⟩⟩
  · simp at hcs
    obtain ⟨rfl, rfl, rfl⟩ := hcs
    have hlm : len ≤ m := by rw [hmm]; split <;> omega
    have each : ∀ i, i < len → ∃ y : ID, ∀ j v, (enc y)[j]? = some v → w.cell? (a.add (i * 20 + j)) = some v := by
      intro i hi
      obtain ⟨cs, h1, h2⟩ := hx i (by omega)
      obtain ⟨y, rfl⟩ := id_of_trod h2
      rw [cells23] at h1
      obtain ⟨_, hcl, hc⟩ := World.cells?_some h1
      refine ⟨y, fun j v hv => ?_⟩
      have hj : j < 20 := by
        have := (List.getElem?_eq_some_iff.1 hv).1
        rwa [enc_len] at this
      have := hc j hj
      rw [add_add] at this
      rw [this, hv]
    obtain ⟨f, hf⟩ := choose_lt each
    refine ⟨(List.range len).map f, by simp, (fun ha => by cases ha), fun ad ha j u hj => ?_, fun ad ha h0 => ?_⟩
    · cases ha
      have hjl : j < (cellsL ((List.range len).map f)).length := (List.getElem?_eq_some_iff.1 hj).1
      rw [cellsL_len] at hjl
      have hjl' : j < len * 20 := by simpa using hjl
      have h1 : j / 20 < len := by omega
      have h2 := cellsL_get ((List.range len).map f) (j / 20) (j % 20) (by simpa using h1) (by omega)
      rw [show j / 20 * 20 + j % 20 = j by omega, hj] at h2
      have e1 : ((List.range len).map f)[j / 20]! = f (j / 20) := by simp [h1]
      rw [e1] at h2
      have h3 := hf (j / 20) h1 (j % 20) u (by
        rw [List.getElem?_eq_getElem (by rw [enc_len]; omega)]
        rw [getElem!_pos _ _ (by rw [enc_len]; omega)] at h2
        exact h2.symm)
      rwa [show j / 20 * 20 + j % 20 = j by omega] at h3
    · cases ha
      have h0' : 0 < len := by simpa using h0
      obtain ⟨cs, h1, _⟩ := hx 0 (by omega)
      have hlt := World.cells?_block h1 (by rw [cells23]; decide)
      rw [add_block] at hlt
      exact hlt
end Go.Proofs.Ybulkbxza
