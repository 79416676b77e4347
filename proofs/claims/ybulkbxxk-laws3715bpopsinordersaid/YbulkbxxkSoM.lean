/-
  slices.Sort and slices.Clone at []int32.
-/
import Derived.Test.YbulkbxxkSoL
import Derived.Test.YbulkbxxkMake
import Derived.Shelf.SlicesE.Clone
import Derived.Ground.SlgnProg
namespace Go.Proofs.Ybulkbxxk
open Go.RowKit Go.Sort Go.Shelf
set_option linter.unusedVariables false
shelf_lay_g SlLaysE0.n41 Slgn 41 at Yba 13 as Yba.clone32

def zs (z : List Int) (n : Nat) : Array Int := ((List.range n).map fun i => z.getD i 0).toArray
theorem zs_size (z : List Int) (n : Nat) : (zs z n).size = n := by simp [zs]
theorem zs_get (z : List Int) (n i : Nat) (h : i < n) : (zs z n)[i]! = z.getD i 0 := by simp [zs, h]
theorem Yba.info21 : (Yba.prog.info? 21).map (fun i => (i.zero, i.size, i.bytes)) = some (some (.int .i32 0), 1, 4) := by kernel_rfl
theorem Yba.size21 (w : World) : (Go.sizeOf 21).run Yba.prog w = .ok 1 w := by
  obtain ⟨i0, hi, hz0, hz1, hz2⟩ := info_parts Yba.info21
  simp [Go.sizeOf, typeInfo, hi, hz1]

theorem clone_walk (xb xo c n : Nat) (z : List Int) (w : World) (hn : n ≤ 1024) (hz : ∀ i, i < n → w.cell? ⟨xb, xo + i, none⟩ = some (.int .i32 (z.getD i 0))) :
    Calls Yba.prog 13 #[.slice (some ⟨xb, xo, none⟩) n c] w fun e w' => ∃ g cap, e = .returned (.slice (some ⟨g, 0, none⟩) n cap) ∧ w.heap.size ≤ g ∧ g < w'.heap.size ∧ Row32 w' g (zs z n) ∧ Below w.heap.size w w' := by
  obtain ⟨i0, hi, hz0, hz1, hz2⟩ := info_parts Yba.info21
  have h := AnyE.slices_Clone Yba.clone32 i0 (.int .i32 0) 1 4 hi hz0 hz1 hz2 rfl (by decide) Yba.size21 xb xo n c ((List.range n).map fun i => Value.int .i32 (z.getD i 0)) w (by simp) (by unfold maxLen; omega) (by omega)
    (fun j u hj => by
      rw [List.getElem?_map] at hj
      by_cases hjn : j < n
      · rw [List.getElem?_range hjn] at hj
        simp only [Option.map_some, Option.some.injEq] at hj
        rw [← hj]; exact hz j hjn
      · rw [List.getElem?_eq_none (by simp; omega)] at hj
        cases hj)
    (fun u hu => by
      obtain ⟨i, _, rfl⟩ := List.mem_map.1 hu
      rfl)
  refine h.mono ?_
  rintro e w' ⟨v', rfl, hown, hne, hb⟩
  obtain ⟨g, cap, hv, hg⟩ : ∃ g cap, v' = .slice (some ⟨g, 0, none⟩) n cap ∧ w.heap.size ≤ g := by
    rcases hown.2 with ⟨h1, _⟩ | ⟨g', cap', cur, hv, hg, _⟩
    · exact absurd h1 hne
    · exact ⟨g', cap', hv, hg⟩
  subst hv
  refine ⟨g, cap, rfl, hg, lt_of_owns hown, fun j hj => ?_, hb⟩
  rw [zs_size] at hj
  rw [zs_get z n j hj, Nat.zero_add]
  refine ⟨(hown.cellAt j (by omega)).trans ?_, hown.frozenAt j⟩
  rw [List.getElem?_map, List.getElem?_range hj]; rfl

set_option maxHeartbeats 400000 in
theorem sort_walk (b cap N : Nat) (d : Array Int) (w : World) (h : Row32 w b d) (hN : d.size = N) (hm : N ≤ 1024) (h1 : 1 ≤ N) :
    Calls Yba.prog 14 #[.slice (some ⟨b, 0, none⟩) N cap] w fun e w' => e = .returned (.tuple #[]) ∧ ∃ d', PermIn 0 N d d' ∧ SortedIn ltInt 0 N d' ∧ At b w w' d' := by
  have HP : Aside (∀ (lim : Nat) (vN : Int), vN = N → lim ≤ 100 → Calls Yba.prog 29 #[.slice (some ⟨b, 0, none⟩) N cap, .int .i64 0, .int .i64 vN, .int .i64 lim] w fun e w' => e = .returned (.tuple #[]) ∧ ∃ d', PermIn 0 N d d' ∧ SortedIn ltInt 0 N d' ∧ At b w w' d') :=
    fun lim vN e hl => by subst e; exact pdq_walk b cap N hm (N + 1) 0 N lim d w (Nat.zero_le _) (Nat.le_refl _) (by omega) hl h hN (Or.inl rfl)
  have HB : Aside (Lib.bitLen N ≤ 11) := (bitLen_small N (by omega) h1).2.2
  have w1 : IntKind.u64.wrap (N : Int) = (N : Int) := by simp [IntKind.wrap, IntKind.bits, IntKind.signed]; omega
  clear h
  go_enter Yba.func14, Yba.ntmps14
  go_wp2_with fail
  refine (len_walk N _ hm _ (by first | rfl | exact w1)).mono ?_
  rintro e w2 ⟨rfl, rfl⟩
  have hb := HB.out
  generalize Lib.bitLen N = r at *
  go_wp2_with fail
  refine (HP.out r _ rfl (by omega)).mono ?_
  rintro e w3 ⟨rfl, hR⟩
  have HR : Aside (∃ d', PermIn 0 N d d' ∧ SortedIn ltInt 0 N d' ∧ At b w2 w3 d') := hR
  clear hR
  go_wp2_with fail
  go_end0
  exact ⟨rfl, HR.out⟩
end Go.Proofs.Ybulkbxxk
