/-
  zzs3718acmp and compareIDs (functions 8, 16): in whatever world: two blocks are laid.
-/
import Derived.Test.YbulkbxzaCmp
namespace Go.Proofs.Ybulkbxza
open Go.RowKit Go.Sort Go.Lib
set_option linter.unusedVariables false

theorem boxed_fst (W : World) (x : ID) (o : Obj) (n i : Nat) (hi : i < (bs x).length) : (((W.alloc (.cells (enc x).toArray 23)).alloc o).drewN n).cell? ⟨W.heap.size, 0 + i, none⟩ = some (.int .u8 (bs x)[i].toNat) := by
  show ((W.alloc (.cells (enc x).toArray 23)).alloc o).cell? ⟨W.heap.size, 0 + i, none⟩ = _
  rw [Nat.zero_add, World.cell?_alloc_past _ _ _ (by simp)]
  simp [enc, hi]
theorem boxed_snd (W : World) (x y : ID) (n i : Nat) (hi : i < (bs y).length) : (((W.alloc (.cells (enc x).toArray 23)).alloc (.cells (enc y).toArray 23)).drewN n).cell? ⟨W.heap.size + 1, 0 + i, none⟩ = some (.int .u8 (bs y)[i].toNat) := by
  show ((W.alloc (.cells (enc x).toArray 23)).alloc (.cells (enc y).toArray 23)).cell? ⟨W.heap.size + 1, 0 + i, none⟩ = _
  rw [Nat.zero_add, show W.heap.size + 1 = (W.alloc (.cells (enc x).toArray 23)).heap.size by simp]
  simp [enc, hi]

set_option maxRecDepth 100000 in
set_option maxHeartbeats 400000 in
theorem acmp_raw (A B : Array Value) (hA : A.size = 20) (hB : B.size = 20) (r : Int) (W : World)
    (HC : Hid (∀ n, Calls Yba.prog 14 #[.slice (some ⟨W.heap.size, 0, none⟩) 20 20, .slice (some ⟨W.heap.size + 1, 0, none⟩) 20 20] (((W.alloc (.cells A 23)).alloc (.cells B 23)).drewN n) fun e w' => e = .returned (.int .i64 r) ∧ w' = ((W.alloc (.cells A 23)).alloc (.cells B 23)).drewN n)) :
    Calls Yba.prog 8 #[.agg A, .agg B] W fun e w' => e = .returned (.int .i64 r) ∧ ∃ q, w' = ((W.alloc (.cells A 23)).alloc (.cells B 23)).drewN q := by
  go_enter Yba.func8, Yba.ntmps8
  go_wp2
  go_quiet ((go_at_call 14; exact Calls.quiet_of_same (HC.out _)))
  go_wp2
  go_ret
  exact ⟨rfl, _, rfl⟩

theorem acmp_any (x y : ID) (W : World) : Calls Yba.prog 8 #[.agg (enc x).toArray, .agg (enc y).toArray] W fun e w' => e = .returned (.int .i64 (cf x y)) ∧ ∃ q os', w' = grow (W.drewN q) os' := by
  have hc : ∀ n, Calls Yba.prog 14 #[.slice (some ⟨W.heap.size, 0, none⟩) 20 20, .slice (some ⟨W.heap.size + 1, 0, none⟩) 20 20] (((W.alloc (.cells (enc x).toArray 23)).alloc (.cells (enc y).toArray 23)).drewN n) fun e w' => e = .returned (.int .i64 (cf x y)) ∧ w' = ((W.alloc (.cells (enc x).toArray 23)).alloc (.cells (enc y).toArray 23)).drewN n :=
    fun n => compare_any _ W.heap.size 0 20 (W.heap.size + 1) 0 20 20 20 (bs x) (bs y) (bs_len x) (bs_len y) (fun i hi => boxed_fst W x _ n i hi) (fun i hi => boxed_snd W x y n i hi)
  refine (acmp_raw _ _ (by simp [enc_len]) (by simp [enc_len]) _ W hc).mono ?_
  rintro e w' ⟨he, q, rfl⟩
  exact ⟨he, q, _, by rw [alloc_eq_grow, alloc_eq_grow, grow_grow]; rfl⟩

theorem acmp_lays (blk off size : Nat) (w : World) : CmpLays Yba.prog 8 #[] enc 20 cf blk off size w := fun _ _ _ _ x y => by
  have := acmp_any x y
  simpa using this _

set_option maxRecDepth 100000 in
set_option maxHeartbeats 400000 in
theorem bcmp_raw (A B : Array Value) (hA : A.size = 20) (hB : B.size = 20) (r : Int) (W : World)
    (HC : Hid (∀ n, Calls Yba.prog 14 #[.slice (some ⟨W.heap.size, 0, none⟩) 20 20, .slice (some ⟨W.heap.size + 1, 0, none⟩) 20 20] (((W.alloc (.cells A 23)).alloc (.cells B 23)).drewN n) fun e w' => e = .returned (.int .i64 r) ∧ w' = ((W.alloc (.cells A 23)).alloc (.cells B 23)).drewN n)) :
    Calls Yba.prog 16 #[.agg A, .agg B] W fun e w' => e = .returned (.int .i64 r) ∧ ∃ q, w' = ((W.alloc (.cells A 23)).alloc (.cells B 23)).drewN q := by
  go_enter Yba.func16, Yba.ntmps16
  go_wp2
  go_quiet ((go_at_call 14; exact Calls.quiet_of_same (HC.out _)))
  go_wp2
  go_ret
  exact ⟨rfl, _, rfl⟩

theorem bcmp_any (x y : ID) (W : World) : Calls Yba.prog 16 #[.agg (enc x).toArray, .agg (enc y).toArray] W fun e w' => e = .returned (.int .i64 (cf x y)) ∧ ∃ q os', w' = grow (W.drewN q) os' := by
  have hc : ∀ n, Calls Yba.prog 14 #[.slice (some ⟨W.heap.size, 0, none⟩) 20 20, .slice (some ⟨W.heap.size + 1, 0, none⟩) 20 20] (((W.alloc (.cells (enc x).toArray 23)).alloc (.cells (enc y).toArray 23)).drewN n) fun e w' => e = .returned (.int .i64 (cf x y)) ∧ w' = ((W.alloc (.cells (enc x).toArray 23)).alloc (.cells (enc y).toArray 23)).drewN n :=
    fun n => compare_any _ W.heap.size 0 20 (W.heap.size + 1) 0 20 20 20 (bs x) (bs y) (bs_len x) (bs_len y) (fun i hi => boxed_fst W x _ n i hi) (fun i hi => boxed_snd W x y n i hi)
  refine (bcmp_raw _ _ (by simp [enc_len]) (by simp [enc_len]) _ W hc).mono ?_
  rintro e w' ⟨he, q, rfl⟩
  exact ⟨he, q, _, by rw [alloc_eq_grow, alloc_eq_grow, grow_grow]; rfl⟩

theorem bcmp_lays (blk off size : Nat) (w : World) : CmpLays Yba.prog 16 #[] enc 20 cf blk off size w := fun _ _ _ _ x y => by
  have := bcmp_any x y
  simpa using this _
end Go.Proofs.Ybulkbxza
