/-
  (*ring).successor (function 9).
-/
import Derived.Test.YbulkbxzaAt
namespace Go.Proofs.Ybulkbxza
open Go.RowKit Go.Sort Go.Lib Go.Shelf
set_option linter.unusedVariables false
variable {P : Program} {k : Nat} {Z : Array Value}

/-- Where the successor of T lies. -/
def sIx (d : Array ID) (T : ID) : Nat := if cnt d T = d.size then 0 else cnt d T

/-- A block of cells that hold something and may be written. -/
def FreeAt (k : Nat) (W : World) (b : Nat) : Prop := ∀ j, j < k → (W.cell? ⟨b, j, none⟩).isSome = true ∧ W.frozen? ⟨b, j, none⟩ = false
theorem FreeAt.new (W : World) (Z : Array Value) (T : TypeId) : FreeAt Z.size (W.alloc (.cells Z T)) W.heap.size := fun j hj => by
  refine ⟨?_, by simp⟩
  simp [hj]
theorem FreeAt.grown {W : World} {b : Nat} (h : FreeAt k W b) (hb : b < W.heap.size) (n : Nat) (os : Array Obj) : FreeAt k (grow (W.drewN n) os) b := fun j hj => by
  refine ⟨?_, ?_⟩
  · rw [cell?_grow _ _ _ (by exact hb)]; exact (h j hj).1
  · rw [frozen?_grow _ _ _ (by exact hb)]; exact (h j hj).2
/-- A whole ID is stored. -/
theorem stBox (A : At P k Z) {W : World} {b : Nat} (h : FreeAt k W b) (y : ID) : Sem.run P (storeCells ⟨b, 0, none⟩ (enc y) 0) W = .ok () (W.setCells b 0 (enc y)) := by
  have := run_storeCells_cells (P := P) b 0 (enc y) 0 W (fun c hc => by rw [Nat.zero_add]; exact (h c (by rw [← A.hk y]; exact hc)).1) (fun c hc => by rw [Nat.zero_add]; exact (h c (by rw [← A.hk y]; exact hc)).2) (enc_one y)
  exact this
/-- .. and read back. -/
theorem boxed_set (A : At P k Z) {W : World} {b : Nat} (h : FreeAt k W b) (y : ID) : BoxAt (W.setCells b 0 (enc y)) b y := fun j v hv => by
  have hj : j < (enc y).length := (List.getElem?_eq_some_iff.1 hv).1
  have hjk : j < k := by rw [← A.hk y]; exact hj
  refine ⟨?_, by rw [World.frozen?_setCells]; exact (h j hjk).2⟩
  have := World.cell?_setCells_in b (enc y) 0 W (fun i hi => by rw [Nat.zero_add]; exact (h i (by rw [← A.hk y]; exact hi)).1) j hj
  rw [Nat.zero_add] at this
  rw [this, ← hv]
  exact (List.getElem?_eq_getElem hj).symm

/-- A run of stores into a new block: still w with draws and new blocks. -/
theorem grow_setCells (w : World) (n : Nat) (b : Nat) (hb : w.heap.size ≤ b) : ∀ (vs : List Value) (o : Nat) (os : Array Obj), ∃ os', (grow (w.drewN n) os).setCells b o vs = grow (w.drewN n) os'
  | [], _, os => ⟨os, rfl⟩
  | v :: r, o, os => by
    rw [World.setCells, setCell_eq, mapBlock_grow_new _ _ _ _ (by exact hb)]
    exact grow_setCells w n b hb r (o + 1) _

set_option maxHeartbeats 1000000 in
set_option maxRecDepth 100000 in
theorem succ_any (A : At P k Z) (R b off cap : Nat) (d : Array ID) (T : ID) (w : World) (hH : HoldsK enc k w b off d) (hb : b < w.heap.size) (hR : R < w.heap.size) (hc : w.cell? ⟨R, 20, none⟩ = some (.slice (some ⟨b, off, none⟩) d.size cap)) (hsz : d.size ≤ 2000) (h0 : 0 < d.size)
    (hmono : ∀ i j, i ≤ j → j < d.size → cf d[j]! T < 0 → cf d[i]! T < 0) :
    Calls P 9 #[.pointer (some ⟨R, 0, none⟩), .agg (enc T).toArray] w fun e w' => e = .returned (.agg (enc d[sIx d T]!).toArray) ∧ ∃ n os, w' = grow (w.drewN n) os := by
  have mixed := A.mixed; have t3 := A.t3; have a3 := A.a3; have z3 := A.z3; have v3 := A.v3; have t4 := A.t4; have a4 := A.a4; have z4 := A.z4; have v4 := A.v4; have a23 := A.a23; have z23 := A.z23; have v23 := A.v23; have t24 := A.t24; have a24 := A.a24; have z24 := A.z24; have v24 := A.v24; have t28 := A.t28; have a28 := A.a28; have z28 := A.z28; have t29 := A.t29; have a29 := A.a29; have z29 := A.z29; have a49 := A.a49; have z49 := A.z49
  have t49 := A.t49.trans Yba.underlying49
  have u3 := run_underlying A.t3; have u4 := run_underlying A.t4; have u24 := run_underlying A.t24; have u29 := run_underlying A.t29; have u49 := run_underlying t49
  have e15 : ∀ args w, (callFunc 15 args).run P w = .ok (.enter 15 args) w := enters_of (A.fn Yba.func15) (by kernel_rfl) rfl
  have FG := A.fn Yba.func9
  have S1 : w.heap.size < ((w.alloc (.cells (enc T).toArray 23)).alloc (.cells Z 23)).heap.size := by simp; omega
  have S2 : w.heap.size + 1 < ((w.alloc (.cells (enc T).toArray 23)).alloc (.cells Z 23)).heap.size := by simp
  have hBX : BoxAt ((w.alloc (.cells (enc T).toArray 23)).alloc (.cells Z 23)) w.heap.size T := by
    have := (BoxAt.new w T 23).grown (by simp) 0 #[.cells Z 23]
    rw [alloc_eq_grow (w.alloc _)]; exact this
  have hFR : FreeAt k ((w.alloc (.cells (enc T).toArray 23)).alloc (.cells Z 23)) (w.heap.size + 1) := by
    have := FreeAt.new (w.alloc (.cells (enc T).toArray 23)) Z 23
    rw [A.zl] at this
    simpa using this
  have hH2 : HoldsK enc k ((w.alloc (.cells (enc T).toArray 23)).alloc (.cells Z 23)) b off d := holdsK_alloc (holdsK_alloc hH hb _) (by simp; omega) _
  have hB2 : Below w.heap.size w ((w.alloc (.cells (enc T).toArray 23)).alloc (.cells Z 23)) := ((Below.refl _ _).alloc (Nat.le_refl _) _).alloc (by simp) _
  have hc2 : ((w.alloc (.cells (enc T).toArray 23)).alloc (.cells Z 23)).cell? ⟨R, 20, none⟩ = some (.slice (some ⟨b, off, none⟩) d.size cap) := by rw [hB2.cell (by exact hR)]; exact hc
  have hb2 : b < ((w.alloc (.cells (enc T).toArray 23)).alloc (.cells Z 23)).heap.size := by simp; omega
  have hR2 : R < ((w.alloc (.cells (enc T).toArray 23)).alloc (.cells Z 23)).heap.size := by simp; omega
  have HBX : Aside (BoxAt ((w.alloc (.cells (enc T).toArray 23)).alloc (.cells Z 23)) w.heap.size T) := hBX
  have HFR : Aside (FreeAt k ((w.alloc (.cells (enc T).toArray 23)).alloc (.cells Z 23)) (w.heap.size + 1)) := hFR
  have HH2 : Aside (HoldsK enc k ((w.alloc (.cells (enc T).toArray 23)).alloc (.cells Z 23)) b off d) := hH2
  have HB2 : Aside (Below w.heap.size w ((w.alloc (.cells (enc T).toArray 23)).alloc (.cells Z 23))) := hB2
  have HW2 : Aside ((w.alloc (.cells (enc T).toArray 23)).alloc (.cells Z 23) = grow w (#[.cells (enc T).toArray 23] ++ #[.cells Z 23])) := by
    show _ = _
    rw [alloc_eq_grow, alloc_eq_grow, grow_grow]
  have HC2 : Aside (((w.alloc (.cells (enc T).toArray 23)).alloc (.cells Z 23)).cell? ⟨R, 20, none⟩ = some (.slice (some ⟨b, off, none⟩) d.size cap)) := hc2
  have AA : Aside (At P k Z) := A
  have M : Aside (∀ i j, i ≤ j → j < d.size → cf d[j]! T < 0 → cf d[i]! T < 0) := hmono
  clear hBX hFR hH2 hB2 hc2 hH hc hmono
  go_enter FG, Yba.ntmps9
  go_wp2
  generalize (w.alloc (.cells (enc T).toArray 23)).alloc (.cells Z 23) = W2 at *
  have lC : ∀ n os, (grow (W2.drewN n) os).cell? ⟨R, 20, none⟩ = some (.slice (some ⟨b, off, none⟩) d.size cap) := fun n os => cell_grown hR2 HC2.out n os
  have lT : ∀ n os, Sem.run P (loadCellsFrom ⟨w.heap.size, 0, none⟩ 0 k #[]) (grow (W2.drewN n) os) = .ok (enc T).toArray (grow (W2.drewN n) os) := fun n os => ldBox AA.out (HBX.out.grown S1 n os)
  have hbs : ∀ n os, Calls P 15 #[.slice (some ⟨b, off, none⟩) d.size cap, .agg (enc T).toArray, .func (.func 16) #[] #[]] (grow (W2.drewN n) os) fun e w' => e = .returned (.tuple #[.int .i64 (cnt d T : Nat), .bool (fnd d T)]) ∧ ∃ q os', w' = grow ((grow (W2.drewN n) os).drewN q) os' := fun n os =>
    bsf_any AA.out b off cap d T _ (holdsK_grown HH2.out hb2 n os) (by rw [size_grow]; exact Nat.lt_of_lt_of_le hb2 (Nat.le_add_right _ _)) hsz M.out
  refine wp_region_quiet_grown (by assumption) (by kernel_rfl) ?_
  repeat (with_reducible refine wpQuiet_step (fun K hK => ?_); go_simp; first | (with_reducible refine hK _ ?_; clear hK K) | (apply Exists.intro; refine ⟨fun _ => ?_, hK _ ?_⟩; (go_at_fn 15; refine Calls.grown_of (hbs _ _)); clear hK K))
  with_reducible refine wpQuiet_nil ?_
  intro _ hw'
  obtain ⟨⟨nq, osq⟩, hw''⟩ := hw'
  subst hw''
  have lR : ∀ i, i < d.size → Sem.run P (loadCellsFrom ⟨b, off + i * k, none⟩ 0 k #[]) (grow (W2.drewN nq) osq) = .ok (enc d[i]!).toArray (grow (W2.drewN nq) osq) := fun i hi => ldRow AA.out (holdsK_grown HH2.out hb2 nq osq) i hi
  have lS : ∀ y, Sem.run P (storeCells ⟨w.heap.size + 1, 0, none⟩ (enc y) 0) (grow (W2.drewN nq) osq) = .ok () ((grow (W2.drewN nq) osq).setCells (w.heap.size + 1) 0 (enc y)) := fun y => stBox AA.out (HFR.out.grown S2 nq osq) y
  have lX : ∀ y, Sem.run P (loadCellsFrom ⟨w.heap.size + 1, 0, none⟩ 0 k #[]) ((grow (W2.drewN nq) osq).setCells (w.heap.size + 1) 0 (enc y)) = .ok (enc y).toArray ((grow (W2.drewN nq) osq).setCells (w.heap.size + 1) 0 (enc y)) := fun y => ldBox AA.out (boxed_set AA.out (HFR.out.grown S2 nq osq) y)
  have lC' := lC nq osq
  have hGW : ∃ os, grow (W2.drewN nq) osq = grow (w.drewN nq) os := by
    rw [HW2.out]
    exact ⟨_, by show grow (grow (w.drewN nq) _) osq = _; rw [grow_grow]⟩
  have HGW : Aside (∃ os, grow (W2.drewN nq) osq = grow (w.drewN nq) os) := hGW
  clear lC lT hbs hGW
  generalize grow (W2.drewN nq) osq = wq at *
  have HBS : ∀ y, ∃ n os, wq.setCells (w.heap.size + 1) 0 (enc y) = grow (w.drewN n) os := fun y => by
    obtain ⟨os, hos⟩ := HGW.out
    rw [hos]
    obtain ⟨os', h⟩ := grow_setCells w nq (w.heap.size + 1) (by omega) (enc y) 0 os
    exact ⟨nq, os', h⟩
  have HBB : Aside (∀ y, ∃ n os, wq.setCells (w.heap.size + 1) 0 (enc y) = grow (w.drewN n) os) := HBS
  clear HBS
  have hle : cnt d T ≤ d.size := by unfold cnt; have := List.countP_le_length (p := fun x => decide (cf x T < 0)) (l := d.toList); simpa using this
  by_cases hE : cnt d T = d.size
  · have HX : Hid (sIx d T = 0) := by show sIx d T = 0; unfold sIx; rw [if_pos hE]
    have l0 := lR 0 h0
    rw [Nat.zero_mul, Nat.add_zero] at l0
    have q1 : ((cnt d T : Int) == (d.size : Int)) = true := by rw [hE]; simp
    generalize hy : d[0]! = y at l0
    have Y : Hid (d[0]! = y) := hy
    have lSy := lS y
    have hky : (enc y).length = k := AA.out.hk y
    have lXy := lX y
    clear hE lR lS lX hy hle
    go_wp2
    refine bodyPost_ret (v := .agg (enc y).toArray) ?_ rfl ⟨by rw [HX.out, Y.out], HBB.out y⟩
    simp [results, Yba.results9, go_sem, lXy, a23, z23]
  · have HX : Hid (sIx d T = cnt d T) := by show sIx d T = cnt d T; unfold sIx; rw [if_neg hE]
    have l0 := lR (cnt d T) (by omega)
    have q1 : ((cnt d T : Int) == (d.size : Int)) = false := by rw [beq_eq_false_iff_ne]; omega
    have q2 : cnt d T < d.size := by omega
    generalize hy : d[cnt d T]! = y at l0
    have Y : Hid (d[cnt d T]! = y) := hy
    have lSy := lS y
    have hky : (enc y).length = k := AA.out.hk y
    have lXy := lX y
    clear hE lR lS lX hy hle
    go_wp2
    refine bodyPost_ret (v := .agg (enc y).toArray) ?_ rfl ⟨by rw [HX.out, Y.out], HBB.out y⟩
    simp [results, Yba.results9, go_sem, lXy, a23, z23]
end Go.Proofs.Ybulkbxza
