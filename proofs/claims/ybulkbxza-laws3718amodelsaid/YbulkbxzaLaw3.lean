/-
  The walk of LawS3718AModel (function 3).
-/
import Derived.Test.YbulkbxzaMod
import Derived.Test.YbulkbxzaEq
import Derived.Test.YbulkbxzaSelf
namespace Go.Proofs.Ybulkbxza
open Go.RowKit Go.Sort Go.Lib Go.Shelf
set_option linter.unusedVariables false
variable {P : Program} {k : Nat} {Z : Array Value}

set_option maxHeartbeats 2000000 in
set_option maxRecDepth 100000 in
theorem law3_main (C : Callees P k Z) (x : ID) (r : List ID) (ao : Option Addr) (cap : Nat) (T : ID) (w : World) (hr : r.length ≤ 1024) (hR : RestAt w ao cap r) :
    Calls P 3 #[.agg (enc x).toArray, .slice ao r.length cap, .agg (enc T).toArray] w fun e w' => e = .returned (.bool true) ∧ Below w.heap.size w w' := by
  have A := C.at_
  have mixed := A.mixed; have t3 := A.t3; have a3 := A.a3; have z3 := A.z3; have v3 := A.v3; have t4 := A.t4; have a4 := A.a4; have z4 := A.z4; have v4 := A.v4; have a23 := A.a23; have z23 := A.z23; have v23 := A.v23; have t24 := A.t24; have a24 := A.a24; have z24 := A.z24; have v24 := A.v24; have t28 := A.t28; have a28 := A.a28; have z28 := A.z28; have t29 := A.t29; have a29 := A.a29; have z29 := A.z29; have a49 := A.a49; have z49 := A.z49
  have t49 := A.t49.trans Yba.underlying49
  have v49 := fun w => (A.v49 w).trans (Yba.zeroValue49 w)
  have z37 := fun w => (A.zf 37 w (by decide)).trans (Yba.sizeOf37 w); have z38 := fun w => (A.zf 38 w (by decide)).trans (Yba.sizeOf38 w); have z39 := fun w => (A.zf 39 w (by decide)).trans (Yba.sizeOf39 w); have z40 := fun w => (A.zf 40 w (by decide)).trans (Yba.sizeOf40 w); have z41 := fun w => (A.zf 41 w (by decide)).trans (Yba.sizeOf41 w); have z43 := fun w => (A.zf 43 w (by decide)).trans (Yba.sizeOf43 w); have z44 := fun w => (A.zf 44 w (by decide)).trans (Yba.sizeOf44 w); have z45 := fun w => (A.zf 45 w (by decide)).trans (Yba.sizeOf45 w); have z46 := fun w => (A.zf 46 w (by decide)).trans (Yba.sizeOf46 w); have z47 := fun w => (A.zf 47 w (by decide)).trans (Yba.sizeOf47 w)
  have u3 := run_underlying A.t3; have u4 := run_underlying A.t4; have u24 := run_underlying A.t24; have u29 := run_underlying A.t29; have u49 := run_underlying t49
  have e5 : ∀ args w, (callFunc 5 args).run P w = .ok (.enter 5 args) w := enters_of (A.fn Yba.func5) (by kernel_rfl) rfl
  have e6 : ∀ args w, (callFunc 6 args).run P w = .ok (.enter 6 args) w := enters_of (A.fn Yba.func6) (by kernel_rfl) rfl
  have e7 : ∀ args w, (callFunc 7 args).run P w = .ok (.enter 7 args) w := enters_of (A.fn Yba.func7) (by kernel_rfl) rfl
  have e9 : ∀ args w, (callFunc 9 args).run P w = .ok (.enter 9 args) w := enters_of (A.fn Yba.func9) (by kernel_rfl) rfl
  have e10 : ∀ args w, (callFunc 10 args).run P w = .ok (.enter 10 args) w := enters_of (A.fn Yba.func10) (by kernel_rfl) rfl
  have e11 : ∀ args w, (callFunc 11 args).run P w = .ok (.enter 11 args) w := enters_of (A.fn Yba.func11) (by kernel_rfl) rfl
  have FG := A.fn Yba.func3
  have hbx0 : BoxAt ((w.alloc (.cells (enc x).toArray 23)).alloc (.cells (enc T).toArray 23)) w.heap.size x := (BoxAt.new w x 23).alloc (by simp) _
  have hbt0 : BoxAt ((w.alloc (.cells (enc x).toArray 23)).alloc (.cells (enc T).toArray 23)) (w.heap.size + 1) T := by
    have := BoxAt.new (w.alloc (.cells (enc x).toArray 23)) T 23
    simpa using this
  have hB0 : Below w.heap.size w ((w.alloc (.cells (enc x).toArray 23)).alloc (.cells (enc T).toArray 23)) := ((Below.refl _ _).alloc (Nat.le_refl _) _).alloc (by simp) _
  have hs0 : ((w.alloc (.cells (enc x).toArray 23)).alloc (.cells (enc T).toArray 23)).heap.size = w.heap.size + 2 := by simp
  have hR1 : RestAt ((w.alloc (.cells (enc x).toArray 23)).alloc (.cells (enc T).toArray 23)) ao cap r := hR.below hB0
  have HR1 : Aside (RestAt ((w.alloc (.cells (enc x).toArray 23)).alloc (.cells (enc T).toArray 23)) ao cap r) := hR1
  have HB0 : Aside (Below w.heap.size w ((w.alloc (.cells (enc x).toArray 23)).alloc (.cells (enc T).toArray 23))) := hB0
  have HBT0 : Aside (BoxAt ((w.alloc (.cells (enc x).toArray 23)).alloc (.cells (enc T).toArray 23)) (w.heap.size + 1) T) := hbt0
  have lX := ldBox A hbx0
  have CC : Aside (Callees P k Z) := C
  have q1 : ¬ (1024 : Int) < r.length := by omega
  clear hB0 hR hR1 hbx0 hbt0
  go_enter FG, Yba.ntmps3
  go_wp2_with fail
  generalize hw0 : (w.alloc (.cells (enc x).toArray 23)).alloc (.cells (enc T).toArray 23) = w0 at HR1 HB0 HBT0 hs0 ⊢
  clear lX hw0
  refine (CC.out.c5 x r ao cap _ hr HR1.out).mono ?_
  rintro e w1 ⟨g1, cap1, rfl, hg1, hgl1, hH1, hb1⟩
  have HH1 : Aside (HoldsK enc k w1 g1 0 (x :: r).toArray) := hH1
  have HB1 : Aside (Below w0.heap.size w0 w1) := hb1
  clear hH1 hb1
  go_wp2_with fail
  refine (CC.out.c6 g1 cap1 (r.length + 1) (x :: r) w1 (by simp) (by omega) HH1.out).mono ?_
  rintro e w3 ⟨g3, cap3, rfl, hg3, hgl3, hH3, hb3⟩
  have HH3 : Aside (HoldsK enc k w3 g3 0 (x :: r).toArray) := hH3
  have HB3 : Aside (Below w1.heap.size w1 w3) := hb3
  clear hH3 hb3
  go_wp2_with fail
  refine (CC.out.c7 g3 cap3 (r.length + 1) (x :: r).toArray w3 (by simp) HH3.out hgl3 (by omega)).mono ?_
  rintro e w4 ⟨rfl, d, hds, hdp, hdo, hH4, ho4⟩
  have HH4 : Aside (HoldsK enc k w4 g3 0 d) := hH4
  have HO4 : Aside (Only (fun j => j = g3) w3 w4) := ho4
  have HDS : Aside (SortedIn (ltOf cf) 0 d.size d) := hdo
  have HDP : Aside (d.toList.Perm (x :: r)) := hdp
  clear hH4 ho4 hdo hdp
  go_wp2_with fail
  refine (CC.out.c6 g3 cap3 (r.length + 1) d.toList w4 (by simpa using hds) (by omega) (by simpa using HH4.out)).mono ?_
  rintro e w5 ⟨g5, cap5, rfl, hg5, hgl5, hH5, hb5⟩
  have HH5 : Aside (HoldsK enc k w5 g5 0 d) := by
    show HoldsK enc k w5 g5 0 d
    simpa using hH5
  have HB5 : Aside (Below w4.heap.size w4 w5) := hb5
  clear hH5 hb5
  -- what stands in w5
  have z1 := HB0.out.size
  have z2 := HB1.out.size
  have z3' := HB3.out.size
  have z4' := HO4.out.size
  have z5 := HB5.out.size
  have blk : ∀ j, j < w1.heap.size → j ≠ g3 → w5.heap[j]? = w1.heap[j]? := fun j h1 h2 => by
    rw [HB5.out.block j (by omega), HO4.out.block j (by omega) h2, HB3.out.block j h1]
  have m1 : HoldsK enc k w5 g1 0 (x :: r).toArray := holdsK_block HH1.out (blk g1 hgl1 (by omega))
  have m3 : HoldsK enc k w5 g3 0 d := holdsK_block HH4.out (HB5.out.block g3 (by omega))
  have mT : BoxAt w5 (w.heap.size + 1) T := fun j v hv => by
    have h := HBT0.out j v hv
    have e3 : w5.heap[w.heap.size + 1]? = w0.heap[w.heap.size + 1]? := (blk _ (by omega) (by omega)).trans (HB1.out.block _ (by omega))
    exact ⟨(World.cell?_of_block (w := w0) (by exact e3)).trans h.1, (World.frozen?_of_block (w := w0) (by exact e3)).trans h.2⟩
  have mB : Below w.heap.size w w5 := by
    have b3 : Below w.heap.size w w3 := (HB0.out.trans (HB1.out.mono z1)).trans (HB3.out.mono (by omega))
    have b4 : Below w.heap.size w w4 := b3.trans (HO4.out.below b3.size (fun j e => by subst e; omega))
    exact b4.trans (HB5.out.mono b4.size)
  have M1 : Aside (HoldsK enc k w5 g1 0 (x :: r).toArray) := m1
  have M3 : Aside (HoldsK enc k w5 g3 0 d) := m3
  have MT : Aside (BoxAt w5 (w.heap.size + 1) T) := mT
  have MB : Aside (Below w.heap.size w w5) := mB
  have y1 : g1 < w5.heap.size := by omega
  have y3 : g3 < w5.heap.size := by omega
  have yT : w.heap.size + 1 < w5.heap.size := by omega
  have lT0 : ∀ o, Sem.run P (loadCellsFrom ⟨w.heap.size + 1, 0, none⟩ 0 k #[]) (w5.alloc o) = .ok (enc T).toArray (w5.alloc o) := fun o => ldBox CC.out.at_ (MT.out.alloc yT o)
  clear m1 m3 mT mB blk HH1 HH3 HH4 HO4 HB1 HB3 HB5 HB0 HBT0 HR1 z1 z2 z3' z4' z5 hg1 hgl1 hg3 hgl3 hg5 hs0
  go_wp2_with fail
  generalize hw6 : w5.alloc (.cells #[.int .i64 0, .slice none 0 0, .int .i64 0, .int .i64 0, .slice none 0 0, .int .i64 0, .int .i64 0, .int .u64 0, .int .i64 0, .slice none 0 0, .pointer none, .pointer none, .pointer none, .pointer none, .nilIface, .nilFunc, .slice none 0 0, .int .i64 0, .slice none 0 0, .map none, .slice (some ⟨g3, 0, none⟩) (r.length + 1) cap3] 49) = w6
  have hc6 : w6.cell? ⟨w5.heap.size, 20, none⟩ = some (.slice (some ⟨g3, 0, none⟩) d.size cap3) := by rw [← hw6, hds]; simp
  have hs6 : w6.heap.size = w5.heap.size + 1 := by rw [← hw6]; simp
  have n1 : HoldsK enc k w6 g1 0 (x :: r).toArray := by rw [← hw6]; exact holdsK_alloc M1.out y1 _
  have n3 : HoldsK enc k w6 g3 0 d := by rw [← hw6]; exact holdsK_alloc M3.out y3 _
  have n5 : HoldsK enc k w6 g5 0 d := by rw [← hw6]; exact holdsK_alloc HH5.out hgl5 _
  have nT : BoxAt w6 (w.heap.size + 1) T := by rw [← hw6]; exact MT.out.alloc yT _
  have nB : Below w.heap.size w w6 := by rw [← hw6]; exact MB.out.alloc MB.out.size _
  have hwle : w.heap.size ≤ w5.heap.size := MB.out.size
  have N1 : Aside (HoldsK enc k w6 g1 0 (x :: r).toArray) := n1
  have N3 : Aside (HoldsK enc k w6 g3 0 d) := n3
  have N5 : Aside (HoldsK enc k w6 g5 0 d) := n5
  have NT : Aside (BoxAt w6 (w.heap.size + 1) T) := nT
  have NB : Aside (Below w.heap.size w w6) := nB
  clear lT0
  generalize w5.heap.size = R at hs6 y1 y3 yT hgl5 hc6 hwle ⊢
  have HC6 : Aside (w6.cell? ⟨R, 20, none⟩ = some (.slice (some ⟨g3, 0, none⟩) d.size cap3)) := hc6
  clear n1 n3 n5 nT nB M1 M3 MT MB HH5 hc6 hw6
  refine (succ_any CC.out.at_ R g3 0 cap3 d T w6 N3.out (by omega) (by omega) HC6.out (by omega) (by omega) (mono_of_sorted HDS.out T)).mono ?_
  rintro e wx ⟨rfl, qs, oss, rfl⟩
  have hml : d[sIx d T]! = mres T (x :: r) := model_law T (x :: r) d (by simp) HDS.out HDP.out
  rw [hml]
  generalize hR' : mres T (x :: r) = res
  have HRS : Aside (mres T (x :: r) = res) := hR'
  clear hR' hml
  -- the world after successor
  have p1 : HoldsK enc k (grow (w6.drewN qs) oss) g1 0 (x :: r).toArray := holdsK_grown N1.out (by omega) qs oss
  have p3 : HoldsK enc k (grow (w6.drewN qs) oss) g3 0 d := holdsK_grown N3.out (by omega) qs oss
  have p5 : HoldsK enc k (grow (w6.drewN qs) oss) g5 0 d := holdsK_grown N5.out (by omega) qs oss
  have pT : BoxAt (grow (w6.drewN qs) oss) (w.heap.size + 1) T := NT.out.grown (by omega) qs oss
  have pC : (grow (w6.drewN qs) oss).cell? ⟨R, 20, none⟩ = some (.slice (some ⟨g3, 0, none⟩) d.size cap3) := cell_grown (by show R < w6.heap.size; omega) HC6.out qs oss
  have pB : Below w.heap.size w (grow (w6.drewN qs) oss) := NB.out.trans ⟨rfl, rfl, rfl, by rw [size_grow]; exact Nat.le_add_right _ _, fun j hj => heap_grow_old _ _ (by show j < w6.heap.size; have := NB.out.size; omega)⟩
  have ps : R < (grow (w6.drewN qs) oss).heap.size := by rw [size_grow]; show R < w6.heap.size + _; omega
  generalize grow (w6.drewN qs) oss = w7 at p1 p3 p5 pT pC pB ps ⊢
  have hkr : (enc res).length = k := CC.out.at_.hk res
  have fr : FreeAt k (w7.alloc (.cells Z 23)) w7.heap.size := by
    have := FreeAt.new w7 Z 23
    rwa [CC.out.at_.zl] at this
  have sR := stBox CC.out.at_ fr res
  have rB := boxed_set CC.out.at_ fr res
  have other : ∀ j, j < w7.heap.size → ((w7.alloc (.cells Z 23)).setCells w7.heap.size 0 (enc res)).heap[j]? = w7.heap[j]? := fun j hj => by
    rw [heap_setCells_other _ _ _ _ _ (by omega)]
    exact Below.heap_alloc _ _ _ hj
  have r1 := holdsK_block p1 (other g1 (by omega))
  have r3 := holdsK_block p3 (other g3 (by omega))
  have r5 := holdsK_block p5 (other g5 (by omega))
  have rT : BoxAt ((w7.alloc (.cells Z 23)).setCells w7.heap.size 0 (enc res)) (w.heap.size + 1) T := (pT.alloc (by omega) _).setOther _ 0 _ (by omega)
  have rC : ((w7.alloc (.cells Z 23)).setCells w7.heap.size 0 (enc res)).cell? ⟨R, 20, none⟩ = some (.slice (some ⟨g3, 0, none⟩) d.size cap3) := (World.cell?_of_block (w := w7) (by exact other R ps)).trans pC
  have rW : Below w.heap.size w ((w7.alloc (.cells Z 23)).setCells w7.heap.size 0 (enc res)) := below_setCells (pB.alloc pB.size _) pB.size 0 (enc res)
  have rs : w7.heap.size < ((w7.alloc (.cells Z 23)).setCells w7.heap.size 0 (enc res)).heap.size := by rw [size_setCells]; simp
  have S1 : Aside (HoldsK enc k ((w7.alloc (.cells Z 23)).setCells w7.heap.size 0 (enc res)) g1 0 (x :: r).toArray) := r1
  have S3 : Aside (HoldsK enc k ((w7.alloc (.cells Z 23)).setCells w7.heap.size 0 (enc res)) g3 0 d) := r3
  have S5 : Aside (HoldsK enc k ((w7.alloc (.cells Z 23)).setCells w7.heap.size 0 (enc res)) g5 0 d) := r5
  have ST : Aside (BoxAt ((w7.alloc (.cells Z 23)).setCells w7.heap.size 0 (enc res)) (w.heap.size + 1) T) := rT
  have SR : Aside (BoxAt ((w7.alloc (.cells Z 23)).setCells w7.heap.size 0 (enc res)) w7.heap.size res) := rB
  have SC : Aside (((w7.alloc (.cells Z 23)).setCells w7.heap.size 0 (enc res)).cell? ⟨R, 20, none⟩ = some (.slice (some ⟨g3, 0, none⟩) d.size cap3)) := rC
  have SW : Aside (Below w.heap.size w ((w7.alloc (.cells Z 23)).setCells w7.heap.size 0 (enc res))) := rW
  clear p1 p3 p5 pT pC pB fr rB other r1 r3 r5 rT rC rW N1 N3 N5 NT NB HC6 hs6
  go_wp2_with fail
  generalize (w7.alloc (.cells Z 23)).setCells w7.heap.size 0 (enc res) = w8 at S1 S3 S5 ST SR SC SW rs sR ⊢
  clear sR
  generalize w7.heap.size = G at SR rs ps ⊢
  have lG : ∀ n os, Sem.run P (loadCellsFrom ⟨G, 0, none⟩ 0 k #[]) (grow (w8.drewN n) os) = .ok (enc res).toArray (grow (w8.drewN n) os) := fun n os => ldBox CC.out.at_ (SR.out.grown (by omega) n os)
  have lT : ∀ n os, Sem.run P (loadCellsFrom ⟨w.heap.size + 1, 0, none⟩ 0 k #[]) (grow (w8.drewN n) os) = .ok (enc T).toArray (grow (w8.drewN n) os) := fun n os => ldBox CC.out.at_ (ST.out.grown (by omega) n os)
  have lC : ∀ n os, (grow (w8.drewN n) os).cell? ⟨R, 20, none⟩ = some (.slice (some ⟨g3, 0, none⟩) (r.length + 1) cap3) := fun n os => by
    rw [← hds]
    exact cell_grown (by show R < w8.heap.size; omega) SC.out n os
  have hmc : ∀ n os, Calls P 10 #[.slice (some ⟨g1, 0, none⟩) (r.length + 1) cap1, .agg (enc T).toArray] (grow (w8.drewN n) os) fun e w' => e = .returned (.agg (enc res).toArray) ∧ ∃ m os', w' = grow ((grow (w8.drewN n) os).drewN m) os' := fun n os => by
    rw [← HRS.out]
    exact model_any CC.out.at_ g1 cap1 (x :: r) (r.length + 1) (by simp) T _ (holdsK_grown S1.out (by omega) n os) (by rw [size_grow]; show g1 < w8.heap.size + _; omega) (by omega) (by omega)
  have hec : ∀ n os, Calls P 11 #[.slice (some ⟨g3, 0, none⟩) (r.length + 1) cap3, .slice (some ⟨g5, 0, none⟩) (r.length + 1) cap5] (grow (w8.drewN n) os) fun e w' => e = .returned (.bool true) ∧ ∃ m os', w' = grow ((grow (w8.drewN n) os).drewN m) os' := fun n os =>
    (equal_any CC.out.at_ g3 cap3 g5 cap5 (r.length + 1) d _ hds (holdsK_grown S3.out (by omega) n os) (holdsK_grown S5.out (by omega) n os) (by omega)).mono (by
      rintro e w' ⟨rfl, q, rfl⟩
      exact ⟨rfl, q, #[], (grow_empty _).symm⟩)
  have hge23 := CC.out.at_.ge23
  have hq23 : ∀ w, (Op.equalIn 10000 23 (.agg (enc res).toArray) (.agg (enc res).toArray)).run P w = .ok true w := fun w => by rw [CC.out.at_.q23]; simp
  refine wp_region_quiet_grown (by assumption) (by kernel_rfl) ?_
  repeat (with_reducible refine wpQuiet_step (fun K hK => ?_); go_simp; first | (with_reducible refine hK _ ?_; clear hK K) | (apply Exists.intro; refine ⟨fun _ => ?_, hK _ ?_⟩; (first | (go_at_fn 10; refine Calls.grown_of (hmc _ _)) | (go_at_fn 11; refine Calls.grown_of (hec _ _))); clear hK K))
  with_reducible refine wpQuiet_nil ?_
  intro _ hw'
  obtain ⟨⟨nq, osq⟩, hw''⟩ := hw'
  subst hw''
  go_wp2
  go_ret
  refine ⟨rfl, SW.out.trans ⟨rfl, rfl, rfl, by rw [size_grow]; exact Nat.le_add_right _ _, fun j hj => heap_grow_old _ _ (by show j < w8.heap.size; have := SW.out.size; omega)⟩⟩
end Go.Proofs.Ybulkbxza
