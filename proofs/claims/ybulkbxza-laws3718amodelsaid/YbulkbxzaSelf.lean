/-
  The walk of LawS3718AOwnsSelf (function 4).
-/
import Derived.Test.YbulkbxzaFacts
namespace Go.Proofs.Ybulkbxza
open Go.RowKit Go.Sort Go.Lib Go.Shelf
set_option linter.unusedVariables false
variable {P : Program} {k : Nat} {Z : Array Value}

/-- What the walk is told of the members that came in. -/
structure RestAt (w : World) (ao : Option Addr) (cap : Nat) (r : List ID) : Prop where
  none : ao = none → r.length = 0 ∧ cap = 0
  cells : ∀ ad, ao = some ad → ∀ j u, (cellsL r)[j]? = some u → w.cell? (ad.add j) = some u
  lt : ∀ ad, ao = some ad → 0 < r.length → ad.block < w.heap.size
theorem RestAt.below {w w' : World} {ao : Option Addr} {cap : Nat} {r : List ID} (h : RestAt w ao cap r) (hb : Below w.heap.size w w') : RestAt w' ao cap r :=
  ⟨h.none, mem_src (k := 20) (cellsL_len r) h.cells h.lt hb, fun ad ha h0 => Nat.lt_of_lt_of_le (h.lt ad ha h0) hb.size⟩

/-- The callees' contracts, the ID's size a letter. -/
structure Callees (P : Program) (k : Nat) (Z : Array Value) : Prop where
  at_ : At P k Z
  c5 : ∀ (x : ID) (r : List ID) (ao : Option Addr) (cap : Nat) (w : World), r.length ≤ 1024 → RestAt w ao cap r → Calls P 5 #[.agg (enc x).toArray, .slice ao r.length cap] w fun e w' => ∃ g cap', e = .returned (.slice (some ⟨g, 0, none⟩) (r.length + 1) cap') ∧ w.heap.size ≤ g ∧ g < w'.heap.size ∧ HoldsK enc k w' g 0 (x :: r).toArray ∧ Below w.heap.size w w'
  c6 : ∀ (b c n : Nat) (l : List ID) (w : World), l.length = n → n ≤ 2000 → HoldsK enc k w b 0 l.toArray → Calls P 6 #[.slice (some ⟨b, 0, none⟩) n c] w fun e w' => ∃ g cap, e = .returned (.slice (some ⟨g, 0, none⟩) n cap) ∧ w.heap.size ≤ g ∧ g < w'.heap.size ∧ HoldsK enc k w' g 0 l.toArray ∧ Below w.heap.size w w'
  c7 : ∀ (b cap n : Nat) (d : Array ID) (w : World), d.size = n → HoldsK enc k w b 0 d → b < w.heap.size → n ≤ 2000 → Calls P 7 #[.slice (some ⟨b, 0, none⟩) n cap, .func (.func 8) #[] #[]] w fun e w' => e = .returned (.tuple #[]) ∧ ∃ d' : Array ID, d'.size = n ∧ d'.toList.Perm d.toList ∧ SortedIn (ltOf cf) 0 d'.size d' ∧ HoldsK enc k w' b 0 d' ∧ Only (fun j => j = b) w w'

theorem callees : Callees Yba.prog 20 Z20 where
  at_ := at20
  c5 := fun x r ao cap w hr hR => by
    obtain ⟨i0, hi, hz0, hz1, hz2⟩ := info_parts info23
    refine (members_any at20 i0 hi hz0 hz1 hz2 (by decide) ao r.length cap w (cellsL r) (enc x) hr (enc_len x) (enc_one x) (cellsL_len r) (cellsL_oneCell r) hR.none hR.cells hR.lt).mono ?_
    rintro e w' ⟨g, cap', he, hown, hb⟩
    have hg := ownsRow_shape hown (by simp)
    obtain ⟨g', c', hv, h1, h2, _⟩ := hg
    simp at hv
    obtain ⟨rfl, _⟩ := hv
    have hown' : w'.ownsRow w.heap.size 23 20 (.slice (some ⟨g, 0, Option.none⟩) (x :: r).length cap') (x :: r).length (cellsL (x :: r)) := by
      rw [show cellsL (x :: r) = enc x ++ cellsL r by simp [cellsL]]; exact hown
    exact ⟨g, cap', he, h1, h2, holdsK_of_owns hown', hb⟩
  c6 := fun b c n l w hn hl h => by subst hn; exact clone_any b c l w hl h
  c7 := fun b cap n d w hn h hb hs => by
    subst hn
    exact sort_any b cap d w h hb hs

theorem below_setCells {B : Nat} {a W : World} (h : Below B a W) {b : Nat} (hb : B ≤ b) (o : Nat) (vs : List Value) : Below B a (W.setCells b o vs) := by
  induction vs generalizing W o with
  | nil => exact h
  | cons v r ih => exact ih (h.setCell (p := ⟨b, o, none⟩) hb v) (o + 1)
theorem heap_setCells_other (b : Nat) : ∀ (vs : List Value) (o : Nat) (W : World) (j : Nat), j ≠ b → (W.setCells b o vs).heap[j]? = W.heap[j]?
  | [], _, _, _, _ => rfl
  | v :: r, o, W, j, h => by rw [World.setCells, heap_setCells_other b r (o + 1) _ j h, Below.heap_setCell _ _ _ _ h]

set_option maxHeartbeats 2000000 in
set_option maxRecDepth 100000 in
theorem self_main (C : Callees P k Z) (x : ID) (r : List ID) (ao : Option Addr) (cap : Nat) (kk : Nat) (w : World) (hk16 : kk ≤ 65535) (hr : r.length ≤ 1024) (hR : RestAt w ao cap r) :
    Calls P 4 #[.agg (enc x).toArray, .slice ao r.length cap, .int .u16 kk] w fun e w' => e = .returned (.bool true) ∧ Below w.heap.size w w' := by
  have A := C.at_
  have t54 : P.underlying 54 = some (.int .u16) := A.t54
  have mixed := A.mixed; have t3 := A.t3; have a3 := A.a3; have z3 := A.z3; have v3 := A.v3; have t4 := A.t4; have a4 := A.a4; have z4 := A.z4; have v4 := A.v4; have a23 := A.a23; have z23 := A.z23; have v23 := A.v23; have t24 := A.t24; have a24 := A.a24; have z24 := A.z24; have v24 := A.v24; have t28 := A.t28; have a28 := A.a28; have z28 := A.z28; have t29 := A.t29; have a29 := A.a29; have z29 := A.z29; have a49 := A.a49; have z49 := A.z49
  have t49 := A.t49.trans Yba.underlying49
  have v49 := fun w => (A.v49 w).trans (Yba.zeroValue49 w)
  have z37 := fun w => (A.zf 37 w (by decide)).trans (Yba.sizeOf37 w); have z38 := fun w => (A.zf 38 w (by decide)).trans (Yba.sizeOf38 w); have z39 := fun w => (A.zf 39 w (by decide)).trans (Yba.sizeOf39 w); have z40 := fun w => (A.zf 40 w (by decide)).trans (Yba.sizeOf40 w); have z41 := fun w => (A.zf 41 w (by decide)).trans (Yba.sizeOf41 w); have z43 := fun w => (A.zf 43 w (by decide)).trans (Yba.sizeOf43 w); have z44 := fun w => (A.zf 44 w (by decide)).trans (Yba.sizeOf44 w); have z45 := fun w => (A.zf 45 w (by decide)).trans (Yba.sizeOf45 w); have z46 := fun w => (A.zf 46 w (by decide)).trans (Yba.sizeOf46 w); have z47 := fun w => (A.zf 47 w (by decide)).trans (Yba.sizeOf47 w)
  have u3 := run_underlying A.t3; have u4 := run_underlying A.t4; have u24 := run_underlying A.t24; have u29 := run_underlying A.t29; have u49 := run_underlying t49; have u54 := run_underlying t54
  have e5 : ∀ args w, (callFunc 5 args).run P w = .ok (.enter 5 args) w := enters_of (A.fn Yba.func5) (by kernel_rfl) rfl
  have e6 : ∀ args w, (callFunc 6 args).run P w = .ok (.enter 6 args) w := enters_of (A.fn Yba.func6) (by kernel_rfl) rfl
  have e7 : ∀ args w, (callFunc 7 args).run P w = .ok (.enter 7 args) w := enters_of (A.fn Yba.func7) (by kernel_rfl) rfl
  have e9 : ∀ args w, (callFunc 9 args).run P w = .ok (.enter 9 args) w := enters_of (A.fn Yba.func9) (by kernel_rfl) rfl
  have FG := A.fn Yba.func4
  have lX := ldBox A (BoxAt.new w x 23)
  have hR1 : RestAt (w.alloc (.cells (enc x).toArray 23)) ao cap r := hR.below ((Below.refl _ _).alloc (Nat.le_refl _) _)
  have HR1 : Aside (RestAt (w.alloc (.cells (enc x).toArray 23)) ao cap r) := hR1
  have CC : Aside (Callees P k Z) := C
  have q1 : ¬ (1024 : Int) < r.length := by omega
  have hB0 : Below w.heap.size w (w.alloc (.cells (enc x).toArray 23)) := (Below.refl _ _).alloc (Nat.le_refl _) _
  have HB0 : Aside (Below w.heap.size w (w.alloc (.cells (enc x).toArray 23))) := hB0
  clear hB0 hR hR1
  go_enter FG, Yba.ntmps4
  go_wp2_with fail
  refine (CC.out.c5 x r ao cap _ hr HR1.out).mono ?_
  rintro e w1 ⟨g1, cap1, rfl, hg1, hgl1, hH1, hb1⟩
  have hB1 : Below w.heap.size w w1 := HB0.out.trans (hb1.mono (by simp))
  have hg1' : w.heap.size ≤ g1 := by simp at hg1; omega
  have hms : ((x :: r).toArray).size = r.length + 1 := by simp
  have hms' : ((((x :: r).toArray).size : Nat) : Int) = (r.length : Int) + 1 := by rw [hms]; rfl
  have hil : kk % (r.length + 1) < ((x :: r).toArray).size := by rw [hms]; exact Nat.mod_lt _ (by omega)
  have l1 := ldRow CC.out.at_ hH1 (kk % (r.length + 1)) hil
  rw [Nat.zero_add] at l1
  have HH1 : Aside (HoldsK enc k w1 g1 0 (x :: r).toArray) := hH1
  have HB1 : Aside (Below w.heap.size w w1) := hB1
  generalize hq : ((x :: r).toArray)[kk % (r.length + 1)]! = q at l1
  have hqm : q ∈ x :: r := by
    rw [← hq, getElem!_pos ((x :: r).toArray) (kk % (r.length + 1)) hil]
    have h0 := Array.getElem_mem hil
    exact List.mem_toArray.1 h0
  have HQM : Aside (q ∈ x :: r) := hqm
  have q0 : (kk : Int) % ((r.length : Int) + 1) = ((kk % (r.length + 1) : Nat) : Int) := by rw [Int.natCast_emod]; rfl
  have q2 : ((kk : Int) % ((r.length : Int) + 1)).toNat = kk % (r.length + 1) := by rw [q0]; rfl
  have q3 : (0 : Int) ≤ (kk : Int) % ((r.length : Int) + 1) := by rw [q0]; omega
  have q4 : (kk : Int) % ((r.length : Int) + 1) < (r.length : Int) + 1 := by rw [q0, ← hms'] ; exact Int.ofNat_lt.2 hil
  clear q0
  have hfr : FreeAt k (w1.alloc (.cells Z 23)) w1.heap.size := by
    have := FreeAt.new w1 Z 23
    rwa [CC.out.at_.zl] at this
  have s1 := stBox CC.out.at_ hfr q
  have hkq : (enc q).length = k := CC.out.at_.hk q
  have hbx := boxed_set CC.out.at_ hfr q
  have HBX : Aside (BoxAt ((w1.alloc (.cells Z 23)).setCells w1.heap.size 0 (enc q)) w1.heap.size q) := hbx
  have S1 : ((w1.alloc (.cells Z 23)).setCells w1.heap.size 0 (enc q)).heap.size = w1.heap.size + 1 := by rw [size_setCells]; simp
  have hH2 : HoldsK enc k ((w1.alloc (.cells Z 23)).setCells w1.heap.size 0 (enc q)) g1 0 (x :: r).toArray := by
    refine holdsK_block HH1.out ?_
    rw [heap_setCells_other _ _ _ _ _ (by omega)]
    exact Below.heap_alloc _ _ _ hgl1
  have hB2 : Below w.heap.size w ((w1.alloc (.cells Z 23)).setCells w1.heap.size 0 (enc q)) := below_setCells (HB1.out.alloc HB1.out.size _) HB1.out.size 0 (enc q)
  have HH2 : Aside (HoldsK enc k ((w1.alloc (.cells Z 23)).setCells w1.heap.size 0 (enc q)) g1 0 (x :: r).toArray) := hH2
  have HB2 : Aside (Below w.heap.size w ((w1.alloc (.cells Z 23)).setCells w1.heap.size 0 (enc q))) := hB2
  have hw1w : w.heap.size ≤ w1.heap.size := HB1.out.size
  clear hbx hfr hqm hq hH1 hB1 hb1 lX HB0 HR1 hms hms' hil hH2 hB2
  go_wp2_with fail
  generalize (w1.alloc (.cells Z 23)).setCells w1.heap.size 0 (enc q) = w2 at HBX S1 HH2 HB2 ⊢
  generalize w1.heap.size = Q at HBX S1 hw1w ⊢
  clear s1 l1 HH1 HB1 hgl1
  refine (CC.out.c6 g1 cap1 (r.length + 1) (x :: r) w2 (by simp) (by omega) HH2.out).mono ?_
  rintro e w3 ⟨g3, cap3, rfl, hg3, hgl3, hH3, hb3⟩
  have HH3 : Aside (HoldsK enc k w3 g3 0 (x :: r).toArray) := hH3
  have HB3 : Aside (Below w2.heap.size w2 w3) := hb3
  clear hH3 hb3
  go_wp2_with fail
  refine (CC.out.c7 g3 cap3 (r.length + 1) (x :: r).toArray w3 (by simp) HH3.out hgl3 (by omega)).mono ?_
  rintro e w4 ⟨rfl, d, hds, hdp, hdo, hH4, ho4⟩
  have HH4 : Aside (HoldsK enc k w4 g3 0 d) := hH4
  have HO4 : Aside (Only (fun j => j = g3) w3 w4) := ho4
  have HDS : Aside (SortedIn (ltOf cf) 0 d.size d) := hdo
  have HDP : Aside (d.toList.Perm (x :: r)) := hdp
  clear hH4 ho4 hdo hdp
  have hB3 : Below w.heap.size w w3 := HB2.out.trans (HB3.out.mono HB2.out.size)
  have hg3w : w.heap.size ≤ g3 := by have := HB2.out.size; omega
  have hB4 : Below w.heap.size w w4 := hB3.trans (HO4.out.below hB3.size (fun j e => by subst e; exact hg3w))
  have hQ3 : Q < w3.heap.size := by have := HB3.out.size; omega
  have hbx4 : BoxAt w4 Q q := fun j v hv => by
    have h := HBX.out j v hv
    have e3 : w4.heap[Q]? = w2.heap[Q]? := (HO4.out.block Q hQ3 (by omega)).trans (HB3.out.block Q (by omega))
    exact ⟨(World.cell?_of_block (w := w2) (by exact e3)).trans h.1, (World.frozen?_of_block (w := w2) (by exact e3)).trans h.2⟩
  have hQ4 : Q < w4.heap.size := Nat.lt_of_lt_of_le hQ3 HO4.out.size
  have hg4 : g3 < w4.heap.size := Nat.lt_of_lt_of_le hgl3 HO4.out.size
  have HB4 : Aside (Below w.heap.size w w4) := hB4
  have HBX4 : Aside (BoxAt w4 Q q) := hbx4
  clear hB3 hB4 hbx4 HBX HB2 HB3 HH2 HH3 HO4 hgl3 hQ3 S1 hg3
  go_wp2_with fail
  generalize hw5 : w4.alloc (.cells #[.int .i64 0, .slice none 0 0, .int .i64 0, .int .i64 0, .slice none 0 0, .int .i64 0, .int .i64 0, .int .u64 0, .int .i64 0, .slice none 0 0, .pointer none, .pointer none, .pointer none, .pointer none, .nilIface, .nilFunc, .slice none 0 0, .int .i64 0, .slice none 0 0, .map none, .slice (some ⟨g3, 0, none⟩) (r.length + 1) cap3] 49) = w5
  have hc5 : w5.cell? ⟨w4.heap.size, 20, none⟩ = some (.slice (some ⟨g3, 0, none⟩) d.size cap3) := by rw [← hw5, hds]; simp
  have hs5 : w5.heap.size = w4.heap.size + 1 := by rw [← hw5]; simp
  have hH5 : HoldsK enc k w5 g3 0 d := by rw [← hw5]; exact holdsK_alloc HH4.out hg4 _
  have hbx5 : BoxAt w5 Q q := by
    rw [← hw5, alloc_eq_grow]
    exact HBX4.out.grown hQ4 0 _
  have hB5 : Below w.heap.size w w5 := by rw [← hw5]; exact HB4.out.alloc HB4.out.size _
  have HH5 : Aside (HoldsK enc k w5 g3 0 d) := hH5
  have HBX5 : Aside (BoxAt w5 Q q) := hbx5
  have HB5 : Aside (Below w.heap.size w w5) := hB5
  have lQ : ∀ n os, Sem.run P (loadCellsFrom ⟨Q, 0, none⟩ 0 k #[]) (grow (w5.drewN n) os) = .ok (enc q).toArray (grow (w5.drewN n) os) := fun n os => ldBox CC.out.at_ (HBX5.out.grown (by omega) n os)
  have hsc : ∀ n os, Calls P 9 #[.pointer (some ⟨w4.heap.size, 0, none⟩), .agg (enc q).toArray] (grow (w5.drewN n) os) fun e w' => e = .returned (.agg (enc d[sIx d q]!).toArray) ∧ ∃ m os', w' = grow ((grow (w5.drewN n) os).drewN m) os' := fun n os =>
    succ_any CC.out.at_ w4.heap.size g3 0 cap3 d q _ (holdsK_grown HH5.out (by omega) n os) (by rw [size_grow]; show g3 < w5.heap.size + _; omega) (by rw [size_grow]; show _ < w5.heap.size + _; omega) (cell_grown (by show w4.heap.size < w5.heap.size; omega) hc5 n os) (by omega) (by omega) (mono_of_sorted HDS.out q)
  have hown : d[sIx d q]! = q := owns_self HDS.out q (HDP.out.mem_iff.2 HQM.out)
  rw [hown] at hsc
  have hge23 := CC.out.at_.ge23
  have hq23 : ∀ w, (Op.equalIn 10000 23 (.agg (enc q).toArray) (.agg (enc q).toArray)).run P w = .ok true w := fun w => by rw [CC.out.at_.q23]; simp
  clear hc5 hH5 hbx5 hB5 hw5 hown HH4 HB4 HBX4
  refine wp_region_quiet_grown (by assumption) (by kernel_rfl) ?_
  repeat (with_reducible refine wpQuiet_step (fun K hK => ?_); go_simp; first | (with_reducible refine hK _ ?_; clear hK K) | (apply Exists.intro; refine ⟨fun _ => ?_, hK _ ?_⟩; (go_at_fn 9; refine Calls.grown_of (hsc _ _)); clear hK K))
  with_reducible refine wpQuiet_nil ?_
  intro _ hw'
  obtain ⟨⟨nq, osq⟩, hw''⟩ := hw'
  subst hw''
  go_wp2
  go_ret
  refine ⟨rfl, HB5.out.trans ⟨rfl, rfl, rfl, by rw [size_grow]; exact Nat.le_add_right _ _, fun j hj => heap_grow_old _ _ (by show j < w5.heap.size; have := HB5.out.size; omega)⟩⟩
end Go.Proofs.Ybulkbxza
