/-
  The walk of zzs3718amodel (function 10).
-/
import Derived.Test.YbulkbxzaModPlain
import Derived.Test.YbulkbxzaFacts
namespace Go.Proofs.Ybulkbxza
open Go.RowKit Go.Sort Go.Lib Go.Shelf
set_option linter.unusedVariables false
variable {P : Program} {k : Nat} {Z : Array Value}

theorem BoxAt.free {W : World} {b : Nat} {x : ID} (h : BoxAt W b x) (hk : (enc x).length = k) : FreeAt k W b := fun j hj => by
  have := h j _ (List.getElem?_eq_getElem (by rw [hk]; exact hj))
  exact ⟨by rw [this.1]; rfl, this.2⟩
theorem BoxAt.setOther {W : World} {b : Nat} {x : ID} (h : BoxAt W b x) (c o : Nat) (vs : List Value) (hne : b ≠ c) : BoxAt (W.setCells c o vs) b x := fun j v hv =>
  ⟨by rw [World.cell?_setCells_out c vs o W _ (fun e _ => absurd e hne)]; exact (h j v hv).1, by rw [World.frozen?_setCells]; exact (h j v hv).2⟩
theorem FreeAt.setOther {W : World} {b : Nat} (h : FreeAt k W b) (c o : Nat) (vs : List Value) (hne : b ≠ c) : FreeAt k (W.setCells c o vs) b := fun j hj =>
  ⟨by rw [World.cell?_setCells_out c vs o W _ (fun e _ => absurd e hne)]; exact (h j hj).1, by rw [World.frozen?_setCells]; exact (h j hj).2⟩
theorem BoxAt.alloc {W : World} {b : Nat} {x : ID} (h : BoxAt W b x) (hb : b < W.heap.size) (o : Obj) : BoxAt (W.alloc o) b x := by
  rw [alloc_eq_grow]; exact h.grown hb 0 #[o]
theorem FreeAt.alloc {W : World} {b : Nat} (h : FreeAt k W b) (hb : b < W.heap.size) (o : Obj) : FreeAt k (W.alloc o) b := by
  rw [alloc_eq_grow]; exact h.grown hb 0 #[o]

/-- W is w with draws and new blocks. -/
def Gw (w W : World) : Prop := ∃ n os, W = grow (w.drewN n) os
theorem Gw.refl (w : World) : Gw w w := ⟨0, #[], (grow_empty _).symm⟩
theorem Gw.alloc {w W : World} (h : Gw w W) (o : Obj) : Gw w (W.alloc o) := by
  obtain ⟨n, os, rfl⟩ := h
  exact ⟨n, os ++ #[o], by rw [alloc_eq_grow, grow_grow]⟩
theorem Gw.grown {w W : World} (h : Gw w W) (m : Nat) (os' : Array Obj) : Gw w (grow (W.drewN m) os') := by
  obtain ⟨n, os, rfl⟩ := h
  exact ⟨n + m, os ++ os', by show grow (grow ((w.drewN n).drewN m) os) os' = _; rw [grow_grow, World.drewN_drewN]⟩
theorem Gw.set {w W : World} (h : Gw w W) {b : Nat} (hb : w.heap.size ≤ b) (o : Nat) (vs : List Value) : Gw w (W.setCells b o vs) := by
  obtain ⟨n, os, rfl⟩ := h
  obtain ⟨os', e⟩ := grow_setCells w n b hb vs o os
  exact ⟨n, os', e⟩
theorem Gw.holds {w W : World} (h : Gw w W) {b : Nat} {d : Array ID} (hH : HoldsK enc k w b 0 d) (hb : b < w.heap.size) : HoldsK enc k W b 0 d := by
  obtain ⟨n, os, rfl⟩ := h
  exact holdsK_grown hH hb n os
theorem Gw.le {w W : World} (h : Gw w W) : w.heap.size ≤ W.heap.size := by
  obtain ⟨n, os, rfl⟩ := h
  rw [size_grow]; exact Nat.le_add_right _ _

/-- What the scan's loop knows of memory. -/
structure MS (k : Nat) (w : World) (T best low : ID) (W : World) : Prop where
  gw : Gw w W
  b0 : BoxAt W w.heap.size T
  b1 : FreeAt k W (w.heap.size + 1)
  b2 : BoxAt W (w.heap.size + 2) best
  b3 : BoxAt W (w.heap.size + 3) low
  sz : w.heap.size + 3 < W.heap.size

theorem MS.alloc {w W : World} {T best low : ID} (h : MS k w T best low W) (o : Obj) : MS k w T best low (W.alloc o) := by
  have := h.sz
  exact ⟨h.gw.alloc o, h.b0.alloc (by omega) o, h.b1.alloc (by omega) o, h.b2.alloc (by omega) o, h.b3.alloc (by omega) o, by simp; omega⟩
theorem MS.grown {w W : World} {T best low : ID} (h : MS k w T best low W) (m : Nat) (os : Array Obj) : MS k w T best low (grow (W.drewN m) os) := by
  have := h.sz
  exact ⟨h.gw.grown m os, h.b0.grown (by omega) m os, h.b1.grown (by omega) m os, h.b2.grown (by omega) m os, h.b3.grown (by omega) m os, by rw [size_grow]; show _ < W.heap.size + _; omega⟩
theorem MS.setNew {w W : World} {T best low : ID} (h : MS k w T best low W) {b : Nat} (hb : w.heap.size + 4 ≤ b) (o : Nat) (vs : List Value) : MS k w T best low (W.setCells b o vs) :=
  ⟨h.gw.set (by omega) o vs, h.b0.setOther b o vs (by omega), h.b1.setOther b o vs (by omega), h.b2.setOther b o vs (by omega), h.b3.setOther b o vs (by omega), by rw [size_setCells]; exact h.sz⟩
theorem MS.set2 {w W : World} {T best low : ID} (A : At P k Z) (h : MS k w T best low W) (m : ID) : MS k w T m low (W.setCells (w.heap.size + 2) 0 (enc m)) :=
  ⟨h.gw.set (by omega) 0 _, h.b0.setOther _ 0 _ (by omega), h.b1.setOther _ 0 _ (by omega), boxed_set A (h.b2.free (A.hk best)) m, h.b3.setOther _ 0 _ (by omega), by rw [size_setCells]; exact h.sz⟩
theorem MS.set3 {w W : World} {T best low : ID} (A : At P k Z) (h : MS k w T best low W) (m : ID) : MS k w T best m (W.setCells (w.heap.size + 3) 0 (enc m)) :=
  ⟨h.gw.set (by omega) 0 _, h.b0.setOther _ 0 _ (by omega), h.b1.setOther _ 0 _ (by omega), h.b2.setOther _ 0 _ (by omega), boxed_set A (h.b3.free (A.hk low)) m, by rw [size_setCells]; exact h.sz⟩

/-- .. and the round's own box m at block M. -/
structure RD (k : Nat) (w : World) (T best low : ID) (M : Nat) (m : ID) (W : World) : Prop where
  ms : MS k w T best low W
  bm : BoxAt W M m
  lt : M < W.heap.size
  ge : w.heap.size + 4 ≤ M
theorem RD.grown {w W : World} {T best low m : ID} {M : Nat} (h : RD k w T best low M m W) (q : Nat) (os : Array Obj) : RD k w T best low M m (grow (W.drewN q) os) :=
  ⟨h.ms.grown q os, h.bm.grown h.lt q os, by rw [size_grow]; exact Nat.lt_of_lt_of_le h.lt (Nat.le_add_right _ _), h.ge⟩
theorem RD.set2 {w W : World} {T best low m : ID} {M : Nat} (A : At P k Z) (h : RD k w T best low M m W) (x : ID) : RD k w T x low M m (W.setCells (w.heap.size + 2) 0 (enc x)) :=
  ⟨h.ms.set2 A x, h.bm.setOther _ 0 _ (by have := h.ge; omega), by rw [size_setCells]; exact h.lt, h.ge⟩
theorem RD.set3 {w W : World} {T best low m : ID} {M : Nat} (A : At P k Z) (h : RD k w T best low M m W) (x : ID) : RD k w T best x M m (W.setCells (w.heap.size + 3) 0 (enc x)) :=
  ⟨h.ms.set3 A x, h.bm.setOther _ 0 _ (by have := h.ge; omega), by rw [size_setCells]; exact h.lt, h.ge⟩
theorem RD.start {w W : World} {T best low : ID} (A : At P k Z) (h : MS k w T best low W) (m : ID) : RD k w T best low W.heap.size m ((W.alloc (.cells Z 23)).setCells W.heap.size 0 (enc m)) := by
  have hs := h.sz
  have fr : FreeAt k (W.alloc (.cells Z 23)) W.heap.size := by
    have := FreeAt.new W Z 23
    rwa [A.zl] at this
  exact ⟨(h.alloc _).setNew (by omega) 0 _, boxed_set A fr m, by rw [size_setCells]; simp, by omega⟩

/-- A round's three answers, case by case. -/
theorem tri_pp {X : ID × ID × Bool} {c d : Prop} [Decidable c] [Decidable d] {m best low : ID} {hv : Bool} (h : X = (if c then m else best, if d then m else low, if c then true else hv)) (hc : c) (hd : d) : X = (m, m, true) := by
  rw [h, if_pos hc, if_pos hd, if_pos hc]
theorem tri_pn {X : ID × ID × Bool} {c d : Prop} [Decidable c] [Decidable d] {m best low : ID} {hv : Bool} (h : X = (if c then m else best, if d then m else low, if c then true else hv)) (hc : c) (hd : ¬ d) : X = (m, low, true) := by
  rw [h, if_pos hc, if_neg hd, if_pos hc]
theorem tri_np {X : ID × ID × Bool} {c d : Prop} [Decidable c] [Decidable d] {m best low : ID} {hv : Bool} (h : X = (if c then m else best, if d then m else low, if c then true else hv)) (hc : ¬ c) (hd : d) : X = (best, m, hv) := by
  rw [h, if_neg hc, if_pos hd, if_neg hc]
theorem tri_nn {X : ID × ID × Bool} {c d : Prop} [Decidable c] [Decidable d] {m best low : ID} {hv : Bool} (h : X = (if c then m else best, if d then m else low, if c then true else hv)) (hc : ¬ c) (hd : ¬ d) : X = (best, low, hv) := by
  rw [h, if_neg hc, if_neg hd, if_neg hc]

set_option maxHeartbeats 4000000 in
set_option maxRecDepth 100000 in
theorem model_any (A : At P k Z) (g cap : Nat) (l : List ID) (n : Nat) (hln : l.length = n) (T : ID) (w : World) (hH : HoldsK enc k w g 0 l.toArray) (hg : g < w.heap.size) (h0 : 0 < n) (hn : n ≤ 2000) :
    Calls P 10 #[.slice (some ⟨g, 0, none⟩) n cap, .agg (enc T).toArray] w fun e w' => e = .returned (.agg (enc (mres T l)).toArray) ∧ ∃ q os, w' = grow (w.drewN q) os := by
  have mixed := A.mixed; have t3 := A.t3; have a3 := A.a3; have z3 := A.z3; have v3 := A.v3; have t4 := A.t4; have a4 := A.a4; have z4 := A.z4; have v4 := A.v4; have a23 := A.a23; have z23 := A.z23; have v23 := A.v23; have t24 := A.t24; have a24 := A.a24; have z24 := A.z24; have v24 := A.v24
  have u3 := run_underlying A.t3; have u4 := run_underlying A.t4; have u24 := run_underlying A.t24
  have e8 : ∀ args w, (callFunc 8 args).run P w = .ok (.enter 8 args) w := enters_of (A.fn Yba.func8) (by kernel_rfl) rfl
  have FG := A.fn Yba.func10
  have AA : Aside (At P k Z) := A
  have HH : Aside (HoldsK enc k w g 0 l.toArray) := hH
  have q0 : (0 : Int) < n := by omega
  obtain ⟨f, hf⟩ : ∃ f, f = l[0]! := ⟨_, rfl⟩
  have hkf : (enc f).length = k := A.hk f
  have g2 : Gw w ((w.alloc (.cells (enc T).toArray 23)).alloc (.cells Z 23)) := ((Gw.refl w).alloc _).alloc _
  have s2 : ((w.alloc (.cells (enc T).toArray 23)).alloc (.cells Z 23)).heap.size = w.heap.size + 2 := by simp
  have g3 : Gw w ((((w.alloc (.cells (enc T).toArray 23)).alloc (.cells Z 23)).alloc (.cells Z 23)).setCells (w.heap.size + 2) 0 (enc f)) := (g2.alloc _).set (by omega) 0 _
  have s3 : ((((w.alloc (.cells (enc T).toArray 23)).alloc (.cells Z 23)).alloc (.cells Z 23)).setCells (w.heap.size + 2) 0 (enc f)).heap.size = w.heap.size + 3 := by rw [size_setCells]; simp
  have ld0 : ∀ W, Gw w W → Sem.run P (loadCellsFrom ⟨g, 0, none⟩ 0 k #[]) W = .ok (enc f).toArray W := fun W hW => by
    have := ldRow A (hW.holds hH hg) 0 (by simp; omega)
    rw [Nat.zero_mul, Nat.add_zero] at this
    rw [this, hf]
    simp
  have l2 := ld0 _ g2
  have l3 := ld0 _ g3
  have fr2 : FreeAt k (((w.alloc (.cells (enc T).toArray 23)).alloc (.cells Z 23)).alloc (.cells Z 23)) (w.heap.size + 2) := by
    have := FreeAt.new ((w.alloc (.cells (enc T).toArray 23)).alloc (.cells Z 23)) Z 23
    rw [A.zl, s2] at this
    exact this
  have st2 := stBox A fr2 f
  have fr3 : FreeAt k (((((w.alloc (.cells (enc T).toArray 23)).alloc (.cells Z 23)).alloc (.cells Z 23)).setCells (w.heap.size + 2) 0 (enc f)).alloc (.cells Z 23)) (w.heap.size + 3) := by
    have := FreeAt.new ((((w.alloc (.cells (enc T).toArray 23)).alloc (.cells Z 23)).alloc (.cells Z 23)).setCells (w.heap.size + 2) 0 (enc f)) Z 23
    rw [A.zl, s3] at this
    exact this
  have st3 := stBox A fr3 f
  have hMS : MS k w T f f ((((((w.alloc (.cells (enc T).toArray 23)).alloc (.cells Z 23)).alloc (.cells Z 23)).setCells (w.heap.size + 2) 0 (enc f)).alloc (.cells Z 23)).setCells (w.heap.size + 3) 0 (enc f)) := by
    refine ⟨(g3.alloc _).set (by omega) 0 _, ?_, ?_, ?_, boxed_set A fr3 f, by rw [size_setCells]; simp⟩
    · refine BoxAt.setOther (BoxAt.alloc (BoxAt.setOther (BoxAt.alloc (BoxAt.alloc (BoxAt.new w T 23) (by simp) _) (by simp; omega) _) _ 0 _ (by omega)) (by rw [s3]; omega) _) _ 0 _ (by omega)
    · have fr1 : FreeAt k ((w.alloc (.cells (enc T).toArray 23)).alloc (.cells Z 23)) (w.heap.size + 1) := by
        have := FreeAt.new (w.alloc (.cells (enc T).toArray 23)) Z 23
        rw [A.zl] at this
        simpa using this
      exact ((((fr1.alloc (by rw [s2]; omega) _).setOther _ 0 _ (by omega)).alloc (by rw [s3]; omega) _).setOther _ 0 _ (by omega))
    · exact BoxAt.setOther (BoxAt.alloc (boxed_set A fr2 f) (by rw [s3]; omega) _) _ 0 _ (by omega)
  have HMS : Aside (MS k w T f f ((((((w.alloc (.cells (enc T).toArray 23)).alloc (.cells Z 23)).alloc (.cells Z 23)).setCells (w.heap.size + 2) 0 (enc f)).alloc (.cells Z 23)).setCells (w.heap.size + 3) 0 (enc f))) := hMS
  have HF : Aside (f = l[0]!) := hf
  clear hH ld0 g2 g3 fr2 fr3 hMS hf s2 s3
  go_enter FG, Yba.ntmps10
  go_wp2_with fail
  rw [show w.heap.size + 1 + 1 + 1 = w.heap.size + 3 from rfl, show w.heap.size + 1 + 1 = w.heap.size + 2 from rfl]
  clear l2 l3 st2 st3
  go_loopw [7, 18] (fun vh vi wr => ∃ i : Nat, i ≤ n ∧ vi = .int .i64 i ∧ vh = .bool (mst T l i).2.2 ∧ Aside (MS k w T (mst T l i).1 (mst T l i).2.1 wr)) (fun _ vi _ => n - (intOf vi).toNat)
  case atStart =>
    refine ⟨0, Nat.zero_le _, rfl, rfl, ?_⟩
    show MS k w T (mst T l 0).1 (mst T l 0).2.1 _
    rw [mst_zero, ← HF.out]
    exact HMS.out
  case round =>
    obtain ⟨i, hi, rfl, rfl, hM⟩ := hrel
    clear HMS
    by_cases hlt : i < n
    · have hil : i < l.length := by omega
      have hnx := mst_succ T l i hil
      have lR : Sem.run P (loadCellsFrom ⟨g, i * k, none⟩ 0 k #[]) wr = .ok (enc l[i]!).toArray wr := by
        have := ldRow AA.out (hM.out.gw.holds HH.out hg) i (by simpa using hil)
        rw [Nat.zero_add] at this
        rw [this]
        simp
      generalize hm : l[i]! = m at lR hnx
      generalize hst : mst T l i = st at hM hnx ⊢
      obtain ⟨best, low, hv⟩ := st
      unfold mstep at hnx
      simp only at hnx hM ⊢
      have HN : Hid (mst T l (i + 1) = (if 0 ≤ cf m T ∧ (hv = false ∨ cf m best < 0) then m else best, if cf m low < 0 then m else low, if 0 ≤ cf m T ∧ (hv = false ∨ cf m best < 0) then true else hv)) := hnx
      have hkm : (enc m).length = k := AA.out.hk m
      have sM : Sem.run P (storeCells ⟨wr.heap.size, 0, none⟩ (enc m) 0) (wr.alloc (.cells Z 23)) = .ok () ((wr.alloc (.cells Z 23)).setCells wr.heap.size 0 (enc m)) := stBox AA.out (by
        have := FreeAt.new wr Z 23
        rwa [AA.out.zl] at this) m
      have R0 : Aside (RD k w T best low wr.heap.size m ((wr.alloc (.cells Z 23)).setCells wr.heap.size 0 (enc m))) := RD.start AA.out hM.out m
      have lM := ldBox AA.out R0.out.bm; have lL := ldBox AA.out R0.out.ms.b3
      clear hnx hm hst hM
      go_wp2_with fail
      refine (AA.out.c8 _ _ _).mono ?_
      rintro e wx ⟨rfl, q1, os1, rfl⟩
      have R1 : Aside (RD k w T best low wr.heap.size m (grow (((wr.alloc (.cells Z 23)).setCells wr.heap.size 0 (enc m)).drewN q1) os1)) := R0.out.grown q1 os1
      generalize grow (((wr.alloc (.cells Z 23)).setCells wr.heap.size 0 (enc m)).drewN q1) os1 = W1 at R1 ⊢
      clear R0 lM lL sM lR
      generalize wr.heap.size = M at R1 ⊢
      by_cases cL : cf m low < 0
      · have lM := ldBox AA.out R1.out.bm
        have sL := stBox AA.out (R1.out.ms.b3.free (AA.out.hk _)) m
        have R2 : Aside (RD k w T best m M m (W1.setCells (w.heap.size + 3) 0 (enc m))) := R1.out.set3 AA.out m
        have lM2 := ldBox AA.out R2.out.bm
        have lT2 := ldBox AA.out R2.out.ms.b0
        go_wp2_with fail
        refine (AA.out.c8 _ _ _).mono ?_
        rintro e wx ⟨rfl, q2, os2, rfl⟩
        have R3 : Aside (RD k w T best m M m (grow ((W1.setCells (w.heap.size + 3) 0 (enc m)).drewN q2) os2)) := R2.out.grown q2 os2
        generalize grow ((W1.setCells (w.heap.size + 3) 0 (enc m)).drewN q2) os2 = W3 at R3 ⊢
        clear R1 R2 lM sL lM2 lT2
        by_cases cT : 0 ≤ cf m T
        · cases hv with
          | false =>
            have HX : Hid (mst T l (i + 1) = (m, m, true)) := tri_pp HN.out (⟨by omega, Or.inl rfl⟩) (by omega)
            have lM := ldBox AA.out R3.out.bm
            have sB := stBox AA.out (R3.out.ms.b2.free (AA.out.hk _)) m
            have R4 : Aside (RD k w T m m M m (W3.setCells (w.heap.size + 2) 0 (enc m))) := R3.out.set2 AA.out m
            clear R3
            go_wp2
            go_roundw
            case rel =>
              refine ⟨i + 1, by omega, by go_num, by rw [HX.out], ?_⟩
              show MS k w T (mst T l (i + 1)).1 (mst T l (i + 1)).2.1 _
              rw [HX.out]
              exact R4.out.ms
            case measure => simp [intOf]; omega
          | true =>
            have lM := ldBox AA.out R3.out.bm
            have lB := ldBox AA.out R3.out.ms.b2
            go_wp2_with fail
            refine (AA.out.c8 _ _ _).mono ?_
            rintro e wx ⟨rfl, q4, os4, rfl⟩
            have R4 : Aside (RD k w T best m M m (grow (W3.drewN q4) os4)) := R3.out.grown q4 os4
            generalize grow (W3.drewN q4) os4 = W4 at R4 ⊢
            clear R3 lM lB
            by_cases cB : cf m best < 0
            · have HX : Hid (mst T l (i + 1) = (m, m, true)) := tri_pp HN.out (⟨by omega, Or.inr (by omega)⟩) (by omega)
              have lM := ldBox AA.out R4.out.bm
              have sB := stBox AA.out (R4.out.ms.b2.free (AA.out.hk _)) m
              have R5 : Aside (RD k w T m m M m (W4.setCells (w.heap.size + 2) 0 (enc m))) := R4.out.set2 AA.out m
              clear R4
              go_wp2
              go_roundw
              case rel =>
                refine ⟨i + 1, by omega, by go_num, by rw [HX.out], ?_⟩
                show MS k w T (mst T l (i + 1)).1 (mst T l (i + 1)).2.1 _
                rw [HX.out]
                exact R5.out.ms
              case measure => simp [intOf]; omega
            · have HX : Hid (mst T l (i + 1) = (best, m, true)) := tri_np HN.out (fun h => h.2.elim (fun e => by cases e) (fun e => by omega)) (by omega)
              go_wp2
              go_roundw
              case rel =>
                refine ⟨i + 1, by omega, by go_num, by rw [HX.out], ?_⟩
                show MS k w T (mst T l (i + 1)).1 (mst T l (i + 1)).2.1 _
                rw [HX.out]
                exact R4.out.ms
              case measure => simp [intOf]; omega
        · have HX : Hid (mst T l (i + 1) = (best, m, hv)) := tri_np HN.out (fun h => by have := h.1; omega) (by omega)
          have cT' : cf m T < 0 := by omega
          go_wp2
          go_roundw
          case rel =>
            refine ⟨i + 1, by omega, by go_num, by rw [HX.out], ?_⟩
            show MS k w T (mst T l (i + 1)).1 (mst T l (i + 1)).2.1 _
            rw [HX.out]
            exact R3.out.ms
          case measure => simp [intOf]; omega
      · have lM := ldBox AA.out R1.out.bm
        have lT := ldBox AA.out R1.out.ms.b0
        have cL' : 0 ≤ cf m low := by omega
        go_wp2_with fail
        refine (AA.out.c8 _ _ _).mono ?_
        rintro e wx ⟨rfl, q2, os2, rfl⟩
        have R3 : Aside (RD k w T best low M m (grow (W1.drewN q2) os2)) := R1.out.grown q2 os2
        generalize grow (W1.drewN q2) os2 = W3 at R3 ⊢
        clear R1 lM lT
        by_cases cT : 0 ≤ cf m T
        · cases hv with
          | false =>
            have HX : Hid (mst T l (i + 1) = (m, low, true)) := tri_pn HN.out (⟨by omega, Or.inl rfl⟩) (by omega)
            have lM := ldBox AA.out R3.out.bm
            have sB := stBox AA.out (R3.out.ms.b2.free (AA.out.hk _)) m
            have R4 : Aside (RD k w T m low M m (W3.setCells (w.heap.size + 2) 0 (enc m))) := R3.out.set2 AA.out m
            clear R3
            go_wp2
            go_roundw
            case rel =>
              refine ⟨i + 1, by omega, by go_num, by rw [HX.out], ?_⟩
              show MS k w T (mst T l (i + 1)).1 (mst T l (i + 1)).2.1 _
              rw [HX.out]
              exact R4.out.ms
            case measure => simp [intOf]; omega
          | true =>
            have lM := ldBox AA.out R3.out.bm
            have lB := ldBox AA.out R3.out.ms.b2
            go_wp2_with fail
            refine (AA.out.c8 _ _ _).mono ?_
            rintro e wx ⟨rfl, q4, os4, rfl⟩
            have R4 : Aside (RD k w T best low M m (grow (W3.drewN q4) os4)) := R3.out.grown q4 os4
            generalize grow (W3.drewN q4) os4 = W4 at R4 ⊢
            clear R3 lM lB
            by_cases cB : cf m best < 0
            · have HX : Hid (mst T l (i + 1) = (m, low, true)) := tri_pn HN.out (⟨by omega, Or.inr (by omega)⟩) (by omega)
              have lM := ldBox AA.out R4.out.bm
              have sB := stBox AA.out (R4.out.ms.b2.free (AA.out.hk _)) m
              have R5 : Aside (RD k w T m low M m (W4.setCells (w.heap.size + 2) 0 (enc m))) := R4.out.set2 AA.out m
              clear R4
              go_wp2
              go_roundw
              case rel =>
                refine ⟨i + 1, by omega, by go_num, by rw [HX.out], ?_⟩
                show MS k w T (mst T l (i + 1)).1 (mst T l (i + 1)).2.1 _
                rw [HX.out]
                exact R5.out.ms
              case measure => simp [intOf]; omega
            · have HX : Hid (mst T l (i + 1) = (best, low, true)) := tri_nn HN.out (fun h => h.2.elim (fun e => by cases e) (fun e => by omega)) (by omega)
              go_wp2
              go_roundw
              case rel =>
                refine ⟨i + 1, by omega, by go_num, by rw [HX.out], ?_⟩
                show MS k w T (mst T l (i + 1)).1 (mst T l (i + 1)).2.1 _
                rw [HX.out]
                exact R4.out.ms
              case measure => simp [intOf]; omega
        · have HX : Hid (mst T l (i + 1) = (best, low, hv)) := tri_nn HN.out (fun h => by have := h.1; omega) (by omega)
          have cT' : cf m T < 0 := by omega
          go_wp2
          go_roundw
          case rel =>
            refine ⟨i + 1, by omega, by go_num, by rw [HX.out], ?_⟩
            show MS k w T (mst T l (i + 1)).1 (mst T l (i + 1)).2.1 _
            rw [HX.out]
            exact R3.out.ms
          case measure => simp [intOf]; omega
    · obtain rfl : i = n := by omega
      have hres : mres T l = if (mst T l i).2.2 = true then (mst T l i).1 else (mst T l i).2.1 := by unfold mres; rw [hln]
      generalize mst T l i = st at hM hres ⊢
      obtain ⟨best, low, hv⟩ := st
      simp only at hM hres ⊢
      have HR : Hid (mres T l = if hv = true then best else low) := hres
      clear hres
      cases hv with
      | true =>
        have lB := ldBox AA.out hM.out.b2
        have sR := stBox AA.out hM.out.b1 best
        have lX := ldBox AA.out (boxed_set AA.out hM.out.b1 best)
        have hkb : (enc best).length = k := AA.out.hk best
        have hG : Gw w (wr.setCells (w.heap.size + 1) 0 (enc best)) := hM.out.gw.set (by omega) 0 _
        have HG : Aside (Gw w (wr.setCells (w.heap.size + 1) 0 (enc best))) := hG
        clear hG
        go_wp2
        refine bodyPost_ret (v := .agg (enc best).toArray) ?_ rfl ⟨by rw [HR.out]; simp, HG.out⟩
        simp [results, Yba.results10, go_sem, lX, a23, z23]
      | false =>
        have lB := ldBox AA.out hM.out.b3
        have sR := stBox AA.out hM.out.b1 low
        have lX := ldBox AA.out (boxed_set AA.out hM.out.b1 low)
        have hkb : (enc low).length = k := AA.out.hk low
        have hG : Gw w (wr.setCells (w.heap.size + 1) 0 (enc low)) := hM.out.gw.set (by omega) 0 _
        have HG : Aside (Gw w (wr.setCells (w.heap.size + 1) 0 (enc low))) := hG
        clear hG
        go_wp2
        refine bodyPost_ret (v := .agg (enc low).toArray) ?_ rfl ⟨by rw [HR.out]; simp, HG.out⟩
        simp [results, Yba.results10, go_sem, lX, a23, z23]
end Go.Proofs.Ybulkbxza
