/-
  The walk of latLngOf (14).
-/
import Derived.Test.YbulkbyeyDoorWc
import Derived.Below
namespace Go.Proofs.YbulkbyeyDoor
open Go.RowKit Ieee
set_option linter.unusedVariables false

theorem eq_zero {s : Bool} {p : Nat} (hp : p < II) : (double.order (wd s p) 0 == some .eq) = decide (p = 0) := by
  have h := order_z (s := s) (b := p) (by omega)
  cases e : (double.order (wd s p) 0 == some Ordering.eq)
  · have : (double.order (wd s p) 0 != some Ordering.eq) = true := by simp [bne, e]
    rw [this] at h
    have h2 := of_decide_eq_true h.symm
    rw [decide_eq_false h2]
  · have : (double.order (wd s p) 0 != some Ordering.eq) = false := by simp [bne, e]
    rw [this] at h
    have h2 := of_decide_eq_false h.symm
    rw [decide_eq_true (by omega)]

theorem sv_inj {s t : Bool} {p q : Nat} (h : sv s p = sv t q) (h0 : q ≠ 0) : s = t ∧ p = q := by
  have hq := uvpos h0
  have e : ∀ {a b : Nat}, uv a = uv b → a = b := fun h => Nat.le_antisymm (leuv (by omega)) (leuv (by omega))
  cases s <;> cases t <;> simp only [sv_f, sv_t] at h
  · exact ⟨rfl, e (by omega)⟩
  · omega
  · omega
  · exact ⟨rfl, e (by omega)⟩

theorem eq_wd {s t : Bool} {p q : Nat} (hp : p < II) (hq : q < II) (h0 : q ≠ 0) : (double.order (wd s p) (wd t q) == some .eq) = decide (s = t ∧ p = q) := by
  rw [order_wd hp hq]
  by_cases c : s = t ∧ p = q
  · obtain ⟨rfl, rfl⟩ := c
    rw [Int.compare_eq_eq.2 rfl, decide_eq_true ⟨rfl, rfl⟩]; rfl
  · rw [decide_eq_false c]
    have : compare (sv s p) (sv t q) ≠ .eq := fun h => c (sv_inj (Int.compare_eq_eq.1 h) h0)
    cases e : compare (sv s p) (sv t q) <;> simp_all

theorem add_pos {p q : Nat} (hp : p ≤ II) (hq : q ≤ II) : ∃ g, g ≤ II ∧ double.add (wd false p) (wd false q) = some (wd false g) ∧ (p = 0 → q = 0 → g = 0) := by
  have i0 : II ≠ 0 := by decide
  by_cases c : p = II
  · subst c
    refine ⟨II, Nat.le_refl _, ?_, fun h => absurd h i0⟩
    unfold Format.add
    by_cases d : q = II
    · subst d; rw [read_inf]; rfl
    · obtain ⟨m, e, h1, _, _⟩ := read_wd false q (by omega)
      rw [h1, read_inf]; rfl
  · by_cases d : q = II
    · subst d
      refine ⟨II, Nat.le_refl _, ?_, fun _ h => absurd h i0⟩
      unfold Format.add
      obtain ⟨m, e, h1, _, _⟩ := read_wd false p (by omega)
      rw [h1, read_inf]; rfl
    · obtain ⟨g, hg, h1, h2, _⟩ := add_wd (s := false) (t := false) (r := p) (q := q) (by omega) (by omega) _ rfl
      rw [sv_f, sv_f] at h1 h2
      rw [signIf _ (by omega)] at h1
      refine ⟨g, hg, h1, fun a b => ?_⟩
      subst a b
      exact Nat.le_zero.1 (h2 0 (by decide) (by rw [uv0]; decide))

/-- The square root of x x + y y. -/
structure Hyp (sx sy : Bool) (rx ry pq : Nat) (xx yy ss : Nat) : Prop where
  le : pq ≤ II
  m1 : double.mul (wd sx rx) (wd sx rx) = some xx
  m2 : double.mul (wd sy ry) (wd sy ry) = some yy
  a1 : double.add xx yy = some ss
  q1 : double.sqrt ss = some (wd false pq)
  z : rx = 0 → ry = 0 → pq = 0
theorem hyp_ok {sx sy : Bool} {rx ry : Nat} (hx : rx < II) (hy : ry < II) : ∃ pq xx yy ss, Hyp sx sy rx ry pq xx yy ss := by
  obtain ⟨p, hp, h1, h2, _⟩ := mul_wd (s := sx) (t := sx) hx hx
  obtain ⟨q, hq, g1, g2, _⟩ := mul_wd (s := sy) (t := sy) hy hy
  rw [Bool.xor_self] at h1 g1
  obtain ⟨g, hg, a1, a2⟩ := add_pos hp hq
  obtain ⟨r, hr, s1, s2⟩ := sqrt_wd hg
  exact ⟨r, _, _, _, hr, h1, g1, a1, s1, fun x0 y0 => s2 (a2 (Nat.le_zero.1 (h2 0 (by decide) (by rw [x0, uv0, Nat.zero_mul]; exact Nat.zero_le _))) (Nat.le_zero.1 (g2 0 (by decide) (by rw [y0, uv0, Nat.zero_mul]; exact Nat.zero_le _))))⟩

theorem Tab.below {w w' : World} {n : Nat} (h : Tab w) (hb : Below n w w') (hn : 2 < n) : Tab w' :=
  ⟨fun i hi => by rw [← h.poly i hi]; exact World.cell?_of_block (hb.block 1 (by omega)), fun i hi => by rw [← h.eig i hi]; exact World.cell?_of_block (hb.block 2 hn)⟩

theorem st_float (a : Addr) (b : Nat) (m : Mode) (w : World) : (store a (.float .f64 b) m).run Ybad.prog w = stored Ybad.prog w a (.float .f64 b) m := run_store Ybad.prog w a _ m rfl
attribute [local go_sem] st_float

/-- What latLngOf hands back. -/
def latF (sz : Bool) (pl : Nat) : Nat := if pl = 0 then 0 else wd sz pl
def lngF (rx ry : Nat) (sy : Bool) (pn : Nat) : Nat := if rx = 0 ∧ ry = 0 then 0 else if sy = true ∧ pn = C180 then C180 else if pn = 0 then 0 else wd sy pn

set_option maxHeartbeats 8000000 in
set_option maxRecDepth 100000 in
theorem lat_walk {sx sy sz : Bool} {rx ry rz pq xx yy ss pl near far t a a1 n2 f2 t2 b b1 pn : Nat} (hx : rx < II) (hy : ry < II) (hz : rz < II) (Y : Hyp sx sy rx ry pq xx yy ss) (hpl : pl ≤ C90) (hpn : pn ≤ C180)
    (A : A2Run rz pq false near far t a a1 (wd false pl)) (L : A2Run ry rx sx n2 f2 t2 b b1 (wd false pn)) (w : World) (T : Tab w) (hw : 2 < w.heap.size) :
    Calls Ybad.prog 14 #[.float .f64 (wd sx rx), .float .f64 (wd sy ry), .float .f64 (wd sz rz)] w fun e w' => e = .returned (.agg #[.float .f64 (latF sz pl), .float .f64 (lngF rx ry sy pn)]) ∧ Below w.heap.size w w' := by
  have J1 : C90 < SS := by decide
  have J2 : C180 < SS := by decide
  have J3 : C180 < II := by decide
  have J4 : C90 < II := by decide
  have r1 := f_mul Y.m1
  have r2 := f_mul Y.m2
  have r3 := f_add Y.a1
  have z1 : (FloatKind.f64.format.order 0 13863909240395005952 == some .eq) = false := by decide
  have z2 : (FloatKind.f64.format.order 0 0 == some .eq) = true := by decide
  have YY : Aside (Hyp sx sy rx ry pq xx yy ss) := Y
  have AA : Aside (A2Run rz pq false near far t a a1 (wd false pl)) := A
  have LL : Aside (A2Run ry rx sx n2 f2 t2 b b1 (wd false pn)) := L
  have TT : Aside (Tab w) := T
  have o1 : (FloatKind.f64.format.order (wd sx rx) 0 != some .eq) = decide (rx ≠ 0) := order_z (s := sx) (b := rx) (by omega)
  have q1 : (FloatKind.f64.format.order (wd sy ry) 0 != some .eq) = decide (ry ≠ 0) := order_z (s := sy) (b := ry) (by omega)
  have o2 : (FloatKind.f64.format.order (wd sy pn) 13863909240395005952 == some .eq) = decide (sy = true ∧ pn = C180) := eq_wd (s := sy) (t := true) (p := pn) (q := C180) (by omega) J3 (by decide)
  have o3 : (FloatKind.f64.format.order (wd sy pn) 0 == some .eq) = decide (pn = 0) := eq_zero (s := sy) (p := pn) (by omega)
  have o4 : (FloatKind.f64.format.order (wd sz pl) 0 == some .eq) = decide (pl = 0) := eq_zero (s := sz) (p := pl) (by omega)
  clear Y A L T
  obtain ⟨lat, hlat⟩ : ∃ v, v = latF sz pl := ⟨_, rfl⟩
  obtain ⟨lng, hlng⟩ : ∃ v, v = lngF rx ry sy pn := ⟨_, rfl⟩
  rw [← hlat, ← hlng]
  unfold latF at hlat
  unfold lngF at hlng
  by_cases c1 : rx = 0
  · rw [decide_eq_false (by simp [c1])] at o1
    by_cases c5 : ry = 0
    · rw [decide_eq_false (by simp [c5])] at q1
      rw [if_pos ⟨c1, c5⟩] at hlng
      have HLN : Aside (lng = 0) := hlng
      clear c1 c5 hlng o2 o3
      by_cases c4 : pl = 0
      · rw [decide_eq_true c4] at o4
        rw [if_pos c4] at hlat
        have HLA : Aside (lat = 0) := hlat
        clear c4 hlat
        go_enter Ybad.func14, Ybad.ntmps14
        go_wp2_with (first | (go_at_call 8; refine (sqrt_walk _ _ YY.out.q1 _).mono ?_; rintro e w' ⟨rfl, rfl⟩))
        refine (atan2_walk (sy := sz) (sx := false) hz YY.out.le (by omega) AA.out _ (TT.out.below ((Below.refl _ _).alloc (Nat.le_refl _) _) hw)).mono ?_
        rintro e w1 ⟨rfl, rfl⟩
        go_wp2_with fail
        refine bodyPost_ret (v := .agg #[.float .f64 0, .float .f64 0]) ?_ rfl ⟨by rw [HLA.out, HLN.out], ((Below.refl _ _).alloc (Nat.le_refl _) _).alloc (by simp) _⟩
        simp [results, Ybad.results14, go_sem]
      · rw [decide_eq_false c4] at o4
        rw [if_neg c4] at hlat
        have HLA : Aside (lat = wd sz pl) := hlat
        clear c4 hlat
        go_enter Ybad.func14, Ybad.ntmps14
        go_wp2_with (first | (go_at_call 8; refine (sqrt_walk _ _ YY.out.q1 _).mono ?_; rintro e w' ⟨rfl, rfl⟩))
        refine (atan2_walk (sy := sz) (sx := false) hz YY.out.le (by omega) AA.out _ (TT.out.below ((Below.refl _ _).alloc (Nat.le_refl _) _) hw)).mono ?_
        rintro e w1 ⟨rfl, rfl⟩
        go_wp2_with fail
        refine bodyPost_ret (v := .agg #[.float .f64 (wd sz pl), .float .f64 0]) ?_ rfl ⟨by rw [HLA.out, HLN.out], ((Below.refl _ _).alloc (Nat.le_refl _) _).alloc (by simp) _⟩
        simp [results, Ybad.results14, go_sem]
    · rw [decide_eq_true c5] at q1
      rw [if_neg (fun h => c5 h.2)] at hlng
      clear c1 c5
      by_cases c2 : sy = true ∧ pn = C180
      · rw [decide_eq_true c2] at o2
        rw [if_pos c2] at hlng
        have HLN : Aside (lng = 4640537203540230144) := hlng
        clear c2 hlng o3
        by_cases c4 : pl = 0
        · rw [decide_eq_true c4] at o4
          rw [if_pos c4] at hlat
          have HLA : Aside (lat = 0) := hlat
          clear c4 hlat
          go_enter Ybad.func14, Ybad.ntmps14
          go_wp2_with (first | (go_at_call 8; refine (sqrt_walk _ _ YY.out.q1 _).mono ?_; rintro e w' ⟨rfl, rfl⟩))
          refine (atan2_walk (sy := sz) (sx := false) hz YY.out.le (by omega) AA.out _ (TT.out.below ((Below.refl _ _).alloc (Nat.le_refl _) _) hw)).mono ?_
          rintro e w1 ⟨rfl, rfl⟩
          go_wp2_with fail
          refine (atan2_walk (sy := sy) (sx := sx) hy (Nat.le_of_lt hx) (by omega) LL.out _ (TT.out.below (((Below.refl _ _).alloc (Nat.le_refl _) _).alloc (by simp) _) hw)).mono ?_
          rintro e w1 ⟨rfl, rfl⟩
          go_wp2_with fail
          refine bodyPost_ret (v := .agg #[.float .f64 0, .float .f64 4640537203540230144]) ?_ rfl ⟨by rw [HLA.out, HLN.out], ((Below.refl _ _).alloc (Nat.le_refl _) _).alloc (by simp) _⟩
          simp [results, Ybad.results14, go_sem]
        · rw [decide_eq_false c4] at o4
          rw [if_neg c4] at hlat
          have HLA : Aside (lat = wd sz pl) := hlat
          clear c4 hlat
          go_enter Ybad.func14, Ybad.ntmps14
          go_wp2_with (first | (go_at_call 8; refine (sqrt_walk _ _ YY.out.q1 _).mono ?_; rintro e w' ⟨rfl, rfl⟩))
          refine (atan2_walk (sy := sz) (sx := false) hz YY.out.le (by omega) AA.out _ (TT.out.below ((Below.refl _ _).alloc (Nat.le_refl _) _) hw)).mono ?_
          rintro e w1 ⟨rfl, rfl⟩
          go_wp2_with fail
          refine (atan2_walk (sy := sy) (sx := sx) hy (Nat.le_of_lt hx) (by omega) LL.out _ (TT.out.below (((Below.refl _ _).alloc (Nat.le_refl _) _).alloc (by simp) _) hw)).mono ?_
          rintro e w1 ⟨rfl, rfl⟩
          go_wp2_with fail
          refine bodyPost_ret (v := .agg #[.float .f64 (wd sz pl), .float .f64 4640537203540230144]) ?_ rfl ⟨by rw [HLA.out, HLN.out], ((Below.refl _ _).alloc (Nat.le_refl _) _).alloc (by simp) _⟩
          simp [results, Ybad.results14, go_sem]
      · rw [decide_eq_false c2] at o2
        rw [if_neg c2] at hlng
        by_cases c3 : pn = 0
        · rw [decide_eq_true c3] at o3
          rw [if_pos c3] at hlng
          have HLN : Aside (lng = 0) := hlng
          clear c2 c3 hlng
          by_cases c4 : pl = 0
          · rw [decide_eq_true c4] at o4
            rw [if_pos c4] at hlat
            have HLA : Aside (lat = 0) := hlat
            clear c4 hlat
            go_enter Ybad.func14, Ybad.ntmps14
            go_wp2_with (first | (go_at_call 8; refine (sqrt_walk _ _ YY.out.q1 _).mono ?_; rintro e w' ⟨rfl, rfl⟩))
            refine (atan2_walk (sy := sz) (sx := false) hz YY.out.le (by omega) AA.out _ (TT.out.below ((Below.refl _ _).alloc (Nat.le_refl _) _) hw)).mono ?_
            rintro e w1 ⟨rfl, rfl⟩
            go_wp2_with fail
            refine (atan2_walk (sy := sy) (sx := sx) hy (Nat.le_of_lt hx) (by omega) LL.out _ (TT.out.below (((Below.refl _ _).alloc (Nat.le_refl _) _).alloc (by simp) _) hw)).mono ?_
            rintro e w1 ⟨rfl, rfl⟩
            go_wp2_with fail
            refine bodyPost_ret (v := .agg #[.float .f64 0, .float .f64 0]) ?_ rfl ⟨by rw [HLA.out, HLN.out], ((Below.refl _ _).alloc (Nat.le_refl _) _).alloc (by simp) _⟩
            simp [results, Ybad.results14, go_sem]
          · rw [decide_eq_false c4] at o4
            rw [if_neg c4] at hlat
            have HLA : Aside (lat = wd sz pl) := hlat
            clear c4 hlat
            go_enter Ybad.func14, Ybad.ntmps14
            go_wp2_with (first | (go_at_call 8; refine (sqrt_walk _ _ YY.out.q1 _).mono ?_; rintro e w' ⟨rfl, rfl⟩))
            refine (atan2_walk (sy := sz) (sx := false) hz YY.out.le (by omega) AA.out _ (TT.out.below ((Below.refl _ _).alloc (Nat.le_refl _) _) hw)).mono ?_
            rintro e w1 ⟨rfl, rfl⟩
            go_wp2_with fail
            refine (atan2_walk (sy := sy) (sx := sx) hy (Nat.le_of_lt hx) (by omega) LL.out _ (TT.out.below (((Below.refl _ _).alloc (Nat.le_refl _) _).alloc (by simp) _) hw)).mono ?_
            rintro e w1 ⟨rfl, rfl⟩
            go_wp2_with fail
            refine bodyPost_ret (v := .agg #[.float .f64 (wd sz pl), .float .f64 0]) ?_ rfl ⟨by rw [HLA.out, HLN.out], ((Below.refl _ _).alloc (Nat.le_refl _) _).alloc (by simp) _⟩
            simp [results, Ybad.results14, go_sem]
        · rw [decide_eq_false c3] at o3
          rw [if_neg c3] at hlng
          have HLN : Aside (lng = wd sy pn) := hlng
          clear c2 c3 hlng
          by_cases c4 : pl = 0
          · rw [decide_eq_true c4] at o4
            rw [if_pos c4] at hlat
            have HLA : Aside (lat = 0) := hlat
            clear c4 hlat
            go_enter Ybad.func14, Ybad.ntmps14
            go_wp2_with (first | (go_at_call 8; refine (sqrt_walk _ _ YY.out.q1 _).mono ?_; rintro e w' ⟨rfl, rfl⟩))
            refine (atan2_walk (sy := sz) (sx := false) hz YY.out.le (by omega) AA.out _ (TT.out.below ((Below.refl _ _).alloc (Nat.le_refl _) _) hw)).mono ?_
            rintro e w1 ⟨rfl, rfl⟩
            go_wp2_with fail
            refine (atan2_walk (sy := sy) (sx := sx) hy (Nat.le_of_lt hx) (by omega) LL.out _ (TT.out.below (((Below.refl _ _).alloc (Nat.le_refl _) _).alloc (by simp) _) hw)).mono ?_
            rintro e w1 ⟨rfl, rfl⟩
            go_wp2_with fail
            refine bodyPost_ret (v := .agg #[.float .f64 0, .float .f64 (wd sy pn)]) ?_ rfl ⟨by rw [HLA.out, HLN.out], ((Below.refl _ _).alloc (Nat.le_refl _) _).alloc (by simp) _⟩
            simp [results, Ybad.results14, go_sem]
          · rw [decide_eq_false c4] at o4
            rw [if_neg c4] at hlat
            have HLA : Aside (lat = wd sz pl) := hlat
            clear c4 hlat
            go_enter Ybad.func14, Ybad.ntmps14
            go_wp2_with (first | (go_at_call 8; refine (sqrt_walk _ _ YY.out.q1 _).mono ?_; rintro e w' ⟨rfl, rfl⟩))
            refine (atan2_walk (sy := sz) (sx := false) hz YY.out.le (by omega) AA.out _ (TT.out.below ((Below.refl _ _).alloc (Nat.le_refl _) _) hw)).mono ?_
            rintro e w1 ⟨rfl, rfl⟩
            go_wp2_with fail
            refine (atan2_walk (sy := sy) (sx := sx) hy (Nat.le_of_lt hx) (by omega) LL.out _ (TT.out.below (((Below.refl _ _).alloc (Nat.le_refl _) _).alloc (by simp) _) hw)).mono ?_
            rintro e w1 ⟨rfl, rfl⟩
            go_wp2_with fail
            refine bodyPost_ret (v := .agg #[.float .f64 (wd sz pl), .float .f64 (wd sy pn)]) ?_ rfl ⟨by rw [HLA.out, HLN.out], ((Below.refl _ _).alloc (Nat.le_refl _) _).alloc (by simp) _⟩
            simp [results, Ybad.results14, go_sem]
  · rw [decide_eq_true c1] at o1
    rw [if_neg (fun h => c1 h.1)] at hlng
    clear c1 q1
    by_cases c2 : sy = true ∧ pn = C180
    · rw [decide_eq_true c2] at o2
      rw [if_pos c2] at hlng
      have HLN : Aside (lng = 4640537203540230144) := hlng
      clear c2 hlng o3
      by_cases c4 : pl = 0
      · rw [decide_eq_true c4] at o4
        rw [if_pos c4] at hlat
        have HLA : Aside (lat = 0) := hlat
        clear c4 hlat
        go_enter Ybad.func14, Ybad.ntmps14
        go_wp2_with (first | (go_at_call 8; refine (sqrt_walk _ _ YY.out.q1 _).mono ?_; rintro e w' ⟨rfl, rfl⟩))
        refine (atan2_walk (sy := sz) (sx := false) hz YY.out.le (by omega) AA.out _ (TT.out.below ((Below.refl _ _).alloc (Nat.le_refl _) _) hw)).mono ?_
        rintro e w1 ⟨rfl, rfl⟩
        go_wp2_with fail
        refine (atan2_walk (sy := sy) (sx := sx) hy (Nat.le_of_lt hx) (by omega) LL.out _ (TT.out.below (((Below.refl _ _).alloc (Nat.le_refl _) _).alloc (by simp) _) hw)).mono ?_
        rintro e w1 ⟨rfl, rfl⟩
        go_wp2_with fail
        refine bodyPost_ret (v := .agg #[.float .f64 0, .float .f64 4640537203540230144]) ?_ rfl ⟨by rw [HLA.out, HLN.out], ((Below.refl _ _).alloc (Nat.le_refl _) _).alloc (by simp) _⟩
        simp [results, Ybad.results14, go_sem]
      · rw [decide_eq_false c4] at o4
        rw [if_neg c4] at hlat
        have HLA : Aside (lat = wd sz pl) := hlat
        clear c4 hlat
        go_enter Ybad.func14, Ybad.ntmps14
        go_wp2_with (first | (go_at_call 8; refine (sqrt_walk _ _ YY.out.q1 _).mono ?_; rintro e w' ⟨rfl, rfl⟩))
        refine (atan2_walk (sy := sz) (sx := false) hz YY.out.le (by omega) AA.out _ (TT.out.below ((Below.refl _ _).alloc (Nat.le_refl _) _) hw)).mono ?_
        rintro e w1 ⟨rfl, rfl⟩
        go_wp2_with fail
        refine (atan2_walk (sy := sy) (sx := sx) hy (Nat.le_of_lt hx) (by omega) LL.out _ (TT.out.below (((Below.refl _ _).alloc (Nat.le_refl _) _).alloc (by simp) _) hw)).mono ?_
        rintro e w1 ⟨rfl, rfl⟩
        go_wp2_with fail
        refine bodyPost_ret (v := .agg #[.float .f64 (wd sz pl), .float .f64 4640537203540230144]) ?_ rfl ⟨by rw [HLA.out, HLN.out], ((Below.refl _ _).alloc (Nat.le_refl _) _).alloc (by simp) _⟩
        simp [results, Ybad.results14, go_sem]
    · rw [decide_eq_false c2] at o2
      rw [if_neg c2] at hlng
      by_cases c3 : pn = 0
      · rw [decide_eq_true c3] at o3
        rw [if_pos c3] at hlng
        have HLN : Aside (lng = 0) := hlng
        clear c2 c3 hlng
        by_cases c4 : pl = 0
        · rw [decide_eq_true c4] at o4
          rw [if_pos c4] at hlat
          have HLA : Aside (lat = 0) := hlat
          clear c4 hlat
          go_enter Ybad.func14, Ybad.ntmps14
          go_wp2_with (first | (go_at_call 8; refine (sqrt_walk _ _ YY.out.q1 _).mono ?_; rintro e w' ⟨rfl, rfl⟩))
          refine (atan2_walk (sy := sz) (sx := false) hz YY.out.le (by omega) AA.out _ (TT.out.below ((Below.refl _ _).alloc (Nat.le_refl _) _) hw)).mono ?_
          rintro e w1 ⟨rfl, rfl⟩
          go_wp2_with fail
          refine (atan2_walk (sy := sy) (sx := sx) hy (Nat.le_of_lt hx) (by omega) LL.out _ (TT.out.below (((Below.refl _ _).alloc (Nat.le_refl _) _).alloc (by simp) _) hw)).mono ?_
          rintro e w1 ⟨rfl, rfl⟩
          go_wp2_with fail
          refine bodyPost_ret (v := .agg #[.float .f64 0, .float .f64 0]) ?_ rfl ⟨by rw [HLA.out, HLN.out], ((Below.refl _ _).alloc (Nat.le_refl _) _).alloc (by simp) _⟩
          simp [results, Ybad.results14, go_sem]
        · rw [decide_eq_false c4] at o4
          rw [if_neg c4] at hlat
          have HLA : Aside (lat = wd sz pl) := hlat
          clear c4 hlat
          go_enter Ybad.func14, Ybad.ntmps14
          go_wp2_with (first | (go_at_call 8; refine (sqrt_walk _ _ YY.out.q1 _).mono ?_; rintro e w' ⟨rfl, rfl⟩))
          refine (atan2_walk (sy := sz) (sx := false) hz YY.out.le (by omega) AA.out _ (TT.out.below ((Below.refl _ _).alloc (Nat.le_refl _) _) hw)).mono ?_
          rintro e w1 ⟨rfl, rfl⟩
          go_wp2_with fail
          refine (atan2_walk (sy := sy) (sx := sx) hy (Nat.le_of_lt hx) (by omega) LL.out _ (TT.out.below (((Below.refl _ _).alloc (Nat.le_refl _) _).alloc (by simp) _) hw)).mono ?_
          rintro e w1 ⟨rfl, rfl⟩
          go_wp2_with fail
          refine bodyPost_ret (v := .agg #[.float .f64 (wd sz pl), .float .f64 0]) ?_ rfl ⟨by rw [HLA.out, HLN.out], ((Below.refl _ _).alloc (Nat.le_refl _) _).alloc (by simp) _⟩
          simp [results, Ybad.results14, go_sem]
      · rw [decide_eq_false c3] at o3
        rw [if_neg c3] at hlng
        have HLN : Aside (lng = wd sy pn) := hlng
        clear c2 c3 hlng
        by_cases c4 : pl = 0
        · rw [decide_eq_true c4] at o4
          rw [if_pos c4] at hlat
          have HLA : Aside (lat = 0) := hlat
          clear c4 hlat
          go_enter Ybad.func14, Ybad.ntmps14
          go_wp2_with (first | (go_at_call 8; refine (sqrt_walk _ _ YY.out.q1 _).mono ?_; rintro e w' ⟨rfl, rfl⟩))
          refine (atan2_walk (sy := sz) (sx := false) hz YY.out.le (by omega) AA.out _ (TT.out.below ((Below.refl _ _).alloc (Nat.le_refl _) _) hw)).mono ?_
          rintro e w1 ⟨rfl, rfl⟩
          go_wp2_with fail
          refine (atan2_walk (sy := sy) (sx := sx) hy (Nat.le_of_lt hx) (by omega) LL.out _ (TT.out.below (((Below.refl _ _).alloc (Nat.le_refl _) _).alloc (by simp) _) hw)).mono ?_
          rintro e w1 ⟨rfl, rfl⟩
          go_wp2_with fail
          refine bodyPost_ret (v := .agg #[.float .f64 0, .float .f64 (wd sy pn)]) ?_ rfl ⟨by rw [HLA.out, HLN.out], ((Below.refl _ _).alloc (Nat.le_refl _) _).alloc (by simp) _⟩
          simp [results, Ybad.results14, go_sem]
        · rw [decide_eq_false c4] at o4
          rw [if_neg c4] at hlat
          have HLA : Aside (lat = wd sz pl) := hlat
          clear c4 hlat
          go_enter Ybad.func14, Ybad.ntmps14
          go_wp2_with (first | (go_at_call 8; refine (sqrt_walk _ _ YY.out.q1 _).mono ?_; rintro e w' ⟨rfl, rfl⟩))
          refine (atan2_walk (sy := sz) (sx := false) hz YY.out.le (by omega) AA.out _ (TT.out.below ((Below.refl _ _).alloc (Nat.le_refl _) _) hw)).mono ?_
          rintro e w1 ⟨rfl, rfl⟩
          go_wp2_with fail
          refine (atan2_walk (sy := sy) (sx := sx) hy (Nat.le_of_lt hx) (by omega) LL.out _ (TT.out.below (((Below.refl _ _).alloc (Nat.le_refl _) _).alloc (by simp) _) hw)).mono ?_
          rintro e w1 ⟨rfl, rfl⟩
          go_wp2_with fail
          refine bodyPost_ret (v := .agg #[.float .f64 (wd sz pl), .float .f64 (wd sy pn)]) ?_ rfl ⟨by rw [HLA.out, HLN.out], ((Below.refl _ _).alloc (Nat.le_refl _) _).alloc (by simp) _⟩
          simp [results, Ybad.results14, go_sem]
end Go.Proofs.YbulkbyeyDoor
