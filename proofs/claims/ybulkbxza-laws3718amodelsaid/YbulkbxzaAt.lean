/-
  What the walks over IDs ask of the program: the facts of its types, the ID's size a letter (so that the walk does not lay twenty cells open). slices.BinarySearchFunc (function 15) and (*ring).successor (9).
-/
import Derived.Test.YbulkbxzaCmp2
import Derived.Deep.LoopGhost
import Derived.Shelf.SlCmpFuncs.BinarySearchFunc
namespace Go.Proofs.Ybulkbxza
open Go.RowKit Go.Sort Go.Lib Go.Shelf
set_option linter.unusedVariables false

structure At (P : Program) (k : Nat) (Z : Array Value) : Prop where
  mixed : P.follows .mixedOrders = true
  funcs : P.funcs = Yba.prog.funcs
  t3 : P.underlying 3 = some (.int .i64)
  a3 : ∀ w, (isAgg 3).run P w = .ok false w
  z3 : ∀ w, (Go.sizeOf 3).run P w = .ok 1 w
  v3 : ∀ w, (zeroValue 3).run P w = .ok (.int .i64 0) w
  t4 : P.underlying 4 = some .bool
  a4 : ∀ w, (isAgg 4).run P w = .ok false w
  z4 : ∀ w, (Go.sizeOf 4).run P w = .ok 1 w
  v4 : ∀ w, (zeroValue 4).run P w = .ok (.bool false) w
  a23 : ∀ w, (isAgg 23).run P w = .ok true w
  z23 : ∀ w, (Go.sizeOf 23).run P w = .ok k w
  v23 : ∀ w, (zeroValue 23).run P w = .ok (.agg Z) w
  q23 : ∀ (x y : ID) w, (Op.equalIn 10000 23 (.agg (enc x).toArray) (.agg (enc y).toArray)).run P w = .ok (decide (x = y)) w
  zl : Z.size = k
  t24 : P.underlying 24 = some (.slice 23)
  a24 : ∀ w, (isAgg 24).run P w = .ok false w
  z24 : ∀ w, (Go.sizeOf 24).run P w = .ok 1 w
  v24 : ∀ w, (zeroValue 24).run P w = .ok (.slice none 0 0) w
  t28 : P.underlying 28 = some (.func #[23, 23] #[3] false)
  a28 : ∀ w, (isAgg 28).run P w = .ok false w
  z28 : ∀ w, (Go.sizeOf 28).run P w = .ok 1 w
  t29 : P.underlying 29 = some (.pointer 49)
  a29 : ∀ w, (isAgg 29).run P w = .ok false w
  z29 : ∀ w, (Go.sizeOf 29).run P w = .ok 1 w
  t49 : P.underlying 49 = Yba.prog.underlying 49
  a49 : ∀ w, (isAgg 49).run P w = .ok true w
  z49 : ∀ w, (Go.sizeOf 49).run P w = .ok 21 w
  v49 : ∀ w, (zeroValue 49).run P w = (zeroValue 49).run Yba.prog w
  t58 : P.underlying 58 = some (.int .u64)
  a58 : ∀ w, (isAgg 58).run P w = .ok false w
  z58 : ∀ w, (Go.sizeOf 58).run P w = .ok 1 w
  t54 : P.underlying 54 = some (.int .u16)
  zf : ∀ t w, t ≠ 23 → (Go.sizeOf t).run P w = (Go.sizeOf t).run Yba.prog w
  ge23 : ∀ x y A B w, (eqGuard .eql 23 x y (.agg A) (.agg B)).run P w = .ok () w
  gn23 : ∀ x y A B w, (eqGuard .neq 23 x y (.agg A) (.agg B)).run P w = .ok () w
  k0 : 0 < k
  hk : ∀ x, (enc x).length = k
  c8 : ∀ (x y : ID) (W : World), Calls P 8 #[.agg (enc x).toArray, .agg (enc y).toArray] W fun e w' => e = .returned (.int .i64 (cf x y)) ∧ ∃ q os', w' = grow (W.drewN q) os'
  c16 : ∀ (x y : ID) (W : World), Calls P 16 #[.agg (enc x).toArray, .agg (enc y).toArray] W fun e w' => e = .returned (.int .i64 (cf x y)) ∧ ∃ q os', w' = grow (W.drewN q) os'

variable {P : Program} {k : Nat} {Z : Array Value}

theorem At.fn (A : At P k Z) {f : Nat} {fn : Func} (h : Yba.prog.funcs[f]? = some fn) : P.funcs[f]? = some fn := by rw [A.funcs]; exact h

/-- A row of IDs is read. -/
theorem ldRow (A : At P k Z) {W : World} {b off : Nat} {d : Array ID} (h : HoldsK enc k W b off d) (i : Nat) (hi : i < d.size) :
    Sem.run P (loadCellsFrom ⟨b, off + i * k, none⟩ 0 k #[]) W = .ok (enc d[i]!).toArray W :=
  run_loadCellsFrom_list P _ _ _ k (A.hk _) (HoldsK.cells h A.hk hi)

/-- A box with one ID. -/
def BoxAt (W : World) (b : Nat) (x : ID) : Prop := ∀ j v, (enc x)[j]? = some v → W.cell? ⟨b, j, none⟩ = some v ∧ W.frozen? ⟨b, j, none⟩ = false
theorem ldBox (A : At P k Z) {W : World} {b : Nat} {x : ID} (h : BoxAt W b x) : Sem.run P (loadCellsFrom ⟨b, 0, none⟩ 0 k #[]) W = .ok (enc x).toArray W :=
  run_loadCellsFrom_list P _ _ _ k (A.hk _) (fun j v hv => by rw [Addr.add_lit, Nat.zero_add]; exact (h j v hv).1)
theorem BoxAt.new (W : World) (x : ID) (T : TypeId) : BoxAt (W.alloc (.cells (enc x).toArray T)) W.heap.size x := fun j v hv => by
  refine ⟨?_, by simp⟩
  simpa using hv
theorem BoxAt.grown {W : World} {b : Nat} {x : ID} (h : BoxAt W b x) (hb : b < W.heap.size) (n : Nat) (os : Array Obj) : BoxAt (grow (W.drewN n) os) b x := fun j v hv => by
  refine ⟨?_, ?_⟩
  · rw [cell?_grow _ _ _ (by exact hb)]; exact (h j v hv).1
  · rw [frozen?_grow _ _ _ (by exact hb)]; exact (h j v hv).2
theorem holdsK_grown {W : World} {b off : Nat} {d : Array ID} (h : HoldsK enc k W b off d) (hb : b < W.heap.size) (n : Nat) (os : Array Obj) : HoldsK enc k (grow (W.drewN n) os) b off d :=
  holdsK_grow enc k (W.drewN n) os b off d hb h
theorem holdsK_alloc {W : World} {b off : Nat} {d : Array ID} (h : HoldsK enc k W b off d) (hb : b < W.heap.size) (o : Obj) : HoldsK enc k (W.alloc o) b off d := by
  rw [alloc_eq_grow]; exact holdsK_grow enc k W #[o] b off d hb h

/-- How many members precede T. -/
def cnt (d : Array ID) (T : ID) : Nat := d.toList.countP fun x => decide (cf x T < 0)
def fnd (d : Array ID) (T : ID) : Bool := decide (cnt d T < d.size) && decide (cf d[cnt d T]! T = 0)
theorem cnt_of (d : Array ID) (T : ID) (i : Nat) (hi : i ≤ d.size) (h1 : ∀ t, t < i → cf d[t]! T < 0) (h2 : ∀ t, i ≤ t → t < d.size → 0 ≤ cf d[t]! T) : cnt d T = i := by
  have hget : ∀ t, d.toList[t]! = d[t]! := fun t => by first | (simp [getElem!_def]; done) | (rw [← Array.getElem!_toList]) | rfl
  refine Lib.countP_boundary _ d.toList i (by simpa using hi) (fun t ht => ?_) (fun t h3 h4 => ?_)
  · rw [hget t]; exact decide_eq_true (h1 t ht)
  · rw [hget t]; exact decide_eq_false (by have := h2 t h3 (by simpa using h4); omega)

set_option maxHeartbeats 4000000 in
set_option maxRecDepth 100000 in
/-- slices.BinarySearchFunc at IDs, compareIDs handed over: where the members that precede T end. -/
theorem bsf_any (A : At P k Z) (b off cap : Nat) (d : Array ID) (T : ID) (w : World) (hH : HoldsK enc k w b off d) (hb : b < w.heap.size) (hsz : d.size ≤ 2000)
    (hmono : ∀ i j, i ≤ j → j < d.size → cf d[j]! T < 0 → cf d[i]! T < 0) :
    Calls P 15 #[.slice (some ⟨b, off, none⟩) d.size cap, .agg (enc T).toArray, .func (.func 16) #[] #[]] w fun e w' => e = .returned (.tuple #[.int .i64 (cnt d T : Nat), .bool (fnd d T)]) ∧ ∃ n os, w' = grow (w.drewN n) os := by
  have mixed := A.mixed; have t3 := A.t3; have a3 := A.a3; have z3 := A.z3; have v3 := A.v3; have t4 := A.t4; have a4 := A.a4; have z4 := A.z4; have v4 := A.v4; have a23 := A.a23; have z23 := A.z23; have t24 := A.t24; have a24 := A.a24; have z24 := A.z24; have v24 := A.v24; have t28 := A.t28; have a28 := A.a28; have z28 := A.z28; have t58 := A.t58; have a58 := A.a58; have z58 := A.z58
  have u3 := run_underlying A.t3; have u4 := run_underlying A.t4; have u24 := run_underlying A.t24; have u58 := run_underlying A.t58
  have e16 : ∀ args w, (callFunc 16 args).run P w = .ok (.enter 16 args) w := enters_of (A.fn Yba.func16) (by kernel_rfl) rfl
  have FG := A.fn Yba.func15
  have hBX := BoxAt.new w T 23
  have hH1 := holdsK_alloc hH hb (.cells (enc T).toArray 23)
  have HB : Aside (BoxAt (w.alloc (.cells (enc T).toArray 23)) w.heap.size T) := hBX
  have HH : Aside (HoldsK enc k (w.alloc (.cells (enc T).toArray 23)) b off d) := hH1
  have hw1 : w.alloc (.cells (enc T).toArray 23) = grow (w.drewN 0) #[.cells (enc T).toArray 23] := alloc_eq_grow _ _
  have HW1 : Aside (w.alloc (.cells (enc T).toArray 23) = grow (w.drewN 0) #[.cells (enc T).toArray 23]) := hw1
  have AA : Aside (At P k Z) := A
  clear hBX hH1 hH hw1
  go_enter FG, Yba.ntmps15
  go_wp2
  have hBs : w.heap.size < (w.alloc (.cells (enc T).toArray 23)).heap.size := by simp
  have hbs : b < (w.alloc (.cells (enc T).toArray 23)).heap.size := by simp; omega
  generalize w.alloc (.cells (enc T).toArray 23) = W1 at HB HH HW1 hBs hbs ⊢
  generalize w.heap.size = B at HB hBs ⊢
  have M : Aside (∀ i j, i ≤ j → j < d.size → cf d[j]! T < 0 → cf d[i]! T < 0) := hmono
  have fin : ∀ n os, ∃ n' os', grow (W1.drewN n) os = grow (w.drewN n') os' := fun n os => by
    rw [HW1.out]
    exact ⟨0 + n, #[.cells (enc T).toArray 23] ++ os, by show grow (grow ((w.drewN 0).drewN n) _) os = _; rw [grow_grow, World.drewN_drewN]⟩
  have FIN : Aside (∀ n os, ∃ n' os', grow (W1.drewN n) os = grow (w.drewN n') os') := fin
  clear hmono fin HW1
  go_loopg [9, 10] d.size (fun kx s9 s10 wr => ∃ (lo hi n : Nat) (os : Array Obj), s9 = .int .i64 lo ∧ s10 = .int .i64 hi ∧ lo ≤ hi ∧ hi ≤ d.size ∧ hi - lo ≤ kx ∧ wr = grow (W1.drewN n) os ∧
    Aside ((∀ t, t < lo → cf d[t]! T < 0) ∧ (∀ t, hi ≤ t → t < d.size → 0 ≤ cf d[t]! T)))
  case atStart => exact ⟨0, d.size, 0, #[], rfl, rfl, Nat.zero_le _, Nat.le_refl _, by omega, by rw [grow_empty]; rfl, (⟨fun t ht => absurd ht (Nat.not_lt_zero _), fun t h1 h2 => by omega⟩ : (∀ t, t < 0 → cf d[t]! T < 0) ∧ (∀ t, d.size ≤ t → t < d.size → 0 ≤ cf d[t]! T))⟩
  case round =>
    obtain ⟨lo, hi, n, os, rfl, rfl, hlh, hin, hg, rfl, I⟩ := hrel
    have hcl : ∀ n' os', grow ((grow (W1.drewN n) os).drewN n') os' = grow (W1.drewN (n + n')) (os ++ os') := fun n' os' => by
      show grow (grow ((W1.drewN n).drewN n') os) os' = _
      rw [grow_grow, World.drewN_drewN]
    have CL : Aside (∀ n' os', grow ((grow (W1.drewN n) os).drewN n') os' = grow (W1.drewN (n + n')) (os ++ os')) := hcl
    have lT : ∀ n' os', Sem.run P (loadCellsFrom ⟨B, 0, none⟩ 0 k #[]) (grow ((grow (W1.drewN n) os).drewN n') os') = .ok (enc T).toArray (grow ((grow (W1.drewN n) os).drewN n') os') := fun n' os' => by
      rw [hcl]; exact ldBox AA.out (HB.out.grown hBs _ _)
    have hcmp : ∀ y n' os', Calls P 16 #[.agg (enc y).toArray, .agg (enc T).toArray] (grow ((grow (W1.drewN n) os).drewN n') os') fun e w' => e = .returned (.int .i64 (cf y T)) ∧ ∃ q os'', w' = grow ((grow ((grow (W1.drewN n) os).drewN n') os').drewN q) os'' := fun y n' os' => AA.out.c16 y T _
    by_cases hlt : lo < hi
    · have lM : ∀ n' os', Sem.run P (loadCellsFrom ⟨b, off + (lo + hi) / 2 * k, none⟩ 0 k #[]) (grow ((grow (W1.drewN n) os).drewN n') os') = .ok (enc d[(lo + hi) / 2]!).toArray (grow ((grow (W1.drewN n) os).drewN n') os') := fun n' os' => by
        rw [hcl]; exact ldRow AA.out (holdsK_grown HH.out hbs _ _) _ (by omega)
      generalize hy : d[(lo + hi) / 2]! = y at lM
      have Y : Aside (d[(lo + hi) / 2]! = y) := hy
      have hc := hcmp y
      clear hy hcmp hcl
      generalize hwq : grow (W1.drewN n) os = wq at lT lM hc CL ⊢
      have q1 : ((lo : Int) + hi) / 2 < d.size := by omega
      have q2 : (0 : Int) ≤ ((lo : Int) + hi) / 2 := by omega
      have q3 : (((lo : Int) + hi) / 2).toNat = (lo + hi) / 2 := by omega
      have NX : Aside (∀ nq osq, grow (wq.drewN nq) osq = grow (W1.drewN (n + nq)) (os ++ osq)) := CL.out
      by_cases hyx : cf y T < 0
      · go_wp2_with fail
        refine wp_region_quiet_grown (by assumption) (by kernel_rfl) ?_
        repeat (with_reducible refine wpQuiet_step (fun K hK => ?_); go_simp; first | (with_reducible refine hK _ ?_; clear hK K) | (apply Exists.intro; refine ⟨fun _ => ?_, hK _ ?_⟩; (go_at_fn 16; refine Calls.grown_of (hc _ _)); clear hK K))
        with_reducible refine wpQuiet_nil ?_
        intro _ hw'
        obtain ⟨⟨nq, osq⟩, hw''⟩ := hw'
        subst hw''
        go_wp2
        go_roundg (hi - ((lo + hi) / 2 + 1))
        case measure => omega
        case rel =>
          have I2 : Aside ((∀ t, t < (lo + hi) / 2 + 1 → cf d[t]! T < 0) ∧ (∀ t, hi ≤ t → t < d.size → 0 ≤ cf d[t]! T)) := ⟨fun t ht => M.out t ((lo + hi) / 2) (by omega) (by omega) (by rw [Y.out]; exact hyx), I.out.2⟩
          exact ⟨(lo + hi) / 2 + 1, hi, _, _, by rw [show ((lo : Int) + (hi : Int)) / 2 + 1 = (((lo + hi) / 2 + 1 : Nat) : Int) by omega], rfl, by omega, hin, Nat.le_refl _, NX.out _ _, I2⟩
      · go_wp2_with fail
        refine wp_region_quiet_grown (by assumption) (by kernel_rfl) ?_
        repeat (with_reducible refine wpQuiet_step (fun K hK => ?_); go_simp; first | (with_reducible refine hK _ ?_; clear hK K) | (apply Exists.intro; refine ⟨fun _ => ?_, hK _ ?_⟩; (go_at_fn 16; refine Calls.grown_of (hc _ _)); clear hK K))
        with_reducible refine wpQuiet_nil ?_
        intro _ hw'
        obtain ⟨⟨nq, osq⟩, hw''⟩ := hw'
        subst hw''
        go_wp2
        go_roundg ((lo + hi) / 2 - lo)
        case measure => omega
        case rel =>
          have I2 : Aside ((∀ t, t < lo → cf d[t]! T < 0) ∧ (∀ t, (lo + hi) / 2 ≤ t → t < d.size → 0 ≤ cf d[t]! T)) := ⟨I.out.1, fun t ht htn => Int.not_lt.1 fun h => by have := M.out ((lo + hi) / 2) t ht htn h; rw [Y.out] at this; omega⟩
          exact ⟨lo, (lo + hi) / 2, _, _, rfl, by rw [show ((lo : Int) + (hi : Int)) / 2 = (((lo + hi) / 2 : Nat) : Int) by omega], by omega, by omega, Nat.le_refl _, NX.out _ _, I2⟩
    · obtain rfl : hi = lo := by omega
      have HCN : Hid (cnt d T = hi) := cnt_of d T hi hin I.out.1 I.out.2
      by_cases hn : hi < d.size
      · have lM : ∀ n' os', Sem.run P (loadCellsFrom ⟨b, off + hi * k, none⟩ 0 k #[]) (grow ((grow (W1.drewN n) os).drewN n') os') = .ok (enc d[hi]!).toArray (grow ((grow (W1.drewN n) os).drewN n') os') := fun n' os' => by
          rw [hcl]; exact ldRow AA.out (holdsK_grown HH.out hbs _ _) _ hn
        generalize hy : d[hi]! = y at lM
        have HFN : Hid (fnd d T = (cf y T == 0)) := by
          show fnd d T = _
          unfold fnd
          rw [HCN.out, hy]
          rw [decide_eq_true hn, Bool.true_and]
          by_cases h0 : cf y T = 0 <;> simp [h0]
        have hc := hcmp y
        clear hy hcmp hcl I
        generalize hwq : grow (W1.drewN n) os = wq at lT lM hc CL ⊢
        have q1 : (hi : Int) < d.size := by omega
        have q2 : decide ((hi : Int) < d.size) = true := by simpa using q1
        go_wp2_with fail
        refine wp_region_quiet_grown (by assumption) (by kernel_rfl) ?_
        repeat (with_reducible refine wpQuiet_step (fun K hK => ?_); go_simp; first | (with_reducible refine hK _ ?_; clear hK K) | (apply Exists.intro; refine ⟨fun _ => ?_, hK _ ?_⟩; (go_at_fn 16; refine Calls.grown_of (hc _ _)); clear hK K))
        with_reducible refine wpQuiet_nil ?_
        intro _ hw'
        obtain ⟨⟨nq, osq⟩, hw''⟩ := hw'
        subst hw''
        go_wp2
        go_ret2
        refine ⟨by rw [HCN.out, HFN.out]; rfl, ?_⟩
        rw [CL.out]
        exact FIN.out _ _
      · have HFN : Hid (fnd d T = false) := by
          show fnd d T = _
          unfold fnd
          rw [HCN.out, decide_eq_false hn, Bool.false_and]
        clear hcmp hcl lT I
        have q2 : decide ((hi : Int) < d.size) = false := by simp; omega
        generalize hwq : grow (W1.drewN n) os = wq at CL ⊢
        go_wp2_with fail
        refine wp_region_quiet_lit (by assumption) (by kernel_rfl) ?_
        repeat (with_reducible refine wpQuiet_step (fun K hK => ?_); go_simp; with_reducible refine hK _ ?_; clear hK K)
        with_reducible refine wpQuiet_nil ?_
        intro _ hw'
        obtain ⟨nq, hw''⟩ := hw'
        subst hw''
        go_wp2
        go_ret2
        refine ⟨by rw [HCN.out, HFN.out]; rfl, ?_⟩
        rw [show wq.drewN nq = grow (wq.drewN nq) #[] from (grow_empty _).symm, CL.out]
        exact FIN.out _ _
end Go.Proofs.Ybulkbxza
