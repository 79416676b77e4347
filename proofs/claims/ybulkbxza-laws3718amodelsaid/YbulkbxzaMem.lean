/-
  zzs3718amembers (function 5): a row of the call's own that holds first and rest.
-/
import Derived.Test.YbulkbxzaSucc
import Derived.Shelf.SlicesE.Clone
namespace Go.Proofs.Ybulkbxza
open Go.RowKit Go.Sort Go.Lib Go.Shelf
set_option linter.unusedVariables false
variable {P : Program} {k : Nat} {Z : Array Value}

def cellsL (l : List ID) : List Value := l.flatMap enc
theorem cellsL_append (l m : List ID) : cellsL (l ++ m) = cellsL l ++ cellsL m := by simp [cellsL]
theorem cellsL_one (x : ID) : cellsL [x] = enc x := by simp [cellsL]
theorem cellsL_len (l : List ID) : (cellsL l).length = l.length * 20 := by
  induction l with
  | nil => rfl
  | cons x r ih => rw [show cellsL (x :: r) = enc x ++ cellsL r by simp [cellsL], List.length_append, ih, enc_len, List.length_cons]; omega
theorem cellsL_oneCell (l : List ID) : ∀ u ∈ cellsL l, u.oneCell' = true := by
  intro u hu
  obtain ⟨x, _, hx⟩ := List.mem_flatMap.1 hu
  exact enc_one x u hx
theorem cellsL_get : ∀ (l : List ID) (i c : Nat), i < l.length → c < 20 → (cellsL l)[i * 20 + c]? = some (enc l[i]!)[c]!
  | [], i, c, hi, _ => by simp at hi
  | x :: r, 0, c, _, hc => by
    rw [show cellsL (x :: r) = enc x ++ cellsL r by simp [cellsL], List.getElem?_append_left (by rw [enc_len]; omega), Nat.zero_mul, Nat.zero_add, List.getElem?_eq_getElem (by rw [enc_len]; exact hc)]
    simp [getElem!_pos (enc x) c (by rw [enc_len]; exact hc)]
  | x :: r, i + 1, c, hi, hc => by
    rw [show cellsL (x :: r) = enc x ++ cellsL r by simp [cellsL], List.getElem?_append_right (by rw [enc_len]; omega), enc_len, show (i + 1) * 20 + c - 20 = i * 20 + c by omega, cellsL_get r i c (by simpa using hi) hc]
    simp

theorem holdsK_of_owns {w : World} {base g cap : Nat} {l : List ID} (h : w.ownsRow base 23 20 (.slice (some ⟨g, 0, none⟩) l.length cap) l.length (cellsL l)) : HoldsK enc 20 w g 0 l.toArray := by
  intro t ht
  rw [size_flatK] at ht
  have ht' : t < l.length * 20 := by simpa using ht
  have h1 : t / 20 < l.length := by omega
  have h2 := cellsL_get l (t / 20) (t % 20) h1 (by omega)
  rw [show t / 20 * 20 + t % 20 = t by omega] at h2
  rw [get_flatK _ _ _ _ ht, Nat.zero_add]
  refine ⟨(h.cellAt t ht').trans ?_, h.frozenAt t⟩
  rw [h2]
  simp

theorem lt_of_owns {w : World} {base g cap n size : Nat} {e : TypeId} {xs : List Value} (h : w.ownsRow base e size (.slice (some ⟨g, 0, none⟩) n cap) n xs) : g < w.heap.size := by
  rcases h.2 with ⟨h1, _⟩ | ⟨g', cap', cur, hv, _, hh, _⟩
  · simp at h1
  · simp at hv
    obtain ⟨rfl, _⟩ := hv
    exact (Array.getElem?_eq_some_iff.1 hh).1

theorem ownsRow_shape {w : World} {base n size : Nat} {e : TypeId} {v : Value} {xs : List Value} (h : w.ownsRow base e size v n xs) (hn : v ≠ .slice none 0 0) : ∃ g cap, v = .slice (some ⟨g, 0, none⟩) n cap ∧ base ≤ g ∧ g < w.heap.size ∧ n ≤ cap := by
  rcases h.2 with ⟨h1, _⟩ | ⟨g, cap, cur, hv, hb, hh, hc, _⟩
  · exact absurd h1 hn
  · exact ⟨g, cap, hv, hb, (Array.getElem?_eq_some_iff.1 hh).1, hc⟩

theorem fold_setMany : ∀ (l : List Value) (s : Nat) (F : Array Value), (l.zipIdx s).foldl (fun cs x => cs.setIfInBounds x.2 x.1) F = setMany F s l
  | [], _, _ => rfl
  | v :: r, s, F => by rw [List.zipIdx_cons, List.foldl_cons, fold_setMany r (s + 1)]; rfl
theorem fold_whole (F : Array Value) (l : List Value) (h : l.length = F.size) : List.foldl (fun cs x => cs.setIfInBounds x.snd x.fst) F l.zipIdx = l.toArray := by
  rw [fold_setMany]
  refine ext_get! (by simp [h]) fun t ht => ?_
  have ht' : t < F.size := by simpa using ht
  rw [get_setMany _ _ _ t ht', if_pos ⟨Nat.zero_le _, by omega⟩, Nat.sub_zero]
  simp
theorem mem_ld (P : Program) {w w1 : World} {cx : List Value} (hx : cx.length = k) (hg : (w.alloc (.cells cx.toArray 23)).grownBy w1 none) : Sem.run P (loadCellsFrom ⟨w.heap.size, 0, none⟩ 0 k #[]) w1 = .ok cx.toArray w1 := by
  have hb1 : Below (w.heap.size + 1) (w.alloc (.cells cx.toArray 23)) w1 := (Below.refl _ _).grown hg (by simp) (fun j h => by cases h)
  refine run_loadCellsFrom_list P _ _ _ k hx (fun j v hv => ?_)
  rw [Addr.add_lit, Nat.zero_add, hb1.cell (by simp)]
  simpa using hv
theorem mem_own {w w1 : World} {cx : List Value} {n : Nat} (h : w1.ownsRow w.heap.size 23 k (.slice (some ⟨(w.alloc (.cells cx.toArray 23)).heap.size, 0, none⟩) 0 (n + 1)) 0 []) : w1.ownsRow w.heap.size 23 k (.slice (some ⟨w.heap.size + 1, 0, none⟩) 0 (n + 1)) 0 [] := by simpa using h
theorem mem_below {w w1 : World} {cx : List Value} (hg : (w.alloc (.cells cx.toArray 23)).grownBy w1 none) : Below w.heap.size w w1 := ((Below.refl _ _).alloc (Nat.le_refl _) _).grown hg (by simp) (fun j h => by cases h)
theorem mem_new (w1 : World) (cx : List Value) : ∀ (j : Nat) (u : Value), cx[j]? = some u → (w1.alloc (.cells cx.toArray 23)).cell? (Addr.add ⟨w1.heap.size, 0, none⟩ j) = some u := by
  intro j u hj
  rw [Addr.add_lit, Nat.zero_add]
  simpa using hj
theorem mem_below2 {B : Nat} {w w1 w2 : World} {cx : List Value} (h : Below B w w1) (hB : B < w1.heap.size) (hg : (w1.alloc (.cells cx.toArray 23)).grownBy w2 (some (B + 1))) : Below B w w2 :=
  (h.alloc (by omega) _).grown hg (by simp; omega) (fun j e => by cases e; omega)
theorem mem_src {w w2 : World} {ao : Option Addr} {n k : Nat} {cr : List Value} (hr : cr.length = n * k) (hc : ∀ ad, ao = some ad → ∀ j u, cr[j]? = some u → w.cell? (ad.add j) = some u) (hlt : ∀ ad, ao = some ad → 0 < n → ad.block < w.heap.size) (hb : Below w.heap.size w w2) :
    ∀ ad, ao = some ad → ∀ j u, cr[j]? = some u → w2.cell? (ad.add j) = some u := by
  intro ad ha j u hj
  have h0 : 0 < n := by
    rcases Nat.eq_zero_or_pos n with h | h
    · subst h
      rw [Nat.zero_mul] at hr
      have : j < cr.length := (List.getElem?_eq_some_iff.1 hj).1
      omega
    · exact h
  rw [hb.cell (by rw [show (ad.add j).block = ad.block by unfold Addr.add; split <;> rfl]; exact hlt ad ha h0)]
  exact hc ad ha j u hj

set_option maxHeartbeats 1000000 in
set_option maxRecDepth 100000 in
theorem members_any (A : At P k Z) (i0 : TypeInfo) (hi : P.info? 23 = some i0) (hz0 : i0.zero = some (.agg Z)) (hz1 : i0.size = k) (hz2 : i0.bytes = 20) (hk1 : k ≤ 1000) (ao : Option Addr) (n cap : Nat) (w : World) (cr : List Value) (cx : List Value)
    (hn : n ≤ 1024) (hx : cx.length = k) (hx1 : ∀ u ∈ cx, u.oneCell' = true) (hr : cr.length = n * k) (hr1 : ∀ u ∈ cr, u.oneCell' = true) (hnone : ao = none → n = 0 ∧ cap = 0)
    (hc : ∀ ad, ao = some ad → ∀ j u, cr[j]? = some u → w.cell? (ad.add j) = some u) (hlt : ∀ ad, ao = some ad → 0 < n → ad.block < w.heap.size) :
    Calls P 5 #[.agg cx.toArray, .slice ao n cap] w fun e w' => ∃ g cap', e = .returned (.slice (some ⟨g, 0, none⟩) (n + 1) cap') ∧ w'.ownsRow w.heap.size 23 k (.slice (some ⟨g, 0, none⟩) (n + 1) cap') (n + 1) (cx ++ cr) ∧ Below w.heap.size w w' := by
  have mixed := A.mixed; have t3 := A.t3; have a3 := A.a3; have z3 := A.z3; have v3 := A.v3; have a23 := A.a23; have z23 := A.z23; have v23 := A.v23; have t24 := A.t24; have a24 := A.a24; have z24 := A.z24; have v24 := A.v24
  have u3 := run_underlying A.t3; have u24 := run_underlying A.t24
  have FG := A.fn Yba.func5
  have hk0 := A.k0
  have hfold : List.foldl (fun cs x => cs.setIfInBounds x.snd x.fst) (Array.map (fun x => Z[x % Z.size]!) (Array.range k)) cx.zipIdx = cx.toArray := fold_whole _ _ (by simp [hx])
  have hk2 : ¬ 16777216 < k := by omega
  have hk3 : ¬ k = 0 := by omega
  have HX1 : Hid (∀ u ∈ cx, u.oneCell' = true) := hx1
  have HR1 : Hid (∀ u ∈ cr, u.oneCell' = true) := hr1
  have HC : Hid (∀ ad, ao = some ad → ∀ j u, cr[j]? = some u → w.cell? (ad.add j) = some u) := hc
  have HLT : Hid (∀ ad, ao = some ad → 0 < n → ad.block < w.heap.size) := hlt
  have HNN : Hid (ao = none → n = 0 ∧ cap = 0) := hnone
  clear hx1 hr1 hc hlt hnone
  go_enter FG, Yba.ntmps5
  go_wp2_with (first
    | (at_make; refine wpList_make_own _ rfl (.const (.int .i64 0)) (.tmp 8) 24 rfl w.heap.size 23 i0 _ k t24 hi hz0 hz1 .i64 .i64 _ (n + 1) rfl rfl (by omega) (by rw [hz2]; omega) (by unfold maxLen; omega) (by simp) ?_; intro w1 hown1 hgrow1; have lX1 := mem_ld P hx hgrow1; have hown1' := mem_own hown1; have hbw1 := mem_below hgrow1; have hsz1 := lt_of_owns hown1'; clear hown1 hgrow1)
    | (at_builtin; refine wpList_append_fits _ rfl (.tmp 10) (.tmp 12) 24 rfl w.heap.size 23 i0 k t24 hi hz1 (w.heap.size + 1) 0 (n + 1) _ rfl (hown1'.alloc _) ⟨w1.heap.size, 0, none⟩ 1 1 cx rfl (by rw [Nat.one_mul]; exact hx) (mem_new w1 cx) HX1.out (by omega) ?_; intro w2 hown2 hgrow2; simp only [Nat.zero_add, List.nil_append] at hown2; have hbw2 := mem_below2 hbw1 (by omega) hgrow2; clear hgrow2 lX1 hown1' hbw1)
    | (at_builtin; refine wpList_append_fits_any _ rfl (.tmp 14) (.tmp 15) 24 rfl w.heap.size 23 i0 k t24 hi hz1 (w.heap.size + 1) 1 (n + 1) _ rfl hown2 ao n cap cr rfl hr HNN.out (mem_src hr HC.out HLT.out hbw2) HR1.out (by omega) ?_; intro w3 hown3 hgrow3))
  go_ret
  rw [Nat.add_comm 1 n] at hown3
  refine ⟨w.heap.size + 1, n + 1, by rw [Nat.add_comm n 1]; rfl, hown3, ?_⟩
  exact hbw2.grown hgrow3 (by have := hbw2.size; omega) (fun j e => by cases e; omega)
end Go.Proofs.Ybulkbxza
