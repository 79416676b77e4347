/-
  The walk of LawS3729CShape (5) at every three words.
-/
import Derived.Test.YbulkbyeyDoorWg
import Derived.Test.YbulkbyeyDoorWh
import Derived.Test.YbulkbyeyDoorWi
import Derived.Test.YbulkbyeyDoorWj
import Derived.Test.YbulkbyeyDoorWk
namespace Go.Proofs.YbulkbyeyDoor
open Go.RowKit Ieee
set_option linter.unusedVariables false

theorem law_any {x y z nx pL pN : Nat} {cx cy cz : Ordering} (ox : FloatKind.f64.format.order x 0 = some cx) (oy : FloatKind.f64.format.order y 0 = some cy) (oz : FloatKind.f64.format.order z 0 = some cz)
    (hn : ∀ w, (Op.unary .neg (.float .f64 x)).run Ybad.prog w = .ok (.float .f64 nx) w) (SH : Aside (Shape x y nx pL pN cx cy cz)) (w : World)
    (KX : Aside (∀ w, Calls Ybad.prog 13 #[.float .f64 x] w fun e w' => e = .returned (.bool true) ∧ w' = w))
    (KY : Aside (∀ w, Calls Ybad.prog 13 #[.float .f64 y] w fun e w' => e = .returned (.bool true) ∧ w' = w))
    (KZ : Aside (∀ w, Calls Ybad.prog 13 #[.float .f64 z] w fun e w' => e = .returned (.bool true) ∧ w' = w))
    (KL : Aside (Calls Ybad.prog 14 #[.float .f64 x, .float .f64 y, .float .f64 z] w fun e w' => e = .returned (.agg #[.float .f64 pL, .float .f64 pN]) ∧ Below w.heap.size w w'))
    (KG : Aside (∀ w, Calls Ybad.prog 15 #[.agg #[.float .f64 pL, .float .f64 pN]] w fun e w' => e = .returned (.bool true) ∧ Below w.heap.size w w')) :
    Calls Ybad.prog 5 #[.float .f64 x, .float .f64 y, .float .f64 z] w fun e w' => e = .returned (.bool true) ∧ Below w.heap.size w w' := by
  cases cx with
  | lt => exact law_lt ox oy oz hn SH w KX KY KZ KL KG
  | eq => exact law_eq ox oy oz hn SH w KX KY KZ KL KG
  | gt => exact law_gt ox oy oz hn SH w KX KY KZ KL KG

theorem law_fin {sx sy sz : Bool} {rx ry rz : Nat} (hx : rx < II) (hy : ry < II) (hz : rz < II) (w : World) (T : Tab w) (hw : 2 < w.heap.size) :
    Calls Ybad.prog 5 #[.float .f64 (wd sx rx), .float .f64 (wd sy ry), .float .f64 (wd sz rz)] w fun e w' => e = .returned (.bool true) ∧ Below w.heap.size w w' := by
  obtain ⟨pq, xx, yy, ss, Y⟩ := hyp_ok (sx := sx) (sy := sy) hx hy
  obtain ⟨near, far, t, a, a1, pl, A, _, hl, _, _, l1, l2, _, _⟩ := atan2_ok (ry := rz) (rx := pq) (sx := false) hz ((Nat.lt_or_eq_of_le Y.le).imp id (fun e => ⟨e, rfl⟩))
  obtain ⟨n2, f2, t2, b, b1, pn, L, hn, _, m1, m2, m3, _, m4, m5⟩ := atan2_ok (ry := ry) (rx := rx) (sx := sx) hy (Or.inl hx)
  have hl := hl rfl
  have SH := shape_ok (sx := sx) (sy := sy) (sz := sz) hx hy hz Y.z hl hn l1 (fun u v => l2 u v rfl) m1 m2 m3 m4 m5
  obtain ⟨sl, L', sn, N', e1, e2, AN⟩ := ang_ok (sy := sy) (sz := sz) (rx := rx) (ry := ry) hl hn
  have KL := lat_walk (sy := sy) (sz := sz) hx hy hz Y hl hn A L w T hw
  have KG : ∀ w, Calls Ybad.prog 15 #[.agg #[.float .f64 (latF sz pl), .float .f64 (lngF rx ry sy pn)]] w fun e w' => e = .returned (.bool true) ∧ Below w.heap.size w w' := by
    intro w; rw [e1, e2]; exact good_walk AN w
  have ok : ∀ {s : Bool} {r : Nat}, r < II → ∀ w, Calls Ybad.prog 13 #[.float .f64 (wd s r)] w fun e w' => e = .returned (.bool true) ∧ w' = w := by
    intro s r h w
    have k := ok_walk s r (Nat.lt_trans h II_lt_SS) w
    rw [decide_eq_true h] at k
    exact k
  exact law_any (ord0 hx) (ord0 hy) (ord0 hz) (f_neg sx rx (Nat.lt_trans hx II_lt_SS)) SH w (ok hx) (ok hy) (ok hz) KL KG

theorem as_wd {b : Nat} (h : b < 2 ^ 64) : ∃ s r, b = wd s r ∧ r < SS := by
  have e : SS = 2 ^ 63 := rfl
  by_cases c : b < SS
  · exact ⟨false, b, rfl, c⟩
  · exact ⟨true, b - SS, by simp only [wd, if_true]; omega, by omega⟩

theorem law_walk {x y z : Nat} (hx : x < 2 ^ 64) (hy : y < 2 ^ 64) (hz : z < 2 ^ 64) (w : World) (T : Tab w) (hw : 2 < w.heap.size) :
    Calls Ybad.prog 5 #[.float .f64 x, .float .f64 y, .float .f64 z] w fun e w' => e = .returned (.bool true) ∧ Below w.heap.size w w' := by
  obtain ⟨sx, rx, rfl, kx⟩ := as_wd hx
  obtain ⟨sy, ry, rfl, ky⟩ := as_wd hy
  obtain ⟨sz, rz, rfl, kz⟩ := as_wd hz
  by_cases c : rx < II ∧ ry < II ∧ rz < II
  · exact law_fin c.1 c.2.1 c.2.2 w T hw
  · refine law_out w ?_ (fun w => ok_walk sx rx kx w) (fun w => ok_walk sy ry ky w) (fun w => ok_walk sz rz kz w)
    by_cases c1 : rx < II
    · by_cases c2 : ry < II
      · have c3 : ¬ rz < II := fun h => c ⟨c1, c2, h⟩
        rw [decide_eq_false c3]; simp
      · rw [decide_eq_false c2]; simp
    · rw [decide_eq_false c1]; simp
end Go.Proofs.YbulkbyeyDoor
