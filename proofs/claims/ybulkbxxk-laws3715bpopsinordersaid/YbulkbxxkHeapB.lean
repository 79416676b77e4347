import Derived.Test.YbulkbxxkHeap
namespace Go.Proofs.Ybulkbxxk
open Go.RowKit Go.Sort
set_option linter.unusedVariables false
theorem load41 (a : Addr) (w : World) (v : Value) (h : w.cell? a = some v) : (loadVar 41 a).run Yba.prog w = .ok v w := by
  go_simp
theorem wrapNil (ts : Array TypeId) (t : TypeId) (a : Addr) (x y : String) : Builtin.ssaWrapNilChk_ ts t #[.pointer (some a), strVal x, strVal y] = pure (.pointer (some a)) := rfl
theorem m_of (name : String) (f : Nat) (m : Method) (hm : Yba.t115.methods.find? (·.name == name) = some m) (hp : m.path = #[]) (hf : m.func = some (f, false))
   (a : Addr) (w : World) (v : Value) (h : w.cell? a = some v) : (method 328 115 (.pointer (some a)) name).run Yba.prog w = .ok (f, v) w := by
  have hi : Yba.prog.info? 115 = some Yba.t115 := by kernel_rfl
  have hl := load41 a w v h
  have ha : (asAddr (.pointer (some a))).run Yba.prog w = .ok a w := rfl
  show (method (327 + 1) 115 (.pointer (some a)) name).run Yba.prog w = _
  rw [method]
  simp [typeInfo, hi, hm, hp, hf, follow, receiverAt, Place.get, wrapNil, ha, hl, run_underlying Yba.underlying115]
theorem m_less (a : Addr) (w : World) (v : Value) (h : w.cell? a = some v) : (method 328 115 (.pointer (some a)) "Less").run Yba.prog w = .ok (89, v) w := m_of "Less" 89 _ rfl rfl rfl a w v h
theorem m_swap (a : Addr) (w : World) (v : Value) (h : w.cell? a = some v) : (method 328 115 (.pointer (some a)) "Swap").run Yba.prog w = .ok (31, v) w := m_of "Swap" 31 _ rfl rfl rfl a w v h
theorem m_len (a : Addr) (w : World) (v : Value) (h : w.cell? a = some v) : (method 328 115 (.pointer (some a)) "Len").run Yba.prog w = .ok (88, v) w := m_of "Len" 88 _ rfl rfl rfl a w v h

def PW (w : World) (b n : Nat) (d : Array Iv) : World := putRowK enc 5 (Sort.ahead w n) b 0 d
theorem PW.holds {w : World} {b n : Nat} {d0 d : Array Iv} (h : HoldsK enc 5 w b 0 d0) (hs : d.size = d0.size) : HoldsK enc 5 (PW w b n d) b 0 d := holdsK_putRowK enc 5 (Sort.ahead w n) b 0 d0 d h hs
theorem PW.drewN (w : World) (b n q : Nat) (d : Array Iv) : (PW w b n d).drewN q = PW w b (n + q) d := putRowK_drewN enc 5 w n q b 0 d
theorem PW.cell (w : World) (b n : Nat) (d : Array Iv) (a : Addr) (h : a.block ≠ b) : (PW w b n d).cell? a = w.cell? a := cell?_putRowK_other enc 5 (Sort.ahead w n) b 0 d a h
theorem PW.self {w : World} {b : Nat} {d : Array Iv} (h : HoldsK enc 5 w b 0 d) : w = PW w b 0 d := (putRowK_self enc 5 w b 0 d h).symm

/-- Swap, from a world of the family to another. -/
theorem swap_pw {w : World} {b cap n : Nat} {d0 d : Array Iv} (h : HoldsK enc 5 w b 0 d0) (hs : d.size = d0.size) (i j : Nat) (hi : i < d.size) (hj : j < d.size) :
    Calls Yba.prog 31 #[.slice (some ⟨b, 0, none⟩) d.size cap, .int .i64 i, .int .i64 j] (PW w b n d) fun e w' => e = .returned (.tuple #[]) ∧ ∃ q, w' = PW w b (n + q) (swp d i j) := by
  obtain ⟨a0, a1, a2, a3, a4, f0, f1, f2, f3, f4⟩ := cellsA (PW.holds (n := n) h hs) i hi
  obtain ⟨b0, b1, b2, b3, b4, g0, g1, g2, g3, g4⟩ := cellsA (PW.holds (n := n) h hs) j hj
  refine (swap_raw b cap d.size _ i j hi hj _ _ _ _ a0 a1 a2 a3 a4 f0 f1 f2 f3 f4 b0 b1 b2 b3 b4 g0 g1 g2 g3 g4).mono ?_
  rintro e w' ⟨he, q, rfl⟩
  refine ⟨he, q, ?_⟩
  have h2 := putRowK_swp enc 5 enc_len (Sort.ahead w n) b 0 d i j hi hj
  rw [Nat.zero_add, Nat.zero_add] at h2
  show (((PW w b n d).setCells b (i * 5) (enc d[j]!)).setCells b (j * 5) (enc d[i]!)).drewN q = _
  rw [show ((PW w b n d).setCells b (i * 5) (enc d[j]!)).setCells b (j * 5) (enc d[i]!) = PW w b n (swp d i j) from h2]
  exact PW.drewN _ _ _ _ _

theorem less_pw {w : World} {b cap n : Nat} {d0 d : Array Iv} (h : HoldsK enc 5 w b 0 d0) (hs : d.size = d0.size) (i j : Nat) (hi : i < d.size) (hj : j < d.size) (hc : d.size ≤ cap) (hm : d.size ≤ 1024) :
    Calls Yba.prog 89 #[.slice (some ⟨b, 0, none⟩) d.size cap, .int .i64 i, .int .i64 j] (PW w b n d) fun e w' => e = .returned (.bool (lt d[i]! d[j]!)) ∧ ∃ q, w' = PW w b (n + q) d :=
  (less_any b cap d _ (PW.holds h hs) i j hi hj hc hm).mono fun e w' ⟨he, q, hw⟩ => ⟨he, q, by rw [hw, PW.drewN]⟩

theorem downF_stop (f : Nat) (d : Array Iv) (i n : Nat) (h : n ≤ 2 * i + 1) : downF f d i n = (d, i) := by
  cases f with
  | zero => rfl
  | succ f => simp [downF, h]
theorem downF_rest (f : Nat) (d : Array Iv) (i n j : Nat) (h : ¬ n ≤ 2 * i + 1) (hj : j = if 2 * i + 2 < n ∧ lt d[2 * i + 2]! d[2 * i + 1]! = true then 2 * i + 2 else 2 * i + 1) (hl : lt d[j]! d[i]! = false) : downF (f + 1) d i n = (d, i) := by
  rw [downF, if_neg h]; simp only [← hj, hl]; rfl
theorem downF_go (f : Nat) (d : Array Iv) (i n j : Nat) (h : ¬ n ≤ 2 * i + 1) (hj : j = if 2 * i + 2 < n ∧ lt d[2 * i + 2]! d[2 * i + 1]! = true then 2 * i + 2 else 2 * i + 1) (hl : lt d[j]! d[i]! = true) : downF (f + 1) d i n = downF f (swp d i j) j n := by
  rw [downF, if_neg h]; simp only [← hj, hl]; rfl
end Go.Proofs.Ybulkbxxk
