/-
  The walk of (*byElement).pop.
-/
import Derived.Test.YbulkbxxkHeapU
namespace Go.Proofs.Ybulkbxxk
open Go.RowKit Go.Sort
set_option linter.unusedVariables false

/-- w' is w, but for the blocks in S and for new ones. -/
structure Only (S : Nat → Prop) (w w' : World) : Prop where
  os : w'.os = w.os
  tape : w'.tape = w.tape
  output : w'.output = w.output
  size : w.heap.size ≤ w'.heap.size
  block : ∀ k, k < w.heap.size → ¬ S k → w'.heap[k]? = w.heap[k]?

theorem Only.refl (S : Nat → Prop) (w : World) : Only S w w := ⟨rfl, rfl, rfl, Nat.le_refl _, fun _ _ _ => rfl⟩
theorem Only.trans {S : Nat → Prop} {a b c : World} (h : Only S a b) (k : Only S b c) : Only S a c :=
  ⟨k.os.trans h.os, k.tape.trans h.tape, k.output.trans h.output, Nat.le_trans h.size k.size, fun i hi hn => (k.block i (Nat.lt_of_lt_of_le hi h.size) hn).trans (h.block i hi hn)⟩
theorem Only.setCell {S : Nat → Prop} {a w : World} (h : Only S a w) {p : Addr} (hp : S p.block) (u : Value) : Only S a (w.setCell p u) :=
  h.trans ⟨rfl, rfl, rfl, by simp [World.setCell], fun k _ hn => Below.heap_setCell _ _ _ _ (fun e => hn (e ▸ hp))⟩
theorem Only.alloc {S : Nat → Prop} {a w : World} (h : Only S a w) (o : Obj) : Only S a (w.alloc o) :=
  h.trans ⟨rfl, rfl, rfl, by simp, fun k hk _ => Below.heap_alloc _ _ _ hk⟩
theorem Only.drewN {S : Nat → Prop} {a w : World} (h : Only S a w) (n : Nat) : Only S a (w.drewN n) := ⟨h.os, h.tape, h.output, h.size, h.block⟩
theorem Only.cell {S : Nat → Prop} {w w' : World} (h : Only S w w') {p : Addr} (hp : p.block < w.heap.size) (hn : ¬ S p.block) : w'.cell? p = w.cell? p := World.cell?_of_block (w := w) (h.block p.block hp hn)
theorem Only.frozen {S : Nat → Prop} {w w' : World} (h : Only S w w') {p : Addr} (hp : p.block < w.heap.size) (hn : ¬ S p.block) : w'.frozen? p = w.frozen? p := World.frozen?_of_block (w := w) (h.block p.block hp hn)
theorem Only.below {S : Nat → Prop} {B : Nat} {w w' : World} (h : Only S w w') (hB : B ≤ w.heap.size) (hS : ∀ k, S k → B ≤ k) : Below B w w' :=
  ⟨h.os, h.tape, h.output, h.size, fun k hk => h.block k (by omega) (fun s => by have := hS k s; omega)⟩

theorem heap_PW (w : World) (b n k : Nat) (d : Array Iv) (h : k ≠ b) : (PW w b n d).heap[k]? = w.heap[k]? := by
  show (w.heap.modify b _)[k]? = _
  rw [Array.getElem?_modify, if_neg (fun e => h e.symm)]
theorem size_PW (w : World) (b n : Nat) (d : Array Iv) : (PW w b n d).heap.size = w.heap.size := size_putRowK enc 5 (Sort.ahead w n) b 0 d
theorem Only.PW {S : Nat → Prop} {a w : World} (h : Only S a w) (b n : Nat) (d : Array Iv) (hb : S b) : Only S a (PW w b n d) :=
  h.trans ⟨rfl, rfl, rfl, by rw [size_PW]; exact Nat.le_refl _, fun k _ hn => heap_PW w b n k d (fun e => hn (e ▸ hb))⟩
theorem PW.frozen (w : World) (b n : Nat) (d : Array Iv) (a : Addr) (h : a.block ≠ b) : (PW w b n d).frozen? a = w.frozen? a := World.frozen?_of_block (w := w) (heap_PW w b n a.block d h)

theorem holdsK_block {w w' : World} {b : Nat} {d : Array Iv} (h : HoldsK enc 5 w b 0 d) (hb : w'.heap[b]? = w.heap[b]?) : HoldsK enc 5 w' b 0 d := by
  intro j hj
  have := h j hj
  exact ⟨(World.cell?_of_block (w := w) (by exact hb)).trans this.1, (World.frozen?_of_block (w := w) (by exact hb)).trans this.2⟩

theorem holdsK_of_cells {w : World} {b : Nat} {d : Array Iv} (h : ∀ i c, i < d.size → c < 5 → w.cell? ⟨b, i * 5 + c, none⟩ = some (enc d[i]!)[c]! ∧ w.frozen? ⟨b, i * 5 + c, none⟩ = false) : HoldsK enc 5 w b 0 d := by
  intro t ht
  rw [size_flatK] at ht
  have h1 : t / 5 < d.size := by omega
  have := h (t / 5) (t % 5) h1 (by omega)
  rw [show t / 5 * 5 + t % 5 = t by omega] at this
  rw [get_flatK _ _ _ _ ht, Nat.zero_add]
  exact this

theorem holdsK_pop {w : World} {b : Nat} {d : Array Iv} (h : HoldsK enc 5 w b 0 d) : HoldsK enc 5 w b 0 d.pop := by
  refine holdsK_of_cells fun i c hi hc => ?_
  have hi' : i < d.size := by simp at hi; omega
  have := h.cell hi' hc
  rw [Nat.zero_add] at this
  have e : d.pop[i]! = d[i]! := by
    rw [getElem!_pos d.pop i hi, getElem!_pos d i hi', Array.getElem_pop]
  rw [e]
  exact this

/-- What pop leaves. -/
def popF (d : Array Iv) : Array Iv :=
  let d1 := (swp d 0 (d.size - 1)).pop
  if 1 < d1.size then fixF d1 0 else d1

theorem fixF_size (d : Array Iv) (i : Nat) : (fixF d i).size = d.size := by
  unfold fixF
  simp only
  split
  · exact downF_size _ _ _ _
  · rw [upF_size]; exact downF_size _ _ _ _

theorem popF_size (d : Array Iv) : (popF d).size = d.size - 1 := by
  unfold popF
  simp only
  split
  · rw [fixF_size]; simp [size_swp]
  · simp [size_swp]

set_option maxRecDepth 100000 in
set_option maxHeartbeats 1000000 in
theorem pop_any (H b cap m : Nat) (d : Array Iv) (w : World) (hHb : H ≠ b) (hb : b < w.heap.size) (hc : w.cell? ⟨H, 0, none⟩ = some (.slice (some ⟨b, 0, none⟩) (m + 1) cap)) (hf : w.frozen? ⟨H, 0, none⟩ = false) (hH : HoldsK enc 5 w b 0 d) (hN : d.size = m + 1) (hNc : m + 1 ≤ cap) (hcm : m + 1 ≤ 1024) :
    Calls Yba.prog 15 #[.pointer (some ⟨H, 0, none⟩)] w fun e w' => e = .returned (.tuple #[]) ∧ w'.cell? ⟨H, 0, none⟩ = some (.slice (some ⟨b, 0, none⟩) m cap) ∧ w'.frozen? ⟨H, 0, none⟩ = false ∧ HoldsK enc 5 w' b 0 (popF d) ∧ w'.heap.size = w.heap.size ∧ Only (fun k => k = H ∨ k = b) w w' := by
  have HS : Hid (∀ (a : Int), a = m → Calls Yba.prog 31 #[.slice (some ⟨b, 0, none⟩) (m + 1) cap, .int .i64 0, .int .i64 a] w fun e w' => e = .returned (.tuple #[]) ∧ ∃ q, w' = PW w b q (swp d 0 m)) := by
    intro a ha
    subst ha
    have := swap_pw (w := w) (b := b) (cap := cap) (n := 0) (d := d) hH rfl 0 m (by omega) (by omega)
    rw [hN, ← PW.self hH] at this
    refine this.mono ?_
    rintro e w' ⟨he, q, rfl⟩
    exact ⟨he, _, rfl⟩
  have hfz : ∀ q, (PW w b q (swp d 0 m)).frozen? ⟨H, 0, none⟩ = false := fun q => by rw [PW.frozen _ _ _ _ _ hHb]; exact hf
  have hcz : ∀ q, (PW w b q (swp d 0 m)).cell? ⟨H, 0, none⟩ = some (.slice (some ⟨b, 0, none⟩) (m + 1) cap) := fun q => by rw [PW.cell _ _ _ _ _ hHb]; exact hc
  obtain ⟨d1, hd1⟩ : ∃ d1, d1 = (swp d 0 m).pop := ⟨_, rfl⟩
  have hz1 : d1.size = m := by rw [hd1]; simp [size_swp, hN]
  have hpf : popF d = if 1 < d1.size then fixF d1 0 else d1 := by unfold popF; rw [hN, Nat.add_sub_cancel, ← hd1]
  have h2 : ∀ q, HoldsK enc 5 ((PW w b q (swp d 0 m)).setCell ⟨H, 0, none⟩ (.slice (some ⟨b, 0, none⟩) m cap)) b 0 d1 := by
    intro q
    rw [hd1]
    exact holdsK_block (holdsK_pop (PW.holds hH (size_swp d 0 m))) (Below.heap_setCell _ _ _ _ (fun e => hHb e.symm))
  have c2 : ∀ q, ((PW w b q (swp d 0 m)).setCell ⟨H, 0, none⟩ (.slice (some ⟨b, 0, none⟩) m cap)).cell? ⟨H, 0, none⟩ = some (.slice (some ⟨b, 0, none⟩) m cap) := fun q => World.cell?_setCell_same _ _ _ (hcz q)
  have f2 : ∀ q, ((PW w b q (swp d 0 m)).setCell ⟨H, 0, none⟩ (.slice (some ⟨b, 0, none⟩) m cap)).frozen? ⟨H, 0, none⟩ = false := fun q => by rw [World.frozen?_setCell]; exact hfz q
  have z2 : ∀ q, ((PW w b q (swp d 0 m)).setCell ⟨H, 0, none⟩ (.slice (some ⟨b, 0, none⟩) m cap)).heap.size = w.heap.size := fun q => by rw [World.size_setCell, size_PW]
  have o2 : ∀ q, Only (fun k => k = H ∨ k = b) w ((PW w b q (swp d 0 m)).setCell ⟨H, 0, none⟩ (.slice (some ⟨b, 0, none⟩) m cap)) := fun q => ((Only.refl _ w).PW b q _ (Or.inr rfl)).setCell (Or.inl rfl) _
  have HC2 : Hid (∀ q, ((PW w b q (swp d 0 m)).setCell ⟨H, 0, none⟩ (.slice (some ⟨b, 0, none⟩) m cap)).cell? ⟨H, 0, none⟩ = some (.slice (some ⟨b, 0, none⟩) m cap)) := c2
  have HF2 : Hid (∀ q, ((PW w b q (swp d 0 m)).setCell ⟨H, 0, none⟩ (.slice (some ⟨b, 0, none⟩) m cap)).frozen? ⟨H, 0, none⟩ = false) := f2
  have HZ2 : Hid (∀ q, ((PW w b q (swp d 0 m)).setCell ⟨H, 0, none⟩ (.slice (some ⟨b, 0, none⟩) m cap)).heap.size = w.heap.size) := z2
  by_cases hm : 1 < m
  · have HP : Hid (popF d = fixF d1 0) := by rw [hpf, hz1, if_pos hm]; rfl
    have HF : Hid (∀ q, Calls Yba.prog 28 #[.iface 115 (.pointer (some ⟨H, 0, none⟩)), .int .i64 0] ((PW w b q (swp d 0 m)).setCell ⟨H, 0, none⟩ (.slice (some ⟨b, 0, none⟩) m cap)) fun e w' => e = .returned (.tuple #[]) ∧ ∃ q', w' = PW ((PW w b q (swp d 0 m)).setCell ⟨H, 0, none⟩ (.slice (some ⟨b, 0, none⟩) m cap)) b q' (fixF d1 0)) := by
      intro q
      exact fix_any H b cap m 0 d1 _ hHb (by rw [z2]; exact hb) (c2 q) (h2 q) hz1 (by omega) (by omega) (by omega)
    clear hpf c2 f2 z2 hd1
    go_enter Yba.func15, Yba.ntmps15
    go_wp2_with (first
      | (go_at_call 31; refine (HS.out _ (by omega)).mono ?_; rintro e w1 ⟨rfl, q, rfl⟩)
      | (go_at_call 28; refine (HF.out _).mono ?_; rintro e w1 ⟨rfl, q2, rfl⟩))
    go_end0
    refine ⟨rfl, by rw [PW.cell _ _ _ _ _ hHb]; exact HC2.out q, by rw [PW.frozen _ _ _ _ _ hHb]; exact HF2.out q, ?_, by rw [size_PW]; exact HZ2.out q, (o2 q).PW _ _ _ (Or.inr rfl)⟩
    rw [HP.out]
    exact PW.holds (h2 q) (fixF_size _ _)
  · have HP : Hid (popF d = d1) := by rw [hpf, hz1, if_neg hm]; rfl
    clear hpf c2 f2 z2 hd1
    go_enter Yba.func15, Yba.ntmps15
    go_wp2_with (go_at_call 31; refine (HS.out _ (by omega)).mono ?_; rintro e w1 ⟨rfl, q, rfl⟩)
    go_end0
    refine ⟨rfl, HC2.out q, HF2.out q, ?_, HZ2.out q, o2 q⟩
    rw [HP.out]
    exact h2 q
end Go.Proofs.Ybulkbxxk
