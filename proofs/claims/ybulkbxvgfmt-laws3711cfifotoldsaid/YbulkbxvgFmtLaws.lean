/-
  The walks of NewFIFO and of the two laws (functions 9, 4, 5).
-/
import Derived.Test.YbulkbxvgFmtNew
namespace Go.Proofs.YbulkbxvgFmt
open Go.RowKit Go.Extern.Stop Go.Stop Go.Extern

set_option maxHeartbeats 400000 in
theorem fifo_low (F : Interp) (n : Int) (w : World) (hF : F.answers w.tape) (hn : n < 1) :
    Calls Ybaf.prog 9 #[.int .i64 n] w fun e w' => (∃ a, e = .returned (.tuple #[.pointer none, .iface 63 (.pointer (some a))])) ∧ Below w.heap.size w w' := by
  go_enter Ybaf.func9, Ybaf.ntmps9
  go_wp2_with (go_at_call 7; refine (new_low F _ _ hF hn).mono ?_; rintro e w1 ⟨rfl, hb⟩)
  go_ret2
  exact ⟨⟨_, rfl⟩, hb⟩

set_option maxHeartbeats 400000 in
theorem fifo_ok (n : Int) (w : World) (hn : 1 ≤ n) (hm : n ≤ 65536) :
    Calls Ybaf.prog 9 #[.int .i64 n] w fun e w' => e = .returned (.tuple #[.pointer (some ⟨w.heap.size + 1, 0, none⟩), .nilIface]) ∧ w' = (netWorld w n.toNat false).setCell ⟨w.heap.size + 1, 1, none⟩ (.bool true) := by
  have hfr : (netWorld w n.toNat false).frozen? ⟨w.heap.size + 1, 1, none⟩ = false := by simp [netWorld, netObj]
  have hcell : (netWorld w n.toNat false).cell? ⟨w.heap.size + 1, 1, none⟩ = some (.bool false) := by simp [netWorld, netObj]
  go_enter Ybaf.func9, Ybaf.ntmps9
  go_wp2_with (go_at_call 7; refine (new_ok _ _ hn hm).mono ?_; rintro e w1 ⟨rfl, rfl⟩)
  go_ret2
  exact ⟨rfl, rfl⟩

theorem made_cell (w : World) (n i : Nat) (h : i < n) : (netWorld w n false).cell? ⟨w.heap.size, i, none⟩ = some .nilFunc := by
  unfold netWorld
  rw [World.cell?_alloc_past]
  · simp [madeCells, h, Nat.mod_one]
  · simp

theorem net_below (w : World) (n : Nat) (f : Bool) : Below w.heap.size w (netWorld w n f) :=
  ((Below.refl _ _).alloc (Nat.le_refl _) _).alloc (by simp) _

set_option maxHeartbeats 400000 in
theorem law_new (F : Interp) (n : Int) (w : World) (hF : F.answers w.tape) :
    Calls Ybaf.prog 4 #[.int .i64 n] w fun e w' => e = .returned (.bool true) ∧ Below w.heap.size w w' := by
  by_cases h1 : 65536 < n
  · go_enter Ybaf.func4, Ybaf.ntmps4
    go_wp2
    go_ret
    exact ⟨rfl, Below.refl _ _⟩
  · by_cases h2 : n < 1
    · go_enter Ybaf.func4, Ybaf.ntmps4
      go_wp2_with (go_at_call 7; refine (new_low F _ _ hF h2).mono ?_; rintro e w1 ⟨rfl, hb⟩)
      go_ret
      exact ⟨rfl, hb⟩
    · have hc := made_cell w n.toNat
      have hcl : ∀ k v, (#[Value.slice (some { block := w.heap.size, off := 0 }) n.toNat n.toNat, .bool false, .slice none 0 0, .int .i64 0, .bool false, .slice none 0 0, .map none, .int .i64 0, .bool false, .slice none 0 0, .int .u64 0] : Array Value)[k]? = some v → (netWorld w n.toNat false).cell? ⟨w.heap.size + 1, k, none⟩ = some v := by
        intro k v hk
        unfold netWorld netObj
        simpa using hk
      have hfr := fresh_ok (w.heap.size + 1) w.heap.size n.toNat false (netWorld w n.toNat false) (by omega) (hcl 0 _ rfl) (hcl 1 _ rfl) (hcl 2 _ rfl) (hcl 3 _ rfl) (hcl 4 _ rfl) (hcl 5 _ rfl) (hcl 6 _ rfl) (hcl 7 _ rfl) (hcl 8 _ rfl) (hcl 9 _ rfl) (hcl 10 _ rfl) hc
      rw [show ((n.toNat : Nat) : Int) = n from by omega] at hfr
      have HF : Hid (Calls Ybaf.prog 8 #[.pointer (some ⟨w.heap.size + 1, 0, none⟩), .int .i64 n, .bool false] (netWorld w n.toNat false) fun e w' => e = .returned (.bool true) ∧ w' = netWorld w n.toNat false) := hfr
      clear hfr hc hcl hF
      go_enter Ybaf.func4, Ybaf.ntmps4
      go_wp2_with (first
        | (go_at_call 7; refine (new_ok _ _ (by omega) (by omega)).mono ?_; rintro e w1 ⟨rfl, rfl⟩)
        | (go_at_call 8; refine (HF.out).mono ?_; rintro e w1 ⟨rfl, rfl⟩))
      go_ret
      exact ⟨rfl, net_below _ _ _⟩

def fifoWorld (w : World) (n : Nat) : World := (netWorld w n false).setCell ⟨w.heap.size + 1, 1, none⟩ (.bool true)

theorem fifo_cell (w : World) (n i : Nat) (h : i < n) : (fifoWorld w n).cell? ⟨w.heap.size, i, none⟩ = some .nilFunc := by
  unfold fifoWorld
  rw [World.cell?_setCell_other _ _ _ _ (by simp)]
  exact made_cell w n i h

theorem fifo_below (w : World) (n : Nat) : Below w.heap.size w (fifoWorld w n) := (net_below w n false).setCell (by simp) _

theorem fifo_flag (w : World) (n : Nat) : (fifoWorld w n).cell? ⟨w.heap.size + 1, 1, none⟩ = some (.bool true) := by
  unfold fifoWorld
  exact World.cell?_setCell_same _ _ _ (u := .bool false) (by unfold netWorld netObj; simp)

set_option maxHeartbeats 400000 in
theorem law_fifo (F : Interp) (n : Int) (w : World) (hF : F.answers w.tape) :
    Calls Ybaf.prog 5 #[.int .i64 n] w fun e w' => e = .returned (.bool true) ∧ Below w.heap.size w w' := by
  by_cases h1 : 65536 < n
  · go_enter Ybaf.func5, Ybaf.ntmps5
    go_wp2
    go_ret
    exact ⟨rfl, Below.refl _ _⟩
  · by_cases h2 : n < 1
    · go_enter Ybaf.func5, Ybaf.ntmps5
      go_wp2_with (go_at_call 9; refine (fifo_low F _ _ hF h2).mono ?_; rintro e w1 ⟨⟨a, rfl⟩, hb⟩)
      go_ret
      exact ⟨rfl, hb⟩
    · have hc := fifo_cell w n.toNat
      have hcl : ∀ k v, k ≠ 1 → (#[Value.slice (some { block := w.heap.size, off := 0 }) n.toNat n.toNat, .bool false, .slice none 0 0, .int .i64 0, .bool false, .slice none 0 0, .map none, .int .i64 0, .bool false, .slice none 0 0, .int .u64 0] : Array Value)[k]? = some v → (fifoWorld w n.toNat).cell? ⟨w.heap.size + 1, k, none⟩ = some v := by
        intro k v h1 hk
        unfold fifoWorld
        rw [World.cell?_setCell_other _ _ _ _ (by simp <;> omega)]
        unfold netWorld netObj
        simpa using hk
      have hfr := fresh_ok (w.heap.size + 1) w.heap.size n.toNat true (fifoWorld w n.toNat) (by omega) (hcl 0 _ (by decide) rfl) (fifo_flag w _) (hcl 2 _ (by decide) rfl) (hcl 3 _ (by decide) rfl) (hcl 4 _ (by decide) rfl) (hcl 5 _ (by decide) rfl) (hcl 6 _ (by decide) rfl) (hcl 7 _ (by decide) rfl) (hcl 8 _ (by decide) rfl) (hcl 9 _ (by decide) rfl) (hcl 10 _ (by decide) rfl) hc
      rw [show ((n.toNat : Nat) : Int) = n from by omega] at hfr
      have HF : Hid (Calls Ybaf.prog 8 #[.pointer (some ⟨w.heap.size + 1, 0, none⟩), .int .i64 n, .bool true] (fifoWorld w n.toNat) fun e w' => e = .returned (.bool true) ∧ w' = fifoWorld w n.toNat) := hfr
      have HB := fifo_ok n w (by omega) (by omega)
      have HN : Hid (Calls Ybaf.prog 9 #[.int .i64 n] w fun e w' => e = .returned (.tuple #[.pointer (some ⟨w.heap.size + 1, 0, none⟩), .nilIface]) ∧ w' = fifoWorld w n.toNat) := HB
      clear hfr hc hcl hF HB
      go_enter Ybaf.func5, Ybaf.ntmps5
      go_wp2_with (first
        | (go_at_call 9; refine (HN.out).mono ?_; rintro e w1 ⟨rfl, rfl⟩)
        | (go_at_call 8; refine (HF.out).mono ?_; rintro e w1 ⟨rfl, rfl⟩))
      go_ret
      exact ⟨rfl, fifo_below _ _⟩
end Go.Proofs.YbulkbxvgFmt
