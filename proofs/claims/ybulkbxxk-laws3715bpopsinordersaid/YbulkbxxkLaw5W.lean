/-
  The walk of LawS3715BPopsInOrder.
-/
import Derived.Test.YbulkbxxkLaw5
import Derived.Deep.CutBlock
namespace Go.Proofs.Ybulkbxxk
open Go.RowKit Go.Sort
set_option linter.unusedVariables false

set_option maxRecDepth 100000 in
set_option maxHeartbeats 8000000 in
theorem pops_main (xb xo cap0 n : Nat) (z : List Int) (w : World) (hn : n ≤ 1024) (hn1 : 1 ≤ n) (hx : xb < w.heap.size) (hz : ∀ i, i < n → w.cell? ⟨xb, xo + i, none⟩ = some (.int .i32 (z.getD i 0))) :
    Calls Yba.prog 5 #[.slice (some ⟨xb, xo, none⟩) n cap0] w fun e w' => e = .returned (.bool true) ∧ Below w.heap.size w w' := by
  have HZ : Aside (∀ i, i < n → w.cell? ⟨xb, xo + i, none⟩ = some (.int .i32 (z.getD i 0))) := hz
  have t1 : ¬ (1024 : Int) < (n : Int) := by omega
  obtain ⟨B, hB⟩ : ∃ B, B = w.heap.size := ⟨_, rfl⟩
  have HST : Aside (Filled B B w (w.alloc (.cells #[.slice none 0 0] 41)) (.slice none 0 0) 0 z #[]) := by
    show Filled B B w (w.alloc (.cells #[.slice none 0 0] 41)) (.slice none 0 0) 0 z #[]
    refine ⟨by rw [hB]; simp, by rw [hB]; simp, ⟨rfl, Or.inl ⟨rfl, rfl⟩⟩, rfl, by rw [hB]; simp, fun e => (by cases e), (Below.refl _ _).alloc (by omega) _, HeapO.small (by simp), by simp⟩
  have HB : Aside (w.heap.size = B) := hB.symm
  have hxB : xb < B := by omega
  rw [← hB]
  clear hz hB hx
  go_enter Yba.func5, Yba.ntmps5
  go_wp2_with fail
  rw [HB.out]
  generalize w.alloc (.cells #[.slice none 0 0] 41) = W0 at HST ⊢
  go_loopw [5] (fun vi wr => ∃ (k : Nat) (v : Value) (d : Array Iv), vi = .int .i64 k ∧ k ≤ n ∧ Filled B B w wr v k z d) (fun vi _ => n - (intOf vi).toNat)
  case atStart => exact ⟨0, _, _, rfl, Nat.zero_le _, HST.out⟩
  case round =>
    obtain ⟨k, v, d, rfl, hk, hF⟩ := hrel
    have HF : Aside (Filled B B w wr v k z d) := hF
    clear hF
    by_cases hkn : k < n
    · have hkn' : (k : Int) < (n : Int) := by omega
      have ce : wr.cell? ⟨xb, xo + k, none⟩ = some (.int .i32 (z.getD k 0)) := (HF.out.below.cell hxB).trans (HZ.out k hkn)
      have w1 : IntKind.u64.wrap (k : Int) = (k : Int) := by simp [IntKind.wrap, IntKind.bits, IntKind.signed]; omega
      have hpush := push_any B k B v d k (z.getD k 0) wr HF.out.cell HF.out.free HF.out.own HF.out.size HF.out.lt (Nat.le_refl _) HF.out.nb (by omega)
      have HFP : Aside (∀ (w' : World) (g cap : Nat), HeapIs B B wr w' g cap (k + 1) (pushF d (k, z.getD k 0)) → Filled B B w w' (.slice (some ⟨g, 0, none⟩) (k + 1) cap) (k + 1) z (pushF d (k, z.getD k 0))) := fun w' g cap h => HF.out.push h
      generalize pushF d (k, z.getD k 0) = d2 at hpush HFP
      generalize z.getD k 0 = y at ce hpush
      have HP : Aside (Calls Yba.prog 12 #[.pointer (some ⟨B, 0, none⟩), .agg #[.int .u64 0, .int .u64 k, .int .u64 0, .int .u64 k, .int .i32 y]] wr fun e w' => e = .returned (.tuple #[]) ∧ ∃ g cap, HeapIs B B wr w' g cap (k + 1) d2) := hpush
      clear hpush HST
      go_wp2_with fail
      refine HP.out.mono ?_
      rintro e w2 ⟨rfl, g, cap, hI⟩
      have HF2 : Aside (Filled B B w w2 (.slice (some ⟨g, 0, none⟩) (k + 1) cap) (k + 1) z d2) := HFP.out _ _ _ hI
      clear hI
      go_wp2_with fail
      go_roundw
      case rel => exact ⟨k + 1, _, _, by go_num, by omega, HF2.out⟩
      case measure => simp [intOf]; omega
    · obtain rfl : n = k := by omega
      obtain ⟨g, cap, rfl⟩ : ∃ g cap, v = .slice (some ⟨g, 0, none⟩) n cap := by
        rcases HF.out.own.2 with ⟨_, h1⟩ | ⟨g, cap, cur, hv, _⟩
        · omega
        · exact ⟨g, cap, hv⟩
      have hgB := (owns_lt HF.out.own g rfl).1
      have hgl := (owns_lt HF.out.own g rfl).2
      have hHg : B ≠ g := fun e => HF.out.nb (by rw [e]; rfl)
      have hcap := owns_cap HF.out.own
      have hlt := HF.out.lt
      -- the clone
      have ce : ∀ i, i < n → wr.cell? ⟨xb, xo + i, none⟩ = some (.int .i32 (z.getD i 0)) := fun i hi => (HF.out.below.cell hxB).trans (HZ.out i hi)
      have HCL : Aside (Calls Yba.prog 13 #[.slice (some ⟨xb, xo, none⟩) n cap0] wr fun e w' => ∃ g cap, e = .returned (.slice (some ⟨g, 0, none⟩) n cap) ∧ wr.heap.size ≤ g ∧ g < w'.heap.size ∧ Row32 w' g (zs z n) ∧ Below wr.heap.size wr w') := clone_walk xb xo cap0 n z wr hn ce
      clear ce HST hkn
      go_wp2_with fail
      refine HCL.out.mono ?_
      rintro e w1 ⟨g2, cap2, rfl, hg2, hg2l, hR1, hb1⟩
      have HSO : Aside (Calls Yba.prog 14 #[.slice (some ⟨g2, 0, none⟩) n cap2] w1 fun e w' => e = .returned (.tuple #[]) ∧ ∃ d', PermIn 0 n (zs z n) d' ∧ SortedIn ltInt 0 n d' ∧ At g2 w1 w' d') := sort_walk g2 cap2 n (zs z n) w1 hR1 (zs_size z n) hn hn1
      have HB1 : Aside (Below wr.heap.size wr w1) := hb1
      have hs1 := hb1.size
      clear hR1 hb1 HCL
      go_wp2_with fail
      refine HSO.out.mono ?_
      rintro e w2 ⟨rfl, s, hperm, hsort, hat⟩
      have hssz : s.size = n := hperm.1.trans (zs_size z n)
      have hs2 := hat.only.size
      obtain ⟨i0, hi, hz0, hz1, hz2⟩ := info_parts Yba.info4
      have hmk := fun (w : World) => run_make (P := Yba.prog) w 50 4 i0 (.bool false) Yba.underlying50 hi hz0 .i64 .i64 (n : Int) (n : Int) (by omega) (by omega) (by rw [hz2]; omega) (by omega)
      rw [hz1] at hmk
      clear hi hz0 hz1 hz2
      have blk : ∀ j, j < wr.heap.size → w2.heap[j]? = wr.heap[j]? := fun j hj => (hat.only.block j (by omega) (by omega)).trans (HB1.out.block j hj)
      have HSTART : Aside (PopAt B B g cap g2 w2.heap.size w n 0 n z s d (w2.alloc (.cells (madeCells #[.bool false] n) 4))) := by
        have e : ∀ j, j < wr.heap.size → (w2.alloc (.cells (madeCells #[.bool false] n) 4)).heap[j]? = wr.heap[j]? := fun j hj => (Below.heap_alloc _ _ _ (by omega)).trans (blk j hj)
        have bel : Below B w w2 := HF.out.below.trans ((HB1.out.mono (by omega)).trans (hat.only.below (by omega) (fun k hk => by subst hk; omega)))
        refine ⟨(World.cell?_of_block (e B hlt)).trans HF.out.cell, (World.frozen?_of_block (e B hlt)).trans HF.out.free, holdsK_block (holds_of_owns HF.out.own HF.out.size) (e g hgl), hat.row.of_block (Below.heap_alloc _ _ _ (by omega)), fun id hid => ⟨?_, by simp⟩, by simp; omega, by simp; omega, by simp; omega, by simp, bel.alloc (by omega) _, Pops.start HF.out.heap HF.out.perm hperm⟩
        rw [gone_start HF.out.perm id hid]
        simp [madeCells, hid, Nat.mod_one]
      have HSOR : Aside (SortedIn ltInt 0 n s) := hsort
      have d1 : g ≠ g2 := by omega
      have d2 : B ≠ g2 := by omega
      have d3 : B ≠ w2.heap.size := by omega
      have d4 : g ≠ w2.heap.size := by omega
      have d5 : g2 ≠ w2.heap.size := by omega
      have d6 : B ≤ w2.heap.size := by omega
      clear hperm hsort hat blk HB1 HSO HF hgl hlt
      go_wp2_with fail
      generalize w2.alloc (.cells (madeCells #[.bool false] n) 4) = W3 at HSTART ⊢
      clear hmk
      generalize w2.heap.size = S at *
      clear hs2 hs1
      go_loopw [8] (fun vi wr => ∃ (k L : Nat) (d : Array Iv), vi = .int .i64 k ∧ L + k = n ∧ PopAt B B g cap g2 S w n k L z s d wr) (fun vi _ => n - (intOf vi).toNat)
      case atStart => exact ⟨0, n, d, rfl, rfl, HSTART.out⟩
      case round =>
        clear HSTART
        obtain ⟨k, L, d, rfl, hkL, hP⟩ := hrel
        have HP : Aside (PopAt B B g cap g2 S w n k L z s d wr) := hP
        have cH := hP.cell
        clear hP
        by_cases hL : L = 0
        · have hk' : ¬ (k : Int) < (n : Int) := by omega
          subst hL
          have HBE : Aside (Below B w wr) := HP.out.below
          clear HP
          go_wp2_with fail
          go_ret
          exact ⟨rfl, HBE.out⟩
        · have hk' : (k : Int) < (n : Int) := by omega
          obtain ⟨m, rfl⟩ : ∃ m, L = m + 1 := ⟨L - 1, by omega⟩
          have hkn : k < n := by omega
          have hds : d.size = m + 1 := by have := HP.out.pops.size; omega
          have w1 : IntKind.i64.wrap ((n : Int) - (k : Int)) = (m : Int) + 1 := wrap_small _ (by omega) (by omega) (by omega)
          obtain ⟨a0, a1, a2, a3, a4, -⟩ := cellsA HP.out.row 0 (by omega)
          have htop := HP.out.pops.top HSOR.out hssz hkn
          have hmem := HP.out.pops.mem _ (get_mem d 0 (by omega))
          have hgone := HP.out.pops.gone_top hkn
          obtain ⟨id, hid⟩ : ∃ id, id = d[0]!.1 := ⟨_, rfl⟩
          obtain ⟨y, hy⟩ : ∃ y, y = d[0]!.2 := ⟨_, rfl⟩
          rw [← hid] at a1 a3 hgone hmem
          rw [← hy] at a4 htop hmem
          obtain ⟨hidn, hyz⟩ := hmem
          have HID : Aside (id = d[0]!.1) := hid
          have HTOP : Aside (y = s[k]!) := htop
          have HYZ : Aside (y = z.getD id 0) := hyz
          have HGO : Aside (gone d id = false) := hgone
          clear hid hy htop hyz hgone
          simp only [Nat.zero_mul, Nat.zero_add] at a0 a1 a2 a3 a4
          go_upto_region 18 with fail
          have HP1 : Aside (PopAt B B g cap g2 S w n k (m + 1) z s d (wr.alloc (.cells #[.int .u64 0, .int .u64 id, .int .u64 0, .int .u64 id, .int .i32 y] 47))) := HP.out.alloc (Nat.le_refl _) _
          have b1 : (wr.alloc (.cells #[.int .u64 0, .int .u64 id, .int .u64 0, .int .u64 id, .int .i32 y] 47)).cell? ⟨wr.heap.size, 1, none⟩ = some (.int .u64 id) := by simp
          have b3 : (wr.alloc (.cells #[.int .u64 0, .int .u64 id, .int .u64 0, .int .u64 id, .int .i32 y] 47)).cell? ⟨wr.heap.size, 3, none⟩ = some (.int .u64 id) := by simp
          have b4 : (wr.alloc (.cells #[.int .u64 0, .int .u64 id, .int .u64 0, .int .u64 id, .int .i32 y] 47)).cell? ⟨wr.heap.size, 4, none⟩ = some (.int .i32 y) := by simp
          generalize wr.alloc (.cells #[.int .u64 0, .int .u64 id, .int .u64 0, .int .u64 id, .int .i32 y] 47) = W1 at HP1 b1 b3 b4 ⊢
          generalize wr.heap.size = T at b1 b3 b4 ⊢
          have e1 : W1.cell? ⟨g2, k, none⟩ = some (.int .i32 y) := by
            have := (HP1.out.want k (by omega)).1
            rw [Nat.zero_add] at this
            rw [HTOP.out]; exact this
          have e2 := (HP1.out.seen id hidn).1
          have e3 := (HP1.out.seen id hidn).2
          rw [HGO.out] at e2
          have e4 : W1.cell? ⟨xb, xo + id, none⟩ = some (.int .i32 y) := by rw [HYZ.out]; exact (HP1.out.below.cell hxB).trans (HZ.out id hidn)
          have u1 : IntKind.u64.wrap (n : Int) = (n : Int) := by simp [IntKind.wrap, IntKind.bits, IntKind.signed]; omega
          have u2 : decide ((n : Int) ≤ (id : Int)) = false := decide_eq_false (by omega)
          have u3 : (id : Int) < (n : Int) := by omega
          clear HP cH a0 a1 a2 a3 a4 HTOP HYZ HGO
          go_quiet (fail)
          generalize nq = nqa
          have HP2 : Aside (PopAt B B g cap g2 S w n k (m + 1) z s d (W1.drewN nqa)) := HP1.out.drewN nqa
          go_upto_region 21 with fail
          go_quiet (fail)
          have hP3 := HP2.out.drewN nq
          have e2' : ((W1.drewN nqa).drewN nq).cell? ⟨S, id, none⟩ = some (.bool false) := e2
          have e3' : ((W1.drewN nqa).drewN nq).frozen? ⟨S, id, none⟩ = false := e3
          generalize (W1.drewN nqa).drewN nq = W2 at hP3 e2' e3' ⊢
          have HPOP : Aside (Calls Yba.prog 15 #[.pointer (some ⟨B, 0, none⟩)] (W2.setCell ⟨S, id, none⟩ (.bool true)) fun e w' => e = .returned (.tuple #[]) ∧ PopAt B B g cap g2 S w n (k + 1) m z s (popF d) w') := by
            have := hP3.call HSOR.out hssz hkn hHg d2 d3 d1 d4 d5 (Nat.le_refl _) hgB d6 hcap hn hkL
            rw [← HID.out] at this
            exact this
          clear hP3 HP2 HP1 e1 e2 e3 e4 b1 b3 b4 HID
          go_wp2_with fail
          refine HPOP.out.mono ?_
          rintro e w4 ⟨rfl, hP4⟩
          have HP4 : Aside (PopAt B B g cap g2 S w n (k + 1) m z s (popF d) w4) := hP4
          have c4 := hP4.cell
          have hds4 : (popF d).size = m := by have := hP4.pops.size; omega
          have HCE : Aside (∀ j, j < m → w4.cell? ⟨g, j * 5 + 4, none⟩ = some (.int .i32 (E (popF d) j))) := fun j hj => cellE HP4.out.row j (by omega)
          have HHO : Aside (HeapO (popF d)) := hP4.pops.heap
          clear hP4 HPOP e2' e3'
          generalize popF d = d2' at *
          go_wp2_with fail
          go_loopw [11] (fun vi wx => ∃ (j q : Nat), vi = .int .i64 j ∧ 1 ≤ j ∧ j ≤ n + 1 ∧ wx = w4.drewN q) (fun vi _ => n + 2 - (intOf vi).toNat)
          case atStart => exact ⟨1, 0, by go_num, Nat.le_refl _, by omega, rfl⟩
          case round =>
            obtain ⟨j, q, rfl, hj1, hj2, rfl⟩ := hrel
            have c5 : (w4.drewN q).cell? ⟨B, 0, none⟩ = some (.slice (some ⟨g, 0, none⟩) m cap) := c4
            by_cases him : j < m
            · have him' : (j : Int) < (m : Int) := by omega
              obtain ⟨i, hi⟩ : ∃ i, i = j - 1 := ⟨_, rfl⟩
              obtain ⟨p, hp⟩ : ∃ p, p = i / 2 := ⟨_, rfl⟩
              have hw0 : IntKind.i64.wrap ((j : Int) - 1) = (i : Int) := wrap_small _ (by omega) (by omega) (by omega)
              have hw1 : (i : Int) / 2 = (p : Int) := by omega
              have hw2 : (i : Int).tdiv 2 = (p : Int) := by rw [Int.tdiv_eq_ediv_of_nonneg (by omega)]; exact hw1
              have hpm : (p : Int) < (m : Int) := by omega
              have f1 : w4.cell? ⟨g, j * 5 + 4, none⟩ = some (.int .i32 (E d2' j)) := HCE.out j him
              have f2 : w4.cell? ⟨g, p * 5 + 4, none⟩ = some (.int .i32 (E d2' p)) := HCE.out p (by omega)
              have hle := HHO.out j (by omega) (by omega)
              rw [← hi, ← hp] at hle
              have hnl : decide (E d2' j < E d2' p) = false := decide_eq_false (by omega)
              clear hp hi
              generalize E d2' j = x at f1 hnl hle
              generalize E d2' p = y' at f2 hnl hle
              go_wp2_with fail
              go_quiet (fail)
              go_wp2_with fail
              go_roundw
              case rel => exact ⟨j + 1, q + nq, by go_num, by omega, by omega, by simp [World.drewN]⟩
              case measure => simp [intOf]; omega
            · have him' : ¬ (j : Int) < (m : Int) := by omega
              have HP5 : Aside (PopAt B B g cap g2 S w n (k + 1) m z s d2' (w4.drewN q)) := HP4.out.drewN q
              go_wp2_with fail
              go_roundw
              case rel => exact ⟨k + 1, m, d2', by go_num, by omega, HP5.out⟩
              case measure => simp [intOf]; omega
end Go.Proofs.Ybulkbxxk
