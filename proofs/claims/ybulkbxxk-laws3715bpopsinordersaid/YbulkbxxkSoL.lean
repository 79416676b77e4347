/-
  slices.Sort at []int32: pdqsortOrdered, by the rounds' plain laws (Go.Sort.round_eq, round_part).
-/
import Derived.Test.YbulkbxxkSoG
import Derived.Test.YbulkbxxkSoH
import Derived.Test.YbulkbxxkSoK
namespace Go.Proofs.Ybulkbxxk
open Go.RowKit Go.Sort
set_option linter.unusedVariables false

theorem At.drewN {b : Nat} {w w' : World} {d : Array Int} (h : At b w w' d) (n : Nat) : At b w (w'.drewN n) d := ⟨h.only.drewN n, h.row⟩
theorem peq_at (b cap a B p N : Nat) (d : Array Int) (w : World) (h : Row32 w b d) (hN : d.size = N) (hB : B ≤ N) (hm : N ≤ 1024) (ha : a ≤ p) (hp : p < B) :
    Calls Yba.prog 48 #[.slice (some ⟨b, 0, none⟩) N cap, .int .i64 a, .int .i64 B, .int .i64 p] w fun e w' => e = .returned (.int .i64 (partitionEqual ltInt d a B p).1) ∧ At b w w' (partitionEqual ltInt d a B p).2 := by
  have := peq_rw b cap a B p N 0 d d w h hN hN hB hm ha hp
  rw [← RW.self h] at this
  refine this.mono ?_
  rintro e w' ⟨he, n, rfl, hs⟩
  exact ⟨he, RW.at h (hs.trans hN.symm) n⟩
theorem part_at (b cap a B p N : Nat) (d : Array Int) (w : World) (h : Row32 w b d) (hN : d.size = N) (hB : B ≤ N) (hm : N ≤ 1024) (ha : a ≤ p) (hp : p < B) :
    Calls Yba.prog 49 #[.slice (some ⟨b, 0, none⟩) N cap, .int .i64 a, .int .i64 B, .int .i64 p] w fun e w' => e = .returned (.tuple #[.int .i64 (partition ltInt d a B p).1, .bool (partition ltInt d a B p).2.1]) ∧ At b w w' (partition ltInt d a B p).2.2 := by
  have := part_rw b cap a B p N 0 d d w h hN hN hB hm ha hp
  rw [← RW.self h] at this
  refine this.mono ?_
  rintro e w' ⟨he, n, rfl, hs⟩
  exact ⟨he, RW.at h (hs.trans hN.symm) n⟩
theorem pins_at (b cap a B N : Nat) (d : Array Int) (w : World) (h : Row32 w b d) (hN : d.size = N) (hB : B ≤ N) (hm : N ≤ 1024) (ha : a < B) :
    Calls Yba.prog 46 #[.slice (some ⟨b, 0, none⟩) N cap, .int .i64 a, .int .i64 B] w fun e w' => e = .returned (.bool (partialInsertionSort ltInt d a B).2) ∧ At b w w' (partialInsertionSort ltInt d a B).1 := by
  have := pins_rw b cap a B N 0 d d w h hN hN hB hm ha
  rw [← RW.self h] at this
  refine this.mono ?_
  rintro e w' ⟨he, n, rfl, hs⟩
  exact ⟨he, RW.at h (hs.trans hN.symm) n⟩

/-- Where a call that began at (a, B, d) stands: what is left to sort is [a1, B1) of dk. -/
structure Left (N a B : Nat) (d : Array Int) (a1 B1 : Nat) (dk : Array Int) : Prop where
  le : a1 ≤ B1
  leB : B1 ≤ N
  less : B1 - a1 ≤ B - a
  size : dk.size = N
  below : Go.Sort.Below ltInt a1 B1 dk
  cont : ∀ R, PermIn a1 B1 dk R → SortedIn ltInt a1 B1 R → PermIn a B d R ∧ SortedIn ltInt a B R
theorem Left.perm {N a B : Nat} {d : Array Int} {a1 B1 : Nat} {dk d2 : Array Int} (h : Left N a B d a1 B1 dk) (hp : PermIn a1 B1 dk d2) : Left N a B d a1 B1 d2 :=
  ⟨h.le, h.leB, h.less, hp.1.trans h.size, h.below.perm (by rw [h.size]; exact h.leB) hp, fun R hR hs => h.cont R (permIn_trans _ _ _ _ _ hp hR) hs⟩
theorem Left.eq {N a B : Nat} {d : Array Int} {a1 B1 p : Nat} {dk : Array Int} (h : Left N a B d a1 B1 dk) (h0 : 0 < a1) (h1 : a1 ≤ p) (h2 : p < B1) (hl : ¬ dk[a1 - 1]! < dk[p]!) :
    a1 < (partitionEqual ltInt dk a1 B1 p).1 ∧ Left N a B d (partitionEqual ltInt dk a1 B1 p).1 B1 (partitionEqual ltInt dk a1 B1 p).2 := by
  rcases hx : partitionEqual ltInt dk a1 B1 p with ⟨mid, d4⟩
  obtain ⟨k1, k2, k3, k4, k5⟩ := round_eq swo_ltInt (partitionEqual_holds _) h0 h1 h2 (by rw [h.size]; exact h.leB) h.below (by simp [ltInt, hl]) hx
  have hless := h.less
  show a1 < mid ∧ Left N a B d mid B1 d4
  exact ⟨k1, k2, h.leB, by omega, k3.trans h.size, k4, fun R hR hs => h.cont R (k5 R hR hs).1 (k5 R hR hs).2⟩
theorem Left.part {N a B : Nat} {d : Array Int} {a1 B1 p : Nat} {dk d4 : Array Int} {mid : Nat} {ap : Bool} (h : Left N a B d a1 B1 dk) (h1 : a1 ≤ p) (h2 : p < B1) (hx : partition ltInt dk a1 B1 p = (mid, ap, d4)) :
    a1 ≤ mid ∧ mid < B1 ∧ d4.size = N ∧ Go.Sort.Below ltInt a1 mid d4 ∧ Go.Sort.Below ltInt (mid + 1) B1 d4 ∧
    (∀ L, PermIn a1 mid d4 L → SortedIn ltInt a1 mid L → Left N a B d (mid + 1) B1 L) ∧ (∀ L, PermIn (mid + 1) B1 d4 L → SortedIn ltInt (mid + 1) B1 L → Left N a B d a1 mid L) := by
  obtain ⟨k1, k2, k3, k4, k5, k6, k7⟩ := round_part swo_ltInt (partition_holds _) h1 h2 (by rw [h.size]; exact h.leB) h.below hx
  have hless := h.less
  have hleB := h.leB
  refine ⟨k1, k2, k3.trans h.size, k4, k5, fun L hL hs => ?_, fun L hL hs => ?_⟩
  · obtain ⟨m1, m2⟩ := k6 L hL hs
    exact ⟨by omega, hleB, by omega, (hL.1.trans k3).trans h.size, m1, fun R hR hs => h.cont R (m2 R hR hs).1 (m2 R hR hs).2⟩
  · obtain ⟨m1, m2⟩ := k7 L hL hs
    exact ⟨by omega, by omega, by omega, (hL.1.trans k3).trans h.size, m1, fun R hR hs => h.cont R (m2 R hR hs).1 (m2 R hR hs).2⟩

/-- What a call of pdqsortOrdered does. -/
def Sorts (b cap N a B lim : Nat) (d : Array Int) (w : World) : Prop :=
  Calls Yba.prog 29 #[.slice (some ⟨b, 0, none⟩) N cap, .int .i64 a, .int .i64 B, .int .i64 lim] w fun e w' => e = .returned (.tuple #[]) ∧ ∃ d', PermIn a B d d' ∧ SortedIn ltInt a B d' ∧ At b w w' d'

set_option maxRecDepth 100000 in
set_option maxHeartbeats 16000000 in
theorem pdq_step (b cap N a B lim0 : Nat) (d : Array Int) (w : World) (hm : N ≤ 1024) (hab : a ≤ B) (hBN : B ≤ N) (hl0 : lim0 ≤ 100) (h : Row32 w b d) (hN : d.size = N) (hBe : Go.Sort.Below ltInt a B d)
    (ih : ∀ a' B' lim' d' w', a' ≤ B' → B' ≤ N → B' - a' < B - a → lim' ≤ 100 → Row32 w' b d' → d'.size = N → Go.Sort.Below ltInt a' B' d' → Sorts b cap N a' B' lim' d' w') : Sorts b cap N a B lim0 d w := by
  have IH : Aside (∀ (a' B' lim' : Nat) (d' : Array Int) (w' : World) (va vB : Int), va = a' → vB = B' → a' ≤ B' → B' ≤ N → B' - a' < B - a → lim' ≤ 100 → Row32 w' b d' → d'.size = N → Go.Sort.Below ltInt a' B' d' →
      Calls Yba.prog 29 #[.slice (some ⟨b, 0, none⟩) N cap, .int .i64 va, .int .i64 vB, .int .i64 lim'] w' fun e w'' => e = .returned (.tuple #[]) ∧ ∃ d'', PermIn a' B' d' d'' ∧ SortedIn ltInt a' B' d'' ∧ At b w' w'' d'') :=
    fun a' B' lim' d' w' va vB e1 e2 h1 h2 h3 h4 h5 h6 h7 => by subst e1 e2; exact ih a' B' lim' d' w' h1 h2 h3 h4 h5 h6 h7
  have HL0 : Aside (Left N a B d a B d) := ⟨hab, hBN, Nat.le_refl _, hN, hBe, fun R hR hs => ⟨hR, hs⟩⟩
  have HA0 : Aside (At b w w d) := At.refl h
  unfold Sorts
  clear ih h hBe
  go_enter Yba.func29, Yba.ntmps29
  go_wp2_with fail
  go_loopw [1, 2, 3, 8, 9] (fun va vB vl vb vp wr => ∃ (a1 B1 lim : Nat) (wb wp : Bool) (dk : Array Int), va = .int .i64 a1 ∧ vB = .int .i64 B1 ∧ vl = .int .i64 lim ∧ vb = .bool wb ∧ vp = .bool wp ∧ lim ≤ 100 ∧ Left N a B d a1 B1 dk ∧ At b w wr dk) (fun va vB _ _ _ _ => (intOf vB - intOf va).toNat)
  case atStart => exact ⟨a, B, lim0, true, true, d, rfl, rfl, rfl, rfl, rfl, hl0, HL0.out, HA0.out⟩
  case round =>
    obtain ⟨a1, B1, lim, wb, wp, dk, rfl, rfl, rfl, rfl, rfl, hlim, hL, hA⟩ := hrel
    have HL : Aside (Left N a B d a1 B1 dk) := hL
    have HA : Aside (At b w wr dk) := hA
    have hle := hL.le
    have hleB := hL.leB
    have hs := hL.size
    have hless := hL.less
    clear hL hA HL0 HA0
    obtain ⟨l, hl⟩ : ∃ l, l = B1 - a1 := ⟨_, rfl⟩
    have w1 : IntKind.i64.wrap ((B1 : Int) - (a1 : Int)) = (l : Int) := wrap_small _ (by omega) (by omega) (by omega)
    have hla : a1 + l = B1 := by omega
    clear hl
    by_cases h12 : l ≤ 12
    · have h12' : (l : Int) ≤ 12 := by omega
      go_wp2_with fail
      refine (ins_at b cap a1 B1 N dk wr HA.out.row hs hleB hm hle).mono ?_
      rintro e w2 ⟨rfl, hA2⟩
      have hh := insertionSort_holds swo_ltInt dk a1 B1 hle (by omega)
      have HC : Aside (∃ d', PermIn a B d d' ∧ SortedIn ltInt a B d' ∧ At b w w2 d') := ⟨_, (HL.out.cont _ hh.1 hh.2).1, (HL.out.cont _ hh.1 hh.2).2, HA.out.trans hA2⟩
      clear hh hA2
      go_wp2_with fail
      refine bodyPost_ret (results_none rfl _ _ _) rfl ?_
      exact ⟨rfl, HC.out⟩
    · have h12' : ¬ (l : Int) ≤ 12 := by omega
      have ha12 : a1 + 12 < B1 := by omega
      by_cases hlz : lim = 0
      · have hlz' : (lim : Int) = 0 := by omega
        go_wp2_with fail
        refine (heap_walk b cap a1 B1 N dk wr HA.out.row hs hleB hm (by omega)).mono ?_
        rintro e w2 ⟨rfl, hA2⟩
        have hh := heapSort_holds (lt := ltInt) swo_ltInt dk a1 B1 hle (by omega)
        have HC : Aside (∃ d', PermIn a B d d' ∧ SortedIn ltInt a B d' ∧ At b w w2 d') := ⟨_, (HL.out.cont _ hh.1 hh.2).1, (HL.out.cont _ hh.1 hh.2).2, HA.out.trans hA2⟩
        clear hh hA2
        go_wp2_with fail
        refine bodyPost_ret (results_none rfl _ _ _) rfl ?_
        exact ⟨rfl, HC.out⟩
      · have hlz' : ¬ (lim : Int) = 0 := by omega
        go_upto_if 35 with fail
        go_cut [3] (fun v wx => ∃ (lim2 : Nat) (d1 : Array Int), v = .int .i64 lim2 ∧ lim2 ≤ 100 ∧ Left N a B d a1 B1 d1 ∧ At b w wx d1)
        case first =>
          cases wb with
          | true =>
            go_wp2_with fail
            go_meet
            exact ⟨lim, dk, rfl, hlim, HL.out, HA.out⟩
          | false =>
            have w2 : IntKind.i64.wrap ((lim : Int) - 1) = (lim : Int) - 1 := wrap_small _ rfl (by omega) (by omega)
            go_wp2_with fail
            refine (break_walk b cap a1 B1 N dk _ HA.out.row hs hleB hm ha12).mono ?_
            rintro e w2 ⟨rfl, d1, hp1, hA2⟩
            have HC : Aside (Left N a B d a1 B1 d1 ∧ At b w w2 d1) := ⟨HL.out.perm hp1, HA.out.trans hA2⟩
            clear hp1 hA2
            go_wp2_with fail
            go_meet
            exact ⟨lim - 1, d1, by go_num, by omega, HC.out.1, HC.out.2⟩
        case rest =>
        obtain ⟨lim2, d1, rfl, hlim2, hL1, hA1⟩ := hcut
        have HL1 : Aside (Left N a B d a1 B1 d1) := hL1
        have HA1 : Aside (At b w wc d1) := hA1
        have hs1 := hL1.size
        clear hL1 hA1 HL HA hs hlz hlz' hlim
        -- the pivot
        go_wp2_with fail
        refine (pivot_walk b cap a1 B1 N d1 _ HA1.out.row hs1 hleB hm ha12).mono ?_
        rintro e w2 ⟨p, t, rfl, hp1, hp2, ht, hA2⟩
        have HA2 : Aside (At b w w2 d1) := HA1.out.trans hA2
        clear hA2 HA1
        -- a falling row is turned round
        go_upto_if 50 with fail
        go_cut [11, 12] (fun v11 v12 wx => ∃ (p2 t2 : Nat) (d2 : Array Int), v11 = .int .i64 p2 ∧ v12 = .int .i64 t2 ∧ a1 ≤ p2 ∧ p2 < B1 ∧ Left N a B d a1 B1 d2 ∧ At b w wx d2)
        case first =>
          by_cases h2 : t = 2
          · subst h2
            obtain ⟨p2, hp2'⟩ : ∃ p2, p2 = B1 - 1 - (p - a1) := ⟨_, rfl⟩
            have w2' : IntKind.i64.wrap ((B1 : Int) - 1) = (B1 : Int) - 1 := wrap_small _ rfl (by omega) (by omega)
            have w3 : IntKind.i64.wrap ((p : Int) - (a1 : Int)) = (p : Int) - (a1 : Int) := wrap_small _ rfl (by omega) (by omega)
            have w4 : IntKind.i64.wrap ((B1 : Int) - 1 - ((p : Int) - (a1 : Int))) = (p2 : Int) := wrap_small _ (by omega) (by omega) (by omega)
            have hq1 : a1 ≤ p2 := by omega
            have hq2 : p2 < B1 := by omega
            clear hp2'
            go_wp2_with fail
            refine (rev_walk b cap a1 B1 N d1 _ HA2.out.row hs1 hleB hm (by omega)).mono ?_
            rintro e w3 ⟨rfl, hA3⟩
            have hh := reverseRange_holds d1 a1 B1 hle (by omega)
            have HC : Aside (Left N a B d a1 B1 (reverseRange d1 a1 B1) ∧ At b w w3 (reverseRange d1 a1 B1)) := ⟨HL1.out.perm hh, HA2.out.trans hA3⟩
            clear hh hA3
            go_wp2_with fail
            go_meet
            exact ⟨p2, 1, _, rfl, rfl, hq1, hq2, HC.out.1, HC.out.2⟩
          · have h2' : ¬ (t : Int) = 2 := by omega
            go_wp2_with fail
            go_meet
            exact ⟨p, t, d1, rfl, rfl, hp1, hp2, HL1.out, HA2.out⟩
        case rest =>
        obtain ⟨p2, t2, d2, rfl, rfl, hq1, hq2, hL2, hA2⟩ := hcut
        have HL2 : Aside (Left N a B d a1 B1 d2) := hL2
        have HA3 : Aside (At b w wc d2) := hA2
        have hs2 := hL2.size
        clear hL2 hA2 HL1 HA2 hs1 hp1 hp2 ht
        -- perhaps it is nearly sorted
        go_upto_region 15 with fail
        go_cut [68] (fun v wx => (∃ c : Bool, v = .bool c) ∧ wx = wc)
        case first =>
          cases wb with
          | false =>
            go_wp2_with fail
            go_meet
            exact ⟨⟨_, rfl⟩, rfl⟩
          | true =>
            cases wp with
            | false =>
              go_wp2_with fail
              go_meet
              exact ⟨⟨_, rfl⟩, rfl⟩
            | true =>
              go_wp2_with fail
              go_meet
              exact ⟨⟨_, rfl⟩, rfl⟩
        case rest =>
        obtain ⟨⟨c, rfl⟩, rfl⟩ := hcut
        go_upto_if 68 with fail
        go_cut [] (fun wx => ∃ (d3 : Array Int), Left N a B d a1 B1 d3 ∧ At b w wx d3)
        case first =>
          cases c with
          | false =>
            go_wp2_with fail
            go_meet
            exact ⟨d2, HL2.out, HA3.out⟩
          | true =>
            go_wp2_with fail
            refine (pins_at b cap a1 B1 N d2 _ HA3.out.row hs2 hleB hm (by omega)).mono ?_
            rintro e w3 ⟨rfl, hA4⟩
            have hh := partialInsertionSort_holds (lt := ltInt) swo_ltInt d2 a1 B1 (by omega) (by omega) HL2.out.below
            have HC : Aside (Left N a B d a1 B1 (partialInsertionSort ltInt d2 a1 B1).1 ∧ At b w w3 (partialInsertionSort ltInt d2 a1 B1).1) := ⟨HL2.out.perm hh.1, HA3.out.trans hA4⟩
            have HS : Aside ((partialInsertionSort ltInt d2 a1 B1).2 = true → SortedIn ltInt a1 B1 (partialInsertionSort ltInt d2 a1 B1).1) := hh.2
            clear hh hA4
            rcases hpi : partialInsertionSort ltInt d2 a1 B1 with ⟨d3, r⟩
            rw [hpi] at HC HS
            have HC' : Aside (Left N a B d a1 B1 d3 ∧ At b w w3 d3) := HC.out
            have HS' : Aside (r = true → SortedIn ltInt a1 B1 d3) := HS.out
            clear HC HS hpi
            cases r with
            | false =>
              go_wp2_with fail
              go_meet
              exact ⟨d3, HC'.out.1, HC'.out.2⟩
            | true =>
              have hc := HC'.out.1.cont d3 (permIn_refl _ _ _) (HS'.out rfl)
              have HD : Aside (∃ d', PermIn a B d d' ∧ SortedIn ltInt a B d' ∧ At b w w3 d') := ⟨d3, hc.1, hc.2, HC'.out.2⟩
              clear hc
              go_wp2_with fail
              refine bodyPost_ret (results_none rfl _ _ _) rfl ?_
              exact ⟨rfl, HD.out⟩
        case rest =>
        obtain ⟨d3, hL3, hA3⟩ := hcut
        have HL3 : Aside (Left N a B d a1 B1 d3) := hL3
        have HA4 : Aside (At b w wc d3) := hA3
        have hs3 := hL3.size
        clear hL3 hA3 HL2 HA3 hs2
        -- the element to the left
        go_upto_region 17 with fail
        go_cut [87] (fun v wx => ∃ c : Bool, v = .bool c ∧ (c = true → 0 < a1 ∧ ¬ d3[a1 - 1]! < d3[p2]!) ∧ At b w wx d3)
        case first =>
          have hcell : ∀ j, j < N → wc.cell? ⟨b, j, none⟩ = some (.int .i32 d3[j]!) := fun j hj => by
            have := (HA4.out.row j (by omega)).1
            rw [Nat.zero_add] at this
            exact this
          by_cases hz : a1 = 0
          · have hda : decide (0 < (a1 : Int)) = false := decide_eq_false (by omega)
            have hdaN : decide (0 < a1) = false := decide_eq_false (by omega)
            clear hcell hz
            go_wp2_with fail
            go_quiet ((go_at_call 47; exact Calls.quiet_of_same (less32 _ _ _)))
            go_wp2_with fail
            go_meet
            exact ⟨false, rfl, fun h => by simp at h, HA4.out.drewN _⟩
          · have hda : decide (0 < (a1 : Int)) = true := decide_eq_true (by omega)
            have hdaN : decide (0 < a1) = true := decide_eq_true (by omega)
            obtain ⟨k, hk⟩ : ∃ k, k = a1 - 1 := ⟨_, rfl⟩
            have w6 : IntKind.i64.wrap ((a1 : Int) - 1) = (k : Int) := wrap_small _ (by omega) (by omega) (by omega)
            have hkN : k < N := by omega
            have hpN : p2 < N := by omega
            have c1 := hcell k hkN
            have c2 := hcell p2 hpN
            by_cases hl : d3[k]! < d3[p2]!
            · have hdb : decide (d3[k]! < d3[p2]!) = true := decide_eq_true hl
              have hdc : decide (d3[p2]! ≤ d3[k]!) = false := decide_eq_false (by omega)
              clear hcell hk
              generalize d3[k]! = x at c1 hdb hdc hl
              generalize d3[p2]! = y at c2 hdb hdc hl
              go_wp2_with fail
              go_quiet ((go_at_call 47; exact Calls.quiet_of_same (less32 _ _ _)))
              go_wp2_with fail
              go_meet
              exact ⟨false, by simp, fun h => by simp at h, HA4.out.drewN _⟩
            · have hdb : decide (d3[k]! < d3[p2]!) = false := decide_eq_false hl
              have hdc : decide (d3[p2]! ≤ d3[k]!) = true := decide_eq_true (by omega)
              have HW : Aside (0 < a1 ∧ ¬ d3[a1 - 1]! < d3[p2]!) := ⟨by omega, by rw [← hk]; exact hl⟩
              clear hcell hk
              generalize d3[k]! = x at c1 hdb hdc hl
              generalize d3[p2]! = y at c2 hdb hdc hl
              go_wp2_with fail
              go_quiet ((go_at_call 47; exact Calls.quiet_of_same (less32 _ _ _)))
              go_wp2_with fail
              go_meet
              exact ⟨true, by simp, fun _ => HW.out, HA4.out.drewN _⟩
        case rest =>
        obtain ⟨c, rfl, hc, hA⟩ := hcut
        have HA5 : Aside (At b w wc d3) := hA
        have HCC : Aside (c = true → 0 < a1 ∧ ¬ d3[a1 - 1]! < d3[p2]!) := hc
        clear hc hA HA4
        cases c with
        | true =>
          have hh := HL3.out.eq (HCC.out rfl).1 hq1 hq2 (HCC.out rfl).2
          have HK : Aside (a1 < (partitionEqual ltInt d3 a1 B1 p2).1 ∧ Left N a B d (partitionEqual ltInt d3 a1 B1 p2).1 B1 (partitionEqual ltInt d3 a1 B1 p2).2) := hh
          clear hh HCC
          go_wp2_with fail
          refine (peq_at b cap a1 B1 p2 N d3 _ HA5.out.row hs3 hleB hm hq1 hq2).mono ?_
          rintro e w3 ⟨rfl, hA6⟩
          have HA6 : Aside (At b w w3 (partitionEqual ltInt d3 a1 B1 p2).2) := HA5.out.trans hA6
          clear hA6
          rcases hx : partitionEqual ltInt d3 a1 B1 p2 with ⟨mid, d4⟩
          rw [hx] at HK HA6
          have HK' : Aside (a1 < mid ∧ Left N a B d mid B1 d4) := HK.out
          have HA6' : Aside (At b w w3 d4) := HA6.out
          clear HK HA6 hx
          have g1 := HK'.out.1
          have g2 := HK'.out.2.le
          go_wp2_with fail
          go_roundw
          case rel => exact ⟨mid, B1, lim2, wb, wp, d4, rfl, rfl, rfl, rfl, rfl, hlim2, HK'.out.2, HA6'.out⟩
          case measure => simp [intOf]; omega
        | false =>
          clear HCC
          go_wp2_with fail
          refine (part_at b cap a1 B1 p2 N d3 _ HA5.out.row hs3 hleB hm hq1 hq2).mono ?_
          rintro e w3 ⟨rfl, hA6⟩
          have HA6 : Aside (At b w w3 (partition ltInt d3 a1 B1 p2).2.2) := HA5.out.trans hA6
          clear hA6
          rcases hx : partition ltInt d3 a1 B1 p2 with ⟨mid, ap, d4⟩
          rw [hx] at HA6
          have HA6' : Aside (At b w w3 d4) := HA6.out
          have hh := HL3.out.part hq1 hq2 hx
          obtain ⟨g1, g2, hs4, hb1, hb2, hleft, hright⟩ := hh
          have HB1 : Aside (Go.Sort.Below ltInt a1 mid d4) := hb1
          have HB2 : Aside (Go.Sort.Below ltInt (mid + 1) B1 d4) := hb2
          have HLe : Aside (∀ L, PermIn a1 mid d4 L → SortedIn ltInt a1 mid L → Left N a B d (mid + 1) B1 L) := hleft
          have HRi : Aside (∀ L, PermIn (mid + 1) B1 d4 L → SortedIn ltInt (mid + 1) B1 L → Left N a B d a1 mid L) := hright
          clear HA6 hx hb1 hb2 hleft hright HL3 HA5
          have w7 : IntKind.i64.wrap ((mid : Int) - (a1 : Int)) = (mid : Int) - (a1 : Int) := wrap_small _ rfl (by omega) (by omega)
          have w8 : IntKind.i64.wrap ((B1 : Int) - (mid : Int)) = (B1 : Int) - (mid : Int) := wrap_small _ rfl (by omega) (by omega)
          by_cases hlr : mid - a1 < B1 - mid
          · have hlr' : (mid : Int) - (a1 : Int) < (B1 : Int) - (mid : Int) := by omega
            go_wp2_with fail
            refine (IH.out a1 mid lim2 d4 _ _ _ rfl rfl g1 (by omega) (by omega) hlim2 HA6'.out.row hs4 HB1.out).mono ?_
            rintro e w4 ⟨rfl, d5, hp5, hs5, hA7⟩
            have HF : Aside (Left N a B d (mid + 1) B1 d5 ∧ At b w w4 d5) := ⟨HLe.out d5 hp5 hs5, HA6'.out.trans hA7⟩
            clear hp5 hs5 hA7
            go_wp2_with fail
            go_roundw
            case rel => exact ⟨mid + 1, B1, lim2, _, ap, d5, by go_num, rfl, rfl, rfl, rfl, hlim2, HF.out.1, HF.out.2⟩
            case measure => simp [intOf]; omega
          · have hlr' : ¬ (mid : Int) - (a1 : Int) < (B1 : Int) - (mid : Int) := by omega
            go_wp2_with fail
            refine (IH.out (mid + 1) B1 lim2 d4 _ _ _ (by first | rfl | omega) rfl (by omega) hleB (by omega) hlim2 HA6'.out.row hs4 HB2.out).mono ?_
            rintro e w4 ⟨rfl, d5, hp5, hs5, hA7⟩
            have HF : Aside (Left N a B d a1 mid d5 ∧ At b w w4 d5) := ⟨HRi.out d5 hp5 hs5, HA6'.out.trans hA7⟩
            clear hp5 hs5 hA7
            go_wp2_with fail
            go_roundw
            case rel => exact ⟨a1, mid, lim2, _, ap, d5, rfl, rfl, rfl, rfl, rfl, hlim2, HF.out.1, HF.out.2⟩
            case measure => simp [intOf]; omega

theorem pdq_walk (b cap N : Nat) (hm : N ≤ 1024) : ∀ (k a B lim : Nat) (d : Array Int) (w : World), a ≤ B → B ≤ N → B - a < k → lim ≤ 100 → Row32 w b d → d.size = N → Go.Sort.Below ltInt a B d → Sorts b cap N a B lim d w
  | 0, _, _, _, _, _, _, _, h, _, _, _, _ => by omega
  | k + 1, a, B, lim, d, w, h1, h2, h3, h4, h5, h6, h7 =>
    pdq_step b cap N a B lim d w hm h1 h2 h4 h5 h6 h7 (fun a' B' lim' d' w' k1 k2 k3 k4 k5 k6 k7 => pdq_walk b cap N hm k a' B' lim' d' w' k1 k2 (by omega) k4 k5 k6 k7)
end Go.Proofs.Ybulkbxxk
