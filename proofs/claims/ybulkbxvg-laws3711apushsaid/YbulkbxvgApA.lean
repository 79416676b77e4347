/-
  backlog.push: the law of the states.
-/
import Derived.Test.YbulkbxvgAp9
namespace Go.Proofs.Ybulkbxvg
open Go.RowKit
set_option linter.unusedVariables false

theorem R0.set3 {B BB : Nat} {w : World} {fifo idx : Bool} {cnt : Nat} {vs vp : Value} {n m : Nat} {xs ps : List Value} (h : R0 B BB w fifo idx cnt vs vp n m xs ps) : R0 B BB (w.setCell ⟨BB, 3, none⟩ (.bool true)) fifo true cnt vs vp n m xs ps :=
  ⟨heap_set h.bb 3 _, owns_block h.os (fun b e => heap_set_ne _ _ _ _ _ (fun x => h.d1 (by rw [← x]; exact e))), owns_block h.op (fun b e => heap_set_ne _ _ _ _ _ (fun x => h.d2 (by rw [← x]; exact e))), h.d1, h.d2, h.d3, h.hB⟩

theorem first_ex (F T : Nat → Nat) (k : Nat) : ∃ o, o ≤ k ∧ F o = F k ∧ T o = T k ∧ (∀ j, j < o → ¬ (F j = F k ∧ T j = T k)) := by
  have : ∀ n, ∀ i, k - i ≤ n → i ≤ k → (∀ j, j < i → ¬ (F j = F k ∧ T j = T k)) → ∃ o, o ≤ k ∧ F o = F k ∧ T o = T k ∧ (∀ j, j < o → ¬ (F j = F k ∧ T j = T k)) := by
    intro n
    induction n with
    | zero => intro i h1 h2 h3; have : i = k := by omega
              subst this; exact ⟨i, Nat.le_refl _, rfl, rfl, h3⟩
    | succ n ih =>
      intro i h1 h2 h3
      by_cases e : F i = F k ∧ T i = T k
      · exact ⟨i, h2, e.1, e.2, h3⟩
      · by_cases e2 : i = k
        · subst e2; exact ⟨i, h2, rfl, rfl, h3⟩
        · refine ih (i + 1) (by omega) (by omega) (fun j hj => ?_)
          by_cases e3 : j = i
          · subst e3; exact e
          · exact h3 j (by omega)
  exact this k 0 (by omega) (by omega) (fun j hj => by omega)
theorem fo_of_mem (C : Nat → Nat) (c : Nat) : ∀ k, c ∈ fo C k → ∃ j, j < k ∧ C j = c
  | 0, h => by cases h
  | k + 1, h => by
    rw [fo] at h
    by_cases m : C k ∈ fo C k
    · rw [if_pos m] at h
      obtain ⟨j, h1, h2⟩ := fo_of_mem C c k h
      exact ⟨j, by omega, h2⟩
    · rw [if_neg m] at h
      rcases List.mem_append.1 h with h | h
      · obtain ⟨j, h1, h2⟩ := fo_of_mem C c k h
        exact ⟨j, by omega, h2⟩
      · exact ⟨k, by omega, (List.mem_singleton.1 h).symm⟩
/-- The place that the scan for the oldest tells. -/
theorem first_pf (F T : Nat → Nat) (k o : Nat) (hT : ∀ j, j ≤ k → T j < 4) (hk : k < 32) (ho : o ≤ k) (h1 : F o = F k) (h2 : T o = T k) (h3 : ∀ j, j < o → ¬ (F j = F k ∧ T j = T k)) : pf F T k = if o = k then 0 else 1 := by
  unfold pf
  by_cases e : o = k
  · subst e
    rw [if_pos rfl, if_neg]
    rintro ⟨_, hm⟩
    obtain ⟨j, hj, he⟩ := fo_of_mem _ _ _ hm
    unfold chn at he
    have := hT j (by omega)
    have := hT o (by omega)
    exact h3 j hj (by omega)
  · rw [if_neg e, if_pos]
    refine ⟨hk, ?_⟩
    have := fo_mem (chn F T) o k (by omega)
    unfold chn at this ⊢
    rwa [h1, h2] at this

theorem push_ST (B BB : Nat) (F T : Nat → Nat) (fifo : Bool) (k : Nat) (lab : Nat → Nat) (w : World) (h : ST B BB F T fifo k lab w) (hk : k + 1 ≤ 1900) (hF : ∀ j, j ≤ k → F j < 4) (hT : ∀ j, j ≤ k → T j < 4) :
    Calls Yba.prog 4 #[.pointer (some ⟨BB, 0, none⟩), .agg #[.int .u64 ((k + 1 : Nat) : Int), .int .i64 (F k), .int .i64 (T k), .slice none 0 0]] w fun e w' => e = .returned (.tuple #[]) ∧ Goes lab w (ST B BB F T fifo (k + 1)) w' := by
  rcases h with ⟨hf, hk2, vs, vp, xs, hr, hs, hl⟩ | ⟨hf, hk2, vs, vp, xs, hr, hs, hl⟩ | ⟨hf, hk2, vs, xs, hr, hs, hl⟩ | ⟨hf, hk2, M, vs, va, qb, qv, xs, es, clock, hq⟩
  · -- not FIFO, few
    subst hf
    have pn0 : ∀ j, pn 0 j = 0 := fun j => if_neg (by omega)
    by_cases h32 : k + 1 ≤ 32
    · refine push_B B BB k false false vs vp _ _ _ xs (k + 1) (F k) (T k) w hr.bb hr.os hr.d1 hr.hB (by omega) _ rfl rfl h32 ?_
      intro w1 vs' hp
      obtain ⟨lab', h1, h2, h3, h4⟩ := hp.S0' hr hl
      exact ⟨lab', Or.inl ⟨rfl, h32, vs', vp, _, h1, hs.app (hr.os.1.trans (by omega)) rfl rfl rfl (pn0 k) rfl, h2⟩, h3, h4⟩
    · refine push_C0 B BB k false false vs vp _ _ _ xs (k + 1) (F k) (T k) w hr.bb hr.os hr.d1 hr.hB (by omega) _ (fun j w1 => Goes lab w (S0 B BB F T true (k + 1) j) w1) rfl rfl (by omega) ?_ ?_ ?_
      · intro w1 vs' hp
        obtain ⟨lab', h1, h2, h3, h4⟩ := hp.S0' hr hl
        refine ⟨lab', ⟨vs', vp, _, h1.set3, hs.app (hr.os.1.trans (by omega)) rfl rfl rfl (pn0 k) rfl, h2.lb, h2.ls, h2.la, ?_⟩, h3.setCell (p := ⟨BB, 3, none⟩) (Or.inl (by show lab BB ≠ 0; rw [hl.lb]; omega)) _, h4⟩
        intro b hb
        rw [World.size_setCell]; exact h2.lt b hb
      · intro j w1 hj ⟨l1, hS, hO, hL⟩
        refine (index_S0 B BB F T (k + 1) j l1 w1 hS hj hk).mono ?_
        rintro e w2 ⟨rfl, hg⟩
        exact ⟨rfl, Goes.trans (S := S0 B BB F T true (k + 1) j) hO hL hg⟩
      · rintro w1 ⟨l1, hS, hO, hL⟩
        exact ⟨l1, Or.inr (Or.inl ⟨rfl, by omega, hS⟩), hO, hL⟩
  · -- not FIFO, indexed
    subst hf
    refine push_A B BB k false true vs vp _ _ _ xs (k + 1) (F k) (T k) w hr.bb hr.os hr.d1 hr.hB (by omega) _ rfl ?_
    intro w1 vs' hp
    obtain ⟨lab', h1, h2, h3, h4⟩ := hp.S0' hr hl
    have hS : S0 B BB F T true (k + 1) k lab' w1 := ⟨vs', vp, _, h1, hs.app (hr.os.1.trans (by omega)) rfl rfl rfl (if_neg (by omega)) rfl, h2⟩
    refine (index_S0 B BB F T (k + 1) k lab' w1 hS (by omega) hk).mono ?_
    rintro e w2 ⟨rfl, hg⟩
    obtain ⟨l2, g1, g2, g3⟩ := Goes.trans (S := S0 B BB F T true (k + 1) k) h3 h4 hg
    exact ⟨rfl, l2, Or.inr (Or.inl ⟨rfl, by omega, g1⟩), g2, g3⟩
  · -- FIFO, few
    subst hf
    by_cases h32 : k + 1 ≤ 32
    · obtain ⟨o, ho, o1, o2, o3⟩ := first_ex F T k
      have hpf := first_pf F T k o hT (by omega) ho o1 o2 o3
      refine push_D B BB k true false vs _ _ _ _ xs (k + 1) (F k) (T k) w hr.bb hr.os hr.d1 hr.hB (by omega) _ o rfl rfl h32 ?_ ?_ ?_
      · intro w1 vs' hp
        obtain ⟨g, cap, rfl⟩ := owns_form hp.os (by omega)
        have hsl : Slots (xs ++ encS (k + 1) (F k) (T k)) (k + 1) F T (fun j => if j = k then 0 else pf F T j) (fun _ => .pointer none) := (hs.same (P' := fun j => if j = k then 0 else pf F T j) (fun j hj => if_neg (by omega)) (fun _ _ => rfl)).app (hr.os.1.trans (by omega)) rfl rfl rfl (if_pos rfl) rfl
        exact oldest_walk BB g cap (k + 1) o (F k) (T k) F T w1 (cell_at hp.bb 3) (cell_at hp.bb 1) (fun j hj => (hp.os.cellAt (j * 6 + 1) (by omega)).trans (hsl j hj).2.1) (fun j hj => (hp.os.cellAt (j * 6 + 2) (by omega)).trans (hsl j hj).2.2.1) (by omega) (by omega) o1 o2 o3
      · intro e w1 vs' hp
        obtain ⟨lab', h1, h2, h3, h4⟩ := hp.S0' hr hl
        exact ⟨lab', Or.inr (Or.inr (Or.inl ⟨rfl, h32, vs', _, h1, hs.app (hr.os.1.trans (by omega)) rfl rfl rfl (by rw [hpf, if_pos e]) rfl, h2⟩)), h3, h4⟩
      · intro e w1 g cap hp
        obtain ⟨lab', h1, h2, h3, h4⟩ := hp.S0' hr hl
        have hg : lab' g = 3 := h2.ls g rfl
        have hsl : Slots (xs ++ encS (k + 1) (F k) (T k)) (k + 1) F T (fun j => if j = k then 0 else pf F T j) (fun _ => .pointer none) := (hs.same (P' := fun j => if j = k then 0 else pf F T j) (fun j hj => if_neg (by omega)) (fun _ _ => rfl)).app (hr.os.1.trans (by omega)) rfl rfl rfl (if_pos rfl) rfl
        refine ⟨lab', Or.inr (Or.inr (Or.inl ⟨rfl, h32, _, (xs ++ encS (k + 1) (F k) (T k)).set (k * 6 + 4) (.int .i64 (1 : Nat)), ⟨(heap_set_ne _ _ _ _ _ (fun x => h1.d1 (by rw [x]; rfl))).trans h1.bb, owns_set h1.os (k * 6 + 4) _ (by omega), ⟨rfl, Or.inl ⟨rfl, rfl⟩⟩, h1.d1, h1.d2, h1.d3, h1.hB⟩, (hsl.setP (h1.os.1.trans (by omega)) (by omega) 1).same (fun j hj => ?_) (fun _ _ => rfl), h2.lb, h2.ls, h2.la, fun b hb => by rw [World.size_setCell]; exact h2.lt b hb⟩)), h3.setCell (p := ⟨g, k * 6 + 4, none⟩) ?_ _, h4⟩
        · by_cases e2 : j = k
          · subst e2; rw [upd_same, hpf, if_neg e]
          · rw [upd_ne _ _ _ e2]; exact (if_neg e2).symm
        · by_cases e3 : g < w.heap.size
          · left
            show lab g ≠ 0
            rw [← h4 g e3, hg]; omega
          · right; show w.heap.size ≤ g; omega
    · refine push_C1 B BB k true false vs _ _ _ _ xs (k + 1) (F k) (T k) w hr.bb hr.os hr.d1 hr.hB (by omega) _ (fun j w1 => Goes lab w (S2 B BB F T (k + 1) j) w1) rfl rfl (by omega) ?_ ?_ ?_
      · intro w1 vs' hp
        obtain ⟨lab', h1, h2, h3, h4⟩ := hp.S0' hr hl
        have hB3 : ∀ b, b ≠ BB → b < w1.heap.size → (((w1.setCell ⟨BB, 3, none⟩ (.bool true)).alloc (.map #[] 0)).setCell ⟨BB, 5, none⟩ (.map (some w1.heap.size))).heap[b]? = w1.heap[b]? := by
          intro b e e2
          rw [heap_set_ne _ _ _ _ _ e, Below.heap_alloc _ _ b (by rw [World.size_setCell]; exact e2), heap_set_ne _ _ _ _ _ e]
        have hBl := (h2.lt BB (by rw [h2.lb]; omega)).2
        have hlM : ∀ b, lab' b ≠ 0 → upd lab' w1.heap.size 2 b = lab' b := fun b hb => upd_ne _ _ _ (by have := (h2.lt b hb).2; omega)
        refine ⟨upd lab' w1.heap.size 2, ⟨w1.heap.size, vs', .slice none 0 0, fun _ => 0, fun _ => .slice none 0 0, _, #[], 0, ⟨?_, owns_block hp.os (fun b e => hB3 b (fun x => hp.ne (by rw [← x]; exact e)) (owns_lt hp.os b e).2), hs.app (hr.os.1.trans (by omega)) rfl rfl rfl ?_ rfl, ?_, rfl, ⟨rfl, Or.inl ⟨rfl, rfl⟩⟩, fun c hc => by (cases hc), ?_, upd_same _ _ _, ?_, fun g e => by (cases e), fun c hc => by (cases hc), ?_, List.nodup_nil, by simp [fo]⟩⟩, ?_, ?_⟩
        · refine heap_set (?_ : ((w1.setCell ⟨BB, 3, none⟩ (.bool true)).alloc (.map #[] 0)).heap[BB]? = some (.cells (bbCells true vs' (k + 1) true (.slice none 0 0) (.map none) 0 (.slice none 0 0)) 29 (0, 0))) 5 _
          rw [Below.heap_alloc _ _ BB (by rw [World.size_setCell]; exact hBl)]
          exact heap_set hp.bb 3 _
        · unfold pf; rw [if_neg (by omega)]
        · rw [heap_set_ne _ _ _ _ _ (by show w1.heap.size ≠ BB; omega)]
          have := heap_alloc_new (w1.setCell ⟨BB, 3, none⟩ (.bool true)) (.map #[] 0)
          rwa [World.size_setCell] at this
        · rw [hlM BB (by rw [h2.lb]; omega)]; exact h2.lb
        · intro g e; rw [hlM g (by rw [h2.ls g e]; omega)]; exact h2.ls g e
        · intro b hb
          have hsz : (((w1.setCell ⟨BB, 3, none⟩ (.bool true)).alloc (.map #[] 0)).setCell ⟨BB, 5, none⟩ (.map (some w1.heap.size))).heap.size = w1.heap.size + 1 := by
            rw [World.size_setCell]; simp
          rw [hsz]
          by_cases e : b = w1.heap.size
          · subst e; exact ⟨by have := hr.hB; omega, by omega⟩
          · rw [upd_ne _ _ _ e] at hb
            have := h2.lt b hb
            omega
        · have hb0 : lab BB ≠ 0 := by rw [hl.lb]; omega
          exact ((h3.setCell (p := ⟨BB, 3, none⟩) (Or.inl hb0) _).alloc _).setCell (p := ⟨BB, 5, none⟩) (Or.inl hb0) _
        · intro b hb
          rw [upd_ne _ _ _ (by have := h3.size; omega)]; exact h4 b hb
      · intro j w1 hj ⟨l1, ⟨M, vs1, va, qb, qv, xs1, es, clock, hQ⟩, hO, hL⟩
        refine (index_f B BB M F T (pf F T) w1 l1 (k + 1) j vs1 va qb qv xs1 es clock hQ hj hk (hF j (by omega)) (hT j (by omega))).mono ?_
        rintro e w2 ⟨rfl, va', qb', qv', xs', es', clock', l2, hQ2, hO2, hL2⟩
        exact ⟨rfl, Goes.trans (S := S2 B BB F T (k + 1) j) hO hL ⟨l2, ⟨M, vs1, va', qb', qv', xs', es', clock', hQ2⟩, hO2, hL2⟩⟩
      · rintro w1 ⟨l1, hS, hO, hL⟩
        exact ⟨l1, Or.inr (Or.inr (Or.inr ⟨rfl, by omega, hS⟩)), hO, hL⟩
  · -- FIFO, indexed
    subst hf
    have d1 : vs.ownBlock ≠ some BB := fun e => by have := hq.ls BB e; rw [hq.lb] at this; omega
    refine push_A B BB k true true vs _ _ _ va xs (k + 1) (F k) (T k) w hq.bb hq.os d1 (hq.lt BB (by rw [hq.lb]; omega)).1 (by omega) _ rfl ?_
    intro w1 vs' hp
    obtain ⟨lab', h1, h2, h3, h4, h5, h6⟩ := hp.labels hq.lb hq.ls hq.lt
    have hlk : ∀ b n, lab b = n → n ≠ 0 → lab' b = n := fun b n e hn => by rw [h3 b (by omega)]; exact e
    have hQ1 : FQ B BB M F T (pf F T) w1 lab' (k + 1) k (fo (chn F T) k) vs' va qb qv (xs ++ encS (k + 1) (F k) (T k)) es clock := by
      refine ⟨hp.bb, hp.os, hq.sl.app (hq.os.1.trans (by omega)) rfl rfl rfl (by unfold pf; rw [if_neg (by omega)]) (if_neg (by omega)), (h6 M (by rw [hq.lm]; omega) (by rw [hq.lm]; omega) (by rw [hq.lm]; omega)).trans hq.mp, hq.en, owns_block hq.oa (fun b e => h6 b (by rw [hq.la b e]; omega) (by rw [hq.la b e]; omega) (by rw [hq.la b e]; omega)), ?_, hlk _ _ hq.lb (by omega), hlk _ _ hq.lm (by omega), h2, fun g e => hlk _ _ (hq.la g e) (by omega), fun c hc => ⟨hlk _ _ (hq.lq c hc).1 (by omega), fun g e => hlk _ _ ((hq.lq c hc).2 g e) (by omega)⟩, h4, hq.nd, hq.sm⟩
      intro c hc
      have hl := hq.lq c hc
      exact ⟨(h6 (qb c) (by rw [hl.1]; omega) (by rw [hl.1]; omega) (by rw [hl.1]; omega)).trans (hq.qs c hc).1, owns_block (hq.qs c hc).2 (fun b e => h6 b (by rw [hl.2 b e]; omega) (by rw [hl.2 b e]; omega) (by rw [hl.2 b e]; omega))⟩
    refine (index_f B BB M F T (pf F T) w1 lab' (k + 1) k vs' va qb qv _ es clock hQ1 (by omega) hk (hF k (by omega)) (hT k (by omega))).mono ?_
    rintro e w2 ⟨rfl, va', qb', qv', xs', es', clock', l2, hQ2, hO2, hL2⟩
    obtain ⟨l3, g1, g2, g3⟩ := Goes.trans (S := S2 B BB F T (k + 1) k) (S' := S2 B BB F T (k + 1) (k + 1)) h5 h1 ⟨l2, ⟨M, vs', va', qb', qv', xs', es', clock', hQ2⟩, hO2, hL2⟩
    exact ⟨rfl, l3, Or.inr (Or.inr (Or.inr ⟨rfl, by omega, g1⟩)), g2, g3⟩
end Go.Proofs.Ybulkbxvg
