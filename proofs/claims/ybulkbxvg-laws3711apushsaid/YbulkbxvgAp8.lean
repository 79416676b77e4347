/-
  backlog.enqueue on FIFO channels.
-/
import Derived.Test.YbulkbxvgAp7
import Derived.WideLaws
namespace Go.Proofs.Ybulkbxvg
open Go.RowKit
set_option linter.unusedVariables false
attribute [local go_sem] neqMap eqlMap

theorem eqGp (t : TypeId) (x y : Operand) (a : Value) (p : Option Addr) : eqGuard .eql t x y a (.pointer p) = pure () := by cases a <;> rfl
theorem neGp (t : TypeId) (x y : Operand) (a : Value) (p : Option Addr) : eqGuard .neq t x y a (.pointer p) = pure () := by cases a <;> rfl
attribute [local go_sem] eqGp neGp
theorem lenMap {M : Nat} {es : Array MapEntry} {clock : Nat} {w : World} (hb : w.heap[M]? = some (.map es clock)) (ty : TypeId) : (Builtin.len_ #[26] ty #[.map (some M)]).run Yba.prog w = .ok (.int .i64 es.size) w := by
  have h : Yba.prog.underlying 26 = some (.map (Yba.prog.mapKeyOf 26) (Yba.prog.mapElemOf 26)) := by kernel_rfl
  exact run_len_map w 26 ty M es clock h hb
theorem Only.trans2 {l l' : Nat → Nat} {a b c : World} (h : Only (fun x => l x ≠ 0) a b) (k : Only (fun x => l' x ≠ 0) b c) (e : ∀ x, x < a.heap.size → l' x = l x) : Only (fun x => l x ≠ 0) a c :=
  ⟨k.os.trans h.os, k.tape.trans h.tape, k.output.trans h.output, Nat.le_trans h.size k.size, fun i hi hn => (k.block i (Nat.lt_of_lt_of_le hi h.size) (fun x => hn (by rw [← e i hi]; exact x))).trans (h.block i hi hn)⟩
theorem fo_mem (C : Nat → Nat) (j : Nat) : ∀ i, j < i → C j ∈ fo C i
  | 0, h => by omega
  | i + 1, h => by
    rw [fo]
    by_cases e : j = i
    · subst e
      by_cases m : C j ∈ fo C j
      · rw [if_pos m]; exact m
      · rw [if_neg m]; simp
    · have := fo_mem C j i (by omega)
      by_cases m : C i ∈ fo C i
      · rw [if_pos m]; exact this
      · rw [if_neg m]; simp [this]
theorem fo_len (C : Nat → Nat) : ∀ i, (fo C i).length ≤ i
  | 0 => Nat.le_refl _
  | i + 1 => by
    rw [fo]
    have := fo_len C i
    by_cases m : C i ∈ fo C i
    · rw [if_pos m]; omega
    · rw [if_neg m]; simp; omega
theorem ixs_len (C : Nat → Nat) (c : Nat) : ∀ i, (ixs C c i).length ≤ i
  | 0 => Nat.le_refl _
  | i + 1 => by
    rw [ixs]
    have := ixs_len C c i
    by_cases m : C i = c
    · rw [if_pos m]; simp; omega
    · rw [if_neg m]; omega
theorem ixs_not (C : Nat → Nat) (c : Nat) : ∀ i, c ∉ fo C i → ixs C c i = []
  | 0, _ => rfl
  | i + 1, h => by
    have e : C i ≠ c := fun e => h (e ▸ fo_mem C i (i + 1) (by omega))
    rw [ixs, if_neg e]
    refine ixs_not C c i (fun m => h ?_)
    rw [fo]
    by_cases m' : C i ∈ fo C i
    · rw [if_pos m']; exact m
    · rw [if_neg m']; simp [m]

theorem Yba.info39 : (Yba.prog.info? 39).map (fun i => (i.zero, i.size, i.bytes)) = some (some (.pointer none), 1, 8) := by kernel_rfl
set_option maxRecDepth 100000 in
set_option maxHeartbeats 4000000 in
theorem enq (B BB M : Nat) (F T P : Nat → Nat) (w : World) (lab : Nat → Nat) (cnt i : Nat) (vs va : Value) (qb : Nat → Nat) (qv : Nat → Value) (xs : List Value) (es : Array MapEntry) (clock : Nat) (h : FQ B BB M F T P w lab cnt i (fo (chn F T) i) vs va qb qv xs es clock) (hi : i < cnt) (hn : cnt ≤ 1900) (hF : F i < 4) (hT : T i < 4) :
    Calls Yba.prog 8 #[.pointer (some ⟨BB, 0, none⟩), .int .i64 i] w fun e w' => e = .returned (.tuple #[]) ∧ ∃ va' qb' qv' xs' es' clock' lab', FQ B BB M F T P w' lab' cnt (i + 1) (fo (chn F T) (i + 1)) vs va' qb' qv' xs' es' clock' ∧ Only (fun b => lab b ≠ 0) w w' ∧ ∀ b, b < w.heap.size → lab' b = lab b := by
  obtain ⟨i3, hi3, hz30, hz31, hz32⟩ := info_parts Yba.info3
  obtain ⟨i9, hi9, hz90, hz91, hz92⟩ := info_parts Yba.info39
  obtain ⟨g, cap, hvs⟩ := owns_form h.os (by omega)
  subst hvs
  have cells := fun k => cell_at h.bb k
  have c1 : w.cell? ⟨BB, 1, none⟩ = some (.slice (some ⟨g, 0, none⟩) cnt cap) := cells 1
  obtain ⟨s0, s1, s2, s3, s4, s5⟩ := h.sl i hi
  obtain ⟨f, hf⟩ : ∃ f, f = F i := ⟨_, rfl⟩
  obtain ⟨t, ht⟩ : ∃ t, t = T i := ⟨_, rfl⟩
  have t1 : w.cell? ⟨g, i * 6 + 1, none⟩ = some (.int .i64 f) := by rw [h.os.cellAt (i * 6 + 1) (by omega), s1, hf]
  have t2 : w.cell? ⟨g, i * 6 + 2, none⟩ = some (.int .i64 t) := by rw [h.os.cellAt (i * 6 + 2) (by omega), s2, ht]
  have hgl : g < w.heap.size := (owns_lt h.os g rfl).2
  have t1' : ∀ o, (w.alloc o).cell? ⟨g, i * 6 + 1, none⟩ = some (.int .i64 f) := fun o => (World.cell?_of_block (Below.heap_alloc w o g hgl)).trans t1
  have t2' : ∀ o, (w.alloc o).cell? ⟨g, i * 6 + 2, none⟩ = some (.int .i64 t) := fun o => (World.cell?_of_block (Below.heap_alloc w o g hgl)).trans t2
  have HH : Aside (FQ B BB M F T P w lab cnt i (fo (chn F T) i) (.slice (some ⟨g, 0, none⟩) cnt cap) va qb qv xs es clock) := h
  have hf4 : f < 4 := by omega
  have ht4 : t < 4 := by omega
  have Hft : Aside (f = F i ∧ t = T i) := ⟨hf, ht⟩
  obtain ⟨S, hS⟩ : ∃ S, S = w.heap.size := ⟨_, rfl⟩
  have HS : Aside (S = w.heap.size) := hS
  clear hS h cells s0 s1 s2 s3 s4 s5 hf ht hF hT
  go_enter Yba.func8, Yba.ntmps8
  go_upto_region 1 with fail
  go_cut [5] (fun v wx => v = .pointer (some ⟨S, 0, none⟩) ∧ Only (fun _ => False) w wx ∧ wx.heap[S]? = some (.cells #[.int .i64 f, .int .i64 t] 43 (0, 0)))
  case first =>
    go_region
    all_goals
      go_wp2_with fail
      go_meet
      rw [HS.out]
      exact ⟨rfl, ((Only.refl _ w).alloc _).drewN 1, heap_alloc_new w _⟩
  case rest =>
  obtain ⟨rfl, hO, hSb⟩ := hcut
  have hQ : FQ B BB M F T P wc lab cnt i (fo (chn F T) i) (.slice (some ⟨g, 0, none⟩) cnt cap) va qb qv xs es clock := HH.out.keep (fun b hb => hO.block b (HH.out.lt b hb).2 (fun x => x)) hO.size
  have c5 : wc.cell? ⟨BB, 5, none⟩ = some (.map (some M)) := cell_at hQ.bb 5
  have u0 : wc.cell? ⟨S, 0, none⟩ = some (.int .i64 f) := cell_at hSb 0
  have u1 : wc.cell? ⟨S, 1, none⟩ = some (.int .i64 t) := cell_at hSb 1
  obtain ⟨q0, hq0⟩ : ∃ q0, q0 = qOf ((fo (chn F T) i).map fun c => (c / 4, c % 4, qb c)) f t := ⟨_, rfl⟩
  have hlook : (Instr.lookup 26 (.map (some M)) (.agg #[.int .i64 f, .int .i64 t]) false).run Yba.prog wc.drew = .ok q0 wc.drew := by
    rw [hq0]
    exact look_run (w := wc.drew) hQ.mp hQ.en f t
  have HO : Aside (Only (fun _ => False) w wc) := hO
  have HQ : Aside (FQ B BB M F T P wc lab cnt i (fo (chn F T) i) (.slice (some ⟨g, 0, none⟩) cnt cap) va qb qv xs es clock) := hQ
  have HSb : Aside (wc.heap[S]? = some (.cells #[.int .i64 f, .int .i64 t] 43 (0, 0))) := hSb
  have Hq0 : Aside (q0 = qOf ((fo (chn F T) i).map fun c => (c / 4, c % 4, qb c)) f t) := hq0
  clear hO hQ hSb hq0 c1 t1 t2 t1' t2' hgl
  go_upto_region 2 with fail
  rename World => wa
  go_cut [6] (fun v wx => v = q0 ∧ wx.heap = wa.heap ∧ Only (fun _ => False) wa wx)
  case first =>
    go_region
    all_goals
      go_wp2_with fail
      go_meet
      exact ⟨rfl, rfl, (Only.refl _ wa).drewN 1⟩
  case rest =>
  obtain ⟨rfl, hh, hO1⟩ := hcut
  obtain ⟨c, hc⟩ : ∃ c, c = chn F T i := ⟨_, rfl⟩
  have e4 : c / 4 = f ∧ c % 4 = t := by have := Hft.out; rw [hc]; unfold chn; omega
  have hQ : FQ B BB M F T P wc lab cnt i (fo (chn F T) i) (.slice (some ⟨g, 0, none⟩) cnt cap) va qb qv xs es clock := HQ.out.keep (fun b hb => by rw [hh]) (by rw [hh]; omega)
  have hSb : wc.heap[S]? = some (.cells #[.int .i64 f, .int .i64 t] 43 (0, 0)) := by rw [hh]; exact HSb.out
  obtain ⟨b0, hb0, hb1, hb2⟩ : ∃ b0 : Bool, (b0 = true → c ∉ fo (chn F T) i ∧ u6 = .pointer none) ∧ (b0 = false → c ∈ fo (chn F T) i ∧ u6 = qptr (qb c)) ∧ ∀ w, (binOp .eql 39 u6 (.pointer none)).run Yba.prog w = .ok (.bool b0) w := by
    have hq := Hq0.out
    rw [← e4.1, ← e4.2] at hq
    by_cases m : c ∈ fo (chn F T) i
    · rw [qOf_mem qb c _ m] at hq
      refine ⟨false, fun e => by (cases e), fun _ => ⟨m, hq⟩, fun w => ?_⟩
      rw [hq]; unfold qptr; go_simp
    · rw [qOf_not qb c _ m] at hq
      refine ⟨true, fun _ => ⟨m, hq⟩, fun e => by (cases e), fun w => ?_⟩
      rw [hq]; go_simp
  have HO2 : Aside (Only (fun _ => False) w wc) := HO.out.trans hO1
  have HB : Aside ((b0 = true → c ∉ fo (chn F T) i ∧ u6 = .pointer none) ∧ (b0 = false → c ∈ fo (chn F T) i ∧ u6 = qptr (qb c))) := ⟨hb0, hb1⟩
  have HQ2 : Aside (FQ B BB M F T P wc lab cnt i (fo (chn F T) i) (.slice (some ⟨g, 0, none⟩) cnt cap) va qb qv xs es clock) := hQ
  have HSb2 : Aside (wc.heap[S]? = some (.cells #[.int .i64 f, .int .i64 t] 43 (0, 0))) := hSb
  have Hc : Aside (c = chn F T i ∧ c / 4 = f ∧ c % 4 = t) := ⟨hc, e4⟩
  clear hQ hSb hh hO1 hb0 hb1 hc e4 HSb HQ HO Hq0 hlook c5 u0 u1
  go_upto_if 31 with fail
  rename World => wb
  go_cut [6] (fun v wx => ∃ va' qb' qv' es' clock' lab', v = qptr (qb' c) ∧ FQ B BB M F T P wx lab' cnt i (fo (chn F T) (i + 1)) (.slice (some ⟨g, 0, none⟩) cnt cap) va' qb' qv' xs es' clock' ∧ Only (fun b => lab b ≠ 0) wb wx ∧ (∀ b, b < wb.heap.size → lab' b = lab b))
  case first =>
    cases b0 with
    | false =>
      obtain ⟨hm, rfl⟩ := HB.out.2 rfl
      have hfo : fo (chn F T) (i + 1) = fo (chn F T) i := by rw [fo, ← Hc.out.1, if_pos hm]
      have HFO : Aside (fo (chn F T) (i + 1) = fo (chn F T) i) := hfo
      clear hfo hm hb2
      go_wp2_with fail
      go_meet
      rw [HFO.out]
      exact ⟨_, _, _, _, _, _, rfl, HQ2.out, Only.refl _ _, fun _ _ => rfl⟩
    | true =>
      obtain ⟨hm, rfl⟩ := HB.out.1 rfl
      have HFO : Aside (fo (chn F T) (i + 1) = fo (chn F T) i ++ [c]) := by
        show _ = _
        rw [fo, ← Hc.out.1, if_neg hm]
      have Hm : Aside (c ∉ fo (chn F T) i) := hm
      clear hm hb2
      obtain ⟨Q, hQn⟩ : ∃ Q, Q = wb.heap.size := ⟨_, rfl⟩
      obtain ⟨m, hmm⟩ : ∃ m, m = (fo (chn F T) i).length := ⟨_, rfl⟩
      have HM : Aside (m = (fo (chn F T) i).length) := hmm
      have hm9 : m < 1900 := by have := fo_len (chn F T) i; omega
      go_upto_region 5 with fail
      have hA : MQ lab BB M Q wb (wb.alloc (.cells #[.slice none 0 0, .int .i64 0] 45)) (bbCells true (.slice (some ⟨g, 0, none⟩) cnt cap) cnt true (.slice none 0 0) (.map (some M)) m va) es clock #[.slice none 0 0, .int .i64 0] := by
        have h := HQ2.out
        have k1 := (h.lt BB (by rw [h.lb]; omega)).2
        have k2 := (h.lt M (by rw [h.lm]; omega)).2
        refine ⟨(Below.heap_alloc wb _ BB k1).trans (by rw [hmm]; exact h.bb), (Below.heap_alloc wb _ M k2).trans h.mp, by rw [hQn]; exact heap_alloc_new wb _, fun b h1 _ _ => Below.heap_alloc wb _ b (h.lt b h1).2, (Only.refl _ wb).alloc _, hQn, h.lb, h.lm, fun b h1 => (h.lt b h1).2⟩
      rw [← hQn]
      have hSb : (wb.alloc (.cells #[.slice none 0 0, .int .i64 0] 45)).heap[S]? = some (.cells #[.int .i64 f, .int .i64 t] 43 (0, 0)) := (Below.heap_alloc wb _ S (heap_lt HSb2.out)).trans HSb2.out
      obtain ⟨p8, cap8, hva⟩ : ∃ p cap, va = .slice p m cap := by rw [hmm]; exact owns_slice HQ2.out.oa
      subst hva
      generalize (wb.alloc (.cells #[.slice none 0 0, .int .i64 0] 45)) = wA at *
      clear hQn hmm
      have c5 : wA.cell? ⟨BB, 5, none⟩ = some (.map (some M)) := cell_at hA.bb 5
      have u0 : wA.cell? ⟨S, 0, none⟩ = some (.int .i64 f) := cell_at hSb 0
      have u1 : wA.cell? ⟨S, 1, none⟩ = some (.int .i64 t) := cell_at hSb 1
      obtain ⟨es', hes⟩ : ∃ es', es' = es.push { key := chKey (c / 4) (c % 4), val := qptr Q, born := clock } := ⟨_, rfl⟩
      have HES : Aside (es' = es.push { key := chKey (c / 4) (c % 4), val := qptr Q, born := clock }) := hes
      have hupd : (Instr.mapUpdate 26 (.map (some M)) (.agg #[.int .i64 f, .int .i64 t]) (.pointer (some ⟨Q, 0, none⟩))).run Yba.prog wA.drew = .ok () { wA.drew with heap := wA.heap.setIfInBounds M (.map es' (clock + 1)) } := by
        rw [hes, Hc.out.2.1, Hc.out.2.2]
        exact upd_run (w := wA.drew) hA.mp HQ2.out.en f t _ (by rw [← Hc.out.2.1, ← Hc.out.2.2]; exact posOf_not qb c _ 0 Hm.out)
      have hsz : es'.size = m + 1 := by
        rw [hes, Array.size_push, HM.out]
        have := congrArg List.length HQ2.out.en
        simpa using this
      have HA : Aside (MQ lab BB M Q wb wA (bbCells true (.slice (some ⟨g, 0, none⟩) cnt cap) cnt true (.slice none 0 0) (.map (some M)) m (.slice p8 m cap8)) es clock #[.slice none 0 0, .int .i64 0]) := hA
      clear hA hSb hes
      go_cut [] (fun wx => MQ lab BB M Q wb wx (bbCells true (.slice (some ⟨g, 0, none⟩) cnt cap) cnt true (.slice none 0 0) (.map (some M)) m (.slice p8 m cap8)) es' (clock + 1) #[.slice none 0 0, .int .i64 0])
      case first =>
        go_region
        all_goals
          go_wp2_with fail
          go_meet
          exact (HA.out.drew 1).setM es' (clock + 1)
      case rest =>
      clear hupd c5 u0 u1
      have d6 : wc.cell? ⟨BB, 6, none⟩ = some (.int .i64 m) := cell_at hcut.bb 6
      have d5 : wc.cell? ⟨BB, 5, none⟩ = some (.map (some M)) := cell_at hcut.bb 5
      have e6 : wc.frozen? ⟨BB, 6, none⟩ = false := free_at hcut.bb 6
      have hlen : (Builtin.len_ #[26] 3 #[.map (some M)]).run Yba.prog wc.drew = .ok (.int .i64 ((m : Int) + 1)) wc.drew := by
        rw [lenMap (w := wc.drew) hcut.mp 3, hsz]; rfl
      have HC : Aside (MQ lab BB M Q wb wc (bbCells true (.slice (some ⟨g, 0, none⟩) cnt cap) cnt true (.slice none 0 0) (.map (some M)) m (.slice p8 m cap8)) es' (clock + 1) #[.slice none 0 0, .int .i64 0]) := hcut
      clear hcut
      go_upto_region 6 with fail
      rename World => wB
      go_cut [] (fun wx => MQ lab BB M Q wb wx (bbCells true (.slice (some ⟨g, 0, none⟩) cnt cap) cnt true (.slice none 0 0) (.map (some M)) (m + 1) (.slice p8 m cap8)) es' (clock + 1) #[.slice none 0 0, .int .i64 0])
      case first =>
        go_region
        all_goals
          go_wp2_with fail
          go_meet
          exact (HC.out.drew 1).setB 6 (.int .i64 ((m : Int) + 1))
      case rest =>
      clear d6 d5 e6 hlen hsz
      have d0 : wc.cell? ⟨BB, 0, none⟩ = some (.bool true) := cell_at hcut.bb 0
      have d8 : wc.cell? ⟨BB, 8, none⟩ = some (.slice p8 m cap8) := cell_at hcut.bb 8
      have d1 : wc.cell? ⟨Q, 1, none⟩ = some (.int .i64 0) := cell_at hcut.qq 1
      have e1 : wc.frozen? ⟨Q, 1, none⟩ = false := free_at hcut.qq 1
      have HC2 : Aside (MQ lab BB M Q wb (wc.setCell ⟨Q, 1, none⟩ (.int .i64 m)) (bbCells true (.slice (some ⟨g, 0, none⟩) cnt cap) cnt true (.slice none 0 0) (.map (some M)) (m + 1) (.slice p8 m cap8)) es' (clock + 1) #[.slice none 0 0, .int .i64 m]) := hcut.setQ 1 _
      clear hcut
      go_upto_region 9 with fail
      generalize wc.setCell ⟨Q, 1, none⟩ (.int .i64 m) = wC at *
      clear d0 d8 d1 e1
      have d8 : wC.cell? ⟨BB, 8, none⟩ = some (.slice p8 m cap8) := cell_at HC2.out.bb 8
      have e8 : wC.frozen? ⟨BB, 8, none⟩ = false := free_at HC2.out.bb 8
      have hbl := heap_lt HC2.out.bb
      have hBB : B ≤ BB := (HQ2.out.lt BB (by rw [HQ2.out.lb]; omega)).1
      have hrow : wC.ownsRow B 39 1 (.slice p8 m cap8) m ((fo (chn F T) i).map fun c => qptr (qb c)) := by
        have := HQ2.out.oa
        rw [← HM.out] at this
        exact owns_block this (fun b hb => HC2.out.kp b (by rw [HQ2.out.la b hb]; omega) (fun e => by have := HQ2.out.la b hb; rw [e, HQ2.out.lb] at this; omega) (fun e => by have := HQ2.out.la b hb; rw [e, HQ2.out.lm] at this; omega))
      have HROW : Aside (wC.ownsRow B 39 1 (.slice p8 m cap8) m ((fo (chn F T) i).map fun c => qptr (qb c))) := hrow
      have hnb : (Value.slice p8 m cap8).ownBlock ≠ some BB := fun e => by have := HQ2.out.la BB e; rw [HQ2.out.lb] at this; omega
      clear hrow
      have HN : ∀ (o : Obj), (wC.alloc o).heap[wC.heap.size]? = some o := fun o => heap_alloc_new wC o
      have k8 : ∀ o, (wC.alloc o).cell? ⟨BB, 8, none⟩ = some (.slice p8 m cap8) := fun o => (World.cell?_of_block (Below.heap_alloc wC o BB hbl)).trans d8
      have l8 : ∀ o, (wC.alloc o).frozen? ⟨BB, 8, none⟩ = false := fun o => (World.frozen?_of_block (Below.heap_alloc wC o BB hbl)).trans e8
      have HNB : Aside ((Value.slice p8 m cap8).ownBlock ≠ some BB) := hnb
      clear hnb
      go_wp2_with (at_builtin; refine wpList_append_lies _ rfl _ _ 27 rfl B 39 i9 _ 1 8 Yba.underlying27 hi9 hz90 hz91 hz92 rfl (by omega) (.slice p8 m cap8) m ((fo (chn F T) i).map fun c => qptr (qb c)) rfl (HROW.out.alloc _) ⟨wC.heap.size, 0, none⟩ 1 1 [qptr Q] rfl rfl (World.news_of_block (cs := #[qptr Q]) (t := 39) (fr := (0, 0)) (HN _)) (by intro u hu; simp at hu; rw [hu]; rfl) (by omega) (by unfold maxLen; omega) (by omega) (by simp; omega) (wC.heap.size + 1) (by simp) ?_; intro g2 cap2 w1 hown hgrow hat hlt; have hc8 := (hgrow.cell_far ⟨BB, 8, none⟩ (by simp; omega) (Ne.symm HNB.out)).trans (k8 _); have hf8 := (hgrow.frozen_far ⟨BB, 8, none⟩ (by simp; omega) (Ne.symm HNB.out)).trans (l8 _))
      go_meet
      have key := FQ.new HQ2.out Hm.out (ixs_not _ _ _ Hm.out) (fun j hj => fo_mem _ j i hj) (by rw [← HM.out]; omega) (by rw [← HM.out, ← HES.out]; exact HC2.out) _ g2 cap2 w1 (by rw [← HM.out]; exact hown) hgrow hat
      rw [← HM.out, ← HES.out] at key
      rw [HFO.out]
      exact ⟨_, _, _, _, _, _, by rw [upd_same]; rfl, key.1, key.2.1, key.2.2⟩
  case rest =>
  obtain ⟨va', qb', qv', es', clock', lab', rfl, hQ, hO, hlab⟩ := hcut
  obtain ⟨q, hq⟩ : ∃ q, q = qb' c := ⟨_, rfl⟩
  have hcm : c ∈ fo (chn F T) (i + 1) := by rw [Hc.out.1]; exact fo_mem _ i (i + 1) (by omega)
  obtain ⟨m, hm⟩ : ∃ m, m = (ixs (chn F T) c i).length := ⟨_, rfl⟩
  have hm9 : m < 1900 := by have := ixs_len (chn F T) c i; omega
  obtain ⟨p0, cap0, hqv⟩ : ∃ p cap, qv' c = .slice p m cap := by rw [hm]; exact owns_slice (hQ.qs c hcm).2
  have hlq := hQ.lq c hcm
  have hqb := (hQ.qs c hcm).1
  have hqr := (hQ.qs c hcm).2
  rw [← hm, hqv] at hqr
  rw [← hq] at hqb hlq
  have hg3 : lab' g = 3 := hQ.ls g rfl
  have hqg : q ≠ g := fun e => by rw [e, hg3] at hlq; omega
  have d0 : wc.cell? ⟨q, 0, none⟩ = some (.slice p0 m cap0) := by rw [← hqv]; exact cell_at hqb 0
  have e0 : wc.frozen? ⟨q, 0, none⟩ = false := free_at hqb 0
  obtain ⟨y, dy⟩ : ∃ y, wc.cell? ⟨g, i * 6 + 5, none⟩ = some y := by
    have e := hQ.os.cellAt (i * 6 + 5) (by omega)
    exact ⟨xs[i * 6 + 5]'(by rw [hQ.os.1]; omega), e.trans (List.getElem?_eq_getElem _)⟩
  have ey : wc.frozen? ⟨g, i * 6 + 5, none⟩ = false := hQ.os.frozenAt _
  have hql : q < wc.heap.size := heap_lt hqb
  have hgl : g < wc.heap.size := (owns_lt hQ.os g rfl).2
  have hBq : B ≤ q := (hQ.lt q (by rw [hlq.1]; omega)).1
  have HROW : Aside (wc.ownsRow B 3 1 (.slice p0 m cap0) m (ints (ixs (chn F T) c i))) := hqr
  have HNB : Aside ((Value.slice p0 m cap0).ownBlock ≠ some q) := fun e => by rw [← hqv] at e; have := hlq.2 q e; rw [hlq.1] at this; omega
  have HNG : Aside ((Value.slice p0 m cap0).ownBlock ≠ some g) := fun e => by rw [← hqv] at e; have := hlq.2 g e; rw [hg3] at this; omega
  have HQ3 : Aside (FQ B BB M F T P wc lab' cnt i (fo (chn F T) (i + 1)) (.slice (some ⟨g, 0, none⟩) cnt cap) va' qb' qv' xs es' clock') := hQ
  have HO3 : Aside (Only (fun b => lab b ≠ 0) w wc) := (HO2.out.mono (fun _ _ x => x.elim)).trans hO
  have HL : Aside (∀ b, b < wb.heap.size → lab' b = lab b) := hlab
  have Hq : Aside (q = qb' c) := hq
  have Hm : Aside (m = (ixs (chn F T) c i).length) := hm
  have Hqv : Aside (qv' c = .slice p0 m cap0) := hqv
  have Hcm : Aside (c ∈ fo (chn F T) (i + 1)) := hcm
  rw [← hq]
  unfold qptr
  clear hQ hO hlab hq hm hqv hlq hqb hqr hg3 hcm HB hb2
  have HN : ∀ (o : Obj), (wc.alloc o).heap[wc.heap.size]? = some o := fun o => heap_alloc_new wc o
  have k0 : ∀ o, (wc.alloc o).cell? ⟨q, 0, none⟩ = some (.slice p0 m cap0) := fun o => (World.cell?_of_block (Below.heap_alloc wc o q hql)).trans d0
  have l0 : ∀ o, (wc.alloc o).frozen? ⟨q, 0, none⟩ = false := fun o => (World.frozen?_of_block (Below.heap_alloc wc o q hql)).trans e0
  have ky : ∀ o, (wc.alloc o).cell? ⟨g, i * 6 + 5, none⟩ = some y := fun o => (World.cell?_of_block (Below.heap_alloc wc o g hgl)).trans dy
  have ly : ∀ o, (wc.alloc o).frozen? ⟨g, i * 6 + 5, none⟩ = false := fun o => (World.frozen?_of_block (Below.heap_alloc wc o g hgl)).trans ey
  go_wp2_with (at_builtin; refine wpList_append_lies _ rfl _ _ 25 rfl B 3 i3 _ 1 8 Yba.underlying25 hi3 hz30 hz31 hz32 rfl (by omega) (.slice p0 m cap0) m (ints (ixs (chn F T) c i)) rfl (HROW.out.alloc _) ⟨wc.heap.size, 0, none⟩ 1 1 [.int .i64 i] rfl rfl (World.news_of_block (cs := #[.int .i64 i]) (t := 3) (fr := (0, 0)) (HN _)) (by intro u hu; simp at hu; rw [hu]; rfl) (by omega) (by unfold maxLen; omega) (by omega) (by simp; omega) (wc.heap.size + 1) (by simp) ?_; intro g2 cap2 w1 hown hgrow hat hlt; have hc0 := (hgrow.cell_far ⟨q, 0, none⟩ (by simp; omega) (Ne.symm HNB.out)).trans (k0 _); have hf0 := (hgrow.frozen_far ⟨q, 0, none⟩ (by simp; omega) (Ne.symm HNB.out)).trans (l0 _); have hcy := (hgrow.cell_far ⟨g, i * 6 + 5, none⟩ (by simp; omega) (Ne.symm HNG.out)).trans (ky _); have hfy := (hgrow.frozen_far ⟨g, i * 6 + 5, none⟩ (by simp; omega) (Ne.symm HNG.out)).trans (ly _))
  go_end0
  have key := FQ.back HQ3.out Hc.out.1 Hcm.out hi _ g2 cap2 w1 (by rw [← Hm.out]; exact hown) (by rw [Hqv.out]; exact hgrow) (by rw [Hqv.out]; exact hat)
  rw [← Hm.out, ← Hq.out] at key
  have hs := HO2.out.size
  have hs2 := HO3.out.size
  exact ⟨rfl, _, _, _, _, _, _, _, key.1, HO3.out.trans2 key.2.1 (fun b hb => HL.out b (by omega)), fun b hb => (key.2.2 b (by omega)).trans (HL.out b (by omega))⟩
end Go.Proofs.Ybulkbxvg
