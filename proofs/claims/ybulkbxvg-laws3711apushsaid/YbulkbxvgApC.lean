/-
  The law.
-/
import Derived.Test.YbulkbxvgApQ
import Derived.Laws.MakeOwn
namespace Go.Proofs.Ybulkbxvg
open Go.RowKit
set_option linter.unusedVariables false
attribute [local go_sem] neqMap eqlMap eqGp neGp

def opF (A : Nat → Nat) (n0 k : Nat) : Nat := if n0 = 0 then 0 else A (k % n0) % 4

def mk0 (n : Nat) : Obj := .cells (madeCells #[.int .i64 0] n) 3
def seen0 : Array Value := #[.int .i64 0, .int .i64 0, .int .i64 0, .int .i64 0, .int .i64 0, .int .i64 0, .int .i64 0, .int .i64 0, .int .i64 0, .int .i64 0, .int .i64 0, .int .i64 0, .int .i64 0, .int .i64 0, .int .i64 0, .int .i64 0]
theorem seen0_get (j : Nat) (h : j < 16) : seen0[j]? = some (.int .i64 0) := by
  match j, h with
  | 0, _ | 1, _ | 2, _ | 3, _ | 4, _ | 5, _ | 6, _ | 7, _ | 8, _ | 9, _ | 10, _ | 11, _ | 12, _ | 13, _ | 14, _ | 15, _ => rfl
  | j + 16, h => exact absurd h (by omega)
/-- The start of the law's first loop. -/
theorem law_start (w : World) (n : Nat) (fifo : Bool) (F T : Nat → Nat) (B : Nat) (hB : B = w.heap.size) (W : World) (hW : W = (((((w.alloc (.cells (bbCells fifo (.slice none 0 0) 0 false (.slice none 0 0) (.map none) 0 (.slice none 0 0)) 29)).alloc (.cells seen0 30)).alloc (mk0 n)).alloc (mk0 n)).alloc (mk0 n)).alloc (mk0 n)) :
    LW B B (B + 1) (B + 2) (B + 3) (B + 4) (B + 5) n F T fifo w 0 (.slice none 0 0) (upd (fun _ => 0) B 1) W := by
  have sz : W.heap.size = B + 6 := by rw [hW, hB]; simp
  have g0 : W.heap[B]? = some (.cells (bbCells fifo (.slice none 0 0) 0 false (.slice none 0 0) (.map none) 0 (.slice none 0 0)) 29 (0, 0)) := by
    rw [hW, Below.heap_alloc _ _ _ (by simp; omega), Below.heap_alloc _ _ _ (by simp; omega), Below.heap_alloc _ _ _ (by simp; omega), Below.heap_alloc _ _ _ (by simp; omega), Below.heap_alloc _ _ _ (by simp; omega), hB]
    exact heap_alloc_new w _
  have g1 : W.heap[B + 1]? = some (.cells seen0 30 (0, 0)) := by
    rw [hW, Below.heap_alloc _ _ _ (by simp; omega), Below.heap_alloc _ _ _ (by simp; omega), Below.heap_alloc _ _ _ (by simp; omega), Below.heap_alloc _ _ _ (by simp; omega), hB]
    have := heap_alloc_new (w.alloc (.cells (bbCells fifo (.slice none 0 0) 0 false (.slice none 0 0) (.map none) 0 (.slice none 0 0)) 29)) (.cells seen0 30)
    rwa [World.size_alloc] at this
  have g2 : W.heap[B + 2]? = some (mk0 n) := by
    rw [hW, Below.heap_alloc _ _ _ (by simp; omega), Below.heap_alloc _ _ _ (by simp; omega), Below.heap_alloc _ _ _ (by simp; omega), hB]
    have := heap_alloc_new ((w.alloc (.cells (bbCells fifo (.slice none 0 0) 0 false (.slice none 0 0) (.map none) 0 (.slice none 0 0)) 29)).alloc (.cells seen0 30)) (mk0 n)
    rwa [World.size_alloc, World.size_alloc] at this
  have g3 : W.heap[B + 3]? = some (mk0 n) := by
    rw [hW, Below.heap_alloc _ _ _ (by simp; omega), Below.heap_alloc _ _ _ (by simp; omega), hB]
    have := heap_alloc_new (((w.alloc (.cells (bbCells fifo (.slice none 0 0) 0 false (.slice none 0 0) (.map none) 0 (.slice none 0 0)) 29)).alloc (.cells seen0 30)).alloc (mk0 n)) (mk0 n)
    rwa [World.size_alloc, World.size_alloc, World.size_alloc] at this
  have g4 : W.heap[B + 4]? = some (mk0 n) := by
    rw [hW, Below.heap_alloc _ _ _ (by simp; omega), hB]
    have := heap_alloc_new ((((w.alloc (.cells (bbCells fifo (.slice none 0 0) 0 false (.slice none 0 0) (.map none) 0 (.slice none 0 0)) 29)).alloc (.cells seen0 30)).alloc (mk0 n)).alloc (mk0 n)) (mk0 n)
    rwa [World.size_alloc, World.size_alloc, World.size_alloc, World.size_alloc] at this
  have g5 : W.heap[B + 5]? = some (mk0 n) := by
    rw [hW, hB]
    have := heap_alloc_new (((((w.alloc (.cells (bbCells fifo (.slice none 0 0) 0 false (.slice none 0 0) (.map none) 0 (.slice none 0 0)) 29)).alloc (.cells seen0 30)).alloc (mk0 n)).alloc (mk0 n)).alloc (mk0 n)) (mk0 n)
    rwa [World.size_alloc, World.size_alloc, World.size_alloc, World.size_alloc, World.size_alloc] at this
  have rn : ∀ b f, W.heap[b]? = some (mk0 n) → RowN W b n f 0 := fun b f h => ⟨_, _, h, size_madeCells _ _, fun j hj => by omega⟩
  have hz : ∀ b, b ≠ B → upd (fun _ => 0) B 1 b = 0 := fun b hb => upd_ne _ _ _ hb
  have hnil : ∀ e sz, W.ownsRow B e sz (.slice none 0 0) 0 [] := fun e sz => ⟨by simp, Or.inl ⟨rfl, rfl⟩⟩
  have hR : ∀ f, f = fifo → R0 B B W f false 0 (.slice none 0 0) (.slice none 0 0) 0 0 [] [] := fun f hf => ⟨by rw [hf]; exact g0, hnil _ _, hnil _ _, by (intro e; cases e), by (intro e; cases e), by (intro g e; cases e), Nat.le_refl _⟩
  have hL : LB B B W (upd (fun _ => 0) B 1) (.slice none 0 0) (.slice none 0 0) := by
    refine ⟨upd_same _ _ _, by (intro g e; cases e), by (intro g e; cases e), fun b hb => ?_⟩
    by_cases e : b = B
    · subst e; omega
    · exact absurd (hz b e) hb
  refine ⟨?_, ⟨?_, rn _ _ g2, rn _ _ g3, rn _ _ g4, rn _ _ g5, hnil _ _, ?_, ?_, ?_⟩, ?_⟩
  · cases fifo with
    | false => exact Or.inl ⟨rfl, by omega, _, _, _, hR false rfl, fun j hj => by omega, hL⟩
    | true => exact Or.inr (Or.inr (Or.inl ⟨rfl, by omega, _, _, hR true rfl, fun j hj => by omega, hL⟩))
  · exact ⟨_, _, g1, rfl, fun j hj => seen0_get j hj⟩
  · rintro b hb; exact hz b (by omega)
  · intro g e; cases e
  · rintro b hb; omega
  · rw [hW, hB]
    exact ((((((Below.refl _ _).alloc (Nat.le_refl _) _).alloc (by simp) _).alloc (by simp; omega) _).alloc (by simp; omega) _).alloc (by simp; omega) _).alloc (by simp; omega) _

set_option maxRecDepth 100000 in
set_option maxHeartbeats 8000000 in
theorem law_main (po : Option Addr) (n0 cap0 ex : Nat) (fifo : Bool) (A D : Nat → Nat) (w : World) (hn0 : n0 ≤ 1024) (hex : ex < 256)
    (hops : n0 = 0 ∨ ∃ b off, po = some ⟨b, off, none⟩ ∧ b < w.heap.size ∧ ∀ i, i < n0 → A i < 256 ∧ D i < 256 ∧ w.cell? ⟨b, off + i * 2, none⟩ = some (.int .u8 (A i)) ∧ w.cell? ⟨b, off + i * 2 + 1, none⟩ = some (.int .u8 (D i))) :
    Calls Yba.prog 3 #[.slice po n0 cap0, .int .u8 ex, .bool fifo] w fun e w' => e = .returned (.bool true) ∧ Below w.heap.size w w' := by
  obtain ⟨i0, hi, hz0, hz1, hz2⟩ := info_parts Yba.info3
  have hi3 := hi
  have h1024 : ¬ (1024 : Int) < n0 := by omega
  obtain ⟨n, hn⟩ : ∃ n, n = n0 + ex % 64 := ⟨_, rfl⟩
  have hw3 : IntKind.i64.wrap ((n0 : Int) + ((ex : Int) % 64)) = (n : Int) := wrap_small _ (by omega) (by omega) (by omega)
  have hn9 : n ≤ 1100 := by omega
  have HNN : Aside (n = n0 + ex % 64) := hn
  have hmk := fun (w : World) => run_make (P := Yba.prog) w 25 3 i0 (.int .i64 0) Yba.underlying25 hi hz0 .i64 .i64 (n : Int) (n : Int) (by omega) (by omega) (by rw [hz2]; omega) (by omega)
  rw [hz1] at hmk
  have HOPS : Aside (n0 = 0 ∨ ∃ b off, po = some ⟨b, off, none⟩ ∧ b < w.heap.size ∧ ∀ i, i < n0 → A i < 256 ∧ D i < 256 ∧ w.cell? ⟨b, off + i * 2, none⟩ = some (.int .u8 (A i)) ∧ w.cell? ⟨b, off + i * 2 + 1, none⟩ = some (.int .u8 (D i))) := hops
  clear hops hn
  go_enter Yba.func3, Yba.ntmps3
  go_upto_block 0 with fail
  obtain ⟨F, hF⟩ : ∃ F, F = opF A n0 := ⟨_, rfl⟩
  obtain ⟨T, hT⟩ : ∃ T, T = opF D n0 := ⟨_, rfl⟩
  have hF4 : ∀ j, F j < 4 := fun j => by rw [hF]; unfold opF; split <;> omega
  have hT4 : ∀ j, T j < 4 := fun j => by rw [hT]; unfold opF; split <;> omega
  obtain ⟨W, hW⟩ : ∃ W, W = (((((w.alloc (.cells #[.bool fifo, .slice none 0 0, .int .i64 0, .bool false, .slice none 0 0, .map none, .int .i64 0, .bool false, .slice none 0 0] 29)).alloc (.cells #[.int .i64 0, .int .i64 0, .int .i64 0, .int .i64 0, .int .i64 0, .int .i64 0, .int .i64 0, .int .i64 0, .int .i64 0, .int .i64 0, .int .i64 0, .int .i64 0, .int .i64 0, .int .i64 0, .int .i64 0, .int .i64 0] 30)).alloc (.cells (madeCells #[.int .i64 0] n) 3)).alloc (.cells (madeCells #[.int .i64 0] n) 3)).alloc (.cells (madeCells #[.int .i64 0] n) 3)).alloc (.cells (madeCells #[.int .i64 0] n) 3) := ⟨_, rfl⟩
  rw [← hW]
  obtain ⟨TO, hTO⟩ : ∃ x, x = w.heap.size + 1 + 1 + 1 + 1 + 1 := ⟨_, rfl⟩
  rw [← hTO]
  obtain ⟨FR, hFR⟩ : ∃ x, x = w.heap.size + 1 + 1 + 1 + 1 := ⟨_, rfl⟩
  rw [← hFR]
  obtain ⟨CH, hCH⟩ : ∃ x, x = w.heap.size + 1 + 1 + 1 := ⟨_, rfl⟩
  rw [← hCH]
  obtain ⟨PL, hPL⟩ : ∃ x, x = w.heap.size + 1 + 1 := ⟨_, rfl⟩
  rw [← hPL]
  obtain ⟨SN, hSN⟩ : ∃ x, x = w.heap.size + 1 := ⟨_, rfl⟩
  rw [← hSN]
  obtain ⟨B, hB⟩ : ∃ x, x = w.heap.size := ⟨_, rfl⟩
  rw [← hB]
  have HST : Aside (LW B B SN PL CH FR TO n F T fifo w 0 (.slice none 0 0) (upd (fun _ => 0) B 1) W) := by
    have := law_start w n fifo F T B hB W hW
    show LW B B SN PL CH FR TO n F T fifo w 0 (.slice none 0 0) (upd (fun _ => 0) B 1) W
    rw [hSN, hPL, hCH, hFR, hTO, ← hB]; exact this
  have HD : Aside (SN ≠ PL ∧ SN ≠ CH ∧ SN ≠ FR ∧ SN ≠ TO ∧ PL ≠ CH ∧ PL ≠ FR ∧ PL ≠ TO ∧ CH ≠ FR ∧ CH ≠ TO ∧ FR ≠ TO) := by
    show _ ∧ _
    omega
  have HB : Aside (B = w.heap.size) := hB
  have HFT : Aside (F = opF A n0 ∧ T = opF D n0) := ⟨hF, hT⟩
  have HF4 : Aside (∀ j, F j < 4) := hF4
  have HT4 : Aside (∀ j, T j < 4) := hT4
  have HC16 : Aside (∀ j, chn F T j < 16) := fun j => by have := hF4 j; have := hT4 j; unfold chn; omega
  clear hW hTO hFR hCH hPL hSN hB hF hT hF4 hT4 hmk hw3
  go_cut [10] (fun vf wx => ∃ lab, LW B B SN PL CH FR TO n F T fifo w n vf lab wx)
  case first =>
    as_aux_lemma =>
    go_wp2_with fail
    go_loopw [15, 10] (fun vk vf wr => ∃ (k : Nat) (lab : Nat → Nat), vk = .int .i64 k ∧ k ≤ n ∧ LW B B SN PL CH FR TO n F T fifo w k vf lab wr) (fun vk _ _ => n - (intOf vk).toNat)
    case atStart => exact ⟨0, _, rfl, by omega, HST.out⟩
    case round =>
      as_aux_lemma =>
      obtain ⟨k, lab, rfl, hkn, hL⟩ := hrel
      have HL : Aside (LW B B SN PL CH FR TO n F T fifo w k u10 lab wr) := hL
      clear hL HST
      by_cases hk : k < n
      · have hk' : (k : Int) < (n : Int) := by omega
        obtain ⟨f, hf⟩ : ∃ f, f = F k := ⟨_, rfl⟩
        obtain ⟨t, ht⟩ : ∃ t, t = T k := ⟨_, rfl⟩
        have Hft : Aside (f = F k ∧ t = T k) := ⟨hf, ht⟩
        have hf4 : f < 4 := by have := HF4.out k; omega
        have ht4 : t < 4 := by have := HT4.out k; omega
        clear hf ht
        go_upto_if 63 with fail
        go_cut [16, 17] (fun v16 v17 wx => v16 = .int .i64 f ∧ v17 = .int .i64 t ∧ Only (fun _ => False) wr wx)
        case first =>
          as_aux_lemma =>
          rcases HOPS.out with h0 | ⟨b, off, hpo, hb, hops⟩
          · subst h0
            have e1 : f = 0 := by rw [Hft.out.1, HFT.out.1]; rfl
            have e2 : t = 0 := by rw [Hft.out.2, HFT.out.2]; rfl
            subst e1 e2
            go_wp2_with fail
            go_meet
            exact ⟨rfl, rfl, Only.refl _ _⟩
          · subst hpo
            by_cases h0 : n0 = 0
            · subst h0
              have e1 : f = 0 := by rw [Hft.out.1, HFT.out.1]; rfl
              have e2 : t = 0 := by rw [Hft.out.2, HFT.out.2]; rfl
              subst e1 e2
              clear hops
              go_wp2_with fail
              go_meet
              exact ⟨rfl, rfl, Only.refl _ _⟩
            · have h0' : (0 : Int) < n0 := by omega
              obtain ⟨m, hm⟩ : ∃ m, m = k % n0 := ⟨_, rfl⟩
              have hmn : m < n0 := by rw [hm]; exact Nat.mod_lt _ (by omega)
              have hrem : (k : Int).tmod (n0 : Int) = (m : Int) := by rw [hm]; rfl
              have hrem2 : (k : Int) % (n0 : Int) = (m : Int) := by rw [hm]; rfl
              obtain ⟨ha, hd, hca, hcd⟩ := hops m hmn
              obtain ⟨a, hae⟩ : ∃ a, a = A m := ⟨_, rfl⟩
              obtain ⟨d, hde⟩ : ∃ d, d = D m := ⟨_, rfl⟩
              rw [← hae] at ha hca
              rw [← hde] at hd hcd
              have hca' : wr.cell? ⟨b, off + m * 2, none⟩ = some (.int .u8 a) := (HL.out.be.cell (by rw [HB.out]; exact hb)).trans hca
              have hcd' : wr.cell? ⟨b, off + m * 2 + 1, none⟩ = some (.int .u8 d) := (HL.out.be.cell (by rw [HB.out]; exact hb)).trans hcd
              have Hf : Aside (f = a % 4 ∧ t = d % 4) := by
                rw [hae, hde, Hft.out.1, Hft.out.2, HFT.out.1, HFT.out.2, hm]
                exact ⟨if_neg h0, if_neg h0⟩
              clear hca hcd hae hde hm hops
              go_wp2_with fail
              go_meet
              refine ⟨?_, ?_, (Only.refl _ wr).alloc _⟩
              · rw [Hf.out.1]; rfl
              · rw [Hf.out.2]; rfl
        case rest =>
        obtain ⟨rfl, rfl, hO⟩ := hcut
        have HL2 : Aside (LW B B SN PL CH FR TO n F T fifo w k u10 lab wc) := HL.out.keep hO
        clear hO
        obtain ⟨c, hc⟩ : ∃ c, c = f * 4 + t := ⟨_, rfl⟩
        have hc16 : c < 16 := by omega
        have Hc : Aside (c = chn F T k) := by
          show c = chn F T k
          rw [hc, Hft.out.1, Hft.out.2]; rfl
        have x1 : IntKind.i64.wrap ((f : Int) * 4) = (f : Int) * 4 := wrap_small _ rfl (by omega) (by omega)
        have x2 : IntKind.i64.wrap ((f : Int) * 4 + (t : Int)) = (c : Int) := wrap_small _ (by omega) (by omega) (by omega)
        go_upto_region 19 with fail
        rename World => wb
        go_cut [19] (fun v wx => v = .int .i64 c ∧ wx = wb)
        case first =>
          as_aux_lemma =>
          go_wp2_with fail
          go_meet
          exact ⟨by rw [show (c : Int) = (f : Int) * 4 + (t : Int) by omega], rfl⟩
        case rest =>
        obtain ⟨rfl, rfl⟩ := hcut
        clear x1 x2 hc HL
        obtain ⟨s, hs⟩ : ∃ s, s = sc F T k c := ⟨_, rfl⟩
        obtain ⟨p, hp⟩ : ∃ p, p = plc F T fifo k := ⟨_, rfl⟩
        have hsm : s ≤ 1100 := by rw [hs]; unfold sc; have := ixs_len (chn F T) c k; omega
        have Hs : Aside (s = sc F T k c) := hs
        have Hp : Aside (p = plc F T fifo k) := hp
        have HP1 : Aside (fifo = true → k < 32 → 0 < s → p = 1) := by
          intro h1 h2 h3
          rw [hp, h1]
          unfold plc pf
          have h4 : chn F T k ∈ fo (chn F T) k := by
            rw [← Hc.out, mem_sc, ← hs]; exact h3
          rw [if_pos rfl, if_pos ⟨h2, h4⟩]
        have HP0 : Aside (fifo = false ∨ ¬ k < 32 ∨ s = 0 → p = 0) := by
          intro h1
          rw [hp]
          unfold plc pf
          cases fifo with
          | false => rfl
          | true =>
            rw [if_pos rfl, if_neg]
            rintro ⟨h2, h3⟩
            rw [← Hc.out, mem_sc, ← hs] at h3
            rcases h1 with x | x | x
            · cases x
            · exact x h2
            · omega
        have hcs : wc.cell? ⟨SN, c, none⟩ = some (.int .i64 s) := by rw [hs]; exact HL2.out.lr.sn.get hc16
        clear hs hp
        go_upto_region 21 with fail
        rename World => wb
        go_cut [93] (fun v wx => wx = wb ∧ ((v = .bool true ∧ p = 1) ∨ (v = .bool false ∧ p = 0)))
        case first =>
          as_aux_lemma =>
          cases fifo with
          | false =>
            go_wp2_with fail
            go_meet
            exact ⟨rfl, Or.inr ⟨rfl, HP0.out (Or.inl (by trivial))⟩⟩
          | true =>
            by_cases h2 : k < 32
            · have h2' : (k : Int) < 32 := by omega
              by_cases h3 : 0 < s
              · have h3' : (0 : Int) < s := by omega
                go_wp2_with fail
                go_meet
                exact ⟨rfl, Or.inl ⟨rfl, HP1.out (by trivial) h2 h3⟩⟩
              · have h3' : ¬ (0 : Int) < s := by omega
                go_wp2_with fail
                go_meet
                exact ⟨rfl, Or.inr ⟨rfl, HP0.out (Or.inr (Or.inr (by omega)))⟩⟩
            · have h2' : ¬ (k : Int) < 32 := by omega
              go_wp2_with fail
              go_meet
              exact ⟨rfl, Or.inr ⟨rfl, HP0.out (Or.inr (Or.inl h2))⟩⟩
        case rest =>
        obtain ⟨rfl, hv⟩ := hcut
        go_upto_if 93 with fail
        rename World => wb
        go_cut [20] (fun v wx => v = .int .i64 p ∧ wx = wb)
        case first =>
          as_aux_lemma =>
          rcases hv with ⟨rfl, hp1⟩ | ⟨rfl, hp0⟩
          · subst hp1
            go_wp2_with fail
            go_meet
            exact ⟨rfl, rfl⟩
          · subst hp0
            go_wp2_with fail
            go_meet
            exact ⟨rfl, rfl⟩
        case rest =>
        clear hv HP0 HP1
        obtain ⟨rfl, rfl⟩ := hcut
        obtain ⟨m, hm⟩ : ∃ m, m = (fo (chn F T) k).length := ⟨_, rfl⟩
        have Hm : Aside (m = (fo (chn F T) k).length) := hm
        have hm9 : m ≤ 1100 := by have := fo_len (chn F T) k; omega
        obtain ⟨p0, c0, rfl⟩ : ∃ p cap, u10 = .slice p m cap := by rw [hm]; exact owns_slice HL2.out.lr.fw
        clear hm
        go_upto_if 97 with fail
        rename World => wb
        go_cut [10] (fun v wx => Only (fun b => (Value.slice p0 m c0).ownBlock = some b) wb wx ∧ wx.ownsRow B 3 1 v (fo (chn F T) (k + 1)).length (ints (fo (chn F T) (k + 1))) ∧ (v.ownBlock = (Value.slice p0 m c0).ownBlock ∨ ∀ g, v.ownBlock = some g → wb.heap.size ≤ g))
        case first =>
          as_aux_lemma =>
          by_cases h3 : s = 0
          · subst h3
            have HFO : Aside (fo (chn F T) (k + 1) = fo (chn F T) k ++ [c]) := by
              show _ = _
              rw [fo, if_neg, ← Hc.out]
              rw [← Hc.out, mem_sc, ← Hs.out]; omega
            have HROW : Aside (wb.ownsRow B 3 1 (.slice p0 m c0) m (ints (fo (chn F T) k))) := by
              have := HL2.out.lr.fw
              rw [← Hm.out] at this
              exact this
            have hBs : B ≤ wb.heap.size := by have := HL2.out.be.size; have := HB.out; omega
            have HN : ∀ (o : Obj), (wb.alloc o).heap[wb.heap.size]? = some o := fun o => heap_alloc_new wb o
            go_wp2_with (at_builtin; refine wpList_append_lies _ rfl _ _ 25 rfl B 3 i0 _ 1 8 Yba.underlying25 hi hz0 hz1 hz2 rfl (by omega) (.slice p0 m c0) m (ints (fo (chn F T) k)) rfl (HROW.out.alloc _) ⟨wb.heap.size, 0, none⟩ 1 1 [.int .i64 c] rfl rfl (World.news_of_block (cs := #[.int .i64 c]) (t := 3) (fr := (0, 0)) (HN _)) (by intro u hu; simp at hu; rw [hu]; rfl) (by omega) (by unfold maxLen; omega) (by omega) (by simp; omega) (wb.heap.size + 1) (by simp) ?_; intro g2 cap2 w1 hown hgrow hat hlt)
            go_meet
            rw [HFO.out]
            refine ⟨Only.grown ((Only.refl _ wb).alloc _) hgrow (fun b e => Or.inl e), ?_, ?_⟩
            · have e1 : (fo (chn F T) k ++ [c]).length = m + 1 := by rw [Hm.out]; simp
              have e2 : ints (fo (chn F T) k ++ [c]) = ints (fo (chn F T) k) ++ [.int .i64 c] := by simp [ints]
              rw [e1, e2]; exact hown
            · rcases hat with e | e
              · left; rw [e]; rfl
              · right
                intro g hg
                injection hg with hg
                have hg' : g2 = g := hg
                omega
          · have h3' : ¬ (s : Int) = 0 := by omega
            have HFO : Aside (fo (chn F T) (k + 1) = fo (chn F T) k) := by
              show _ = _
              rw [fo, if_pos]
              rw [← Hc.out, mem_sc, ← Hs.out]; omega
            go_wp2_with fail
            go_meet
            rw [HFO.out]
            exact ⟨Only.refl _ _, HL2.out.lr.fw, Or.inl rfl⟩
        case rest =>
        obtain ⟨hO, hrow, hnew⟩ := hcut
        obtain ⟨n1, n2, n3, n4, n5, n6, n7, n8, n9, n10⟩ := HD.out
        have hlr := HL2.out.lr
        have keepR : ∀ b, b = SN ∨ b = PL ∨ b = CH ∨ b = FR ∨ b = TO → b < wb.heap.size → wc.heap[b]? = wb.heap[b]? := fun b hx hb => hO.block b hb (fun e => by
          obtain ⟨_, z1, z2, z3, z4, z5⟩ := hlr.lf b e
          rcases hx with x | x | x | x | x <;> contradiction)
        have rsn := hlr.sn.keep (keepR SN (by simp) hlr.sn.lt)
        have rpl := hlr.pl.keep (keepR PL (by simp) hlr.pl.lt)
        have rch := hlr.ch.keep (keepR CH (by simp) hlr.ch.lt)
        have rfr := hlr.fr.keep (keepR FR (by simp) hlr.fr.lt)
        have rto := hlr.tt.keep (keepR TO (by simp) hlr.tt.lt)
        have csn : wc.cell? ⟨SN, c, none⟩ = some (.int .i64 s) := by rw [Hs.out]; exact rsn.get hc16
        have fsn : wc.frozen? ⟨SN, c, none⟩ = false := rsn.free c
        obtain ⟨y1, cpl⟩ := rpl.room hk
        have fpl : wc.frozen? ⟨PL, k, none⟩ = false := rpl.free k
        obtain ⟨y2, cch⟩ := rch.room hk
        have fch : wc.frozen? ⟨CH, k, none⟩ = false := rch.free k
        obtain ⟨y3, cfr⟩ := rfr.room hk
        have ffr : wc.frozen? ⟨FR, k, none⟩ = false := rfr.free k
        obtain ⟨y4, cto⟩ := rto.room hk
        have fto : wc.frozen? ⟨TO, k, none⟩ = false := rto.free k
        obtain ⟨W1, hW1⟩ : ∃ W1, W1 = ((((wc.setCell ⟨SN, c, none⟩ (.int .i64 ((s : Int) + 1))).setCell ⟨CH, k, none⟩ (.int .i64 c)).setCell ⟨PL, k, none⟩ (.int .i64 p)).setCell ⟨FR, k, none⟩ (.int .i64 f)).setCell ⟨TO, k, none⟩ (.int .i64 t) := ⟨_, rfl⟩
        have HROUND := LR.round (vfo' := u10) hlr hk HD.out (by rw [← Hc.out]; exact hc16) hO hrow hnew (fun b hb => (HL2.out.st.labs.2 b hb).2) p ((s : Int) + 1) (by rw [Hp.out]) (by rw [Hs.out, Hc.out]) W1 (by rw [hW1, ← Hc.out, ← Hft.out.1, ← Hft.out.2])
        have HLR : Aside (LR B SN PL CH FR TO n F T fifo (k + 1) u10 lab W1) := HROUND.1
        have hst : ST B B F T fifo k lab W1 := HL2.out.st.keep (fun b hb => HROUND.2.block b (HL2.out.st.labs.2 b hb).2 (fun x => hb x.1)) HROUND.2.size
        have HSTL : Aside (lab B = 1 ∧ ∀ b, lab b ≠ 0 → B ≤ b ∧ b < W1.heap.size) := hst.labs
        have hbe : Below B w W1 := by
          have hBs : B ≤ wb.heap.size := by have := HL2.out.be.size; have := HB.out; omega
          exact HL2.out.be.trans (HROUND.2.below hBs (fun b x => x.2))
        have hpush := push_ST B B F T fifo k lab W1 hst (by omega) (fun j _ => HF4.out j) (fun j _ => HT4.out j)
        rw [← Hft.out.1, ← Hft.out.2] at hpush
        have HPUSH : Aside (Calls Yba.prog 4 #[.pointer (some ⟨B, 0, none⟩), .agg #[.int .u64 ((k : Int) + 1), .int .i64 f, .int .i64 t, .slice none 0 0]] W1 fun e w' => e = .returned (.tuple #[]) ∧ Goes lab W1 (ST B B F T fifo (k + 1)) w') := hpush
        have HBE : Aside (Below B w W1) := hbe
        have HW1 : Aside (((((wc.setCell ⟨SN, c, none⟩ (.int .i64 ((s : Int) + 1))).setCell ⟨CH, k, none⟩ (.int .i64 c)).setCell ⟨PL, k, none⟩ (.int .i64 p)).setCell ⟨FR, k, none⟩ (.int .i64 f)).setCell ⟨TO, k, none⟩ (.int .i64 t) = W1) := hW1.symm
        have x1 : IntKind.i64.wrap ((s : Int) + 1) = (s : Int) + 1 := wrap_small _ rfl (by omega) (by omega)
        have x2 : IntKind.i64.wrap ((k : Int) + 1) = (k : Int) + 1 := wrap_small _ rfl (by omega) (by omega)
        have x3 : IntKind.u64.wrap ((k : Int) + 1) = (k : Int) + 1 := by simp [IntKind.wrap, IntKind.bits, IntKind.signed]; omega
        clear hO hrow hnew hlr keepR rsn rpl rch rfr rto HROUND hst hbe hpush hW1 hcs HL2
        go_upto_region 30 with fail
        rw [HW1.out]
        clear HW1 csn fsn cpl fpl cch fch cfr ffr cto fto n1 n2 n3 n4 n5 n6 n7 n8 n9 n10
        go_wp2_with fail
        refine HPUSH.out.mono ?_
        rintro e w2 ⟨rfl, lab', hst2, hO2, hl2⟩
        have HLW : Aside (LW B B SN PL CH FR TO n F T fifo w (k + 1) u10 lab' w2) := by
          refine ⟨hst2, (HLR.out.relab hl2).keep (fun b hb h0 => hO2.block b hb (fun x => x (by rw [← hl2 b hb]; exact h0))), HBE.out.trans (hO2.below ?_ (fun b x => (HSTL.out.2 b x).1))⟩
          have := HSTL.out.2 B (by rw [HSTL.out.1]; omega)
          omega
        obtain ⟨q, qc, vp, vm, held, va, hbb⟩ := hst2.shows
        have d2 : w2.cell? ⟨B, 2, none⟩ = some (.int .i64 ((k : Int) + 1)) := cell_at hbb 2
        have d1 : w2.cell? ⟨B, 1, none⟩ = some (.slice q (k + 1) qc) := cell_at hbb 1
        have d3 : w2.cell? ⟨B, 3, none⟩ = some (.bool (decide (32 < k + 1))) := cell_at hbb 3
        have hlen : Calls Yba.prog 5 #[.pointer (some ⟨B, 0, none⟩)] w2 fun e w' => e = .returned (.int .i64 ((k : Int) + 1)) ∧ w' = w2 := len_walk B w2 (k + 1) d2
        have HLEN : Aside (Calls Yba.prog 5 #[.pointer (some ⟨B, 0, none⟩)] w2 fun e w' => e = .returned (.int .i64 ((k : Int) + 1)) ∧ w' = w2) := hlen
        clear hst2 hO2 hl2 hbb hlen HPUSH HBE HLR HSTL
        go_wp2_with fail
        refine HLEN.out.mono ?_
        rintro e w3 ⟨rfl, rfl⟩
        by_cases h32 : 32 < k + 1
        · have h32' : (32 : Int) < (k : Int) + 1 := by omega
          rw [decide_eq_true h32] at d3
          go_wp2_with fail
          go_roundw
          case rel => exact ⟨k + 1, lab', by go_num, by omega, HLW.out⟩
          case measure => simp [intOf]; omega
        · have h32' : ¬ (32 : Int) < (k : Int) + 1 := by omega
          rw [decide_eq_false h32] at d3
          go_wp2_with fail
          go_roundw
          case rel => exact ⟨k + 1, lab', by go_num, by omega, HLW.out⟩
          case measure => simp [intOf]; omega
      · obtain rfl : n = k := by omega
        go_wp2_with fail
        go_meet
        exact ⟨lab, HL.out⟩
  case rest =>
  clear HST
  obtain ⟨lab, hL⟩ := hcut
  have HL : Aside (LW B B SN PL CH FR TO n F T fifo w n u10 lab wc) := hL
  clear hL
  obtain ⟨bx, hbx⟩ : ∃ bx, bx = decide (32 < n) := ⟨_, rfl⟩
  have HBX : Aside (bx = decide (32 < n)) := hbx
  have hbx' : decide ((32 : Int) < (n : Int)) = bx := by rw [hbx]; exact decide_eq_decide.2 (by omega)
  clear hbx
  go_upto_region 35 with fail
  rename World => wa
  go_cut [21] from 163 to 164 (fun v wx => v = .bool bx ∧ wx = wa)
  case first =>
    as_aux_lemma =>
    cases bx with
    | true =>
      have h32 : (32 : Int) < n := of_decide_eq_true hbx'
      clear hbx'
      go_wp2_with fail
      go_meet
      exact ⟨rfl, rfl⟩
    | false =>
      have h32 : ¬ (32 : Int) < n := of_decide_eq_false hbx'
      clear hbx'
      go_wp2_with fail
      go_meet
      exact ⟨rfl, rfl⟩
  case rest =>
  obtain ⟨rfl, rfl⟩ := hcut
  clear hbx'
  go_upto_block 2 with fail
  rename World => wa
  go_cut [] from 165 to 165 (fun wx => Only (fun _ => False) wa wx)
  case first =>
    as_aux_lemma =>
    go_wp2_with fail
    go_loopw [22] (fun vi wr => ∃ (i : Nat), vi = .int .i64 i ∧ i ≤ n ∧ Only (fun _ => False) wa wr) (fun vi _ => n - (intOf vi).toNat)
    case atStart => exact ⟨0, rfl, by omega, Only.refl _ _⟩
    case round =>
      as_aux_lemma =>
      obtain ⟨i, rfl, hin, hO⟩ := hrel
      have HO : Aside (Only (fun _ => False) wa wr) := hO
      clear hO
      by_cases hi9 : i < n
      · have hi' : (i : Int) < (n : Int) := by omega
        have hLr := HL.out.keep HO.out
        obtain ⟨vs, xs, Q, vp, vm, held, va, hbb, hos, hsl⟩ := hLr.st.view
        obtain ⟨g, cap, rfl⟩ := owns_form hos (by omega)
        obtain ⟨s0, s1, s2, s3, s4, s5⟩ := hsl i hi9
        obtain ⟨f, hf⟩ : ∃ f, f = F i := ⟨_, rfl⟩
        obtain ⟨t, ht⟩ : ∃ t, t = T i := ⟨_, rfl⟩
        obtain ⟨p, hp⟩ : ∃ p, p = plc F T fifo i := ⟨_, rfl⟩
        obtain ⟨q, hq⟩ : ∃ q, q = wantP F T fifo bx i := ⟨_, rfl⟩
        rw [← HBX.out, ← hq] at s4
        rw [← hf] at s1
        rw [← ht] at s2
        have c1 : wr.cell? ⟨B, 1, none⟩ = some (.slice (some ⟨g, 0, none⟩) n cap) := cell_at hbb 1
        have t0 : wr.cell? ⟨g, i * 6, none⟩ = some (.int .u64 ((i : Int) + 1)) := (hos.cellAt (i * 6) (by omega)).trans s0
        have t1 : wr.cell? ⟨g, i * 6 + 1, none⟩ = some (.int .i64 f) := (hos.cellAt (i * 6 + 1) (by omega)).trans s1
        have t2 : wr.cell? ⟨g, i * 6 + 2, none⟩ = some (.int .i64 t) := (hos.cellAt (i * 6 + 2) (by omega)).trans s2
        have t3 : wr.cell? ⟨g, i * 6 + 3, none⟩ = some (.slice none 0 0) := (hos.cellAt (i * 6 + 3) (by omega)).trans s3
        have t4 : wr.cell? ⟨g, i * 6 + 4, none⟩ = some (.int .i64 q) := (hos.cellAt (i * 6 + 4) (by omega)).trans s4
        have r1 : wr.cell? ⟨FR, i, none⟩ = some (.int .i64 f) := by rw [hf]; exact hLr.lr.fr.get hi9
        have r2 : wr.cell? ⟨TO, i, none⟩ = some (.int .i64 t) := by rw [ht]; exact hLr.lr.tt.get hi9
        have r3 : wr.cell? ⟨PL, i, none⟩ = some (.int .i64 p) := by rw [hp]; exact hLr.lr.pl.get hi9
        obtain ⟨W, hW⟩ : ∃ W, W = wr.alloc (.cells #[.int .u64 ((i : Int) + 1), .int .i64 f, .int .i64 t, .slice none 0 0] 37) := ⟨_, rfl⟩
        obtain ⟨Y, hY⟩ : ∃ Y, Y = wr.heap.size := ⟨_, rfl⟩
        have kp : ∀ b k v, wr.cell? ⟨b, k, none⟩ = some v → W.cell? ⟨b, k, none⟩ = some v := fun b k v e => by
          rw [hW]
          refine (World.cell?_of_block (Below.heap_alloc wr _ b ?_)).trans e
          rcases Nat.lt_or_ge b wr.heap.size with h | h
          · exact h
          · simp [World.cell?, Array.getElem?_eq_none h] at e
        have k1 := kp _ _ _ c1
        have k4 := kp _ _ _ t4
        have kr1 := kp _ _ _ r1
        have kr2 := kp _ _ _ r2
        have kr3 := kp _ _ _ r3
        have bY : W.heap[Y]? = some (.cells #[.int .u64 ((i : Int) + 1), .int .i64 f, .int .i64 t, .slice none 0 0] 37 (0, 0)) := by rw [hW, hY]; exact heap_alloc_new wr _
        have y0 : W.cell? ⟨Y, 0, none⟩ = some (.int .u64 ((i : Int) + 1)) := cell_at bY 0
        have y1 : W.cell? ⟨Y, 1, none⟩ = some (.int .i64 f) := cell_at bY 1
        have y2 : W.cell? ⟨Y, 2, none⟩ = some (.int .i64 t) := cell_at bY 2
        have y3 : W.cell? ⟨Y, 3, none⟩ = some (.slice none 0 0) := cell_at bY 3
        have HW : Aside (wr.alloc (.cells #[.int .u64 ((i : Int) + 1), .int .i64 f, .int .i64 t, .slice none 0 0] 37) = W) := hW.symm
        have HY : Aside (wr.heap.size = Y) := hY.symm
        have HOW : Aside (Only (fun _ => False) wa W) := by
          show Only (fun _ => False) wa W
          rw [hW]; exact HO.out.alloc _
        have Hq : Aside (q = wantP F T fifo bx i ∧ p = plc F T fifo i) := ⟨hq, hp⟩
        have x1 : IntKind.i64.wrap ((i : Int) + 1) = (i : Int) + 1 := wrap_small _ rfl (by omega) (by omega)
        have x2 : IntKind.u64.wrap ((i : Int) + 1) = (i : Int) + 1 := by simp [IntKind.wrap, IntKind.bits, IntKind.signed]; omega
        clear hLr hbb hos hsl s0 s1 s2 s3 s4 s5 hf ht hp hq r1 r2 r3 t4 kp bY hW hY HO
        go_upto_region 40 with fail
        rw [HW.out, HY.out]
        clear c1 t0 t1 t2 t3
        go_cut [207] (fun v wx => v = .bool false ∧ Only (fun _ => False) W wx ∧ wx.heap = W.heap)
        case first =>
          as_aux_lemma =>
          go_quiet (fail)
          go_wp2_with fail
          go_meet
          exact ⟨rfl, (Only.refl _ W).drewN nq, rfl⟩
        case rest =>
        obtain ⟨rfl, hO1, hh⟩ := hcut
        have kw : ∀ b k, wc.cell? ⟨b, k, none⟩ = W.cell? ⟨b, k, none⟩ := fun b k => World.cell?_of_block (by rw [hh])
        have k1' := (kw _ _).trans k1
        have k4' := (kw _ _).trans k4
        have kr3' := (kw _ _).trans kr3
        have HO2 : Aside (Only (fun _ => False) wa wc) := HOW.out.trans hO1
        clear hO1 hh kw k1 k4 kr1 kr2 kr3 y0 y1 y2 y3 HW HY HOW
        go_upto_region 43 with fail
        rename World => wb
        go_cut [216] (fun v wx => v = .bool (!fifo && bx) ∧ wx = wb)
        case first =>
          as_aux_lemma =>
          cases fifo <;> cases bx
          all_goals
            go_wp2_with fail
            go_meet
            exact ⟨rfl, rfl⟩
        case rest =>
        obtain ⟨rfl, rfl⟩ := hcut
        have HWA : Aside ((!fifo && bx) = true → q = i) := fun h => by rw [Hq.out.1]; unfold wantP; rw [if_pos h]
        have HWB : Aside ((!fifo && bx) = false → q = p) := fun h => by rw [Hq.out.1, Hq.out.2]; unfold wantP; rw [if_neg (by rw [h]; simp)]
        generalize (!fifo && bx) = bz at HWA HWB ⊢
        clear Hq
        go_upto_if 216 with fail
        rename World => wb
        go_cut [24] (fun v wx => v = .int .i64 q ∧ wx = wb)
        case first =>
          as_aux_lemma =>
          cases bz with
          | true =>
            have e := HWA.out rfl
            subst e
            go_wp2_with fail
            go_meet
            exact ⟨rfl, rfl⟩
          | false =>
            have e := HWB.out rfl
            subst e
            go_wp2_with fail
            go_meet
            exact ⟨rfl, rfl⟩
        case rest =>
        obtain ⟨rfl, rfl⟩ := hcut
        clear HWA HWB
        go_wp2_with fail
        go_roundw
        case rel => exact ⟨i + 1, by go_num, by omega, HO2.out⟩
        case measure => simp [intOf]; omega
      · obtain rfl : n = i := by omega
        go_wp2_with fail
        go_meet
        exact HO.out
  case rest =>
  have HL2 : Aside (LW B B SN PL CH FR TO n F T fifo w n u10 lab wc) := HL.out.keep hcut
  clear hcut HL
  go_upto_region 47 with fail
  rename World => wa
  go_cut [232] from 228 to 232 (fun v wx => v = .bool (!fifo && bx) ∧ wx = wa)
  case first =>
    as_aux_lemma =>
    cases fifo <;> cases bx
    all_goals
      go_wp2_with fail
      go_meet
      exact ⟨rfl, rfl⟩
  case rest =>
  obtain ⟨rfl, rfl⟩ := hcut
  obtain ⟨bz, hbz⟩ : ∃ bz, bz = (!fifo && bx) := ⟨_, rfl⟩
  have HBZ : Aside (bz = (!fifo && bx)) := hbz
  rw [← hbz]
  clear hbz
  go_upto_if 232 with fail
  rename World => wa
  go_cut [] from 233 to 259 (fun wx => wx = wa)
  case first =>
    as_aux_lemma =>
    obtain ⟨vs, vp, vm, held, va, m, hbb, hop, hm⟩ := HL2.out.st.pool
    rw [← HBX.out, ← HBZ.out] at hm
    cases bz with
    | true =>
      obtain rfl : n = m := by rw [hm]; rfl
      have hn32 : 32 < n := by
        have h1 := HBX.out
        have h2 := HBZ.out
        rw [h1] at h2
        have : fifo = false ∧ 32 < n := by simpa using h2.symm
        exact this.2
      obtain ⟨gp, pc, rfl⟩ := owns_form hop (by omega)
      have c4 : wa.cell? ⟨B, 4, none⟩ = some (.slice (some ⟨gp, 0, none⟩) n pc) := cell_at hbb 4
      have HOP : Aside (∀ j, j < n → wa.cell? ⟨gp, j, none⟩ = some (.int .i64 j)) := fun j hj => by
        have := hop.cellAt j (by omega)
        rw [this]; exact ints_range_get hj
      clear hbb hop hm hn32
      go_wp2_with fail
      go_loopw [25] (fun vi wr => ∃ (i : Nat), vi = .int .i64 i ∧ i ≤ n ∧ wr = wa) (fun vi _ => n - (intOf vi).toNat)
      case atStart => exact ⟨0, rfl, by omega, rfl⟩
      case round =>
        as_aux_lemma =>
        obtain ⟨i, rfl, hin, rfl⟩ := hrel
        by_cases hi9 : i < n
        · have hi' : (i : Int) < (n : Int) := by omega
          have ci := HOP.out i hi9
          go_wp2_with fail
          go_roundw
          case rel => exact ⟨i + 1, by go_num, by omega, by trivial⟩
          case measure => simp [intOf]; omega
        · obtain rfl : n = i := by omega
          go_wp2_with fail
          go_meet
          rfl
    | false =>
      obtain rfl : m = 0 := hm
      obtain ⟨pp, pc, rfl⟩ := owns_slice hop
      have c4 : wa.cell? ⟨B, 4, none⟩ = some (.slice pp 0 pc) := cell_at hbb 4
      clear hbb hop
      go_wp2_with fail
      go_meet
      rfl
  case rest =>
  obtain rfl := hcut
  clear HBZ
  go_upto_region 57 with fail
  rename World => wa
  go_cut [264] from 260 to 264 (fun v wx => v = .bool (!(fifo && bx)) ∧ wx = wa)
  case first =>
    as_aux_lemma =>
    cases fifo <;> cases bx
    all_goals
      go_wp2_with fail
      go_meet
      exact ⟨rfl, rfl⟩
  case rest =>
  obtain ⟨rfl, rfl⟩ := hcut
  obtain ⟨by0, hby⟩ : ∃ by0, by0 = (fifo && bx) := ⟨_, rfl⟩
  have HBY : Aside (by0 = (fifo && decide (32 < n))) := by rw [hby, HBX.out]; exact rfl
  rw [← hby]
  clear hby
  cases by0 with
  | false =>
    as_aux_lemma =>
    obtain ⟨vs, xs, vp, m, P, hbb, hos, hsl, -, -⟩ := HL2.out.st.plain HBY.out.symm
    have c5 : wc.cell? ⟨B, 5, none⟩ = some (.map none) := cell_at hbb 5
    have c6 : wc.cell? ⟨B, 6, none⟩ = some (.int .i64 0) := cell_at hbb 6
    have c8 : wc.cell? ⟨B, 8, none⟩ = some (.slice none 0 0) := cell_at hbb 8
    have c1 : wc.cell? ⟨B, 1, none⟩ = some vs := cell_at hbb 1
    have HSL : Aside (∀ i, i < n → ∃ g cap, vs = .slice (some ⟨g, 0, none⟩) n cap ∧ wc.cell? ⟨g, i * 6 + 5, none⟩ = some (.pointer none)) := by
      intro i hin
      obtain ⟨g, cap, rfl⟩ := owns_form hos (by omega)
      exact ⟨g, cap, rfl, (hos.cellAt (i * 6 + 5) (by omega)).trans (hsl i hin).2.2.2.2.2⟩
    have HBE : Aside (Below B w wc) := HL2.out.be
    clear hbb hos hsl HL2 HBX
    go_wp2_with fail
    go_loopw [26] (fun vi wr => ∃ (i : Nat), vi = .int .i64 i ∧ i ≤ n ∧ wr = wc) (fun vi _ => n - (intOf vi).toNat)
    case atStart => exact ⟨0, rfl, by omega, rfl⟩
    case round =>
      as_aux_lemma =>
      obtain ⟨i, rfl, hin, rfl⟩ := hrel
      by_cases hi9 : i < n
      · have hi' : (i : Int) < (n : Int) := by omega
        obtain ⟨g, cap, rfl, ci⟩ := HSL.out i hi9
        go_wp2_with fail
        go_roundw
        case rel => exact ⟨i + 1, by go_num, by omega, by trivial⟩
        case measure => simp [intOf]; omega
      · obtain rfl : n = i := by omega
        go_wp2_with fail
        go_ret
        exact ⟨rfl, by rw [← HB.out]; exact HBE.out⟩
  | true =>
    as_aux_lemma =>
    obtain ⟨hf, M, vs, va, qb, qv, xs, es, clock, hq⟩ := HL2.out.st.queues HBY.out.symm
    subst hf
    have hn32 : 32 < n := by simpa using HBY.out.symm
    have hQW : QW B M SN PL CH FR TO n F T w lab vs va qb qv xs es clock u10 wc := ⟨hq, HL2.out.lr, HL2.out.be⟩
    obtain ⟨g, cap, rfl⟩ := owns_form hq.os (by omega)
    obtain ⟨m, hm⟩ : ∃ m, m = (fo (chn F T) n).length := ⟨_, rfl⟩
    have hm9 : m ≤ 1100 := by have := fo_len (chn F T) n; omega
    obtain ⟨p8, cap8, rfl⟩ : ∃ p cap, va = .slice p m cap := by rw [hm]; exact owns_slice hq.oa
    obtain ⟨p0, c0, rfl⟩ : ∃ p cap, u10 = .slice p m cap := by rw [hm]; exact owns_slice HL2.out.lr.fw
    have c5 : wc.cell? ⟨B, 5, none⟩ = some (.map (some M)) := cell_at hq.bb 5
    have c6 : wc.cell? ⟨B, 6, none⟩ = some (.int .i64 m) := by rw [hm]; exact cell_at hq.bb 6
    have hlen : (Builtin.len_ #[26] 3 #[.map (some M)]).run Yba.prog wc = .ok (.int .i64 m) wc := by
      rw [lenMap hq.mp 3, hQW.size, ← hm]
    have HM : Aside (m = (fo (chn F T) n).length) := hm
    obtain ⟨PB, hPB⟩ : ∃ PB, PB = wc.heap.size := ⟨_, rfl⟩
    obtain ⟨W, hW⟩ : ∃ W, W = wc.alloc (.cells seen0 30) := ⟨_, rfl⟩
    have HPB : Aside (B ≤ PB ∧ lab PB = 0 ∧ PB ≠ SN ∧ PB ≠ PL ∧ PB ≠ CH ∧ PB ≠ FR ∧ PB ≠ TO ∧ (Value.slice p0 m c0).ownBlock ≠ some PB) := by
      have hl := hQW.lr
      have h1 := hl.sn.lt
      have h2 := hl.pl.lt
      have h3 := hl.ch.lt
      have h4 := hl.fr.lt
      have h5 := hl.tt.lt
      have h6 := hq.lt B (by rw [hq.lb]; omega)
      refine ⟨by omega, ?_, by omega, by omega, by omega, by omega, by omega, fun e => ?_⟩
      · rcases Nat.eq_zero_or_pos (lab PB) with x | x
        · exact x
        · have := hq.lt PB (by omega); omega
      · have := (owns_lt hl.fw PB e).2; omega
    have HQ0 : Aside (QW B M SN PL CH FR TO n F T w lab (.slice (some ⟨g, 0, none⟩) n cap) (.slice p8 m cap8) qb qv xs es clock (.slice p0 m c0) W) := by
      refine hQW.keep (PB := PB) ?_ HPB.out
      rw [hW]; exact (Only.refl _ wc).alloc _
    have HR0 : Aside (RowN W PB 16 (sc F T 0) 16) := by
      refine ⟨seen0, 30, ?_, rfl, fun j hj => seen0_get j hj⟩
      rw [hW, hPB]; exact heap_alloc_new wc _
    have HW : Aside (wc.alloc (.cells #[.int .i64 0, .int .i64 0, .int .i64 0, .int .i64 0, .int .i64 0, .int .i64 0, .int .i64 0, .int .i64 0, .int .i64 0, .int .i64 0, .int .i64 0, .int .i64 0, .int .i64 0, .int .i64 0, .int .i64 0, .int .i64 0] 30) = W) := hW.symm
    have HPS : Aside (wc.heap.size = PB) := hPB.symm
    clear hm hq hQW HL2 hW hPB
    go_upto_block 8 with fail
    rw [HW.out, HPS.out]
    clear c5 c6 hlen HW HPS
    go_cut [] from 323 to 323 (fun wx => QW B M SN PL CH FR TO n F T w lab (.slice (some ⟨g, 0, none⟩) n cap) (.slice p8 m cap8) qb qv xs es clock (.slice p0 m c0) wx)
    case first =>
      as_aux_lemma =>
      go_wp2_with fail
      go_loopw [28] (fun vi wr => ∃ (i : Nat), vi = .int .i64 i ∧ i ≤ n ∧ QW B M SN PL CH FR TO n F T w lab (.slice (some ⟨g, 0, none⟩) n cap) (.slice p8 m cap8) qb qv xs es clock (.slice p0 m c0) wr ∧ RowN wr PB 16 (sc F T i) 16) (fun vi _ => n - (intOf vi).toNat)
      case atStart => exact ⟨0, rfl, by omega, HQ0.out, HR0.out⟩
      case round =>
        as_aux_lemma =>
        obtain ⟨i, rfl, hin, hQ, hR⟩ := hrel
        have HQ : Aside (QW B M SN PL CH FR TO n F T w lab (.slice (some ⟨g, 0, none⟩) n cap) (.slice p8 m cap8) qb qv xs es clock (.slice p0 m c0) wr) := hQ
        have HR : Aside (RowN wr PB 16 (sc F T i) 16) := hR
        by_cases hi9 : i < n
        · have hi' : (i : Int) < (n : Int) := by omega
          obtain ⟨f, hf⟩ : ∃ f, f = F i := ⟨_, rfl⟩
          obtain ⟨t, ht⟩ : ∃ t, t = T i := ⟨_, rfl⟩
          obtain ⟨c, hc⟩ : ∃ c, c = chn F T i := ⟨_, rfl⟩
          obtain ⟨s, hs⟩ : ∃ s, s = sc F T i c := ⟨_, rfl⟩
          obtain ⟨l, hl⟩ : ∃ l, l = sc F T n c := ⟨_, rfl⟩
          obtain ⟨q, hq⟩ : ∃ q, q = qb c := ⟨_, rfl⟩
          have hc16 : c < 16 := by rw [hc]; exact HC16.out i
          have e4 : c / 4 = f ∧ c % 4 = t := by
            have := HT4.out i
            rw [hc, hf, ht]; unfold chn; omega
          have hat := ixs_at (chn F T) c i hc.symm n hi9
          have hsl : s < l := by rw [hs, hl]; exact (List.getElem?_eq_some_iff.1 hat).1
          have hl9 : l ≤ 1100 := by rw [hl]; unfold sc; have := ixs_len (chn F T) c n; omega
          obtain ⟨hlk, p1, cap1, d0, d1, hel⟩ := hQ.queue (c := c) (by rw [hc]; exact fo_mem _ i n hi9)
          obtain ⟨g1, rfl, de⟩ := hel _ _ hat
          rw [← hq, ← hl] at d0
          have de : wr.cell? ⟨g1, s, none⟩ = some (.int .i64 i) := by rw [hs]; exact de
          have hlook : (Instr.lookup 26 (.map (some M)) (.agg #[.int .i64 f, .int .i64 t]) false).run Yba.prog wr.drew = .ok (.pointer (some ⟨q, 0, none⟩)) wr.drew := by
            have := hlk 1
            rw [e4.1, e4.2, ← hq] at this
            exact this
          have hneq := fun w => neqPtr ⟨q, 0, none⟩ w
          have cch : wr.cell? ⟨CH, i, none⟩ = some (.int .i64 c) := by rw [hc]; exact hQ.lr.ch.get hi9
          have cfr : wr.cell? ⟨FR, i, none⟩ = some (.int .i64 f) := by rw [hf]; exact hQ.lr.fr.get hi9
          have cto : wr.cell? ⟨TO, i, none⟩ = some (.int .i64 t) := by rw [ht]; exact hQ.lr.tt.get hi9
          have c5 : wr.cell? ⟨B, 5, none⟩ = some (.map (some M)) := cell_at hQ.fq.bb 5
          have c1 : wr.cell? ⟨B, 1, none⟩ = some (.slice (some ⟨g, 0, none⟩) n cap) := cell_at hQ.fq.bb 1
          have cq : wr.cell? ⟨g, i * 6 + 5, none⟩ = some (.pointer (some ⟨q, 0, none⟩)) := by
            refine (hQ.fq.os.cellAt (i * 6 + 5) (by omega)).trans ((hQ.fq.sl i hi9).2.2.2.2.2.trans ?_)
            show some (if i < n then qptr (qb (chn F T i)) else .pointer none) = _
            rw [if_pos hi9, hq, hc]; rfl
          have cp : wr.cell? ⟨PB, c, none⟩ = some (.int .i64 s) := by rw [hs]; exact hR.get hc16
          have fp : wr.frozen? ⟨PB, c, none⟩ = false := hR.free c
          have Hcs : Aside (c = chn F T i ∧ s = sc F T i c) := ⟨hc, hs⟩
          have hsl' : ¬ (l : Int) ≤ (s : Int) := by omega
          have hsl2 : (s : Int) < (l : Int) := by omega
          have x1 : IntKind.i64.wrap ((s : Int) + 1) = (s : Int) + 1 := wrap_small _ rfl (by omega) (by omega)
          clear hQ hR hf ht hc hs hl hq e4 hat hlk d1 hel
          go_upto_region 73 with fail
          rename World => wa
          go_cut [30] (fun v wx => v = .pointer (some ⟨q, 0, none⟩) ∧ wx.heap = wa.heap ∧ Only (fun _ => False) wa wx)
          case first =>
            as_aux_lemma =>
            go_region
            all_goals
              go_wp2_with fail
              go_meet
              exact ⟨rfl, rfl, (Only.refl _ wa).drewN 1⟩
          case rest =>
          obtain ⟨rfl, hh, hO⟩ := hcut
          have kw : ∀ b k, wc.cell? ⟨b, k, none⟩ = wa.cell? ⟨b, k, none⟩ := fun b k => World.cell?_of_block (by rw [hh])
          have c1' := (kw _ _).trans c1
          have cq' := (kw _ _).trans cq
          have cp' := (kw _ _).trans cp
          have d0' := (kw _ _).trans d0
          have de' := (kw _ _).trans de
          have HQ1 : Aside (QW B M SN PL CH FR TO n F T w lab (.slice (some ⟨g, 0, none⟩) n cap) (.slice p8 m cap8) qb qv xs es clock (.slice p0 m c0) wc) := HQ.out.keep (PB := PB) (hO.mono (fun _ _ x => x.elim)) HPB.out
          have HR1 : Aside (RowN wc PB 16 (sc F T i) 16) := HR.out.keep (by rw [hh])
          clear hh hO kw c1 cq cp d0 de HQ HR c5 cch cfr cto fp hlook
          go_upto_region 76 with fail
          rename World => wb
          go_cut [381] (fun v wx => v = .bool false ∧ wx.heap = wb.heap ∧ Only (fun _ => False) wb wx)
          case first =>
            as_aux_lemma =>
            go_quiet (fail)
            go_wp2_with fail
            go_meet
            exact ⟨rfl, rfl, (Only.refl _ wb).drewN nq⟩
          case rest =>
          obtain ⟨rfl, hh, hO⟩ := hcut
          have hQ2 : QW B M SN PL CH FR TO n F T w lab (.slice (some ⟨g, 0, none⟩) n cap) (.slice p8 m cap8) qb qv xs es clock (.slice p0 m c0) wc := HQ1.out.keep (PB := PB) (hO.mono (fun _ _ x => x.elim)) HPB.out
          have hR2 : RowN wc PB 16 (sc F T i) 16 := HR1.out.keep (by rw [hh])
          have cp2 : wc.cell? ⟨PB, c, none⟩ = some (.int .i64 s) := (World.cell?_of_block (by rw [hh])).trans cp'
          have fp2 : wc.frozen? ⟨PB, c, none⟩ = false := hR2.free c
          have HQ3 : Aside (QW B M SN PL CH FR TO n F T w lab (.slice (some ⟨g, 0, none⟩) n cap) (.slice p8 m cap8) qb qv xs es clock (.slice p0 m c0) (wc.setCell ⟨PB, c, none⟩ (.int .i64 ((s : Int) + 1)))) := hQ2.keep (PB := PB) ((Only.refl (fun b => b = PB) wc).setCell (p := ⟨PB, c, none⟩) (Or.inl rfl) _) HPB.out
          have HR3 : Aside (RowN (wc.setCell ⟨PB, c, none⟩ (.int .i64 ((s : Int) + 1))) PB 16 (sc F T (i + 1)) 16) := by
            refine hR2.set hc16 (s + 1) (fun j hj => ?_)
            rw [Hcs.out.2, Hcs.out.1]
            unfold sc
            rw [ixs]
            by_cases e : chn F T i = j
            · subst e; rw [if_pos rfl, upd_same]; simp
            · rw [if_neg e, upd_ne _ _ _ (Ne.symm e)]
          clear hh hO hQ2 hR2 c1' cq' cp' d0' de' HQ1 HR1
          go_wp2_with fail
          go_roundw
          case rel => exact ⟨i + 1, by go_num, by omega, HQ3.out, HR3.out⟩
          case measure => simp [intOf]; omega
        · obtain rfl : n = i := by omega
          clear hQ hR
          go_wp2_with fail
          go_meet
          exact HQ.out
    case rest =>
    have HQ : Aside (QW B M SN PL CH FR TO n F T w lab (.slice (some ⟨g, 0, none⟩) n cap) (.slice p8 m cap8) qb qv xs es clock (.slice p0 m c0) wc) := hcut
    clear hcut HR0 HQ0
    go_upto_block 10 with fail
    rename World => wa
    go_cut [] from 387 to 387 (fun wx => QW B M SN PL CH FR TO n F T w lab (.slice (some ⟨g, 0, none⟩) n cap) (.slice p8 m cap8) qb qv xs es clock (.slice p0 m c0) wx)
    case first =>
      as_aux_lemma =>
      go_wp2_with fail
      go_loopw [31] (fun vi wr => ∃ (c : Nat), vi = .int .i64 c ∧ c ≤ 16 ∧ QW B M SN PL CH FR TO n F T w lab (.slice (some ⟨g, 0, none⟩) n cap) (.slice p8 m cap8) qb qv xs es clock (.slice p0 m c0) wr) (fun vi _ => 16 - (intOf vi).toNat)
      case atStart => exact ⟨0, rfl, by omega, HQ.out⟩
      case round =>
        as_aux_lemma =>
        obtain ⟨c, rfl, hcn, hQ⟩ := hrel
        have HQ1 : Aside (QW B M SN PL CH FR TO n F T w lab (.slice (some ⟨g, 0, none⟩) n cap) (.slice p8 m cap8) qb qv xs es clock (.slice p0 m c0) wr) := hQ
        by_cases hc16 : c < 16
        · have hc' : (c : Int) < 16 := by omega
          obtain ⟨s, hs⟩ : ∃ s, s = sc F T n c := ⟨_, rfl⟩
          have csn : wr.cell? ⟨SN, c, none⟩ = some (.int .i64 s) := by rw [hs]; exact hQ.lr.sn.get hc16
          by_cases h0 : s = 0
          · subst h0
            clear hQ hs HQ
            go_wp2_with fail
            go_roundw
            case rel => exact ⟨c + 1, by go_num, by omega, HQ1.out⟩
            case measure => simp [intOf]; omega
          · have h0' : ¬ (s : Int) = 0 := by omega
            obtain ⟨hlk, p1, cap1, d0, d1, hel⟩ := hQ.queue (c := c) ((mem_sc F T c n).2 (by omega))
            obtain ⟨q, hq⟩ : ∃ q, q = qb c := ⟨_, rfl⟩
            obtain ⟨a, ha⟩ : ∃ a, a = c / 4 := ⟨_, rfl⟩
            obtain ⟨b, hb⟩ : ∃ b, b = c % 4 := ⟨_, rfl⟩
            rw [← hq, ← hs] at d0
            have hlook : (Instr.lookup 26 (.map (some M)) (.agg #[.int .i64 a, .int .i64 b]) false).run Yba.prog wr = .ok (.pointer (some ⟨q, 0, none⟩)) wr := by
              have := hlk 0
              rw [← ha, ← hb, ← hq] at this
              exact this
            have y1 : (c : Int).tdiv 4 = (a : Int) := by rw [ha]; rfl
            have y2 : (c : Int).tmod 4 = (b : Int) := by rw [hb]; rfl
            have y3 : (c : Int) / 4 = (a : Int) := by rw [ha]; rfl
            have y4 : (c : Int) % 4 = (b : Int) := by rw [hb]; rfl
            have z1 : IntKind.i64.wrap (a : Int) = (a : Int) := wrap_small _ rfl (by omega) (by omega)
            have z2 : IntKind.i64.wrap (b : Int) = (b : Int) := wrap_small _ rfl (by omega) (by omega)
            have c5 : wr.cell? ⟨B, 5, none⟩ = some (.map (some M)) := cell_at hQ.fq.bb 5
            clear hQ hs HQ hlk d1 hel hq ha hb
            go_upto_region 84 with fail
            rename World => wb
            go_cut [417] (fun v wx => v = .bool false ∧ Only (fun _ => False) wb wx)
            case first =>
              as_aux_lemma =>
              go_quiet (fail)
              go_wp2_with fail
              go_meet
              exact ⟨rfl, (Only.refl _ wb).drewN nq⟩
            case rest =>
            obtain ⟨rfl, hO⟩ := hcut
            have HQ2 : Aside (QW B M SN PL CH FR TO n F T w lab (.slice (some ⟨g, 0, none⟩) n cap) (.slice p8 m cap8) qb qv xs es clock (.slice p0 m c0) wc) := HQ1.out.keep (PB := PB) (hO.mono (fun _ _ x => x.elim)) HPB.out
            clear hO hlook csn d0 c5 y1 y2 y3 y4 z1 z2 HQ1
            go_wp2_with fail
            go_roundw
            case rel => exact ⟨c + 1, by go_num, by omega, HQ2.out⟩
            case measure => simp [intOf]; omega
        · obtain rfl : c = 16 := by omega
          clear hQ HQ
          go_wp2_with fail
          go_meet
          exact HQ1.out
    case rest =>
    have HQ2 : Aside (QW B M SN PL CH FR TO n F T w lab (.slice (some ⟨g, 0, none⟩) n cap) (.slice p8 m cap8) qb qv xs es clock (.slice p0 m c0) wc) := hcut
    have c8 : wc.cell? ⟨B, 8, none⟩ = some (.slice p8 m cap8) := cell_at hcut.fq.bb 8
    have c5 : wc.cell? ⟨B, 5, none⟩ = some (.map (some M)) := cell_at hcut.fq.bb 5
    clear hcut HQ
    go_wp2_with fail
    go_loopw [33] (fun vi wr => ∃ (j : Nat), vi = .int .i64 j ∧ j ≤ m ∧ wr = wc) (fun vi _ => m - (intOf vi).toNat)
    case atStart => exact ⟨0, rfl, by omega, rfl⟩
    case round =>
      as_aux_lemma =>
      obtain ⟨j, rfl, hjm, rfl⟩ := hrel
      by_cases hj : j < m
      · have hj' : (j : Int) < (m : Int) := by omega
        have hQ := HQ2.out
        have hm := HM.out
        obtain ⟨c, hc⟩ : ∃ c, (fo (chn F T) n)[j]? = some c := ⟨_, List.getElem?_eq_getElem (by omega)⟩
        have hcm : c ∈ fo (chn F T) n := List.mem_of_getElem? hc
        obtain ⟨hlk, p1, cap1, d0, d1, hel⟩ := hQ.queue (c := c) hcm
        obtain ⟨i9, hi9, hce⟩ := fo_of_mem _ _ _ hcm
        have hc16 : c < 16 := by rw [← hce]; exact HC16.out i9
        obtain ⟨q, hq⟩ : ∃ q, q = qb c := ⟨_, rfl⟩
        obtain ⟨a, ha⟩ : ∃ a, a = c / 4 := ⟨_, rfl⟩
        obtain ⟨b, hb⟩ : ∃ b, b = c % 4 := ⟨_, rfl⟩
        rw [idx_at (fo_nodup _ _) hc, ← hq] at d1
        have hlook : (Instr.lookup 26 (.map (some M)) (.agg #[.int .i64 a, .int .i64 b]) false).run Yba.prog wr = .ok (.pointer (some ⟨q, 0, none⟩)) wr := by
          have := hlk 0
          rw [← ha, ← hb, ← hq] at this
          exact this
        have hneq := fun w => neqPtr ⟨q, 0, none⟩ w
        have y1 : (c : Int).tdiv 4 = (a : Int) := by rw [ha]; rfl
        have y2 : (c : Int).tmod 4 = (b : Int) := by rw [hb]; rfl
        have y3 : (c : Int) / 4 = (a : Int) := by rw [ha]; rfl
        have y4 : (c : Int) % 4 = (b : Int) := by rw [hb]; rfl
        have z1 : IntKind.i64.wrap (a : Int) = (a : Int) := wrap_small _ rfl (by omega) (by omega)
        have z2 : IntKind.i64.wrap (b : Int) = (b : Int) := wrap_small _ rfl (by omega) (by omega)
        have hoa := hQ.fq.oa
        have hfw := hQ.lr.fw
        rw [← hm] at hoa hfw
        obtain ⟨g8, rfl⟩ : ∃ g8, p8 = some ⟨g8, 0, none⟩ := by
          obtain ⟨g8, k8, e⟩ := owns_form hoa (by omega)
          injection e with e1 e2 e3
          exact ⟨g8, e1⟩
        obtain ⟨g0, rfl⟩ : ∃ g0, p0 = some ⟨g0, 0, none⟩ := by
          obtain ⟨g0, k0, e⟩ := owns_form hfw (by omega)
          injection e with e1 e2 e3
          exact ⟨g0, e1⟩
        have ca : wr.cell? ⟨g8, j, none⟩ = some (.pointer (some ⟨q, 0, none⟩)) := by
          refine (hoa.cellAt j (by omega)).trans ?_
          rw [List.getElem?_map, hc, hq]; rfl
        have cf : wr.cell? ⟨g0, j, none⟩ = some (.int .i64 c) := (hfw.cellAt j (by omega)).trans (ints_get hc)
        clear hQ hm hc hcm hlk d0 hel hi9 hce hq ha hb hoa hfw
        go_wp2_with fail
        go_roundw
        case rel => exact ⟨j + 1, by go_num, by omega, by trivial⟩
        case measure => simp [intOf]; omega
      · obtain rfl : m = j := by omega
        go_wp2_with fail
        go_ret
        exact ⟨rfl, by rw [← HB.out]; exact HQ2.out.be⟩
end Go.Proofs.Ybulkbxvg
