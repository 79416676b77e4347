/-
  IDs as twenty bytes; bytes.Compare, zzs3718acmp and compareIDs (functions 14, 8, 16).
-/
import Derived.Test.YbulkbxzaLaid
import Derived.WalkKit
import Derived.WalkSpells
import Derived.WalkLawsBesides
import Derived.BigQuiet
import Derived.Deep.QuietTactic
import Derived.Deep.RegionWith
import Derived.RegionTactic
import Derived.ChangeAlike
import Derived.Lib.Bytealg
import Derived.Stop.CallBack
namespace Go.Proofs.Ybulkbxza
open Go.RowKit Go.Sort Go.Lib
set_option linter.unusedVariables false

abbrev ID := Vector UInt8 20
def bs (x : ID) : List UInt8 := x.toList
theorem bs_len (x : ID) : (bs x).length = 20 := by simp [bs]
theorem bs_inj {x y : ID} (h : bs x = bs y) : x = y := by
  unfold bs at h
  exact Vector.toList_inj.1 h
def enc (x : ID) : List Value := (bs x).map fun c => .int .u8 c.toNat
theorem enc_len (x : ID) : (enc x).length = 20 := by simp [enc, bs_len]
theorem enc_one (x : ID) : ∀ v ∈ enc x, v.oneCell' = true := by
  intro v hv
  obtain ⟨c, _, rfl⟩ := List.mem_map.1 hv
  rfl
def cf (x y : ID) : Int := compareBytes (bs x) (bs y)
theorem inh : (default : ID) = default := rfl

/-- The bytes that lie in a row of cells. -/
theorem run_loadBytes {P : Program} (w : World) (b : Nat) : ∀ (l : List UInt8) (o : Nat) (acc : ByteArray), (∀ i (h : i < l.length), w.cell? ⟨b, o + i, none⟩ = some (.int .u8 l[i].toNat)) →
    (Extern.Bytes.loadBytes ⟨b, o, none⟩ l.length acc).run P w = .ok (l.foldl ByteArray.push acc) w
  | [], o, acc, _ => by rfl
  | c :: r, o, acc, h => by
    have h0 := h 0 (by simp)
    have hl : (load ⟨b, o, none⟩).run P w = .ok (.int .u8 c.toNat) w := by
      rw [run_load]
      simp at h0
      simp [h0]
    have ih := run_loadBytes (P := P) w b r (o + 1) (acc.push c) (fun i hi => by
      have := h (i + 1) (by simp; omega)
      rw [show o + 1 + i = o + (i + 1) by omega]
      simpa using this)
    show (Extern.Bytes.loadBytes ⟨b, o, none⟩ (r.length + 1) acc).run P w = _
    rw [Extern.Bytes.loadBytes]
    simp only [Sem.run_bind, hl, Result.andThen]
    rw [show (c.toNat : Int).toNat.toUInt8 = c by simp]
    exact ih

theorem foldl_push : ∀ (l : List UInt8) (acc : ByteArray), (l.foldl ByteArray.push acc).data.toList = acc.data.toList ++ l
  | [], acc => by simp
  | c :: r, acc => by rw [List.foldl_cons, foldl_push r]; simp [ByteArray.push]

theorem run_compareRows {P : Program} (w : World) (b1 o1 c1 b2 o2 c2 n1 n2 : Nat) (l1 l2 : List UInt8) (n1e : l1.length = n1) (n2e : l2.length = n2) (h1 : ∀ i (h : i < l1.length), w.cell? ⟨b1, o1 + i, none⟩ = some (.int .u8 l1[i].toNat)) (h2 : ∀ i (h : i < l2.length), w.cell? ⟨b2, o2 + i, none⟩ = some (.int .u8 l2[i].toNat)) :
    (Extern.BytealgCompare.compare #[.slice (some ⟨b1, o1, none⟩) n1 c1, .slice (some ⟨b2, o2, none⟩) n2 c2]).run P w = .ok (.int .i64 (compareBytes l1 l2)) w := by
  subst n1e n2e
  change Sem.run P (do pure (goInt (Extern.BytealgCompare.cmp (← Extern.Bytes.bytesOf (.slice (some ⟨b1, o1, none⟩) l1.length c1)) (← Extern.Bytes.bytesOf (.slice (some ⟨b2, o2, none⟩) l2.length c2))))) w = _
  simp only [Extern.Bytes.bytesOf, Sem.run_bind, run_loadBytes w b1 l1 o1 _ h1, run_loadBytes w b2 l2 o2 _ h2, Result.andThen, Sem.run_pure]
  rw [cmp_eq, foldl_push, foldl_push]
  rfl

theorem call27 (args : Array Value) (w : World) : (callFunc 27 args).run Yba.prog w = ((Extern.BytealgCompare.compare args).run Yba.prog w).andThen fun v w' => .ok (.value v) w' :=
  run_callFunc_extern Yba.func27 (by kernel_rfl) (by kernel_rfl) (by kernel_rfl) (by kernel_rfl) args w

set_option maxHeartbeats 400000 in
/-- bytes.Compare over two rows of bytes. -/
theorem compare_any (w : World) (b1 o1 c1 b2 o2 c2 n1 n2 : Nat) (l1 l2 : List UInt8) (n1e : l1.length = n1) (n2e : l2.length = n2) (h1 : ∀ i (h : i < l1.length), w.cell? ⟨b1, o1 + i, none⟩ = some (.int .u8 l1[i].toNat)) (h2 : ∀ i (h : i < l2.length), w.cell? ⟨b2, o2 + i, none⟩ = some (.int .u8 l2[i].toNat)) :
    Calls Yba.prog 14 #[.slice (some ⟨b1, o1, none⟩) n1 c1, .slice (some ⟨b2, o2, none⟩) n2 c2] w fun e w' => e = .returned (.int .i64 (compareBytes l1 l2)) ∧ w' = w := by
  have hc := call27 #[.slice (some ⟨b1, o1, none⟩) n1 c1, .slice (some ⟨b2, o2, none⟩) n2 c2] w
  rw [run_compareRows w b1 o1 c1 b2 o2 c2 n1 n2 l1 l2 n1e n2e h1 h2] at hc
  clear h1 h2 n1e n2e
  generalize compareBytes l1 l2 = r at *
  go_enter Yba.func14, Yba.ntmps14
  go_wp2
  go_ret
  exact ⟨rfl, rfl⟩
end Go.Proofs.Ybulkbxza
