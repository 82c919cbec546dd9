/-
  markersMatch (26).
-/
import Derived.Test.Qxb6601448aRec
namespace Go.Proofs.Qxb6601448a
open Go.RowKit

theorem look_one (w : World) (r : Nat) (nm : ByteArray) (v : Value) (h : w.heap[r]? = some (.map #[{ key := .string nm, val := v, born := 0 }] 1)) : (Instr.lookup 33 (.map (some r)) (.string nm) true).run Try.prog w = .ok (.tuple #[v, .bool true]) w := by
  have hkey : MapKept.IsKey .string (.string nm) := by simp [MapKept.IsKey]
  have hc : ∀ e, (Instr.checkKey e 10000 9 (.string nm)).run Try.prog w = .ok () w := fun e => MapKept.run_checkKey (k := .string nm) Try.underlying9 hkey e 9999
  rcases MapKept.findNow_spec hkey [{ key := .string nm, val := v, born := 0 }] 0 (fun x hx => by obtain rfl := List.mem_singleton.1 hx; exact hkey) with ⟨_, h2⟩ | ⟨j, e, h1, h2, _⟩
  · exact absurd rfl (h2 _ (List.mem_singleton.2 rfl))
  · have hj : j = 0 := by
      cases j with
      | zero => rfl
      | succ j => simp at h2
    subst hj
    simp at h2
    subst h2
    simp [Instr.lookup, run_underlying Try.underlying33, MapKept.run_getObj_map h, hc, MapKept.run_findKey Try.underlying9 h1, Result.andThen]

theorem len_one (w : World) (r : Nat) (es : Array MapEntry) (clock : Nat) (ty : TypeId) (h : w.heap[r]? = some (.map es clock)) : (Builtin.len_ #[33] ty #[.map (some r)]).run Try.prog w = .ok (.int .i64 es.size) w := by
  simp [Builtin.len_, run_underlying Try.underlying33, MapKept.run_getObj_map h, goInt, Result.andThen]

/-- sameStrs at these two, however far the tape. -/
def SameOk (W : World) (a a2 : Option Addr) (n c c2 : Nat) : Prop := ∀ q, Calls Try.prog 54 #[.slice a n c, .slice a2 n c2] (W.drewN q) fun e w' => e = .returned (.bool true) ∧ ∃ k, w' = (W.drewN q).drewN k

set_option maxHeartbeats 4000000 in
set_option maxRecDepth 100000 in
theorem match26 (w : World) (r eb : Nat) (sq : Int) (nm : ByteArray) (ks : List ByteArray) (a a2 : Option Addr) (c c2 : Nat) (hm : w.heap[r]? = some (.map #[{ key := .string nm, val := .agg #[.int .u64 sq, .slice a ks.length c], born := 0 }] 1))
    (hE : BlockAt w eb 64 [.string nm, .int .u64 sq, .slice a2 ks.length c2]) (h1 : Cells w a (enS ks)) (h2 : Cells w a2 (enS ks)) (hn : ks.length ≤ 1048576) :
    Calls Try.prog 26 #[.map (some r), .slice (some ⟨eb, 0, none⟩) 1 1] w fun e w' => e = .returned (.bool true) ∧ w.grownBy w' none := by
  have hlk := look_one w r nm _ hm
  have hln : (Builtin.len_ #[33] 3 #[.map (some r)]).run Try.prog w = .ok (.int .i64 1) w := len_one w r _ 1 3 hm
  have e0 : w.cell? ⟨eb, 0, none⟩ = some (.string nm) := hE.cell 0
  have e1 : w.cell? ⟨eb, 1, none⟩ = some (.int .u64 sq) := hE.cell 1
  have e2 : w.cell? ⟨eb, 2, none⟩ = some (.slice a2 ks.length c2) := hE.cell 2
  have heb : eb < w.heap.size := hE.lt
  obtain ⟨W, hW⟩ : ∃ W, W = w.alloc (Obj.cells #[.int .u64 sq, .slice a ks.length c] 86) := ⟨_, rfl⟩
  have g : w.grownBy W none := by rw [hW]; exact World.grownBy_alloc _ _ _
  have hsame : SameOk W a a2 ks.length c c2 := fun q => same54 (W.drewN q) a a2 c c2 ks (h1.grown (grown_drewN g q)) (h2.grown (grown_drewN g q)) hn
  have HSAME := (show Hid _ from hsame)
  have HG := (show Hid _ from g)
  clear hm hE h1 h2 hsame g hn
  obtain ⟨n, hnn⟩ : ∃ n, n = ks.length := ⟨_, rfl⟩
  rw [← hnn] at hlk e2 hW HSAME
  clear hnn
  have d1 : ((sq : Int) != sq) = false := by simp
  go_enter Try.func26, Try.ntmps26
  go_wp2
  go_loopw [5] (fun y wr => (y = .int .i64 0 ∧ wr = w) ∨ (y = .int .i64 1 ∧ w.grownBy wr none)) (fun y _ => 1 - (intOf y).toNat)
  case atStart => exact .inl ⟨rfl, rfl⟩
  case round =>
    rcases hrel with ⟨rfl, hwr⟩ | ⟨rfl, hg⟩
    · subst wr
      go_wp2
      have hBw : BlockAt W w.heap.size 86 [.int .u64 sq, .slice a n c] := by rw [hW]; exact blockAt_new w 86 _
      have k0 : W.cell? ⟨w.heap.size, 0, none⟩ = some (.int .u64 sq) := hBw.cell 0
      have k1 : W.cell? ⟨w.heap.size, 1, none⟩ = some (.slice a n c) := hBw.cell 1
      have hcw : ∀ i, W.cell? ⟨eb, i, none⟩ = w.cell? ⟨eb, i, none⟩ := fun i => (below_grown HG.out).cell heb
      have m0 := (hcw 0).trans e0
      have m1 := (hcw 1).trans e1
      have m2 := (hcw 2).trans e2
      rw [← hW]
      clear hW hBw hcw e0 e1 e2 hlk hln
      go_quiet (first | (go_at_call 54; exact Calls.quiet_of (HSAME.out _)))
      go_wp2
      go_roundw
      case rel => exact .inr ⟨by go_num, grown_drewN HG.out _⟩
      case measure => simp [intOf]
    · have HGR := (show Hid _ from hg)
      clear hg
      go_wp2
      go_ret
      exact ⟨rfl, HGR.out⟩

end Go.Proofs.Qxb6601448a
