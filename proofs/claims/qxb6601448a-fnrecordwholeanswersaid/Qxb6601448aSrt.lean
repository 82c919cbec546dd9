/-
  slices.Collect (63), slices.Sorted (59).
-/
import Derived.Test.Qxb6601448aItr
import Derived.Test.Qxb6601448aLay
import Derived.Sort.OwnSorted
import Derived.Shelf.SlIter.Sorted
namespace Go.Proofs.Qxb6601448a
open Go.RowKit Go.Sort

def lb (s : ByteArray) : List UInt8 := s.data.toList
def bl (l : List UInt8) : ByteArray := ⟨l.toArray⟩
theorem bl_lb (s : ByteArray) : bl (lb s) = s := by simp [bl, lb]
theorem lb_bl (l : List UInt8) : lb (bl l) = l := by simp [bl, lb]

/-- Sorted by bytes. -/
def srt (ss : List ByteArray) : List ByteArray := ((ss.map lb).mergeSort fun x y => decide (x ≤ y)).map bl

theorem enS_lb (ss : List ByteArray) : enS ss = (ss.map lb).map encStr := by
  rw [enS, List.map_map]
  apply List.map_congr_left
  intro s _
  show Value.string s = Value.string ⟨(lb s).toArray⟩
  rw [show (⟨(lb s).toArray⟩ : ByteArray) = bl (lb s) from rfl, bl_lb]

theorem enS_srt (ss : List ByteArray) : enS (srt ss) = ((ss.map lb).mergeSort fun x y => decide (x ≤ y)).map encStr := by
  rw [enS, srt, List.map_map]
  rfl

set_option maxHeartbeats 1000000 in
theorem collect63 (F : Fence) (n : Nat) (h63 : F.fn 63) (h67 : F.fn 67) (h65 : F.fn 65) (hro : F.round = none) (hn : 4 ≤ n) (Bv : Nat) (w : World) (a : Option Addr) (cap : Nat) (ss : List ByteArray) (hC : Cells w a (enS ss)) (hlen : ss.length ≤ 1048576)
    (hB : Bv < w.heap.size) (hBv : w.cell? ⟨Bv, 0, none⟩ = some (.slice a ss.length cap)) :
    CallsIn F n Try.prog 63 #[.func (.func 65) #[] #[.pointer (some ⟨Bv, 0, none⟩)]] w fun e w' => ∃ v, e = .returned v ∧ w'.ownsRow w.heap.size 9 1 v ss.length (enS ss) ∧ Below w.heap.size w w' := by
  have h1 : 1 ≤ n := by omega
  have hA := append67 F (n - 1) h67 h65 hro (by omega) Bv w a cap ss hC hlen hB hBv
  refine callsIn_of_wp Try.func63 rfl h63 ?_ hro
  simp only [Try.ntmps63, List.size_toArray, List.length_cons, List.length_nil, Nat.reduceAdd, Nat.reduceSub, Array.replicate_succ, Array.replicate_zero, List.push_toArray, List.append_toArray, List.nil_append, List.cons_append]
  gi_wp2_with (gi_at_call 67; refine hA.mono ?_; rintro e w' ⟨v, rfl, hrow, hb⟩)
  go_ret
  exact ⟨v, rfl, hrow, hb⟩

set_option maxRecDepth 100000 in
set_option maxHeartbeats 2000000 in
theorem sorted59 (n : Nat) (hn : 5 ≤ n) (Bv : Nat) (w : World) (a : Option Addr) (cap : Nat) (ss : List ByteArray) (hC : Cells w a (enS ss)) (hlen : ss.length ≤ 1048576)
    (hB : Bv < w.heap.size) (hBv : w.cell? ⟨Bv, 0, none⟩ = some (.slice a ss.length cap)) :
    CallsIn Fence.wide n Try.prog 59 #[.func (.func 65) #[] #[.pointer (some ⟨Bv, 0, none⟩)]] w fun e w' => ∃ v, e = .returned v ∧ w'.ownsRow w.heap.size 9 1 v ss.length (enS (srt ss)) ∧ Below w.heap.size w w' := by
  have h1 : 1 ≤ n := by omega
  have hF : ∀ k, Fence.wide.fn k := fun _ => trivial
  have hf63 : Fence.wide.fn 63 := trivial
  have hf64 : Fence.wide.fn 64 := trivial
  have hA := collect63 Fence.wide (n - 1) trivial trivial trivial rfl (by omega) Bv w a cap ss hC hlen hB hBv
  refine callsIn_of_wp Try.func59 rfl trivial ?_ rfl
  simp only [Try.ntmps59, List.size_toArray, List.length_cons, List.length_nil, Nat.reduceAdd, Nat.reduceSub, Array.replicate_succ, Array.replicate_zero, List.push_toArray, List.append_toArray, List.nil_append, List.cons_append]
  gi_wp2_with (gi_at_call 63; refine hA.mono ?_; rintro e W ⟨v, rfl, hrow, hb⟩)
  rw [enS_lb] at hrow
  rcases hrow.2 with ⟨rfl, hz⟩ | ⟨gb, cap2, cur, rfl, hbase, hgb, r1, r2, r3, r4⟩
  · have hss : ss = [] := List.eq_nil_of_length_eq_zero hz
    subst hss
    have cS : CallsIn Fence.wide (n - 1) Try.prog 64 #[.slice none 0 0] W fun e w' => e = .returned (.tuple #[]) ∧ w' = W := callsIn_wide.2 (AnyM.slices_Sort_string_none Try.sort none 0 W)
    gi_wp2_with (gi_at_call 64; refine cS.mono ?_; rintro e w' ⟨rfl, rfl⟩)
    go_ret
    exact ⟨.slice none 0 0, rfl, by rw [enS_srt]; simpa using hrow, hb⟩
  · have hL : (ss.map lb).length = ss.length := by simp
    have hH : Holds encStr W gb 0 (ss.map lb).toArray := holds_of_block hgb (by rw [Nat.mul_one, ← hL] at r4; exact r4)
    have hgl : gb < W.heap.size := (Array.getElem?_eq_some_iff.1 hgb).1
    have cS : CallsIn Fence.wide (n - 1) Try.prog 64 #[.slice (some ⟨gb, 0, none⟩) (ss.map lb).length cap2] W fun e w' => e = .returned (.tuple #[]) ∧ ∃ k os, w' = grow (putRow encStr (Sort.ahead W k) gb 0 ((ss.map lb).mergeSort fun x y => decide (x ≤ y)).toArray) os :=
      callsIn_wide.2 (AnyM.slices_Sort_string Try.sort gb 0 cap2 (ss.map lb) W hH hgl (by rw [hL]; omega))
    rw [hL] at cS
    gi_wp2_with (gi_at_call 64; refine cS.mono ?_; rintro e w' ⟨rfl, nn, os, rfl⟩)
    go_ret
    refine ⟨_, rfl, ?_, hb.grown (grownBy_sorted _) hb.size (fun j hj => by cases hj; exact hbase)⟩
    rw [enS_srt]
    have := ownsRow_sorted (w := W) (n := nn) (os := os) (ss := ss.map lb) (ts := (ss.map lb).mergeSort fun x y => decide (x ≤ y)) (by simp) hbase hgb (by rw [hL]; exact r1) r2 r3
    rw [hL] at this
    exact this

end Go.Proofs.Qxb6601448a
