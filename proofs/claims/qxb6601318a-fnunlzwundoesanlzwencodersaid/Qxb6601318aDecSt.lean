/-
  The decoder's memory and its relation: no walk here.
-/
import Derived.Test.Qxb6601318aArr
import Derived.Test.Qxb6601318aMem
import Derived.Test.Qxb6601318aStream
import Derived.Deep.Draws
namespace Go.Proofs.Qxb6601318a
open Go.RowKit

def zeros : List Int := List.replicate 4096 0
theorem zeros_len : zeros.length = 4096 := List.length_replicate ..
theorem zeros_getD (i : Nat) : zeros.getD i 0 = 0 := by
  unfold zeros
  rw [List.getD_eq_getElem?_getD, List.getElem?_replicate]
  split <;> rfl
def bytesTo (k : Nat) : List Int := (List.range k).map (fun (i : Nat) => (i : Int)) ++ List.replicate (4096 - k) 0
def onesTo (k : Nat) : List Int := List.replicate k 1 ++ List.replicate (4096 - k) 0

theorem bytesTo_len (k : Nat) (h : k ≤ 4096) : (bytesTo k).length = 4096 := by
  unfold bytesTo; rw [List.length_append, List.length_map, List.length_range, List.length_replicate]; omega
theorem onesTo_len (k : Nat) (h : k ≤ 4096) : (onesTo k).length = 4096 := by
  unfold onesTo; rw [List.length_append, List.length_replicate, List.length_replicate]; omega
theorem bytesTo_succ (k : Nat) (h : k < 4096) : (bytesTo k).set k (k : Int) = bytesTo (k + 1) := by
  unfold bytesTo
  obtain ⟨n, hn⟩ : ∃ n, 4096 - k = n + 1 := ⟨4096 - k - 1, by omega⟩
  rw [hn, show 4096 - (k + 1) = n by omega, List.replicate_succ, List.set_append, if_neg (by simp), List.range_succ]
  simp
theorem onesTo_succ (k : Nat) (h : k < 4096) : (onesTo k).set k 1 = onesTo (k + 1) := by
  unfold onesTo
  obtain ⟨n, hn⟩ : ∃ n, 4096 - k = n + 1 := ⟨4096 - k - 1, by omega⟩
  rw [hn, show 4096 - (k + 1) = n by omega, List.replicate_succ, List.set_append, if_neg (by simp), List.replicate_succ']
  simp

theorem rowAt_zero (w : World) (t : TypeId) (k : IntKind) : RowAt (w.alloc (.cells (zeroRow k) t)) w.heap.size t k zeros := heap_alloc_new w _

/-- The decoder's four rows. -/
structure Rows4 (b : Nat) (w0 : World) (PL LL HL SL : List Int) (wr : World) : Prop where
  p : RowAt wr b 39 .u16 PL
  l : RowAt wr (b + 1) 40 .u8 LL
  h : RowAt wr (b + 1 + 1) 40 .u8 HL
  s : RowAt wr (b + 1 + 1 + 1) 41 .i64 SL
  bl : Below b w0 wr
  sz : b + 4 ≤ wr.heap.size

theorem rows_init {b : Nat} {w0 wr : World} {k : Nat} (h : Rows4 b w0 zeros (bytesTo k) (bytesTo k) (onesTo k) wr) (hk : k < 256) :
    Rows4 b w0 zeros (bytesTo (k + 1)) (bytesTo (k + 1)) (onesTo (k + 1)) (((wr.setCell ⟨b + 1, k, none⟩ (.int .u8 k)).setCell ⟨b + 1 + 1, k, none⟩ (.int .u8 k)).setCell ⟨b + 1 + 1 + 1, k, none⟩ (.int .i64 1)) := by
  rw [← bytesTo_succ k (by omega), ← onesTo_succ k (by omega)]
  have hs := h.sz
  exact {
    p := ((h.p.other (by show b ≠ b + 1; omega) _).other (by show b ≠ b + 1 + 1; omega) _).other (by show b ≠ b + 1 + 1 + 1; omega) _
    l := ((h.l.set k _).other (by show b + 1 ≠ b + 1 + 1; omega) _).other (by show b + 1 ≠ b + 1 + 1 + 1; omega) _
    h := ((h.h.other (by show b + 1 + 1 ≠ b + 1; omega) _).set k _).other (by show b + 1 + 1 ≠ b + 1 + 1 + 1; omega) _
    s := ((h.s.other (by show b + 1 + 1 + 1 ≠ b + 1; omega) _).other (by show b + 1 + 1 + 1 ≠ b + 1 + 1; omega) _).set k _
    bl := ((h.bl.setCell (by show b ≤ b + 1; omega) _).setCell (by show b ≤ b + 1 + 1; omega) _).setCell (by show b ≤ b + 1 + 1 + 1; omega) _
    sz := by simpa [World.setCell] using hs }

theorem rows_start (w : World) : Rows4 w.heap.size w zeros (bytesTo 0) (bytesTo 0) (onesTo 0) ((((w.alloc (.cells (zeroRow .u16) 39)).alloc (.cells (zeroRow .u8) 40)).alloc (.cells (zeroRow .u8) 40)).alloc (.cells (zeroRow .i64) 41)) := by
  have e1 : bytesTo 0 = zeros := rfl
  have e2 : onesTo 0 = zeros := rfl
  rw [e1, e2]
  generalize hA : (Obj.cells (zeroRow .u16) 39) = A
  generalize hB : (Obj.cells (zeroRow .u8) 40) = B
  generalize hC : (Obj.cells (zeroRow .i64) 41) = C
  have s1 : (w.alloc A).heap.size = w.heap.size + 1 := World.size_alloc ..
  have s2 : ((w.alloc A).alloc B).heap.size = w.heap.size + 1 + 1 := by rw [World.size_alloc, s1]
  have s3 : (((w.alloc A).alloc B).alloc B).heap.size = w.heap.size + 1 + 1 + 1 := by rw [World.size_alloc, s2]
  have s4 : ((((w.alloc A).alloc B).alloc B).alloc C).heap.size = w.heap.size + 1 + 1 + 1 + 1 := by rw [World.size_alloc, s3]
  have r1 := rowAt_zero w 39 .u16
  have r2 := rowAt_zero (w.alloc A) 40 .u8
  have r3 := rowAt_zero ((w.alloc A).alloc B) 40 .u8
  have r4 := rowAt_zero (((w.alloc A).alloc B).alloc B) 41 .i64
  rw [hA] at r1
  rw [hB, s1] at r2
  rw [hB, s2] at r3
  rw [hC, s3] at r4
  exact {
    p := ((r1.alloc _).alloc _).alloc _
    l := (r2.alloc _).alloc _
    h := r3.alloc _
    s := r4
    bl := ((((Below.refl _ _).alloc (Nat.le_refl _) _).alloc (by omega) _).alloc (by omega) _).alloc (by omega) _
    sz := by omega }

theorem Rows4.drewN {b : Nat} {w0 : World} {PL LL HL SL : List Int} {wr : World} (h : Rows4 b w0 PL LL HL SL wr) (n : Nat) : Rows4 b w0 PL LL HL SL (wr.drewN n) :=
  ⟨h.p, h.l, h.h, h.s, h.bl.trans ⟨rfl, rfl, rfl, Nat.le_refl _, fun _ _ => rfl⟩, h.sz⟩

def outOf (T : List (List Int)) (C : List Nat) (j : Nat) : List Int := ((C.take j).map (look T)).flatten
def posOf (early : Bool) (C : List Nat) (j : Nat) : Nat := (stream early 0 (C.take j)).length
def prevOf (C : List Nat) (j : Nat) : Int := if j = 0 then -1 else ((C.getD (j - 1) 0 : Nat) : Int)

structure Main (b : Nat) (w0 : World) (T : List (List Int)) (C : List Nat) (early : Bool) (j : Nat) (v : Value) (Bv nb ib : Nat) (wr : World) : Prop where
  rows : ∃ PL LL HL SL, Rows4 b w0 PL LL HL SL wr ∧ Dec T (min (j - 1) 3838) PL LL HL SL
  out : wr.ownsRow (b + 4) 5 1 v (outOf T C j).length ((outOf T C j).map (Value.int .u8))
  jle : j ≤ C.length
  hb : 8 * ib = posOf early C j + nb
  hv : Bv % 2 ^ nb = val (bitf (full early C)) (posOf early C j) nb
  nb8 : nb < 8
  b32 : Bv < 4294967296

theorem dec_start (T : List (List Int)) : Dec T 0 zeros (bytesTo 256) (bytesTo 256) (onesTo 256) := by
  have hb : ∀ c, c < 256 → (bytesTo 256).getD c 0 = (c : Int) := by
    intro c hc
    unfold bytesTo
    rw [List.getD_eq_getElem?_getD, List.getElem?_append_left (by rw [List.length_map, List.length_range]; exact hc), List.getElem?_map, List.getElem?_range hc]
    rfl
  refine ⟨zeros_len, bytesTo_len _ (by omega), bytesTo_len _ (by omega), onesTo_len _ (by omega), ?_, ?_, ?_, hb, ?_⟩
  · intro i hi
    rw [zeros_getD]
    omega
  · intro c hc
    rcases hc with hc | ⟨_, hc⟩
    · rw [hb c hc]; unfold look; rw [if_pos hc]; rfl
    · omega
  · intro c hc
    rcases hc with hc | ⟨_, hc⟩
    · have : (onesTo 256).getD c 0 = 1 := by
        unfold onesTo
        rw [List.getD_eq_getElem?_getD, List.getElem?_append_left (by rw [List.length_replicate]; exact hc), List.getElem?_replicate, if_pos hc]
        rfl
      rw [this]; unfold look; rw [if_pos hc]; rfl
    · omega
  · intro e he; omega

def lenOf : Value → Nat | .slice _ n _ => n | _ => 0

end Go.Proofs.Qxb6601318a
