/-
  The clones (24, 25), the size guard (28).
-/
import Derived.Test.Qxb6601535aW1
namespace Go.Proofs.Qxb6601535a
open Go.RowKit

theorem Try.info30 : (Try.prog.info? 30).map (fun i => (i.zero, i.size, i.bytes)) = some (some (.int .u64 0), 1, 8) := by kernel_rfl
theorem Try.info3 : (Try.prog.info? 3).map (fun i => (i.zero, i.size, i.bytes)) = some (some (.int .i64 0), 1, 8) := by kernel_rfl

/-- A slice of integers that can be read: its elements are l. -/
def Reads (k : IntKind) (w : World) (a : Option Addr) (l : List Int) : Prop :=
  l = [] ∨ ∃ b off, a = some ⟨b, off, none⟩ ∧ ∀ i, i < l.length → w.cell? ⟨b, off + i, none⟩ = some (.int k (l.getD i 0))

theorem reads_below {k : IntKind} {B : Nat} {w w' : World} {a : Option Addr} {l : List Int} (h : Reads k w a l) (hb : Below B w w') (hB : w.heap.size ≤ B) : Reads k w' a l := by
  rcases h with h | ⟨b, off, rfl, hc⟩
  · exact .inl h
  · refine .inr ⟨b, off, rfl, fun i hi => ?_⟩
    have := World.block_lt_of_cell? w _ (hc i hi)
    rw [hb.cell (by exact Nat.lt_of_lt_of_le this hB)]
    exact hc i hi

theorem blockAt_reads {k : IntKind} {w : World} {g : Nat} {e : TypeId} {l : List Int} (h : BlockAt w g e (l.map (Value.int k))) : Reads k w (some ⟨g, 0, none⟩) l := by
  refine .inr ⟨g, 0, rfl, fun i hi => ?_⟩
  rw [Nat.zero_add, h.cell]
  simp [hi]

/-- The list behind k rounds of a copy. -/
def half (zs : List Int) (len k : Nat) : List Int := zs.take k ++ List.replicate (len - k) 0

theorem half_zero (zs : List Int) (len : Nat) : half zs len 0 = List.replicate len 0 := by simp [half]
theorem half_len (zs : List Int) (len k : Nat) (hk : k ≤ len) (hl : len ≤ zs.length) : (half zs len k).length = len := by
  simp [half]; omega
theorem half_succ (zs : List Int) (len k : Nat) (hk : k < len) (hl : len ≤ zs.length) : (half zs len k).set k (zs.getD k 0) = half zs len (k + 1) := by
  unfold half
  obtain ⟨n, hn⟩ : ∃ n, len - k = n + 1 := ⟨len - k - 1, by omega⟩
  have h2 : len - (k + 1) = n := by omega
  have hkl : k < zs.length := by omega
  rw [hn, h2, List.replicate_succ, List.set_append, if_neg (by simp; omega), List.take_succ_eq_append_getElem hkl]
  have e : k - (zs.take k).length = 0 := by simp; omega
  rw [e, List.set_cons_zero, List.append_assoc, List.getD_eq_getElem?_getD, List.getElem?_eq_getElem hkl]
  rfl
theorem half_full (zs : List Int) (len : Nat) (h : zs.length = len) : half zs len len = zs := by simp [half, ← h]

theorem made_ints (k : IntKind) (n : Nat) : (madeCells #[Value.int k 0] n).toList = (List.replicate n (0 : Int)).map (Value.int k) := by
  simp [toList_madeCells_one]

def ClonePost (k : IntKind) (l : List Int) (w : World) (e : Ending) (w' : World) : Prop :=
  ∃ a c, e = .returned (.slice a l.length c) ∧ Reads k w' a l ∧ Below w.heap.size w w'

theorem eqNil39 : ∀ (w : World) (a : Option Addr) (n c n' c' : Nat), (binOp .eql 39 (.slice a n c) (.slice none n' c')).run Try.prog w = .ok (.bool a.isNone) w :=
  fun w a n c n' c' => Lib.run_eql_slice_nil w _ _ a n c n' c' Try.underlying39
theorem eqNil40 : ∀ (w : World) (a : Option Addr) (n c n' c' : Nat), (binOp .eql 40 (.slice a n c) (.slice none n' c')).run Try.prog w = .ok (.bool a.isNone) w :=
  fun w a n c n' c' => Lib.run_eql_slice_nil w _ _ a n c n' c' Try.underlying40

set_option maxHeartbeats 400000 in
theorem cloneU_any (a : Option Addr) (cap : Nat) (zs : List Int) (w : World) (hr : Reads .u64 w a zs) (hlen : zs.length ≤ 65536) :
    Calls Try.prog 24 #[.slice a zs.length cap] w fun e w' => ClonePost .u64 zs w e w' := by
  obtain ⟨i0, hi, hz0, hz1, hz2⟩ := info_parts Try.info30
  have q := eqNil39
  cases a with
  | none =>
    have : zs = [] := by
      rcases hr with h | ⟨b, off, h, _⟩
      · exact h
      · simp at h
    subst this
    go_enter Try.func24, Try.ntmps24
    go_wp2
    go_ret
    exact ⟨_, _, rfl, .inl rfl, Below.refl _ _⟩
  | some x =>
    go_enter Try.func24, Try.ntmps24
    go_wp2_with (at_make; refine wpList_make_full _ rfl _ _ 39 rfl w.heap.size 30 i0 (.int .u64 0) 1 Try.underlying39 hi hz0 hz1 .i64 .i64 _ _ zs.length rfl rfl rfl rfl (by rw [hz2]; omega) (by unfold maxLen; omega) (Nat.le_refl _) ?_)
    intro w1 hown hgrow
    rw [made_ints] at hown
    have hB := blockAt_own hown
    have hbel : Below w.heap.size w w1 := (Below.refl _ _).grown hgrow (Nat.le_refl _) (by simp)
    clear hown hgrow
    go_wp2
    go_loopw [4] (fun i wr => ∃ k : Nat, k ≤ zs.length ∧ i = .int .i64 k ∧ BlockAt wr w.heap.size 30 ((half zs zs.length k).map (Value.int .u64)) ∧ Below w.heap.size w wr) (fun i _ => zs.length - (intOf i).toNat)
    case atStart => exact ⟨0, Nat.zero_le _, rfl, by rw [half_zero]; exact hB, hbel⟩
    case round =>
      clear hB hbel
      obtain ⟨k, hk, rfl, hB, hbe⟩ := hrel
      by_cases hlt : k < zs.length
      · obtain ⟨b, off, rfl, hcell⟩ : ∃ b off, x = ⟨b, off, none⟩ ∧ ∀ i, i < zs.length → w.cell? ⟨b, off + i, none⟩ = some (.int .u64 (zs.getD i 0)) := by
          rcases hr with rfl | ⟨b, off, h, hc⟩
          · simp at hlt
          · injection h with h; exact ⟨b, off, h, hc⟩
        have hl2 := half_len zs zs.length k hk (Nat.le_refl _)
        have hcx : wr.cell? ⟨b, off + k, none⟩ = some (.int .u64 (zs.getD k 0)) := (hbe.cell (World.block_lt_of_cell? w _ (hcell k hlt))).trans (hcell k hlt)
        have hcy : wr.cell? ⟨w.heap.size, k, none⟩ = some (.int .u64 ((half zs zs.length k).getD k 0)) := by
          rw [hB.cell]; simp [show k < (half zs zs.length k).length by omega]
        have hfy := hB.frozen k
        have R := hB.set k (.int .u64 (zs.getD k 0))
        rw [← List.map_set, half_succ zs zs.length k hlt (Nat.le_refl _)] at R
        have hbe' := hbe.setCell (p := ⟨w.heap.size, k, none⟩) (Nat.le_refl _) (.int .u64 (zs.getD k 0))
        obtain ⟨v, hv⟩ : ∃ v, v = zs.getD k 0 := ⟨_, rfl⟩
        rw [← hv] at hcx R hbe'
        clear hl2 hB hv
        go_wp2
        go_roundw
        case rel => exact ⟨k + 1, by omega, by go_num, R, hbe'⟩
        case measure => simp [intOf]; omega
      · obtain rfl : k = zs.length := by omega
        rw [half_full zs _ rfl] at hB
        go_wp2
        go_ret
        exact ⟨_, _, rfl, blockAt_reads hB, hbe⟩

set_option maxHeartbeats 400000 in
theorem cloneI_any (a : Option Addr) (cap : Nat) (zs : List Int) (w : World) (hr : Reads .i64 w a zs) (hlen : zs.length ≤ 65536) :
    Calls Try.prog 25 #[.slice a zs.length cap] w fun e w' => ClonePost .i64 zs w e w' := by
  obtain ⟨i0, hi, hz0, hz1, hz2⟩ := info_parts Try.info3
  have q := eqNil40
  cases a with
  | none =>
    have : zs = [] := by
      rcases hr with h | ⟨b, off, h, _⟩
      · exact h
      · simp at h
    subst this
    go_enter Try.func25, Try.ntmps25
    go_wp2
    go_ret
    exact ⟨_, _, rfl, .inl rfl, Below.refl _ _⟩
  | some x =>
    go_enter Try.func25, Try.ntmps25
    go_wp2_with (at_make; refine wpList_make_full _ rfl _ _ 40 rfl w.heap.size 3 i0 (.int .i64 0) 1 Try.underlying40 hi hz0 hz1 .i64 .i64 _ _ zs.length rfl rfl rfl rfl (by rw [hz2]; omega) (by unfold maxLen; omega) (Nat.le_refl _) ?_)
    intro w1 hown hgrow
    rw [made_ints] at hown
    have hB := blockAt_own hown
    have hbel : Below w.heap.size w w1 := (Below.refl _ _).grown hgrow (Nat.le_refl _) (by simp)
    clear hown hgrow
    go_wp2
    go_loopw [4] (fun i wr => ∃ k : Nat, k ≤ zs.length ∧ i = .int .i64 k ∧ BlockAt wr w.heap.size 3 ((half zs zs.length k).map (Value.int .i64)) ∧ Below w.heap.size w wr) (fun i _ => zs.length - (intOf i).toNat)
    case atStart => exact ⟨0, Nat.zero_le _, rfl, by rw [half_zero]; exact hB, hbel⟩
    case round =>
      clear hB hbel
      obtain ⟨k, hk, rfl, hB, hbe⟩ := hrel
      by_cases hlt : k < zs.length
      · obtain ⟨b, off, rfl, hcell⟩ : ∃ b off, x = ⟨b, off, none⟩ ∧ ∀ i, i < zs.length → w.cell? ⟨b, off + i, none⟩ = some (.int .i64 (zs.getD i 0)) := by
          rcases hr with rfl | ⟨b, off, h, hc⟩
          · simp at hlt
          · injection h with h; exact ⟨b, off, h, hc⟩
        have hl2 := half_len zs zs.length k hk (Nat.le_refl _)
        have hcx : wr.cell? ⟨b, off + k, none⟩ = some (.int .i64 (zs.getD k 0)) := (hbe.cell (World.block_lt_of_cell? w _ (hcell k hlt))).trans (hcell k hlt)
        have hcy : wr.cell? ⟨w.heap.size, k, none⟩ = some (.int .i64 ((half zs zs.length k).getD k 0)) := by
          rw [hB.cell]; simp [show k < (half zs zs.length k).length by omega]
        have hfy := hB.frozen k
        have R := hB.set k (.int .i64 (zs.getD k 0))
        rw [← List.map_set, half_succ zs zs.length k hlt (Nat.le_refl _)] at R
        have hbe' := hbe.setCell (p := ⟨w.heap.size, k, none⟩) (Nat.le_refl _) (.int .i64 (zs.getD k 0))
        obtain ⟨v, hv⟩ : ∃ v, v = zs.getD k 0 := ⟨_, rfl⟩
        rw [← hv] at hcx R hbe'
        clear hl2 hB hv
        go_wp2
        go_roundw
        case rel => exact ⟨k + 1, by omega, by go_num, R, hbe'⟩
        case measure => simp [intOf]; omega
      · obtain rfl : k = zs.length := by omega
        rw [half_full zs _ rfl] at hB
        go_wp2
        go_ret
        exact ⟨_, _, rfl, blockAt_reads hB, hbe⟩

set_option maxHeartbeats 400000 in
theorem guard_any (a0 : Option Addr) (l0 c0 : Nat) (a1 : Option Addr) (l1 c1 : Nat) (f c : Int) (w : World) (h0 : l0 ≤ maxLen) (h1 : l1 ≤ maxLen) :
    Calls Try.prog 28 #[.slice a0 l0 c0, .slice a1 l1 c1, .int .i64 f, .int .i64 c] w fun e w' => (∃ gb, e = .returned (.bool gb) ∧ (l0 ≤ 65536 → l1 ≤ 65536 → gb = true)) ∧ w' = w := by
  unfold maxLen at h0 h1
  go_enter Try.func28, Try.ntmps28
  go_wp2
  all_goals
    go_ret
    refine ⟨⟨_, rfl, fun _ _ => ?_⟩, rfl⟩
    first | rfl | omega

end Go.Proofs.Qxb6601535a
