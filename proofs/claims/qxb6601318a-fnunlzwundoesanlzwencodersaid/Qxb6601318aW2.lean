/-
  cloneBytes (7), isPrefix (9).
-/
import Derived.Test.Qxb6601318aW1
namespace Go.Proofs.Qxb6601318a
open Go.RowKit

theorem Try.info5 : (Try.prog.info? 5).map (fun i => (i.zero, i.size, i.bytes)) = some (some (.int .u8 0), 1, 1) := by kernel_rfl

/-- The list behind k rounds of the copy. -/
def half (zs : List Int) (len k : Nat) : List Int := zs.take k ++ List.replicate (len - k) 0

theorem half_zero (zs : List Int) (len : Nat) : (half zs len 0).map (Value.int .u8) = List.replicate len (Value.int .u8 0) := by
  simp [half]
theorem half_len (zs : List Int) (len k : Nat) (hk : k ≤ len) (hl : len ≤ zs.length) : (half zs len k).length = len := by
  simp [half]; omega
theorem half_succ (zs : List Int) (len k : Nat) (hk : k < len) (hl : len ≤ zs.length) : (half zs len k).set k (zs.getD k 0) = half zs len (k + 1) := by
  unfold half
  obtain ⟨n, hn⟩ : ∃ n, len - k = n + 1 := ⟨len - k - 1, by omega⟩
  have h2 : len - (k + 1) = n := by omega
  have hkl : k < zs.length := by omega
  rw [hn, h2, List.replicate_succ, List.set_append, if_neg (by simp; omega), List.take_succ_eq_append_getElem hkl]
  have e : k - (zs.take k).length = 0 := by simp; omega
  rw [e, List.set_cons_zero, List.append_assoc, List.getD_eq_getElem?_getD, List.getElem?_eq_getElem hkl]
  rfl
theorem half_full (zs : List Int) (len : Nat) : half zs len len = zs.take len := by simp [half]

theorem eqNil22 : ∀ (w : World) (a : Option Addr) (n c n' c' : Nat), (binOp .eql 22 (.slice a n c) (.slice none n' c')).run Try.prog w = .ok (.bool a.isNone) w :=
  fun w a n c n' c' => Lib.run_eql_slice_nil w _ _ a n c n' c' Try.underlying22

theorem clone_nil (w : World) : Calls Try.prog 7 #[.slice none 0 0] w fun e w' => e = .returned (.slice none 0 0) ∧ w' = w := by
  have q := eqNil22
  go_enter Try.func7, Try.ntmps7
  go_wp2
  go_ret
  exact ⟨rfl, rfl⟩

set_option maxHeartbeats 400000 in
theorem clone_row (b off : Nat) (len cap : Nat) (zs : List Int) (w : World) (hlc : len ≤ cap) (hz : zs.length = cap)
    (hcell : ∀ i, i < zs.length → w.cell? ⟨b, off + i, none⟩ = some (.int .u8 (zs.getD i 0))) (hlen : len ≤ 100000000) (hb : 0 < len → b < w.heap.size) :
    Calls Try.prog 7 #[.slice (some ⟨b, off, none⟩) len cap] w fun e w' => ∃ v, e = .returned v ∧ w'.ownsRow w.heap.size 5 1 v len ((zs.take len).map (Value.int .u8)) ∧ Below w.heap.size w w' := by
  obtain ⟨i0, hi, hz0, hz1, hz2⟩ := info_parts Try.info5
  have q := eqNil22
  go_enter Try.func7, Try.ntmps7
  go_wp2_with (at_make; refine wpList_make_full _ rfl _ _ 22 rfl w.heap.size 5 i0 (.int .u8 0) 1 Try.underlying22 hi hz0 hz1 .i64 .i64 _ _ len rfl rfl rfl rfl (by rw [hz2]; omega) (by unfold maxLen; omega) (Nat.le_refl _) ?_)
  intro w1 hown hgrow
  have hown' : w1.ownsRow w.heap.size 5 1 (.slice (some ⟨w.heap.size, 0, none⟩) len len) len ((half zs len 0).map (Value.int .u8)) := by
    rw [half_zero]
    simpa [Value.cells, toList_madeCells_one] using hown
  have hbel : Below w.heap.size w w1 := (Below.refl _ _).grown hgrow (Nat.le_refl _) (by simp)
  clear hown hgrow
  go_wp2
  go_loopw [4] (fun i wr => ∃ k : Nat, k ≤ len ∧ i = .int .i64 k ∧ wr.ownsRow w.heap.size 5 1 (.slice (some ⟨w.heap.size, 0, none⟩) len len) len ((half zs len k).map (Value.int .u8)) ∧ Below w.heap.size w wr) (fun i _ => len - (intOf i).toNat)
  case atStart => exact ⟨0, Nat.zero_le _, rfl, hown', hbel⟩
  case round =>
    obtain ⟨k, hk, rfl, ho, hbe⟩ := hrel
    clear hown' hbel
    by_cases hlt : k < len
    · have hcx : wr.cell? ⟨b, off + k, none⟩ = some (.int .u8 (zs.getD k 0)) := (hbe.cell (by exact hb (by omega))).trans (hcell k (by omega))
      have hl2 := half_len zs len k hk (by omega)
      have hcy : wr.cell? ⟨w.heap.size, k, none⟩ = some (.int .u8 ((half zs len k).getD k 0)) := by
        rw [ho.cellAt k (by omega)]
        simp [hl2, hlt]
      have hfy := ho.frozenAt k
      have R := ho.stored k (.int .u8 (zs.getD k 0))
      rw [← List.map_set, half_succ zs len k hlt (by omega)] at R
      have hbe' := hbe.setCell (p := ⟨w.heap.size, k, none⟩) (Nat.le_refl _) (.int .u8 (zs.getD k 0))
      go_wp2
      go_roundw
      case rel => exact ⟨k + 1, by omega, by go_num, R.1, hbe'⟩
      case measure => simp [intOf]; omega
    · obtain rfl : k = len := by omega
      rw [half_full] at ho
      go_wp2
      go_ret
      exact ⟨_, rfl, ho, hbe⟩

/-- A slice of bytes that can be read: its elements are l. -/
def Reads (w : World) (a : Option Addr) (l : List Int) : Prop :=
  l = [] ∨ ∃ b off, a = some ⟨b, off, none⟩ ∧ ∀ i, i < l.length → w.cell? ⟨b, off + i, none⟩ = some (.int .u8 (l.getD i 0))

theorem ownsRow_reads {w : World} {base : Nat} {v : Value} {n : Nat} {l : List Int} (h : w.ownsRow base 5 1 v n (l.map (Value.int .u8))) :
    ∃ a c, v = .slice a l.length c ∧ l.length = n ∧ Reads w a l := by
  have hn : l.length = n := by simpa using h.1
  rcases h.2 with ⟨rfl, rfl⟩ | ⟨g, cap, cur, rfl, hb, hg, hnc, hcm, hcs, htake⟩
  · exact ⟨none, 0, by rw [hn], hn, .inl (List.eq_nil_of_length_eq_zero hn)⟩
  · refine ⟨_, cap, by rw [hn], hn, .inr ⟨g, 0, rfl, fun i hi => ?_⟩⟩
    rw [Nat.zero_add, h.cellAt i (by omega)]
    simp [hi]

set_option maxHeartbeats 400000 in
theorem isPrefix_yes (a b : Option Addr) (ca cb : Nat) (la lb : List Int) (w : World) (ha : Reads w a la) (hb : Reads w b lb) (hp : la <+: lb) (hlen : lb.length ≤ 1000000000) :
    Calls Try.prog 9 #[.slice a la.length ca, .slice b lb.length cb] w fun e w' => e = .returned (.bool true) ∧ ∃ n, w' = w.drewN n := by
  have hle : la.length ≤ lb.length := hp.length_le
  rcases ha with rfl | ⟨ba, oa, rfl, hca⟩
  · go_enter Try.func9, Try.ntmps9
    go_wp2
    go_loop [5] (fun i => i = .int .i64 0) (fun _ => 0)
    case atStart => rfl
    case round =>
      subst hrel
      go_wp2
      go_ret
      exact ⟨rfl, 0, rfl⟩
  rcases hb with rfl | ⟨bb, ob, rfl, hcb⟩
  · have : la.length = 0 := by simpa using hle
    go_enter Try.func9, Try.ntmps9
    go_wp2
    go_loop [5] (fun i => i = .int .i64 0) (fun _ => 0)
    case atStart => rfl
    case round =>
      subst hrel
      go_wp2
      go_ret
      exact ⟨rfl, 0, rfl⟩
  go_enter Try.func9, Try.ntmps9
  go_wp2
  go_loopw [5] (fun i wr => ∃ k : Nat, k ≤ la.length ∧ i = .int .i64 k ∧ ∃ n, wr = w.drewN n) (fun i _ => la.length - (intOf i).toNat)
  case atStart => exact ⟨0, Nat.zero_le _, rfl, 0, rfl⟩
  case round =>
    obtain ⟨k, hk, rfl, nd, rfl⟩ := hrel
    by_cases hlt : k < la.length
    · have g1 : w.cell? ⟨ba, oa + k, none⟩ = some (.int .u8 (la.getD k 0)) := hca k hlt
      have g2 : w.cell? ⟨bb, ob + k, none⟩ = some (.int .u8 (la.getD k 0)) := by
        rw [hcb k (by omega)]
        obtain ⟨t, rfl⟩ := hp
        simp [List.getElem?_append_left hlt, hlt]
      have hkl : (k : Int) < (la.length : Int) := by omega
      have hkm : (k : Int) < (lb.length : Int) := by omega
      go_wp2
      go_quiet (fail)
      go_wp2
      go_roundw
      case rel => exact ⟨k + 1, by omega, by go_num, _, rfl⟩
      case measure => simp [intOf]; omega
    · go_wp2
      go_ret
      exact ⟨rfl, nd, rfl⟩

end Go.Proofs.Qxb6601318a
