/-
  ZZunlzw (8), the law itself (4).
-/
import Derived.Test.Qxb6601318aW6
namespace Go.Proofs.Qxb6601318a
open Go.RowKit

theorem zz_any (ad : Option Addr) (cd : Nat) (X : List Int) (E : List (Nat × Int)) (T : List (List Int)) (C : List Nat) (early : Bool) (limit : Int) (w : World)
    (hG : Good X E T C) (hX : X.length ≤ 8192) (hC : C.length ≤ X.length) (hD : Reads w ad (pack (full early C))) :
    Calls Try.prog 8 #[.slice ad (pack (full early C)).length cd, .bool early, .int .i64 limit] w fun e w' => UnPost X limit w e w' := by
  go_enter Try.func8, Try.ntmps8
  go_wp2_with fail
  refine (unlzw_any ad cd X E T C early limit w hG hX hC hD).mono ?_
  rintro e w' ⟨v, l, n, rfl, h⟩
  go_wp2
  go_ret
  exact ⟨v, l, n, rfl, h⟩

theorem reads_below {B : Nat} {w w' : World} {a : Option Addr} {l : List Int} (h : Reads w a l) (hb : Below B w w') (hB : w.heap.size ≤ B) : Reads w' a l := by
  rcases h with h | ⟨b, off, rfl, hc⟩
  · exact .inl h
  · refine .inr ⟨b, off, rfl, fun i hi => ?_⟩
    have := World.block_lt_of_cell? w _ (hc i hi)
    rw [hb.cell (by exact Nat.lt_of_lt_of_le this hB)]
    exact hc i hi

set_option maxHeartbeats 400000 in
theorem clone_zero (x : Addr) (cap : Nat) (w : World) :
    Calls Try.prog 7 #[.slice (some x) 0 cap] w fun e w' => ∃ v, e = .returned v ∧ w'.ownsRow w.heap.size 5 1 v 0 [] ∧ Below w.heap.size w w' := by
  obtain ⟨i0, hi, hz0, hz1, hz2⟩ := info_parts Try.info5
  have q := eqNil22
  go_enter Try.func7, Try.ntmps7
  go_wp2_with (at_make; refine wpList_make_full _ rfl _ _ 22 rfl w.heap.size 5 i0 (.int .u8 0) 1 Try.underlying22 hi hz0 hz1 .i64 .i64 _ _ 0 rfl rfl rfl rfl (by rw [hz2]; omega) (by unfold maxLen; omega) (Nat.le_refl _) ?_)
  intro w1 hown hgrow
  have hown' : w1.ownsRow w.heap.size 5 1 (.slice (some ⟨w.heap.size, 0, none⟩) 0 0) 0 [] := by
    simpa [Value.cells, toList_madeCells_one] using hown
  have hbel : Below w.heap.size w w1 := (Below.refl _ _).grown hgrow (Nat.le_refl _) (by simp)
  clear hown hgrow
  go_wp2
  go_loop [4] (fun i => i = .int .i64 0) (fun _ => 0)
  case atStart => rfl
  case round =>
    subst hrel
    go_wp2
    go_ret
    exact ⟨_, rfl, hown', hbel⟩

/-- From the clone on. -/
theorem law_rest (a0 : Option Addr) (len0 cap0 : Nat) (X : List Int) (early : Bool) (limit : Int) (w : World) (hlen : len0 ≤ 8192) (hr : ∀ b ∈ X, 0 ≤ b ∧ b < 256) (hXl : X.length = len0)
    (hclone : Calls Try.prog 7 #[.slice a0 len0 cap0] w fun e w' => ∃ v, e = .returned v ∧ w'.ownsRow w.heap.size 5 1 v len0 (X.map (Value.int .u8)) ∧ Below w.heap.size w w') :
    Calls Try.prog 4 #[.slice a0 len0 cap0, .bool early, .int .i64 limit] w fun e w' => e = .returned (.bool true) ∧ Below w.heap.size w w' := by
  subst hXl
  have hd : decide ((X.length : Int) ≤ 1048576) = true := by simp; omega
  go_enter Try.func4, Try.ntmps4
  go_wp2_with (go_at_call 10; refine (guard_any a0 X.length cap0 early limit _ (by unfold maxLen; omega)).mono ?_; rw [hd]; rintro e w' ⟨rfl, rfl⟩)
  refine hclone.mono ?_
  rintro e1 w1 ⟨v1, rfl, ho1, hb1⟩
  obtain ⟨a1, c1, rfl, hn1, hR1⟩ := ownsRow_reads ho1
  have hx8 : X.length ≤ 8192 := by omega
  clear hclone hn1
  go_wp2_with fail
  refine (lzwEncode_any a1 c1 X early w1 hR1 hx8 hr).mono ?_
  rintro e2 w2 ⟨v2, C, E, T, rfl, hG, hC, ⟨n2, ho2⟩, hb2⟩
  obtain ⟨a2, c2, rfl, hn2, hR2⟩ := ownsRow_reads ho2
  have hR12 := reads_below hR1 hb2 (Nat.le_refl _)
  clear ho2 ho1 hn2
  go_wp2_with fail
  refine (zz_any a2 c2 X E T C early limit w2 hG hx8 hC hR2).mono ?_
  rintro e3 w3 ⟨v3, l, n3, rfl, ho3, hp, hend, hb3⟩
  obtain ⟨a3, c3, rfl, hn3, hR3⟩ := ownsRow_reads ho3
  have hR13 := reads_below hR12 hb3 (Nat.le_refl _)
  have hle := hp.length_le
  clear ho3 hn3
  go_wp2_with fail
  refine (isPrefix_yes a3 a1 c3 c1 l X w3 hR3 hR13 hp (by omega)).mono ?_
  rintro e4 w4 ⟨rfl, nd, rfl⟩
  have hB : Below w'.heap.size w' (w3.drewN nd) := by
    have h1 := hb1.size
    have h2 := hb2.size
    exact ((hb1.trans (hb2.mono h1)).trans (hb3.mono (by omega))).trans ⟨rfl, rfl, rfl, Nat.le_refl _, fun _ _ => rfl⟩
  clear hR12 hR13 hR3 hR2 hR1 hb1 hb2 hb3
  by_cases hq : l = X
  · subst hq
    go_wp2
    go_ret
    exact ⟨rfl, hB⟩
  · have hl : limit < (l.length : Int) := by rcases hend with h | h; exact absurd h hq; exact h
    have hne : ((l.length : Int) == (X.length : Int)) = false := by
      have : l.length ≠ X.length := fun e => hq (hp.eq_of_length e)
      simp
      omega
    go_wp2
    go_ret
    exact ⟨rfl, hB⟩

end Go.Proofs.Qxb6601318a
