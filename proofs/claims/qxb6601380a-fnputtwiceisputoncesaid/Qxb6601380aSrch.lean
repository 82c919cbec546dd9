/-
  Comparing keys (86, 68, 60) and slices.BinarySearchFunc (59).
-/
import Derived.Test.Qxb6601380aRows
import Derived.WalkKit
import Derived.WalkSpells
import Derived.WalkLawsBesides
import Derived.Test.Qxb6601380aTree
import Derived.BigQuiet
namespace Go.Proofs.Qxb6601380a
open Go.RowKit

set_option maxRecDepth 100000 in
theorem cmp86 (a b : ByteArray) (w : World) :
    Calls Try.prog 86 #[.string a, .string b] w fun e w' => e = .returned (.int .i64 (kc a b)) ∧ w' = w := by
  go_enter Try.func86, Try.ntmps86
  go_wp2
  rw [run_callFunc_extern Try.func95 (by kernel_rfl) (by kernel_rfl) (by kernel_rfl) (e := Extern.BytealgCompare.compare) (by kernel_rfl), Lib.run_compareString]
  simp only [Result.andThen]
  rw [Oper.upon_value]
  go_wp2
  go_ret
  exact ⟨rfl, rfl⟩

set_option maxRecDepth 100000 in
theorem cmp68 (a b : ByteArray) (w : World) :
    Calls Try.prog 68 #[.string a, .string b] w fun e w' => e = .returned (.int .i64 (kc a b)) ∧ w' = w := by
  go_enter Try.func68, Try.ntmps68
  go_wp2_with (go_at_call 86; refine (cmp86 _ _ _).mono ?_; rintro e w' ⟨rfl, rfl⟩)
  go_ret
  exact ⟨rfl, rfl⟩

set_option maxRecDepth 100000 in
theorem byn60 (a b : ByteArray) (r : Int) (w : World) :
    Calls Try.prog 60 #[.agg #[.string a, .int .u32 r], .string b] w fun e w' => e = .returned (.int .i64 (kc a b)) ∧ w.grownBy w' none := by
  go_enter Try.func60, Try.ntmps60
  go_wp2_with (go_at_call 68; refine (cmp68 _ _ _).mono ?_; rintro e w' ⟨rfl, rfl⟩)
  go_ret
  exact ⟨rfl, World.grownBy_alloc _ _ _⟩

/-- A row's element, read in a world grown since. -/
theorem ent_cells {w wr : World} {g cap : Nat} {es : List Ent} (ho : w.ownsRow 0 36 2 (.slice (some ⟨g, 0, none⟩) es.length cap) es.length (ecells es)) (hg : w.grownBy wr none) (m : Nat) (hm : m < es.length) :
    wr.cell? ⟨g, m * 2, none⟩ = some (.string (es[m]'hm).1) ∧ wr.cell? ⟨g, m * 2 + 1, none⟩ = some (.int .u32 (es[m]'hm).2) := by
  rcases (own_open ho).2 with ⟨h, _⟩ | ⟨g', cap', rest, h, _, _, _, _, hB⟩
  · cases h
  · injection h with h1 h2 h3
    injection h1 with h1
    injection h1 with h1
    subst h1
    have hB' := hB.grown hg (by simp)
    have hl := ecells_length es
    obtain ⟨e1, e2⟩ := ecells_get es m hm
    rw [hB'.cell, hB'.cell, List.getElem?_append_left (by omega), List.getElem?_append_left (by omega)]
    exact ⟨e1, e2⟩

theorem fnd_end {es : List Ent} {k : ByteArray} {i : Nat} (hs : Srt es) (hi : i ≤ es.length) (h1 : Bef (es.take i) k) (h2 : ∀ x ∈ es.drop i, ¬ kl x.1 k) :
    Fnd es k i (decide (i < es.length) && (match es[i]? with | some e => decide (kc e.1 k = 0) | none => false)) := by
  rcases Nat.lt_or_ge i es.length with hlt | hge
  · have he : es = es.take i ++ es[i] :: es.drop (i + 1) := by
      rw [← List.drop_eq_getElem_cons hlt, List.take_append_drop]
    have hd : es.drop i = es[i] :: es.drop (i + 1) := List.drop_eq_getElem_cons hlt
    have hs2 : Srt (es.drop i) := by
      have := hs
      rw [← List.take_append_drop i es, srt_app] at this
      exact this.2.1
    rw [hd] at hs2 h2
    have hs3 := srt_cons.1 hs2
    simp only [hlt, decide_true, Bool.true_and, List.getElem?_eq_getElem hlt]
    rcases kl_tri (es[i]).1 k with h | h | h
    · exact absurd h (h2 _ (List.mem_cons_self ..))
    · refine ⟨es.take i, es.drop (i + 1), by simp; omega, h1, ?_, .inr ⟨by rw [kc_zero.2 h]; rfl, (es[i]).2, ?_⟩⟩
      · intro x hx
        rw [← h]
        exact hs3.1 x hx
      · rw [← h]; exact he
    · refine ⟨es.take i, es.drop i, by simp; omega, h1, ?_, .inl ⟨?_, (List.take_append_drop i es).symm⟩⟩
      · intro x hx
        rw [hd] at hx
        rcases List.mem_cons.1 hx with rfl | hx
        · exact h
        · exact kl_trans h (hs3.1 x hx)
      · simp only [decide_eq_false_iff_not]
        intro hc
        exact kl_ne h (kc_zero.1 hc).symm
  · obtain rfl : i = es.length := by omega
    refine ⟨es, [], rfl, by simpa using h1, aft_nil, .inl ⟨by simp, by simp⟩⟩

theorem bef_step {es : List Ent} {k : ByteArray} (hs : Srt es) {m : Nat} (hm : m < es.length) (h : kl (es[m]).1 k) : Bef (es.take (m + 1)) k := by
  have e : es.take (m + 1) = es.take m ++ [es[m]] := by rw [List.take_succ_eq_append_getElem hm]
  have he : es = es.take m ++ es[m] :: es.drop (m + 1) := by rw [← List.drop_eq_getElem_cons hm, List.take_append_drop]
  have hs' := hs
  rw [he, srt_app] at hs'
  rw [e, bef_app]
  refine ⟨fun x hx => kl_trans (hs'.2.2 x hx _ (List.mem_cons_self ..)) h, fun x hx => ?_⟩
  rw [List.mem_singleton.1 hx]
  exact h

theorem aft_step {es : List Ent} {k : ByteArray} (hs : Srt es) {m : Nat} (hm : m < es.length) (h : ¬ kl (es[m]).1 k) : ∀ x ∈ es.drop m, ¬ kl x.1 k := by
  intro x hx hk
  rw [List.drop_eq_getElem_cons hm] at hx
  rcases List.mem_cons.1 hx with rfl | hx
  · exact h hk
  · have hs' := hs
    rw [← List.take_append_drop m es, List.drop_eq_getElem_cons hm, srt_app, srt_cons] at hs'
    exact h (kl_trans (hs'.2.1.1 x hx) hk)

set_option maxHeartbeats 1000000 in
set_option maxRecDepth 100000 in
theorem bsf59 (v : Value) (es : List Ent) (k : ByteArray) (w : World) (ho : w.ownsRow 0 36 2 v es.length (ecells es)) (hs : Srt es) (hn : es.length ≤ 31) :
    Calls Try.prog 59 #[v, .string k, .func (.func 60) #[] #[]] w fun e w' => ∃ (i : Nat) (f : Bool), e = .returned (.tuple #[.int .i64 i, .bool f]) ∧ Fnd es k i f ∧ w.grownBy w' none := by
  obtain ⟨n, hnl⟩ : ∃ n, n = es.length := ⟨_, rfl⟩
  have hv : ∃ a c, v = .slice a n c ∧ (0 < n → ∃ g, a = some ⟨g, 0, none⟩) := by
    rcases (own_open ho).2 with ⟨rfl, h0, _⟩ | ⟨g, cap, rest, rfl, _, _, _, _, _⟩
    · exact ⟨none, 0, by rw [hnl, h0], fun h => by omega⟩
    · exact ⟨_, cap, by rw [hnl], fun _ => ⟨g, rfl⟩⟩
  obtain ⟨a, c, rfl, ha⟩ := hv
  rw [← hnl] at ho hn
  have HN : Hid (n = es.length) := hnl
  clear hnl
  go_enter Try.func59, Try.ntmps59
  go_wp2
  go_loopw [9, 10] (fun x y wr => ∃ i j : Nat, x = .int .i64 i ∧ y = .int .i64 j ∧ i ≤ j ∧ j ≤ n ∧ Bef (es.take i) k ∧ (∀ x ∈ es.drop j, ¬ kl x.1 k) ∧ w.grownBy wr none) (fun x y _ => (intOf y - intOf x).toNat)
  case atStart => exact ⟨0, n, rfl, rfl, Nat.zero_le _, Nat.le_refl _, by simpa using bef_nil, by rw [HN.out]; simp, World.grownBy.refl _ _⟩
  case round =>
    obtain ⟨i, j, rfl, rfl, hij, hjn, h1, h2, hg⟩ := hrel
    by_cases hlt : i < j
    · obtain ⟨g, rfl⟩ := ha (by omega)
      obtain ⟨m, hm⟩ : ∃ m, m = (i + j) / 2 := ⟨_, rfl⟩
      have hme : m < es.length := by have := HN.out; omega
      obtain ⟨c1, c2⟩ := ent_cells (wr := wr) (es := es) (g := g) (cap := c) (by rw [← HN.out]; exact ho) hg m hme
      have m1 : ((i : Int) + (j : Int)) / 2 = (m : Int) := by omega
      have m2 : (m : Int) < (n : Int) := by have := HN.out; omega
      have m3 : i ≤ m ∧ m < j := by omega
      clear hm
      obtain ⟨s, hse⟩ : ∃ s, s = (es[m]'hme).1 := ⟨_, rfl⟩
      obtain ⟨r, hre⟩ : ∃ r, r = (es[m]'hme).2 := ⟨_, rfl⟩
      rw [← hse] at c1
      rw [← hre] at c2
      obtain ⟨z, hz⟩ : ∃ z, z = kc s k := ⟨_, rfl⟩
      have HS : Hid (s = (es[m]'hme).1) := hse
      have HZ : Hid (z = kc s k) := hz
      clear hse hre
      rcases Int.lt_or_le z 0 with hz0 | hz0
      · go_wp2_with (go_at_call 60; refine (byn60 _ _ _ _).mono ?_; rintro e w' ⟨rfl, hg'⟩; rw [← hz])
        have hk : kl (es[m]'hme).1 k := by rw [← HS.out, ← kc_neg, ← hz]; exact hz0
        refine ⟨⟨m + 1, j, by go_num, rfl, by omega, hjn, bef_step hs hme hk, h2, grown_trans hg hg'⟩, ?_⟩
        simp only [intOf]; omega
      · go_wp2_with (go_at_call 60; refine (byn60 _ _ _ _).mono ?_; rintro e w' ⟨rfl, hg'⟩; rw [← hz])
        have hk : ¬ kl (es[m]'hme).1 k := by rw [← HS.out, ← kc_neg, ← hz]; omega
        refine ⟨⟨i, m, rfl, rfl, by omega, by omega, h1, aft_step hs hme hk, grown_trans hg hg'⟩, ?_⟩
        simp only [intOf]; omega
    · obtain rfl : i = j := by omega
      have hF := fnd_end hs (by have := HN.out; omega) h1 h2
      by_cases hin : i < n
      · obtain ⟨g, rfl⟩ := ha (by omega)
        have hme : i < es.length := by have := HN.out; omega
        obtain ⟨c1, c2⟩ := ent_cells (wr := wr) (es := es) (g := g) (cap := c) (by rw [← HN.out]; exact ho) hg i hme
        have m2 : (i : Int) < (n : Int) := by omega
        simp only [hme, decide_true, Bool.true_and, List.getElem?_eq_getElem] at hF
        obtain ⟨s, hse⟩ : ∃ s, s = (es[i]'hme).1 := ⟨_, rfl⟩
        obtain ⟨r, hre⟩ : ∃ r, r = (es[i]'hme).2 := ⟨_, rfl⟩
        rw [← hse] at c1 hF
        rw [← hre] at c2
        clear hse hre
        obtain ⟨z, hz⟩ : ∃ z, z = kc s k := ⟨_, rfl⟩
        rw [← hz] at hF
        have HF : Hid (Fnd es k i (decide (z = 0))) := hF
        clear hF
        go_wp2_with (go_at_call 60; refine (byn60 _ _ _ _).mono ?_; rintro e w' ⟨rfl, hg'⟩; rw [← hz])
        go_ret2
        exact ⟨i, _, rfl, by show Fnd es k i (decide (kc s k = 0)); rw [← hz]; exact HF.out, grown_trans hg hg'⟩
      · have hme : ¬ i < es.length := by have := HN.out; omega
        have m2 : (decide ((i : Int) < (n : Int))) = false := by simp; omega
        simp only [hme, decide_false, Bool.false_and] at hF
        go_wp2
        go_ret2
        exact ⟨i, _, rfl, hF, hg⟩

end Go.Proofs.Qxb6601380a
