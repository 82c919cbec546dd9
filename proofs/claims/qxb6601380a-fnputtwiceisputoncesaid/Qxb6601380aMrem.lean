/-
  zzModelRemove (32).
-/
import Derived.Test.Qxb6601380aMput
namespace Go.Proofs.Qxb6601380a
open Go.RowKit

theorem back_set (A C R : List Value) (z : Value) (j : Nat) (h : j + 1 < A.length) (hC : C.length + 1 = A.length) (hj : C[j]? = some z) : (C.take j ++ (A.drop j ++ R)).set j z = C.take (j + 1) ++ (A.drop (j + 1) ++ R) := by
  have hl : (C.take j).length = j := by rw [List.length_take]; omega
  have e1 : C.take (j + 1) = C.take j ++ [z] := by rw [List.take_add_one, hj]; rfl
  have e2 : A.drop j = A[j] :: A.drop (j + 1) := List.drop_eq_getElem_cons (by omega)
  rw [List.set_append_right _ _ (by omega), hl, Nat.sub_self, e1, e2]
  simp only [List.append_assoc, List.cons_append, List.nil_append, List.set_cons_zero]

theorem back_get (A C R : List Value) (z : Value) (j : Nat) (h : j + 1 < A.length) (hC : C.length + 1 = A.length) (hj : A[j + 1]? = some z) : (C.take j ++ (A.drop j ++ R))[j + 1]? = some z := by
  have hl : (C.take j).length = j := by rw [List.length_take]; omega
  rw [List.getElem?_append_right (by omega), hl, List.getElem?_append_left (by rw [List.length_drop]; omega), List.getElem?_drop, show j + (j + 1 - j) = j + 1 by omega, hj]

theorem back_old (A C R : List Value) (j : Nat) (h : j < A.length) (hC : C.length + 1 = A.length) : (C.take j ++ (A.drop j ++ R))[j]? = some A[j] := by
  have hl : (C.take j).length = j := by rw [List.length_take]; omega
  rw [List.getElem?_append_right (by omega), hl, Nat.sub_self, List.getElem?_append_left (by rw [List.length_drop]; omega), List.getElem?_drop, Nat.add_zero, List.getElem?_eq_getElem h]

set_option maxHeartbeats 4000000 in
set_option maxRecDepth 100000 in
theorem mrem32 (w : World) (v1 v2 : Value) (es a b : List Ent) (e : Ent) (hR : Rows2 w v1 v2 es) (hes : es = a ++ e :: b) (hn : es.length ≤ 100000000) :
    Calls Try.prog 32 #[v1, v2, .int .i64 a.length] w fun x w' => ∃ v1' v2', x = .returned (.tuple #[v1', v2']) ∧ Rows2 w' v1' v2' (a ++ b) ∧ Moved w w' (own2 v1 v2) (own2 v1' v2') := by
  have hpos : 0 < es.length := by rw [hes]; simp only [List.length_append, List.length_cons]; omega
  obtain ⟨p1, c1, hv1⟩ := own_some hR.ks hpos
  obtain ⟨p2, c2, hv2⟩ := own_some hR.rs hpos
  subst hv1 hv2
  obtain ⟨rest1, hl1, hB1⟩ := own_at hR.ks
  obtain ⟨rest2, hl2, hB2⟩ := own_at hR.rs
  have hne : p1 ≠ p2 := fun h => hR.ne p1 rfl (by rw [h]; rfl)
  obtain ⟨i, hi⟩ : ∃ i, i = a.length := ⟨_, rfl⟩
  rw [← hi]
  obtain ⟨n, hnn⟩ : ∃ n, n + 1 = es.length := ⟨es.length - 1, by omega⟩
  have hin : i ≤ n := by
    have := congrArg List.length hes
    simp only [List.length_append, List.length_cons] at this
    omega
  obtain ⟨A1, hA1e⟩ : ∃ A1, A1 = skeys es := ⟨_, rfl⟩
  obtain ⟨A2, hA2e⟩ : ∃ A2, A2 = srecs es := ⟨_, rfl⟩
  obtain ⟨C1, hC1e⟩ : ∃ C1, C1 = skeys (a ++ b) := ⟨_, rfl⟩
  obtain ⟨C2, hC2e⟩ : ∃ C2, C2 = srecs (a ++ b) := ⟨_, rfl⟩
  have hA1 : A1.length = n + 1 := by rw [hA1e, skeys, List.length_map, hnn]
  have hA2 : A2.length = n + 1 := by rw [hA2e, srecs, List.length_map, hnn]
  have hlab : (a ++ b).length = n := by
    have := congrArg List.length hes
    simp only [List.length_append, List.length_cons] at this ⊢
    omega
  have hC1 : C1.length = n := by rw [hC1e, skeys, List.length_map, hlab]
  have hC2 : C2.length = n := by rw [hC2e, srecs, List.length_map, hlab]
  have hget : ∀ j, i ≤ j → j < n → (a ++ b)[j]? = es[j + 1]? := by
    intro j hj h
    rw [hes, List.getElem?_append_right (by omega), List.getElem?_append_right (by omega), show j + 1 - a.length = (j - a.length) + 1 by omega, List.getElem?_cons_succ]
  have HG : Hid (∀ j, i ≤ j → j < n → ∃ s r, C1[j]? = some (.string s) ∧ A1[j + 1]? = some (.string s) ∧ C2[j]? = some (.int .u32 r) ∧ A2[j + 1]? = some (.int .u32 r)) := by
    intro j hj h
    have h1 := hget j hj h
    obtain ⟨m, h2⟩ : ∃ m, es[j + 1]? = some m := ⟨_, List.getElem?_eq_getElem (by omega)⟩
    refine ⟨m.1, m.2, ?_, ?_, ?_, ?_⟩
    · rw [hC1e, skeys, List.getElem?_map, h1, h2]; rfl
    · rw [hA1e, skeys, List.getElem?_map, h2]; rfl
    · rw [hC2e, srecs, List.getElem?_map, h1, h2]; rfl
    · rw [hA2e, srecs, List.getElem?_map, h2]; rfl
  have hti : C1.take i = A1.take i ∧ C2.take i = A2.take i := by
    rw [hC1e, hC2e, hA1e, hA2e, hes, hi]
    simp [skeys, srecs]
  have hB1 : BlockAt w p1 9 (C1.take i ++ (A1.drop i ++ rest1)) := by
    rw [hti.1, ← List.append_assoc, List.take_append_drop, hA1e]
    exact hB1
  have hB2 : BlockAt w p2 30 (C2.take i ++ (A2.drop i ++ rest2)) := by
    rw [hti.2, ← List.append_assoc, List.take_append_drop, hA2e]
    exact hB2
  have hcm : (n + 1 ≤ c1 ∧ n + 1 ≤ c2) ∧ c1 ≤ maxLen ∧ c2 ≤ maxLen := by
    rcases (own_open hR.ks).2 with ⟨h0, _⟩ | ⟨_, _, _, hv, _, u1, u2, _, _⟩
    · cases h0
    rcases (own_open hR.rs).2 with ⟨h0, _⟩ | ⟨_, _, _, hv', _, u3, u4, _, _⟩
    · cases h0
    injection hv with _ _ hv
    injection hv' with _ _ hv'
    subst hv hv'
    exact ⟨⟨by omega, by omega⟩, u2, u4⟩
  have HFIN : Hid (∀ wf, BlockAt wf p1 9 (C1.take n ++ (A1.drop n ++ rest1)) → BlockAt wf p2 30 (C2.take n ++ (A2.drop n ++ rest2)) → (∀ b, b ≠ p1 → b ≠ p2 → wf.heap[b]? = w.heap[b]?) → wf.heap.size = w.heap.size → (wf.os = w.os ∧ wf.tape = w.tape ∧ wf.output = w.output) →
      Rows2 wf (.slice (some ⟨p1, 0, none⟩) n c1) (.slice (some ⟨p2, 0, none⟩) n c2) (a ++ b) ∧ Moved w wf (own2 (.slice (some ⟨p1, 0, none⟩) (n + 1) c1) (.slice (some ⟨p2, 0, none⟩) (n + 1) c2)) (own2 (.slice (some ⟨p1, 0, none⟩) n c1) (.slice (some ⟨p2, 0, none⟩) n c2))) := by
    intro wf t1 t2 t3 t4 t5
    rw [List.take_of_length_le (by omega), hC1e] at t1
    rw [List.take_of_length_le (by omega), hC2e] at t2
    refine ⟨⟨?_, ?_, fun x hx hx2 => ?_⟩, t5.1, t5.2.1, t5.2.2, by omega, fun x hx hn2 => ?_, fun x hx => .inl hx⟩
    · rw [hlab]
      exact own_shut (by rw [skeys, List.length_map, hlab]; omega) (Nat.zero_le _) (by omega) hcm.2.1 (by rw [List.length_append, List.length_drop]; omega) t1
    · rw [hlab]
      exact own_shut (by rw [srecs, List.length_map, hlab]; omega) (Nat.zero_le _) (by omega) hcm.2.2 (by rw [List.length_append, List.length_drop]; omega) t2
    · have z1 : p1 = x := by simpa [Value.ownBlock] using hx
      have z2 : p2 = x := by simpa [Value.ownBlock] using hx2
      exact hne (z1.trans z2.symm)
    · refine t3 x (fun h => hn2 ?_) (fun h => hn2 ?_) <;> rw [h] <;> simp [own2, Value.ownBlock]
  have hcap : n + 1 ≤ c1 ∧ n + 1 ≤ c2 := hcm.1
  rw [← hnn]
  clear hR hl1 hl2 hget hti hC1e hC2e hA1e hA2e hlab hes hi hpos
  rw [← hnn] at hn
  clear hnn
  go_enter Try.func32, Try.ntmps32
  go_wp2
  go_loopw [8] (fun x wr => ∃ j : Nat, x = .int .i64 j ∧ i ≤ j ∧ j ≤ n ∧ BlockAt wr p1 9 (C1.take j ++ (A1.drop j ++ rest1)) ∧ BlockAt wr p2 30 (C2.take j ++ (A2.drop j ++ rest2)) ∧ (∀ b, b ≠ p1 → b ≠ p2 → wr.heap[b]? = w.heap[b]?) ∧ wr.heap.size = w.heap.size ∧ (wr.os = w.os ∧ wr.tape = w.tape ∧ wr.output = w.output)) (fun x _ => n - (intOf x).toNat)
  case atStart => exact ⟨i, rfl, Nat.le_refl _, hin, hB1, hB2, fun _ _ _ => rfl, rfl, rfl, rfl, rfl⟩
  case round =>
    clear hB1 hB2
    obtain ⟨j, rfl, hij, hjn, hB1, hB2, hoth, hsz, hos⟩ := hrel
    by_cases hlt : j < n
    · obtain ⟨s1, s2, q1, q3, q2, q4⟩ := HG.out j hij (by omega)
      have c1' := hB1.cell (j + 1); have c2' := hB2.cell (j + 1)
      rw [back_get A1 C1 rest1 _ j (by omega) (by omega) q3] at c1'
      rw [back_get A2 C2 rest2 _ j (by omega) (by omega) q4] at c2'
      have d1 := hB1.cell j; have d2 := hB2.cell j
      rw [back_old A1 C1 rest1 j (by omega) (by omega)] at d1
      rw [back_old A2 C2 rest2 j (by omega) (by omega)] at d2
      have f1 := hB1.frozen j; have f2 := hB2.frozen j
      have t1 := (hB1.set j (.string s1)).other (a := ⟨p2, j, none⟩) (by exact hne) (.int .u32 s2)
      have t2 := (hB2.other (a := ⟨p1, j, none⟩) (by exact fun h => hne h.symm) (.string s1)).set j (.int .u32 s2)
      rw [back_set A1 C1 rest1 _ j (by omega) (by omega) q1] at t1
      rw [back_set A2 C2 rest2 _ j (by omega) (by omega) q2] at t2
      have b1 : (j : Int) + 1 < (n : Int) + 1 := by omega
      have b2 : (j : Int) < (n : Int) + 1 := by omega
      have b3 : j ≤ 4000000000 := by omega
      clear q1 q2 q3 q4 hB1 hB2
      go_wp2
      go_roundw
      case rel => exact ⟨j + 1, by go_num, by omega, by omega, t1, t2, fun b h1 h2 => by rw [Below.heap_setCell _ _ _ _ (by exact h2), Below.heap_setCell _ _ _ _ (by exact h1), hoth b h1 h2], by simpa using hsz, hos⟩
      case measure => simp [intOf]; omega
    · obtain rfl : j = n := by omega
      have HH : Hid _ := HFIN.out _ (hB1.same (w' := wr.drew) rfl) (hB2.same (w' := wr.drew) rfl) hoth hsz hos
      have b1 : (j : Int) ≤ (c1 : Int) := by omega
      have b2 : (j : Int) ≤ (c2 : Int) := by omega
      have bw : IntKind.i64.wrap (j : Int) = (j : Int) := by rw [IntKind.wrap_i64]; omega
      have b3 : j ≤ 4000000000 := by omega
      clear hB1 hB2 HFIN HG
      go_wp2
      go_region
      all_goals
        go_wp2
        go_ret2
        exact ⟨_, _, rfl, HH.out.1, HH.out.2⟩
end Go.Proofs.Qxb6601380a
