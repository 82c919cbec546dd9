/-
  putCode (15).
-/
import Derived.Test.Qxb6601318aW2
import Derived.Test.Qxb6601318aApp
import Derived.Test.Qxb6601318aBits
namespace Go.Proofs.Qxb6601318a
open Go.RowKit

theorem ownsRow_form {w : World} {base : Nat} {e : TypeId} {v : Value} {n : Nat} {xs : List Value} (h : w.ownsRow base e 1 v n xs) (hn : 0 < n) :
    ∃ g cap, v = .slice (some ⟨g, 0, none⟩) n cap ∧ base ≤ g ∧ g < w.heap.size ∧ n ≤ cap ∧ cap ≤ maxLen := by
  rcases h.2 with ⟨rfl, rfl⟩ | ⟨g, cap, cur, rfl, hb, hg, hnc, hcm, hcs, htake⟩
  · omega
  · exact ⟨g, cap, rfl, hb, (Array.getElem?_eq_some_iff.1 hg).1, hnc, hcm⟩

theorem and_one_code (c k : Nat) (hc : c < 4096) : bits .and .i64 ((c : Int) / 2 ^ k) 1 = ((c / 2 ^ k % 2 : Nat) : Int) := by
  have e : ((c : Int) / 2 ^ k) = ((c / 2 ^ k : Nat) : Int) := by simp
  have hlt : c / 2 ^ k < 4096 := Nat.lt_of_le_of_lt (Nat.div_le_self _ _) hc
  have h63 : (2 : Int) ^ 63 = 9223372036854775808 := by decide
  have h := bits_mask .i64 63 (by decide) (fun n h0 h1 => by rw [h63] at h1; rw [IntKind.wrap_i64]; omega) 1 (by decide) ((c / 2 ^ k : Nat) : Int) (Int.natCast_nonneg _) (by rw [h63]; omega)
  have e1 : ((2 : Int) ^ 1 - 1) = 1 := by decide
  rw [e1] at h
  rw [e, h]
  omega

theorem store_bit {w : World} {base g n cap : Nat} {BS : List Bool} (ho : w.ownsRow base 5 1 (.slice (some ⟨g, 0, none⟩) n cap) n ((pack (BS ++ [false])).map (Value.int .u8)))
    (o : Nat) (hoo : o = BS.length / 8) (x : Int) (hx : x = (pack (BS ++ [false])).getD (BS.length / 8) 0 + ((2 ^ (7 - BS.length % 8) : Nat) : Int)) :
    (w.setCell ⟨g, o, none⟩ (.int .u8 x)).ownsRow base 5 1 (.slice (some ⟨g, 0, none⟩) n cap) n ((pack (BS ++ [true])).map (Value.int .u8)) ∧
    Kept w (w.setCell ⟨g, o, none⟩ (.int .u8 x)) (.slice (some ⟨g, 0, none⟩) n cap) (.slice (some ⟨g, 0, none⟩) n cap) := by
  have h := ho.stored o (.int .u8 x)
  subst hoo
  subst hx
  rw [← List.map_set, ← pack_yes] at h
  exact ⟨h.1, h.2, fun _ h => .inl h⟩

theorem or_walk (V r : Nat) (hr : r < 8) (hV : V < 2 ^ r) : bits .or .u8 ((V * 2 ^ (8 - r) : Nat) : Int) ((2 : Int) ^ (7 - r) % 256) = ((V * 2 ^ (8 - r) : Nat) : Int) + ((2 ^ (7 - r) : Nat) : Int) := by
  have h : r = 0 ∨ r = 1 ∨ r = 2 ∨ r = 3 ∨ r = 4 ∨ r = 5 ∨ r = 6 ∨ r = 7 := by omega
  rcases h with rfl | rfl | rfl | rfl | rfl | rfl | rfl | rfl
  all_goals simp only [Nat.reducePow, Nat.reduceSub, Int.reducePow, Int.reduceMod] at hV ⊢
  · exact bits_join .u8 8 (by decide) wraps_u8 8 _ _ (by omega) (by omega) (by omega) (by omega) (by omega) (by omega)
  · exact bits_join .u8 8 (by decide) wraps_u8 7 _ _ (by omega) (by omega) (by omega) (by omega) (by omega) (by omega)
  · exact bits_join .u8 8 (by decide) wraps_u8 6 _ _ (by omega) (by omega) (by omega) (by omega) (by omega) (by omega)
  · exact bits_join .u8 8 (by decide) wraps_u8 5 _ _ (by omega) (by omega) (by omega) (by omega) (by omega) (by omega)
  · exact bits_join .u8 8 (by decide) wraps_u8 4 _ _ (by omega) (by omega) (by omega) (by omega) (by omega) (by omega)
  · exact bits_join .u8 8 (by decide) wraps_u8 3 _ _ (by omega) (by omega) (by omega) (by omega) (by omega) (by omega)
  · exact bits_join .u8 8 (by decide) wraps_u8 2 _ _ (by omega) (by omega) (by omega) (by omega) (by omega) (by omega)
  · exact bits_join .u8 8 (by decide) wraps_u8 1 _ _ (by omega) (by omega) (by omega) (by omega) (by omega) (by omega)

theorem pack_new {BS : List Bool} (h : BS.length % 8 = 0) : (pack BS).map (Value.int .u8) ++ [Value.int .u8 0] = (pack (BS ++ [false])).map (Value.int .u8) := by
  rw [pack_no, if_pos h]; simp
theorem pack_old {BS : List Bool} (h : ¬ BS.length % 8 = 0) : pack BS = pack (BS ++ [false]) := by
  rw [pack_no, if_neg h]

theorem kept_append {wr w1 : World} {u0 v1 : Value} {o : Obj} (hg1 : (wr.alloc o).grownBy w1 u0.ownBlock) (hp1 : ∀ k, v1.ownBlock = some k → u0.ownBlock = some k ∨ (wr.alloc o).heap.size ≤ k) : Kept wr w1 u0 v1 :=
  ((Kept.refl wr u0).alloc o).trans ⟨hg1, hp1⟩

set_option maxHeartbeats 1000000 in
theorem putCode_any (bs : List Bool) (width code : Nat) (v0 : Value) (n0 base : Nat) (w : World) (hw : width ≤ 12) (hcode : code < 4096) (hbs : bs.length ≤ 1000000)
    (hbase : base ≤ w.heap.size) (hown : w.ownsRow base 5 1 v0 n0 ((pack bs).map (Value.int .u8))) :
    Calls Try.prog 15 #[v0, .int .i64 bs.length, .int .i64 code, .int .i64 width] w fun e w' =>
      ∃ v, e = .returned (.tuple #[v, .int .i64 ((bs ++ codeBits width code).length : Nat)]) ∧ (∃ n, w'.ownsRow base 5 1 v n ((pack (bs ++ codeBits width code)).map (Value.int .u8))) ∧ Kept w w' v0 v := by
  obtain ⟨i0, hi, hz0, hz1, hz2⟩ := info_parts Try.info5
  go_enter Try.func15, Try.ntmps15
  go_wp2
  go_loopw [0, 1, 10] (fun v p k wr => ∃ j n : Nat, j ≤ width ∧ k = .int .i64 ((width : Int) - 1 - j) ∧ p = .int .i64 ((bs.length : Int) + j) ∧ wr.ownsRow base 5 1 v n ((pack (bs ++ codeBitsTo width code j)).map (Value.int .u8)) ∧ Kept w wr v0 v) (fun _ _ k _ => (intOf k + 1).toNat)
  case atStart => exact ⟨0, n0, Nat.zero_le _, by go_num, by go_num, by simpa [codeBitsTo] using hown, Kept.refl _ _⟩
  case round =>
    obtain ⟨j, n, hj, rfl, rfl, ho, hk⟩ := hrel
    have hBS : (bs ++ codeBitsTo width code j).length = bs.length + j := by simp [codeBitsTo_length]
    have hsz := hk.grown.size
    obtain ⟨BS, eBS⟩ : ∃ BS, BS = bs ++ codeBitsTo width code j := ⟨_, rfl⟩
    rw [← eBS] at ho hBS
    have HBS : Hid (BS = bs ++ codeBitsTo width code j) := eBS
    clear eBS
    have hn : (BS.length + 7) / 8 = n := by have := ho.1; rw [List.length_map, pack_length] at this; omega
    by_cases hlt : j < width
    · by_cases hb : code / 2 ^ (width - 1 - j) % 2 = 1
      · have hbt : (bits BinOp.and IntKind.i64 ((code : Int) / 2 ^ (width - 1 - j)) 1 == 1) = true := by rw [and_one_code _ _ hcode, hb]; rfl
        have HB : Hid (code / 2 ^ (width - 1 - j) % 2 = 1) := hb
        clear hb
        by_cases h8 : (bs.length + j) % 8 = 0
        · have h8' : ((bs.length : Int) + j) % 8 = 0 := by omega
          have HN : Hid ((BS.length + 7) / 8 = n) := hn
          clear hn
          go_wp2_with (at_builtin; refine wpList_append_sharp _ rfl _ _ 22 rfl base 5 i0 (.int .u8 0) 1 1 Try.underlying22 hi hz0 hz1 hz2 rfl (by decide) _ _ _ rfl (ho.alloc _) ⟨wr.heap.size, 0, none⟩ 1 1 [.int .u8 0] rfl rfl (cell_one_new _ _ _) ?_ ?_ ?_ ?_ ?_)
          · intro u hu; simp at hu; subst hu; rfl
          · have := HN.out; unfold maxLen; omega
          · have := HN.out; omega
          · simp; omega
          intro v1 w1 ho1 hg1 hp1
          obtain ⟨g, cap, rfl, hbg, hgw, hnc, hcm⟩ := ownsRow_form ho1 (by omega)
          unfold maxLen at hcm
          have hN : n = BS.length / 8 := by have := HN.out; omega
          rw [pack_new (by omega)] at ho1
          have hc1 : w1.cell? ⟨g, n, none⟩ = some (.int .u8 0) := by
            have e0 : n - ((pack BS).map (Value.int .u8)).length = 0 := by rw [List.length_map, pack_length]; omega
            rw [ho1.cellAt n (by omega), ← pack_new (by omega), List.getElem?_append_right (by rw [List.length_map, pack_length]; omega), e0]
            rfl
          have hf1 := ho1.frozenAt n
          have hx : bits BinOp.or IntKind.u8 0 128 = (pack (BS ++ [false])).getD (BS.length / 8) 0 + ((2 ^ (7 - BS.length % 8) : Nat) : Int) := by
            rw [pack_last, show BS.length % 8 = 0 by omega]
            simp [val]
            decide
          obtain ⟨R1, R2⟩ := store_bit ho1 n hN _ hx
          have HR : Hid (Kept w (w1.setCell ⟨g, n, none⟩ (.int .u8 (bits BinOp.or IntKind.u8 0 128))) v0 (.slice (some ⟨g, 0, none⟩) (n + 1) cap)) := (hk.trans (kept_append hg1 (by simpa using hp1))).trans R2
          clear hN hx
          go_wp2
          go_roundw
          case rel => exact ⟨j + 1, n + 1, by omega, by go_num, by go_num, by rw [codeBitsTo_succ, ← List.append_assoc, ← HBS.out, decide_eq_true HB.out]; exact R1, HR.out⟩
          case measure => simp [intOf]; omega
        · obtain ⟨g, cap, rfl, hbg, hgw, hnc, hcm⟩ := ownsRow_form ho (by omega)
          unfold maxLen at hcm
          rw [pack_old (by omega)] at ho
          have hN : n - 1 = BS.length / 8 := by omega
          have hn1 : 1 ≤ n := by omega
          have hn2 : n ≤ 1000000 := by omega
          have hc1 : wr.cell? ⟨g, n - 1, none⟩ = some (.int .u8 ((pack (BS ++ [false])).getD (BS.length / 8) 0)) := by
            rw [ho.cellAt (n - 1) (by omega), ← hN, List.getElem?_map, List.getD_eq_getElem?_getD, List.getElem?_eq_getElem (by rw [pack_length]; simp; omega)]
            rfl
          have hf1 := ho.frozenAt (n - 1)
          obtain ⟨A, eA⟩ : ∃ A, A = (pack (BS ++ [false])).getD (BS.length / 8) 0 := ⟨_, rfl⟩
          have hx : bits BinOp.or IntKind.u8 A (2 ^ (7 - (bs.length + j) % 8) % 256) = (pack (BS ++ [false])).getD (BS.length / 8) 0 + ((2 ^ (7 - BS.length % 8) : Nat) : Int) := by
            rw [eA, pack_last, ← hBS]
            exact or_walk _ _ (by omega) (val_lt _ _ _)
          rw [← eA] at hc1
          clear eA
          obtain ⟨R1, R2⟩ := store_bit ho (n - 1) hN _ hx
          have HR : Hid (Kept w (wr.setCell ⟨g, n - 1, none⟩ (.int .u8 (bits BinOp.or IntKind.u8 A (2 ^ (7 - (bs.length + j) % 8) % 256)))) v0 (.slice (some ⟨g, 0, none⟩) n cap)) := hk.trans R2
          clear hN hn hBS hx
          have h8' : ¬ ((bs.length : Int) + j) % 8 = 0 := by omega
          go_wp2
          go_roundw
          case rel => exact ⟨j + 1, n, by omega, by go_num, by go_num, by rw [codeBitsTo_succ, ← List.append_assoc, ← HBS.out, decide_eq_true HB.out]; exact R1, HR.out⟩
          case measure => simp [intOf]; omega
      · have hbt : (bits BinOp.and IntKind.i64 ((code : Int) / 2 ^ (width - 1 - j)) 1 == 1) = false := by
          rw [and_one_code _ _ hcode, show code / 2 ^ (width - 1 - j) % 2 = 0 by omega]; rfl
        have HB : Hid (¬ code / 2 ^ (width - 1 - j) % 2 = 1) := hb
        clear hb
        by_cases h8 : (bs.length + j) % 8 = 0
        · have h8' : ((bs.length : Int) + j) % 8 = 0 := by omega
          have HN : Hid ((BS.length + 7) / 8 = n) := hn
          clear hn
          go_wp2_with (at_builtin; refine wpList_append_sharp _ rfl _ _ 22 rfl base 5 i0 (.int .u8 0) 1 1 Try.underlying22 hi hz0 hz1 hz2 rfl (by decide) _ _ _ rfl (ho.alloc _) ⟨wr.heap.size, 0, none⟩ 1 1 [.int .u8 0] rfl rfl (cell_one_new _ _ _) ?_ ?_ ?_ ?_ ?_)
          · intro u hu; simp at hu; subst hu; rfl
          · have := HN.out; unfold maxLen; omega
          · have := HN.out; omega
          · simp; omega
          intro v1 w1 ho1 hg1 hp1
          rw [pack_new (by omega)] at ho1
          have HR : Hid (Kept w w1 v0 v1) := hk.trans (kept_append hg1 (by simpa using hp1))
          go_wp2
          go_roundw
          case rel => exact ⟨j + 1, n + 1, by omega, by go_num, by go_num, by rw [codeBitsTo_succ, ← List.append_assoc, ← HBS.out, decide_eq_false HB.out]; exact ho1, HR.out⟩
          case measure => simp [intOf]; omega
        · rw [pack_old (by omega)] at ho
          clear hn hBS
          have h8' : ¬ ((bs.length : Int) + j) % 8 = 0 := by omega
          go_wp2
          go_roundw
          case rel => exact ⟨j + 1, n, by omega, by go_num, by go_num, by rw [codeBitsTo_succ, ← List.append_assoc, ← HBS.out, decide_eq_false HB.out]; exact ho, hk⟩
          case measure => simp [intOf]; omega
    · obtain rfl : j = width := by omega
      clear hn hBS
      go_wp2
      go_ret2
      refine ⟨_, ?_, ⟨n, by rw [codeBits_to, ← HBS.out]; exact ho⟩, hk⟩
      simp [codeBits_length]

end Go.Proofs.Qxb6601318a
