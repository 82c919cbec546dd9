/-
  cloneStrs (44), cloneWords (45), cloneNested (46).
-/
import Derived.Test.Qxb6601448aByu
import Derived.Lib.AppendZerosOnto
namespace Go.Proofs.Qxb6601448a
open Go.RowKit

theorem Try.info9 : (Try.prog.info? 9).map (fun i => (i.zero, i.size, i.bytes)) = some (some (.string ⟨#[]⟩), 1, 16) := by kernel_rfl
theorem Try.info22 : (Try.prog.info? 22).map (fun i => (i.zero, i.size, i.bytes)) = some (some (.int .u64 0), 1, 8) := by kernel_rfl
theorem Try.info23 : (Try.prog.info? 23).map (fun i => (i.zero, i.size, i.bytes)) = some (some (.slice none 0 0), 1, 24) := by kernel_rfl

theorem block_cells {w : World} {g : Nat} {e : TypeId} {xs rest : List Value} (h : BlockAt w g e (xs ++ rest)) : Cells w (some ⟨g, 0, none⟩) xs := by
  refine .inr ⟨g, 0, rfl, fun i x hx => ?_⟩
  rw [Nat.zero_add, h.cell, List.getElem?_append_left (List.getElem?_eq_some_iff.1 hx).1, hx]

theorem made_block {w1 : World} {w : World} {e : TypeId} {n : Nat} {xs : List Value} (hown : w1.ownsRow w.heap.size e 1 (.slice (some ⟨w.heap.size, 0, none⟩) n n) n xs) : ∃ Z : List Value, Z.length = n ∧ BlockAt w1 w.heap.size e Z := by
  obtain ⟨hlen, hop⟩ := own_open hown
  rcases hop with ⟨h1, _⟩ | ⟨g, cap2, rest, h1, _, _, _, hrest, hB⟩
  · cases h1
  · injection h1 with h1 _ h3
    injection h1 with h1
    injection h1 with h1
    subst h1 h3
    exact ⟨_, by rw [List.length_append, hlen, hrest]; omega, hB⟩

/-- It lies in memory made since w. -/
def New (w : World) (a : Option Addr) : Prop := ∀ x, a = some x → w.heap.size ≤ x.block

theorem new_nil (w : World) : New w none := fun x hx => by cases hx
theorem new_here (w : World) (off : Nat) : New w (some ⟨w.heap.size, off, none⟩) := fun x hx => by cases hx; exact Nat.le_refl _
theorem New.older {w w0 : World} {a : Option Addr} (h : New w a) (hs : w0.heap.size ≤ w.heap.size) : New w0 a := fun x hx => Nat.le_trans hs (h x hx)

/-- A copy. -/
def ClonePost (w : World) (xs : List Value) (e : Ending) (w' : World) : Prop := ∃ a c, e = .returned (.slice a xs.length c) ∧ Cells w' a xs ∧ New w a ∧ w.grownBy w' none

set_option maxHeartbeats 4000000 in
set_option maxRecDepth 100000 in
theorem clone44 (w : World) (a : Option Addr) (cap : Nat) (xs : List Value) (hC : Cells w a xs) (hv : ∀ x ∈ xs, ∃ s, x = Value.string s) (hn : xs.length ≤ 1048576) :
    Calls Try.prog 44 #[.slice a xs.length cap] w fun e w' => ClonePost w xs e w' := by
  have q : ∀ (w : World) (a : Option Addr) (n c n' c' : Nat), (binOp .eql 23 (.slice a n c) (.slice none n' c')).run Try.prog w = .ok (.bool a.isNone) w :=
    fun w a n c n' c' => Lib.run_eql_slice_nil w _ _ a n c n' c' Try.underlying23
  obtain ⟨i0, hi, hz0, hz1, hz2⟩ := info_parts Try.info9
  have HC := (show Hid (Cells w a xs) from hC)
  cases a with
  | none =>
    have hnil : xs = [] := by
      rcases hC with h | ⟨b, off, h, _⟩
      · exact h
      · simp at h
    subst hnil
    go_enter Try.func44, Try.ntmps44
    go_wp2
    go_ret
    exact ⟨_, _, rfl, .inl rfl, new_nil _, World.grownBy.refl _ _⟩
  | some x =>
    clear hC
    have HV := (show Hid _ from hv)
    clear hv
    obtain ⟨n, hnn⟩ : ∃ n, n = xs.length := ⟨_, rfl⟩
    have HN := (show Hid _ from hnn)
    rw [← hnn] at hn ⊢
    clear hnn
    go_enter Try.func44, Try.ntmps44
    go_wp2_with (at_make; refine wpList_make_full _ rfl _ _ 23 rfl w.heap.size 9 i0 (.string ⟨#[]⟩) 1 Try.underlying23 hi hz0 hz1 .i64 .i64 _ _ n rfl rfl rfl rfl (by rw [hz2]; omega) (by unfold maxLen; omega) (Nat.le_refl _) ?_)
    intro w1 hown hgrow
    obtain ⟨Z, hZ, hB⟩ := made_block hown
    have hbel : Below w.heap.size w w1 := (Below.refl _ _).grown hgrow (Nat.le_refl _) (by simp)
    clear hown hgrow
    go_wp2
    go_loopw [4] (fun i wr => ∃ (k : Nat) (R : List Value), k ≤ n ∧ i = .int .i64 k ∧ R.length = n - k ∧ BlockAt wr w.heap.size 9 (xs.take k ++ R) ∧ Below w.heap.size w wr) (fun i _ => n - (intOf i).toNat)
    case atStart => exact ⟨0, Z, Nat.zero_le _, rfl, by rw [hZ]; rfl, by exact hB, hbel⟩
    case round =>
      clear hB hbel hZ
      obtain ⟨k, R, hk, rfl, hR, hB, hbe⟩ := hrel
      by_cases hlt : k < n
      · obtain ⟨o, ho⟩ : ∃ o, xs[k]? = some o := ⟨_, List.getElem?_eq_getElem (by rw [← HN.out]; exact hlt)⟩
        obtain ⟨s, rfl⟩ := HV.out o (List.mem_of_getElem? ho)
        obtain ⟨b, off, hx, t1⟩ := Cells.addr (Cells.below HC.out hbe (Nat.le_refl _)) ho
        injection hx with hx
        subst hx
        obtain ⟨y, R', rfl⟩ : ∃ y R', R = y :: R' := by
          cases R with
          | nil => simp at hR; omega
          | cons y R' => exact ⟨y, R', rfl⟩
        have hR' : R'.length = n - (k + 1) := by simp only [List.length_cons] at hR; omega
        have hl : (xs.take k).length = k := by have := HN.out; rw [List.length_take]; omega
        have f0 := hB.frozen k
        have c0 := hB.cell k
        rw [List.getElem?_append_right (by omega), hl, Nat.sub_self] at c0
        simp only [List.getElem?_cons_zero] at c0
        have B3 := hB.set k (Value.string s)
        rw [List.set_append_right _ _ (by omega), hl, Nat.sub_self, List.set_cons_zero, show xs.take k ++ (Value.string s) :: R' = xs.take (k + 1) ++ R' by rw [List.take_add_one, ho]; simp] at B3
        have hbe3 := hbe.setCell (p := ⟨w.heap.size, k, none⟩) (Nat.le_refl _) (Value.string s)
        have FIN : Hid (BlockAt (wr.setCell ⟨w.heap.size, k, none⟩ (Value.string s)) w.heap.size 9 (xs.take (k + 1) ++ R') ∧ Below w.heap.size w (wr.setCell ⟨w.heap.size, k, none⟩ (Value.string s))) := ⟨B3, hbe3⟩
        clear B3 hbe3 hB hR hl ho
        have z1 : (k : Int) < (n : Int) := by omega
        have z2 : k ≤ 4000000000 := by omega
        go_wp2
        go_roundw
        case rel => exact ⟨k + 1, R', by omega, by go_num, hR', FIN.out.1, FIN.out.2⟩
        case measure => simp [intOf]; omega
      · obtain rfl : k = n := by omega
        go_wp2
        go_ret
        rw [List.take_of_length_le (by rw [← HN.out]; exact Nat.le_refl _)] at hB
        exact ⟨some ⟨w.heap.size, 0, none⟩, k, by rw [← HN.out]; rfl, block_cells hB, new_here _ _, grown_below hbe⟩

set_option maxHeartbeats 4000000 in
set_option maxRecDepth 100000 in
theorem clone45 (w : World) (a : Option Addr) (cap : Nat) (xs : List Value) (hC : Cells w a xs) (hv : ∀ x ∈ xs, ∃ s, x = Value.int .u64 s) (hn : xs.length ≤ 1048576) :
    Calls Try.prog 45 #[.slice a xs.length cap] w fun e w' => ClonePost w xs e w' := by
  have q : ∀ (w : World) (a : Option Addr) (n c n' c' : Nat), (binOp .eql 24 (.slice a n c) (.slice none n' c')).run Try.prog w = .ok (.bool a.isNone) w :=
    fun w a n c n' c' => Lib.run_eql_slice_nil w _ _ a n c n' c' Try.underlying24
  obtain ⟨i0, hi, hz0, hz1, hz2⟩ := info_parts Try.info22
  have HC := (show Hid (Cells w a xs) from hC)
  cases a with
  | none =>
    have hnil : xs = [] := by
      rcases hC with h | ⟨b, off, h, _⟩
      · exact h
      · simp at h
    subst hnil
    go_enter Try.func45, Try.ntmps45
    go_wp2
    go_ret
    exact ⟨_, _, rfl, .inl rfl, new_nil _, World.grownBy.refl _ _⟩
  | some x =>
    clear hC
    have HV := (show Hid _ from hv)
    clear hv
    obtain ⟨n, hnn⟩ : ∃ n, n = xs.length := ⟨_, rfl⟩
    have HN := (show Hid _ from hnn)
    rw [← hnn] at hn ⊢
    clear hnn
    go_enter Try.func45, Try.ntmps45
    go_wp2_with (at_make; refine wpList_make_full _ rfl _ _ 24 rfl w.heap.size 22 i0 (.int .u64 0) 1 Try.underlying24 hi hz0 hz1 .i64 .i64 _ _ n rfl rfl rfl rfl (by rw [hz2]; omega) (by unfold maxLen; omega) (Nat.le_refl _) ?_)
    intro w1 hown hgrow
    obtain ⟨Z, hZ, hB⟩ := made_block hown
    have hbel : Below w.heap.size w w1 := (Below.refl _ _).grown hgrow (Nat.le_refl _) (by simp)
    clear hown hgrow
    go_wp2
    go_loopw [4] (fun i wr => ∃ (k : Nat) (R : List Value), k ≤ n ∧ i = .int .i64 k ∧ R.length = n - k ∧ BlockAt wr w.heap.size 22 (xs.take k ++ R) ∧ Below w.heap.size w wr) (fun i _ => n - (intOf i).toNat)
    case atStart => exact ⟨0, Z, Nat.zero_le _, rfl, by rw [hZ]; rfl, by exact hB, hbel⟩
    case round =>
      clear hB hbel hZ
      obtain ⟨k, R, hk, rfl, hR, hB, hbe⟩ := hrel
      by_cases hlt : k < n
      · obtain ⟨o, ho⟩ : ∃ o, xs[k]? = some o := ⟨_, List.getElem?_eq_getElem (by rw [← HN.out]; exact hlt)⟩
        obtain ⟨s, rfl⟩ := HV.out o (List.mem_of_getElem? ho)
        obtain ⟨b, off, hx, t1⟩ := Cells.addr (Cells.below HC.out hbe (Nat.le_refl _)) ho
        injection hx with hx
        subst hx
        obtain ⟨y, R', rfl⟩ : ∃ y R', R = y :: R' := by
          cases R with
          | nil => simp at hR; omega
          | cons y R' => exact ⟨y, R', rfl⟩
        have hR' : R'.length = n - (k + 1) := by simp only [List.length_cons] at hR; omega
        have hl : (xs.take k).length = k := by have := HN.out; rw [List.length_take]; omega
        have f0 := hB.frozen k
        have c0 := hB.cell k
        rw [List.getElem?_append_right (by omega), hl, Nat.sub_self] at c0
        simp only [List.getElem?_cons_zero] at c0
        have B3 := hB.set k (Value.int .u64 s)
        rw [List.set_append_right _ _ (by omega), hl, Nat.sub_self, List.set_cons_zero, show xs.take k ++ (Value.int .u64 s) :: R' = xs.take (k + 1) ++ R' by rw [List.take_add_one, ho]; simp] at B3
        have hbe3 := hbe.setCell (p := ⟨w.heap.size, k, none⟩) (Nat.le_refl _) (Value.int .u64 s)
        have FIN : Hid (BlockAt (wr.setCell ⟨w.heap.size, k, none⟩ (Value.int .u64 s)) w.heap.size 22 (xs.take (k + 1) ++ R') ∧ Below w.heap.size w (wr.setCell ⟨w.heap.size, k, none⟩ (Value.int .u64 s))) := ⟨B3, hbe3⟩
        clear B3 hbe3 hB hR hl ho
        have z1 : (k : Int) < (n : Int) := by omega
        have z2 : k ≤ 4000000000 := by omega
        go_wp2
        go_roundw
        case rel => exact ⟨k + 1, R', by omega, by go_num, hR', FIN.out.1, FIN.out.2⟩
        case measure => simp [intOf]; omega
      · obtain rfl : k = n := by omega
        go_wp2
        go_ret
        rw [List.take_of_length_le (by rw [← HN.out]; exact Nat.le_refl _)] at hB
        exact ⟨some ⟨w.heap.size, 0, none⟩, k, by rw [← HN.out]; rfl, block_cells hB, new_here _ _, grown_below hbe⟩

/-- Slices, whatever they hold. -/
def Sls (ys : List Value) : Prop := ∀ y ∈ ys, ∃ a n c, y = Value.slice a n c

def NestPost (w : World) (n : Nat) (e : Ending) (w' : World) : Prop := ∃ a c ys, e = .returned (.slice a n c) ∧ Cells w' a ys ∧ ys.length = n ∧ Sls ys ∧ New w a ∧ w.grownBy w' none

set_option maxHeartbeats 4000000 in
set_option maxRecDepth 100000 in
theorem clone46 (w : World) (a : Option Addr) (cap : Nat) (sss : List (Option Addr × Nat × List ByteArray)) (hC : Nest w a sss) (hn : sss.length ≤ 1048576) (hk : ∀ t ∈ sss, t.2.2.length ≤ 1048576) :
    Calls Try.prog 46 #[.slice a sss.length cap] w fun e w' => NestPost w sss.length e w' := by
  have q : ∀ (w : World) (a : Option Addr) (n c n' c' : Nat), (binOp .eql 25 (.slice a n c) (.slice none n' c')).run Try.prog w = .ok (.bool a.isNone) w :=
    fun w a n c n' c' => Lib.run_eql_slice_nil w _ _ a n c n' c' Try.underlying25
  obtain ⟨i0, hi, hz0, hz1, hz2⟩ := info_parts Try.info23
  have HC := (show Hid (Nest w a sss) from hC)
  have HK := (show Hid _ from hk)
  clear hk
  obtain ⟨n, hnn⟩ : ∃ n, n = sss.length := ⟨_, rfl⟩
  have HN := (show Hid _ from hnn)
  cases a with
  | none =>
    have hnil : sss = [] := by
      rcases hC.1 with h | ⟨b, off, h, _⟩
      · simpa using h
      · simp at h
    subst hnil
    clear hC
    go_enter Try.func46, Try.ntmps46
    go_wp2
    go_ret
    exact ⟨_, _, [], rfl, .inl rfl, rfl, fun y hy => by simp at hy, new_nil _, World.grownBy.refl _ _⟩
  | some x =>
    rw [← hnn] at hn ⊢
    clear hnn hC
    go_enter Try.func46, Try.ntmps46
    go_wp2_with (at_make; refine wpList_make_full _ rfl _ _ 25 rfl w.heap.size 23 i0 (.slice none 0 0) 1 Try.underlying25 hi hz0 hz1 .i64 .i64 _ _ n rfl rfl rfl rfl (by rw [hz2]; omega) (by unfold maxLen; omega) (Nat.le_refl _) ?_)
    intro w1 hown hgrow
    obtain ⟨Z, hZ, hB⟩ := made_block hown
    have hbel : Below w.heap.size w w1 := (Below.refl _ _).grown hgrow (Nat.le_refl _) (by simp)
    clear hown hgrow
    go_wp2
    go_loopw [4] (fun i wr => ∃ (k : Nat) (Y R : List Value), k ≤ n ∧ i = .int .i64 k ∧ Y.length = k ∧ Sls Y ∧ R.length = n - k ∧ BlockAt wr w.heap.size 23 (Y ++ R) ∧ Below w.heap.size w wr) (fun i _ => n - (intOf i).toNat)
    case atStart => exact ⟨0, [], Z, Nat.zero_le _, rfl, rfl, fun y hy => by simp at hy, by rw [hZ]; rfl, by exact hB, hbel⟩
    case round =>
      clear hB hbel hZ
      obtain ⟨k, Y, R, hk, rfl, hY, hSl, hR, hB, hbe⟩ := hrel
      by_cases hlt : k < n
      · obtain ⟨t, ht⟩ : ∃ t, sss[k]? = some t := ⟨_, List.getElem?_eq_getElem (by rw [← HN.out]; exact hlt)⟩
        have htm := List.mem_of_getElem? ht
        have hNe := Nest.grown HC.out (grown_below hbe)
        obtain ⟨b, off, hx, t1⟩ := Cells.addr hNe.1 (show (sss.map fun t => (Value.slice t.1 t.2.2.length t.2.1))[k]? = some (.slice t.1 t.2.2.length t.2.1) by rw [List.getElem?_map, ht]; rfl)
        injection hx with hx
        subst hx
        obtain ⟨y, R', rfl⟩ : ∃ y R', R = y :: R' := by
          cases R with
          | nil => simp at hR; omega
          | cons y R' => exact ⟨y, R', rfl⟩
        have hR' : R'.length = n - (k + 1) := by simp only [List.length_cons] at hR; omega
        have h44 := clone44 wr t.1 t.2.1 (enS t.2.2) (hNe.2 t htm) (fun x hx => by obtain ⟨s, _, rfl⟩ := List.mem_map.1 hx; exact ⟨s, rfl⟩) (by rw [enS, List.length_map]; exact HK.out t htm)
        rw [show (enS t.2.2).length = t.2.2.length by rw [enS, List.length_map]] at h44
        have H44 := hidC h44
        clear ht htm hNe h44
        obtain ⟨ta, tc, tl⟩ := t
        simp only at t1 H44
        obtain ⟨nk, hnk⟩ : ∃ nk, nk = tl.length := ⟨_, rfl⟩
        rw [← hnk] at t1 H44
        have z1 : (k : Int) < (n : Int) := by omega
        have z2 : k ≤ 4000000000 := by omega
        have HB := (show Hid _ from hB)
        have HBE := (show Hid _ from hbe)
        have HSL := (show Hid (Sls Y) from hSl)
        have HY := (show Hid _ from hY)
        clear hB hbe hSl hR hY hnk
        have hfin : ∀ (w2 : World) (v : Value), wr.grownBy w2 none → (∃ a n c, v = Value.slice a n c) → (w2.cell? ⟨w.heap.size, k, none⟩ = some y ∧ w2.frozen? ⟨w.heap.size, k, none⟩ = false) ∧ (BlockAt (w2.setCell ⟨w.heap.size, k, none⟩ v) w.heap.size 23 ((Y ++ [v]) ++ R') ∧ Below w.heap.size w (w2.setCell ⟨w.heap.size, k, none⟩ v) ∧ Sls (Y ++ [v]) ∧ (Y ++ [v]).length = k + 1) := by
          intro w2 v g2 hv
          have hB2 := BlockAt.grown HB.out g2 (by simp)
          have hl := HY.out
          have hbe2 : Below w.heap.size w w2 := HBE.out.trans ((below_grown g2).mono HBE.out.size)
          refine ⟨⟨?_, hB2.frozen k⟩, ?_, hbe2.setCell (p := ⟨w.heap.size, k, none⟩) (Nat.le_refl _) v, ?_, by simp [hl]⟩
          · have c0 := hB2.cell k
            rw [List.getElem?_append_right (by omega), hl, Nat.sub_self] at c0
            simpa using c0
          · have B3 := hB2.set k v
            rw [List.set_append_right _ _ (by omega), hl, Nat.sub_self, List.set_cons_zero] at B3
            simpa using B3
          · intro z hz
            rcases List.mem_append.1 hz with h | h
            · exact HSL.out z h
            · obtain rfl : z = v := by simpa using h
              exact hv
        have HFIN := (show Hid _ from hfin)
        clear hfin
        go_wp2_with (go_at_call 44; refine H44.out.mono ?_; rintro e1 w2 ⟨a2, c2, rfl, hC2, _, g2⟩; have hX := HFIN.out w2 (.slice a2 (enS tl).length c2) g2 ⟨_, _, _, rfl⟩; have X := (show Hid _ from hX.2); obtain ⟨x1, x2⟩ := hX.1; clear hX hC2)
        go_roundw
        case rel => exact ⟨k + 1, _, R', by omega, by go_num, X.out.2.2.2, X.out.2.2.1, hR', X.out.1, X.out.2.1⟩
        case measure => simp [intOf]; omega
      · obtain rfl : k = n := by omega
        have hr0 : R = [] := List.eq_nil_of_length_eq_zero (by omega)
        go_wp2
        go_ret
        exact ⟨some ⟨w.heap.size, 0, none⟩, k, Y, rfl, block_cells hB, hY, hSl, new_here _ _, grown_below hbe⟩

end Go.Proofs.Qxb6601448a
