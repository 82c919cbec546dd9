/-
  PLAIN laws for unlzw's round, in the walk's own spelling. No walk here.
-/
import Derived.Test.Qxb6601318aDecSt
import Derived.Test.Qxb6601318aApp
namespace Go.Proofs.Qxb6601318a
open Go.RowKit

theorem wraps_u32 (n : Int) (h₀ : 0 ≤ n) (h₁ : n < 2 ^ 32) : IntKind.u32.wrap n = n := by rw [IntKind.wrap_u32]; omega

theorem or_u32 (B d : Nat) (hd : d < 256) : bits BinOp.or IntKind.u32 ((B : Int) * 256 % 4294967296) ((d : Int) % 4294967296) = ((B * 256 % 4294967296 + d : Nat) : Int) := by
  have e : (d : Int) % 4294967296 = d := by omega
  rw [e]
  rw [bits_join .u32 32 (by decide) wraps_u32 8 _ _ (by omega) (by omega) (by omega) (by omega) (by omega) (by omega)]
  omega

theorem refill (f : Nat → Nat) (pos nb ib B d : Nat) (h8 : 8 * ib = pos + nb) (hv : B % 2 ^ nb = val f pos nb) (hd : d = val f (8 * ib) 8) (hd8 : d < 256) (hnb : nb ≤ 24) :
    (B * 256 % 4294967296 + d) % 2 ^ (nb + 8) = val f pos (nb + 8) ∧ B * 256 % 4294967296 + d < 4294967296 := by
  have e : B * 256 % 4294967296 + d = (B * 256 + d) % 2 ^ 32 := by
    simp only [Nat.reducePow]; omega
  refine ⟨?_, by omega⟩
  rw [e, held_wrap _ _ (by omega), held_more B nb d _ hv hd8, val_add, ← h8, ← hd]

theorem byte_val (bs : List Bool) (i : Nat) (hi : i < (pack bs).length) : ∃ d : Nat, (d : Int) = (pack bs).getD i 0 ∧ d < 256 ∧ d = val (bitf bs) (8 * i) 8 := by
  rw [pack_length] at hi
  exact ⟨_, (pack_getD bs i hi).symm, val_lt bs (8 * i) 8, rfl⟩

theorem mask_small (q w : Nat) (hq : q < 4294967296) (hw : w ≤ 12) : bits .and .i64 (q : Int) ((2 : Int) ^ w - 1) = ((q % 2 ^ w : Nat) : Int) := by
  have h63 : (2 : Int) ^ 63 = 9223372036854775808 := by decide
  rw [bits_mask .i64 63 (by decide) (fun n h0 h1 => by rw [h63] at h1; rw [IntKind.wrap_i64]; omega) w (by omega) _ (Int.natCast_nonneg _) (by rw [h63]; omega)]
  simp

theorem wrap64_nat (q : Nat) (hq : q < 4294967296) : wrap64 (q : Int) = q := by unfold wrap64; omega

theorem wrap64_mask (P : Nat) (h0 : 0 < P) (h1 : P ≤ 4096) : wrap64 (wrap64 (P : Int) - 1) = (P : Int) - 1 := by unfold wrap64; omega

theorem code_value (bs : List Bool) (B nb wd pos : Nat) (hB : B < 4294967296) (h9 : wd ≤ 12) (hle : wd ≤ nb) (hv : B % 2 ^ nb = val (bitf bs) pos nb) :
    bits BinOp.and IntKind.i64 (wrap64 ((B : Int) / 2 ^ (nb - wd))) (wrap64 (wrap64 (2 ^ wd) - 1)) = ((val (bitf bs) pos wd : Nat) : Int) := by
  have hc := held_code (bitf bs) B pos wd (nb - wd) (val_lt bs) (by rw [show wd + (nb - wd) = nb by omega]; exact hv)
  have h12 : 2 ^ wd ≤ 4096 := Nat.le_trans (Nat.pow_le_pow_right (by decide) h9) (by decide)
  have e2 : ((2 : Int) ^ wd) = ((2 ^ wd : Nat) : Int) := by simp
  have e1 : ((B : Int) / 2 ^ (nb - wd)) = ((B / 2 ^ (nb - wd) : Nat) : Int) := by simp
  have hq : B / 2 ^ (nb - wd) < 4294967296 := Nat.lt_of_le_of_lt (Nat.div_le_self _ _) hB
  rw [e1, wrap64_nat _ hq, e2, wrap64_mask _ (Nat.two_pow_pos _) h12, ← e2, mask_small _ _ hq h9, hc]

theorem rest_value (bs : List Bool) (B nb wd pos : Nat) (hle : wd ≤ nb) (hv : B % 2 ^ nb = val (bitf bs) pos nb) : B % 2 ^ (nb - wd) = val (bitf bs) (pos + wd) (nb - wd) :=
  held_rest (bitf bs) B pos wd (nb - wd) (val_lt bs) (by rw [show wd + (nb - wd) = nb by omega]; exact hv)

section
variable {X : List Int} {E : List (Nat × Int)} {T : List (List Int)} {C : List Nat}

theorem codeAt_ok (h : Good X E T C) {j : Nat} (hj : j < C.length) : okCode (codeAt C j) (min j 3838) := by
  have hc : codeAt C j = C[j] := by simp [codeAt, List.getD_eq_getElem?_getD, hj]
  rw [hc]
  exact h.codes j _ (List.getElem?_eq_getElem hj)

theorem codeAt_end (C : List Nat) : codeAt C C.length = 257 := by simp [codeAt, List.getD_eq_getElem?_getD]

theorem codeAt_fits (h : Good X E T C) (early : Bool) {j : Nat} (hj : j ≤ C.length) : codeAt C j < 2 ^ wd early j := by
  by_cases hl : j < C.length
  · exact code_fits early j _ (.inl (codeAt_ok h hl))
  · obtain rfl : j = C.length := by omega
    exact code_fits early _ _ (.inr (codeAt_end C))

theorem outOf_succ {j : Nat} (hj : j < C.length) : outOf T C (j + 1) = outOf T C j ++ look T (codeAt C j) := by
  have hc : codeAt C j = C[j] := by simp [codeAt, List.getD_eq_getElem?_getD, hj]
  unfold outOf
  rw [List.take_succ_eq_append_getElem hj, hc, List.map_append, List.flatten_append]
  simp only [List.map_cons, List.map_nil, List.flatten_cons, List.flatten_nil, List.append_nil]

theorem outOf_prefix (h : Good X E T C) (j : Nat) : outOf T C j <+: X := by
  have := flatten_take_prefix T C j
  rw [h.text] at this
  exact this

theorem outOf_end (h : Good X E T C) : outOf T C C.length = X := by
  unfold outOf
  rw [List.take_length]
  exact h.text

theorem posOf_succ {early : Bool} {j : Nat} (hj : j < C.length) : posOf early C (j + 1) = posOf early C j + wd early j := pos_succ early C j hj

theorem prevOf_succ {j : Nat} (hj : j < C.length) : prevOf C (j + 1) = (codeAt C j : Int) := by
  unfold prevOf codeAt
  rw [if_neg (by omega), Nat.add_sub_cancel]
  simp [List.getD_eq_getElem?_getD, hj]

/-- The entry that the decoder makes at code j. -/
theorem entry_at (h : Good X E T C) {j : Nat} (hj : j < C.length) (h1 : 1 ≤ j) (h2 : j - 1 < 3838) :
    ∃ (p : Nat) (b : Int), prevOf C j = (p : Int) ∧ okCode p (j - 1) ∧ look T p ≠ [] ∧ look T (258 + (j - 1)) = look T p ++ [b] ∧ (look T (codeAt C j)).headD 0 = b ∧ okCode (codeAt C j) (j - 1 + 1) := by
  have hE : j - 1 < E.length := by rw [h.cnt]; omega
  have hej : E[j - 1]? = some (E[j - 1].1, E[j - 1].2) := List.getElem?_eq_getElem hE
  obtain ⟨hp, c, hc, hhd⟩ := h.ents (j - 1) _ _ hej
  have hT := h.tab (j - 1) _ _ hej
  have hj1 : j - 1 + 1 = j := by omega
  have hok := h.codes (j - 1) _ hp
  rw [hj1] at hc
  have hcc : codeAt C j = c := by unfold codeAt; rw [List.getD_eq_getElem?_getD, hc]; rfl
  refine ⟨E[j - 1].1, E[j - 1].2, ?_, hok.mono (by omega), h.ne (hok.mono (by omega)), look_ent T (j - 1) _ hT, ?_, ?_⟩
  · unfold prevOf
    rw [if_neg (by omega), List.getD_eq_getElem?_getD, hp]
    rfl
  · rw [hcc, List.headD_eq_head?_getD, hhd]
    rfl
  · exact (codeAt_ok h hj).mono (by omega)

theorem wd_same (early : Bool) {j : Nat} (h : j = 0 ∨ 3838 < j) : wd early (j + 1) = wd early j := by
  unfold wd encW
  rw [nextOf_nat, nextOf_nat]
  congr 4
  omega

theorem wd_step (early : Bool) {j : Nat} (h1 : 1 ≤ j) (h2 : j - 1 < 3838) :
    wd early (j + 1) = if 2 ^ wd early j ≤ 258 + ((min (j - 1) 3838 : Nat) : Int) + 1 + early1 early ∧ (wd early j : Int) < 12 then wd early j + 1 else wd early j := by
  have a : ((wd early (j + 1) : Nat) : Int) = widthOf (nextOf ((j + 1 : Nat) : Int) + early1 early) := (encW_wd early (j + 1)).symm
  have b : ((wd early j : Nat) : Int) = widthOf (nextOf (j : Int) + early1 early) := (encW_wd early j).symm
  have hn : nextOf ((j + 1 : Nat) : Int) + early1 early = (nextOf (j : Int) + early1 early) + 1 := by rw [nextOf_nat, nextOf_nat]; omega
  rw [hn, width_step, ← b] at a
  have hw : ((wd early j : Nat) : Int).toNat = wd early j := by omega
  rw [hw, nextOf_nat] at a
  have e : 258 + ((min (j - 1) 3838 : Nat) : Int) + early1 early + 1 = 258 + ((min (j - 1) 3838 : Nat) : Int) + 1 + early1 early := by omega
  rw [e] at a
  split at a
  next hh => rw [if_pos hh]; omega
  next hh => rw [if_neg hh]; omega

theorem look_le (h : Good X E T C) {j : Nat} (hj : j < C.length) : (look T (codeAt C j)).length ≤ X.length := by
  have h1 := (outOf_prefix h (j + 1)).length_le
  rw [outOf_succ hj, List.length_append] at h1
  omega

theorem prev_le (h : Good X E T C) {j p : Nat} (hj : j < C.length) (h1 : 1 ≤ j) (hp : prevOf C j = (p : Int)) : (look T p).length ≤ X.length := by
  have hq := prevOf_succ (C := C) (j := j - 1) (by omega)
  rw [show j - 1 + 1 = j by omega, hp] at hq
  have : p = codeAt C (j - 1) := by omega
  rw [this]
  exact look_le h (by omega)
end

theorem Rows4.entry {b : Nat} {w0 : World} {PL LL HL SL : List Int} {wr : World} (h : Rows4 b w0 PL LL HL SL wr) (N : Nat) (p hv sv : Int) :
    Rows4 b w0 (PL.set N p) LL (HL.set N hv) (SL.set N sv) (((wr.setCell ⟨b, N, none⟩ (.int .u16 p)).setCell ⟨b + 1 + 1, N, none⟩ (.int .u8 hv)).setCell ⟨b + 1 + 1 + 1, N, none⟩ (.int .i64 sv)) := by
  have hs := h.sz
  exact {
    p := ((h.p.set N _).other (by show b ≠ b + 1 + 1; omega) _).other (by show b ≠ b + 1 + 1 + 1; omega) _
    l := ((h.l.other (by show b + 1 ≠ b; omega) _).other (by show b + 1 ≠ b + 1 + 1; omega) _).other (by show b + 1 ≠ b + 1 + 1 + 1; omega) _
    h := ((h.h.other (by show b + 1 + 1 ≠ b; omega) _).set N _).other (by show b + 1 + 1 ≠ b + 1 + 1 + 1; omega) _
    s := ((h.s.other (by show b + 1 + 1 + 1 ≠ b; omega) _).other (by show b + 1 + 1 + 1 ≠ b + 1 + 1; omega) _).set N _
    bl := ((h.bl.setCell (by show b ≤ b; omega) _).setCell (by show b ≤ b + 1 + 1; omega) _).setCell (by show b ≤ b + 1 + 1 + 1; omega) _
    sz := by simpa [World.setCell] using hs }

theorem Rows4.last {b : Nat} {w0 : World} {PL LL HL SL : List Int} {wr : World} (h : Rows4 b w0 PL LL HL SL wr) (N : Nat) (lv : Int) :
    Rows4 b w0 PL (LL.set N lv) HL SL (wr.setCell ⟨b + 1, N, none⟩ (.int .u8 lv)) := by
  have hs := h.sz
  exact {
    p := h.p.other (by show b ≠ b + 1; omega) _
    l := h.l.set N _
    h := h.h.other (by show b + 1 + 1 ≠ b + 1; omega) _
    s := h.s.other (by show b + 1 + 1 + 1 ≠ b + 1; omega) _
    bl := h.bl.setCell (by show b ≤ b + 1; omega) _
    sz := by simpa [World.setCell] using hs }

theorem Rows4.kept {b : Nat} {w0 : World} {PL LL HL SL : List Int} {wr w' : World} (h : Rows4 b w0 PL LL HL SL wr) (hb : Below (b + 4) wr w') : Rows4 b w0 PL LL HL SL w' where
  p := h.p.below hb (by omega)
  l := h.l.below hb (by omega)
  h := h.h.below hb (by omega)
  s := h.s.below hb (by omega)
  bl := h.bl.trans (hb.mono (by omega))
  sz := Nat.le_trans h.sz hb.size

theorem wrap64_pow (P : Nat) (h1 : P ≤ 4096) : wrap64 (P : Int) = P := by unfold wrap64; omega

theorem wrap64_two_pow (w : Nat) (h : w ≤ 12) : wrap64 (2 ^ w) = ((2 ^ w : Nat) : Int) := by
  have h12 : 2 ^ w ≤ 4096 := Nat.le_trans (Nat.pow_le_pow_right (by decide) h) (by decide)
  have e2 : ((2 : Int) ^ w) = ((2 ^ w : Nat) : Int) := by simp
  rw [e2, wrap64_pow _ h12]

end Go.Proofs.Qxb6601318a
