/-
  PLAIN: the stream of bits that the codes make; the widths. No walk here.
-/
import Derived.Test.Qxb6601318aW1
import Derived.Test.Qxb6601318aLzw
namespace Go.Proofs.Qxb6601318a

theorem widthOf_rng (n : Int) : 9 ≤ widthOf n ∧ widthOf n ≤ 12 := by
  unfold widthOf; repeat' split <;> omega

theorem early1_rng (b : Bool) : 0 ≤ early1 b ∧ early1 b ≤ 1 := by
  cases b <;> decide

/-- The width of code number i, a natural number. -/
def wd (early : Bool) (i : Nat) : Nat := (encW i early).toNat

theorem encW_wd (early : Bool) (i : Nat) : encW i early = (wd early i : Int) := by
  have := widthOf_rng (nextOf i + early1 early)
  unfold wd encW
  omega

theorem wd_rng (early : Bool) (i : Nat) : 9 ≤ wd early i ∧ wd early i ≤ 12 := by
  have := widthOf_rng (nextOf i + early1 early)
  unfold wd encW
  omega

/-- A code that the coder makes as its i-th fits its width. -/
theorem code_fits (early : Bool) (i c : Nat) (h : okCode c (min i 3838) ∨ c = 257) : c < 2 ^ wd early i := by
  have hr := wd_rng early i
  have he := early1_rng early
  have hw : (wd early i : Int) = widthOf (nextOf i + early1 early) := (encW_wd early i).symm
  have hc : c < 512 ∨ ((c : Int) ≤ nextOf i ∧ c < 4096) := by
    rcases h with (h | ⟨h1, h2⟩) | h
    · exact .inl (by omega)
    · right
      unfold nextOf
      refine ⟨?_, by omega⟩
      split
      · omega
      · split <;> omega
    · exact .inl (by omega)
  have h9 : wd early i = 9 ∨ wd early i = 10 ∨ wd early i = 11 ∨ wd early i = 12 := by omega
  unfold widthOf at hw
  rcases h9 with h9 | h9 | h9 | h9 <;> rw [h9] at hw ⊢ <;> simp only [Nat.reducePow]
  · split at hw
    · omega
    · split at hw
      · omega
      · split at hw <;> omega
  · split at hw
    · omega
    · split at hw
      · omega
      · split at hw <;> omega
  · split at hw
    · omega
    · split at hw
      · omega
      · split at hw <;> omega
  · omega

def stream (early : Bool) : Nat → List Nat → List Bool
  | _, [] => []
  | i, c :: cs => codeBits (wd early i) c ++ stream early (i + 1) cs

theorem stream_append (early : Bool) (C D : List Nat) (i : Nat) : stream early i (C ++ D) = stream early i C ++ stream early (i + C.length) D := by
  induction C generalizing i with
  | nil => simp [stream]
  | cons c cs ih =>
    simp only [List.cons_append, stream, ih, List.append_assoc, List.length_cons]
    rw [show i + 1 + cs.length = i + (cs.length + 1) by omega]

theorem stream_snoc (early : Bool) (C : List Nat) (c : Nat) : stream early 0 (C ++ [c]) = stream early 0 C ++ codeBits (wd early C.length) c := by
  rw [stream_append]; simp [stream]

theorem stream_le (early : Bool) (C : List Nat) (i : Nat) : (stream early i C).length ≤ 12 * C.length := by
  induction C generalizing i with
  | nil => simp [stream]
  | cons c cs ih =>
    have := ih (i + 1)
    have := (wd_rng early i).2
    simp only [stream, List.length_append, codeBits_length, List.length_cons]
    omega

/-- All bits: the codes, then the end. -/
def full (early : Bool) (C : List Nat) : List Bool := stream early 0 C ++ codeBits (wd early C.length) 257

/-- The code that stands at place j. -/
def codeAt (C : List Nat) (j : Nat) : Nat := C.getD j 257

theorem full_at (early : Bool) (C : List Nat) (j : Nat) (hj : j ≤ C.length) :
    ∃ rest, full early C = stream early 0 (C.take j) ++ codeBits (wd early j) (codeAt C j) ++ rest := by
  by_cases h : j < C.length
  · refine ⟨stream early (j + 1) (C.drop (j + 1)) ++ codeBits (wd early C.length) 257, ?_⟩
    have e : C = C.take j ++ (C[j] :: C.drop (j + 1)) := by rw [List.getElem_cons_drop h, List.take_append_drop]
    have hc : codeAt C j = C[j] := by simp [codeAt, List.getD_eq_getElem?_getD, h]
    unfold full
    rw [hc]
    conv => lhs; rw [e]
    rw [stream_append, ← e]
    have hl : (C.take j).length = j := by simp; omega
    rw [hl]
    simp [stream]
  · obtain rfl : j = C.length := by omega
    refine ⟨[], ?_⟩
    have hc : codeAt C C.length = 257 := by simp [codeAt, List.getD_eq_getElem?_getD]
    rw [hc, List.take_length]
    simp [full]

theorem pos_succ (early : Bool) (C : List Nat) (j : Nat) (hj : j < C.length) : (stream early 0 (C.take (j + 1))).length = (stream early 0 (C.take j)).length + wd early j := by
  rw [List.take_succ_eq_append_getElem hj, stream_snoc, List.length_append, codeBits_length]
  have hl : (C.take j).length = j := by simp; omega
  rw [hl]

/-- Reading at place j gives code j. -/
theorem read_at (early : Bool) (C : List Nat) (j : Nat) (hj : j ≤ C.length) (hfit : codeAt C j < 2 ^ wd early j) :
    val (bitf (full early C)) (stream early 0 (C.take j)).length (wd early j) = codeAt C j ∧ (stream early 0 (C.take j)).length + wd early j ≤ (full early C).length := by
  obtain ⟨rest, h⟩ := full_at early C j hj
  rw [h]
  refine ⟨val_code _ _ _ _ hfit, ?_⟩
  simp [codeBits_length]

/-- The decoder's width goes with the coder's. -/
theorem nextOf_nat (j : Nat) : nextOf j = 258 + ((min (j - 1) 3838 : Nat) : Int) := by
  unfold nextOf
  split
  · omega
  · split <;> omega

theorem width_step (n : Int) : widthOf (n + 1) = if 2 ^ (widthOf n).toNat ≤ n + 1 ∧ widthOf n < 12 then widthOf n + 1 else widthOf n := by
  unfold widthOf
  by_cases h1 : n < 512
  · by_cases h2 : n + 1 < 512
    · simp only [h1, h2, if_true]
      rw [if_neg (by simp; omega)]
    · obtain rfl : n = 511 := by omega
      decide
  · by_cases h2 : n < 1024
    · by_cases h3 : n + 1 < 1024
      · rw [if_neg (by omega), if_pos h3, if_neg h1, if_pos h2, if_neg (by simp; omega)]
      · obtain rfl : n = 1023 := by omega
        decide
    · by_cases h3 : n < 2048
      · by_cases h4 : n + 1 < 2048
        · rw [if_neg (by omega), if_neg (by omega), if_pos h4, if_neg h1, if_neg h2, if_pos h3, if_neg (by simp; omega)]
        · obtain rfl : n = 2047 := by omega
          decide
      · rw [if_neg (by omega), if_neg (by omega), if_neg (by omega), if_neg h1, if_neg h2, if_neg h3, if_neg (by simp)]

end Go.Proofs.Qxb6601318a
