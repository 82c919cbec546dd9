/-
  PLAIN: bits, the value of a run of bits, packing into bytes, the bits of a code. No Go here.
-/
import Derived.Below
namespace Go.Proofs.Qxb6601318a

def bitf (bs : List Bool) (p : Nat) : Nat := (bs.getD p false).toNat

/-- The number that n bits from place p on spell, the first the most significant. -/
def val (f : Nat → Nat) (p : Nat) : Nat → Nat
  | 0 => 0
  | n + 1 => 2 * val f p n + f (p + n)

theorem bitf_lt (bs : List Bool) (p : Nat) : bitf bs p < 2 := by
  unfold bitf; cases bs.getD p false <;> decide

theorem val_lt (bs : List Bool) (p n : Nat) : val (bitf bs) p n < 2 ^ n := by
  induction n with
  | zero => simp [val]
  | succ n ih => have := bitf_lt bs (p + n); simp only [val, Nat.pow_succ]; omega

theorem val_add (f : Nat → Nat) (p n m : Nat) : val f p (n + m) = val f p n * 2 ^ m + val f (p + n) m := by
  induction m with
  | zero => simp [val]
  | succ m ih =>
    rw [← Nat.add_assoc, val, ih, val, Nat.pow_succ, Nat.mul_add, ← Nat.mul_assoc, Nat.mul_comm 2, Nat.mul_assoc, Nat.mul_comm 2, Nat.add_assoc, Nat.add_assoc p n m]

theorem val_congr {f g : Nat → Nat} {p q n : Nat} (h : ∀ i, i < n → f (p + i) = g (q + i)) : val f p n = val g q n := by
  induction n with
  | zero => rfl
  | succ n ih => rw [val, val, ih (fun i hi => h i (by omega)), h n (by omega)]

theorem val_zero {f : Nat → Nat} {p n : Nat} (h : ∀ i, i < n → f (p + i) = 0) : val f p n = 0 := by
  induction n with
  | zero => rfl
  | succ n ih => rw [val, ih (fun i hi => h i (by omega)), h n (by omega)]

/-- The bytes that bits make, the last filled up with noughts. -/
def pack (bs : List Bool) : List Int := (List.range ((bs.length + 7) / 8)).map fun i => ((val (bitf bs) (8 * i) 8 : Nat) : Int)

theorem pack_length (bs : List Bool) : (pack bs).length = (bs.length + 7) / 8 := by simp [pack]

theorem pack_getD (bs : List Bool) (i : Nat) (h : i < (bs.length + 7) / 8) : (pack bs).getD i 0 = ((val (bitf bs) (8 * i) 8 : Nat) : Int) := by
  simp [pack, List.getD_eq_getElem?_getD, h]

theorem bitf_snoc_lt (bs : List Bool) (b : Bool) (p : Nat) (h : p < bs.length) : bitf (bs ++ [b]) p = bitf bs p := by
  simp [bitf, List.getD_eq_getElem?_getD, List.getElem?_append_left h]

theorem bitf_ge (bs : List Bool) (p : Nat) (h : bs.length ≤ p) : bitf bs p = 0 := by
  simp [bitf, List.getD_eq_getElem?_getD, List.getElem?_eq_none h]

theorem bitf_snoc_at (bs : List Bool) (b : Bool) : bitf (bs ++ [b]) bs.length = b.toNat := by
  simp [bitf]

theorem bitf_snoc_no (bs : List Bool) (p : Nat) : bitf (bs ++ [false]) p = bitf bs p := by
  by_cases h : p < bs.length
  · exact bitf_snoc_lt bs false p h
  · by_cases e : p = bs.length
    · subst e; rw [bitf_snoc_at, bitf_ge bs _ (Nat.le_refl _)]; rfl
    · rw [bitf_ge _ _ (by simp; omega), bitf_ge _ _ (by omega)]

/-- One nought more: a new byte where a byte begins, else nothing. -/
theorem pack_no (bs : List Bool) : pack (bs ++ [false]) = if bs.length % 8 = 0 then pack bs ++ [0] else pack bs := by
  have hv : ∀ i, val (bitf (bs ++ [false])) (8 * i) 8 = val (bitf bs) (8 * i) 8 := fun i => val_congr (fun j _ => bitf_snoc_no bs _)
  unfold pack
  simp only [hv]
  split
  next h =>
    have e : ((bs ++ [false]).length + 7) / 8 = (bs.length + 7) / 8 + 1 := by simp; omega
    rw [e, List.range_succ, List.map_append]
    congr 1
    simp only [List.map_cons, List.map_nil]
    congr 1
    rw [val_zero (fun i _ => bitf_ge bs _ (by omega))]
    rfl
  next h =>
    have e : ((bs ++ [false]).length + 7) / 8 = (bs.length + 7) / 8 := by simp; omega
    rw [e]

/-- The place of the last byte, and what it holds: only bits ahead of the new one. -/
theorem pack_last (bs : List Bool) : (pack (bs ++ [false])).getD (bs.length / 8) 0 = ((val (bitf bs) (8 * (bs.length / 8)) (bs.length % 8) * 2 ^ (8 - bs.length % 8) : Nat) : Int) := by
  rw [pack_getD _ _ (by simp; omega)]
  congr 1
  rw [val_congr (g := bitf bs) (q := 8 * (bs.length / 8)) (fun j _ => bitf_snoc_no bs _)]
  have e : 8 = bs.length % 8 + (8 - bs.length % 8) := by omega
  have h := val_add (bitf bs) (8 * (bs.length / 8)) (bs.length % 8) (8 - bs.length % 8)
  rw [← e] at h
  rw [h, val_zero (p := 8 * (bs.length / 8) + bs.length % 8) (fun i _ => bitf_ge bs _ (by omega))]
  omega

theorem val_snoc_yes (bs : List Bool) : val (bitf (bs ++ [true])) (8 * (bs.length / 8)) 8 = val (bitf bs) (8 * (bs.length / 8)) (bs.length % 8) * 2 ^ (8 - bs.length % 8) + 2 ^ (7 - bs.length % 8) := by
  have e : 8 = bs.length % 8 + (1 + (7 - bs.length % 8)) := by omega
  have h := val_add (bitf (bs ++ [true])) (8 * (bs.length / 8)) (bs.length % 8) (1 + (7 - bs.length % 8))
  rw [← e] at h
  rw [h, val_add, val_zero (p := 8 * (bs.length / 8) + bs.length % 8 + 1) (fun i _ => bitf_ge _ _ (by simp; omega))]
  have h1 : val (bitf (bs ++ [true])) (8 * (bs.length / 8)) (bs.length % 8) = val (bitf bs) (8 * (bs.length / 8)) (bs.length % 8) :=
    val_congr (fun i hi => bitf_snoc_lt bs true _ (by omega))
  have h2 : val (bitf (bs ++ [true])) (8 * (bs.length / 8) + bs.length % 8) 1 = 1 := by
    have : 8 * (bs.length / 8) + bs.length % 8 = bs.length := by omega
    rw [this]
    simp [val, bitf_snoc_at]
  rw [h1, h2]
  have : 8 - bs.length % 8 = 1 + (7 - bs.length % 8) := by omega
  rw [this]
  omega

/-- A one more: the same with the last byte's bit set. -/
theorem pack_yes (bs : List Bool) : pack (bs ++ [true]) = (pack (bs ++ [false])).set (bs.length / 8) ((pack (bs ++ [false])).getD (bs.length / 8) 0 + ((2 ^ (7 - bs.length % 8) : Nat) : Int)) := by
  rw [pack_last]
  apply List.ext_getElem
  · simp [pack_length]
  intro i h1 h2
  have hi : i < (bs.length + 1 + 7) / 8 := by rw [pack_length] at h1; simpa using h1
  rw [List.getElem_set]
  by_cases e : bs.length / 8 = i
  · rw [if_pos e]
    subst e
    simp only [pack, List.getElem_map, List.getElem_range]
    rw [val_snoc_yes]
    simp
  · rw [if_neg e]
    simp only [pack, List.getElem_map, List.getElem_range]
    congr 1
    apply val_congr
    intro j hj
    rw [bitf_snoc_lt bs true _ (by omega), bitf_snoc_no]

/-- The or of a byte with a bit that it has not. -/
theorem or_bit (a s : Nat) (hs : s ≤ 7) : (a * 2 ^ (8 - (7 - s))) ||| 2 ^ s = a * 2 ^ (8 - (7 - s)) + 2 ^ s := by
  have e : 8 - (7 - s) = s + 1 := by omega
  rw [e, Nat.mul_comm, Nat.two_pow_add_eq_or_of_lt]
  rw [Nat.pow_succ]
  have : 0 < 2 ^ s := Nat.two_pow_pos s
  omega

/-- The bits of code c in w places. -/
def codeBits (w c : Nat) : List Bool := (List.range w).map fun t => decide (c / 2 ^ (w - 1 - t) % 2 = 1)
def codeBitsTo (w c j : Nat) : List Bool := (List.range j).map fun t => decide (c / 2 ^ (w - 1 - t) % 2 = 1)
theorem codeBits_to (w c : Nat) : codeBits w c = codeBitsTo w c w := rfl
theorem codeBitsTo_succ (w c j : Nat) : codeBitsTo w c (j + 1) = codeBitsTo w c j ++ [decide (c / 2 ^ (w - 1 - j) % 2 = 1)] := by
  simp [codeBitsTo, List.range_succ]
theorem codeBitsTo_length (w c j : Nat) : (codeBitsTo w c j).length = j := by simp [codeBitsTo]
theorem codeBits_length (w c : Nat) : (codeBits w c).length = w := by simp [codeBits]

theorem bitf_mid (A B C : List Bool) (i : Nat) (h : i < B.length) : bitf (A ++ B ++ C) (A.length + i) = (B.getD i false).toNat := by
  unfold bitf
  rw [List.append_assoc, List.getD_eq_getElem?_getD, List.getElem?_append_right (by omega), List.getElem?_append_left (by omega), List.getD_eq_getElem?_getD]
  congr 3
  omega

/-- Reading the w bits of a code gives the code. -/
theorem val_code (A C : List Bool) (w c : Nat) (h : c < 2 ^ w) : val (bitf (A ++ codeBits w c ++ C)) A.length w = c := by
  have key : ∀ n, n ≤ w → val (bitf (A ++ codeBits w c ++ C)) A.length n = c / 2 ^ (w - n) := by
    intro n
    induction n with
    | zero => intro _; simp [val]; exact (Nat.div_eq_of_lt h).symm
    | succ n ih =>
      intro hn
      rw [val, ih (by omega), bitf_mid _ _ _ _ (by rw [codeBits_length]; omega)]
      have e : w - n = (w - 1 - n) + 1 := by omega
      have e2 : w - (n + 1) = w - 1 - n := by omega
      rw [e, e2, Nat.pow_succ, ← Nat.div_div_eq_div_mul]
      have hb : ((codeBits w c).getD n false).toNat = c / 2 ^ (w - 1 - n) % 2 := by
        simp only [codeBits, List.getD_eq_getElem?_getD, List.getElem?_map, List.getElem?_range (show n < w by omega), Option.map_some, Option.getD_some]
        have := Nat.mod_two_eq_zero_or_one (c / 2 ^ (w - 1 - n))
        rcases this with h | h <;> simp [h]
      rw [hb]
      omega
  have := key w (Nat.le_refl _)
  simpa using this

/-- One byte more on the bits that are held. -/
theorem held_more (B n d V : Nat) (hB : B % 2 ^ n = V) (hd : d < 256) : (B * 256 + d) % 2 ^ (n + 8) = V * 256 + d := by
  rw [Nat.pow_add, Nat.mul_comm (2 ^ n), show (2 : Nat) ^ 8 = 256 from rfl, Nat.mod_mul, ← hB]
  have h1 : (B * 256 + d) % 256 = d := by omega
  have h2 : (B * 256 + d) / 256 = B := by omega
  rw [h1, h2]
  omega

theorem held_wrap (B n : Nat) (hn : n ≤ 32) : (B % 2 ^ 32) % 2 ^ n = B % 2 ^ n := by
  apply Nat.mod_mod_of_dvd
  exact Nat.pow_dvd_pow 2 hn

/-- A code out of the bits that are held. -/
theorem held_code (f : Nat → Nat) (B p w n : Nat) (hv : ∀ q m, val f q m < 2 ^ m) (h : B % 2 ^ (w + n) = val f p (w + n)) : B / 2 ^ n % 2 ^ w = val f p w := by
  have e : B / 2 ^ n % 2 ^ w = B % 2 ^ (w + n) / 2 ^ n := by
    rw [Nat.add_comm w n, Nat.pow_add, Nat.mod_mul_right_div_self]
  rw [e, h, val_add, Nat.add_comm, Nat.add_mul_div_right _ _ (Nat.two_pow_pos n), Nat.div_eq_of_lt (hv _ _)]
  omega

theorem held_rest (f : Nat → Nat) (B p w n : Nat) (hv : ∀ q m, val f q m < 2 ^ m) (h : B % 2 ^ (w + n) = val f p (w + n)) : B % 2 ^ n = val f (p + w) n := by
  have e : B % 2 ^ n = B % 2 ^ (w + n) % 2 ^ n := (Nat.mod_mod_of_dvd _ (Nat.pow_dvd_pow 2 (by omega))).symm
  rw [e, h, val_add, Nat.mul_comm, Nat.mul_add_mod, Nat.mod_eq_of_lt (hv _ _)]

end Go.Proofs.Qxb6601318a
