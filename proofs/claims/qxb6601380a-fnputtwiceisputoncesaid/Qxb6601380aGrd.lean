/-
  The guards zzBytes (20, 27), zzOpsTooBig (21), the copy zzCloneOps (22).
-/
import Derived.Test.Qxb6601380aOps
import Derived.Test.Qxb6601380aDel
import Derived.WalkKit
import Derived.Lib.AppendZerosOnto
import Derived.Deep.DeepCutAuto
namespace Go.Proofs.Qxb6601380a
open Go.RowKit

/-- Some bool; nothing else. -/
def AnyBool (w : World) (e : Ending) (w' : World) : Prop := (∃ b, e = .returned (.bool b)) ∧ w' = w

/-- Some bool; where it is false, the script is small. -/
def Small (w : World) (ops : List (ByteArray × Int × Bool)) (k : ByteArray) (e : Ending) (w' : World) : Prop :=
  (∃ b, e = .returned (.bool b) ∧ (b = false → ops.length ≤ 16384 ∧ k.size ≤ 1048576 ∧ ∀ o ∈ ops, o.1.size ≤ 1048576)) ∧ w' = w

set_option maxHeartbeats 4000000 in
set_option maxRecDepth 100000 in
theorem bytes20 (w : World) (a : Option Addr) (cap : Nat) (ops : List (ByteArray × Int × Bool)) (k : ByteArray) (r : Int) (hO : OpsAt w a ops) (hn : ops.length ≤ maxLen) (hk : k.size ≤ maxLen) (hz : ∀ o ∈ ops, o.1.size ≤ maxLen) :
    Calls Try.prog 20 #[.slice a ops.length cap, .string k, .int .u32 r] w fun e w' => AnyBool w e w' := by
  unfold maxLen at hn hk hz
  have HO := (show Hid _ from hO)
  have HZ := (show Hid _ from hz)
  clear hO hz
  obtain ⟨n, hnn⟩ : ∃ n, n = ops.length := ⟨_, rfl⟩
  have HN := (show Hid _ from hnn)
  rw [← hnn] at hn ⊢
  clear hnn
  by_cases hbig : (1048576 : Int) < (n : Int)
  · go_enter Try.func20, Try.ntmps20
    go_wp2
    go_ret
    exact ⟨⟨_, rfl⟩, rfl⟩
  have hn1 : (n : Int) ≤ 1048576 := by omega
  clear hbig hn
  go_enter Try.func20, Try.ntmps20
  go_wp2
  go_loopw [7, 8] (fun x y wr => ∃ (m : Nat) (z : Int), wr = w ∧ y = .int .i64 m ∧ m ≤ n ∧ x = .int .i64 z ∧ 0 ≤ z ∧ z ≤ 1048576) (fun _ y _ => n - (intOf y).toNat)
  case atStart => exact ⟨0, n, rfl, rfl, Nat.zero_le _, by first | rfl | go_num, by omega, by omega⟩
  case round =>
    obtain ⟨m, z, rfl, rfl, hm, rfl, hz0, hz1⟩ := hrel
    by_cases hlt : m < n
    · have hme : m < ops.length := by rw [← HN.out]; exact hlt
      obtain ⟨o, ho⟩ : ∃ o, ops[m]? = some o := ⟨_, List.getElem?_eq_getElem hme⟩
      obtain ⟨b, off, rfl, t1, _, _⟩ := OpsAt.addr HO.out ho
      have hs := HZ.out o (List.mem_of_getElem? ho)
      clear ho
      obtain ⟨s, r1, r2⟩ := o
      simp only at t1 hs
      have z1 : (m : Int) < (n : Int) := by omega
      have z2 : m ≤ 4000000000 := by omega
      by_cases hbig : (1048576 : Int) < (s.size : Int)
      · go_wp2
        go_ret
        exact ⟨⟨_, rfl⟩, rfl⟩
      · have hs1 : (s.size : Int) ≤ 1048576 := by omega
        clear hbig hs
        by_cases hbig : (1048576 : Int) < z + (s.size : Int)
        · go_wp2
          go_ret
          exact ⟨⟨_, rfl⟩, rfl⟩
        · have hs2 : z + (s.size : Int) ≤ 1048576 := by omega
          clear hbig
          go_wp2
          go_roundw
          case rel => exact ⟨m + 1, z + (s.size : Int), by first | rfl | trivial, by go_num, by omega, rfl, by omega, by omega⟩
          case measure => simp [intOf]; omega
    · obtain rfl : m = n := by omega
      by_cases hbig : (1048576 : Int) < (k.size : Int)
      · go_wp2
        go_ret
        exact ⟨⟨_, rfl⟩, rfl⟩
      · have hs1 : (k.size : Int) ≤ 1048576 := by omega
        clear hbig hk
        by_cases hbig : (1048576 : Int) < z + (k.size : Int)
        · go_wp2
          go_ret
          exact ⟨⟨_, rfl⟩, rfl⟩
        · have hs2 : z + (k.size : Int) ≤ 1048576 := by omega
          clear hbig
          go_wp2
          go_ret
          exact ⟨⟨_, rfl⟩, rfl⟩

set_option maxHeartbeats 4000000 in
set_option maxRecDepth 100000 in
theorem bytes27 (w : World) (a : Option Addr) (cap : Nat) (ops : List (ByteArray × Int × Bool)) (k : ByteArray) (r : Int) (hO : OpsAt w a ops) (hn : ops.length ≤ maxLen) (hk : k.size ≤ maxLen) (hz : ∀ o ∈ ops, o.1.size ≤ maxLen) :
    Calls Try.prog 27 #[.slice a ops.length cap, .string k, .int .u32 r] w fun e w' => AnyBool w e w' := by
  unfold maxLen at hn hk hz
  have HO := (show Hid _ from hO)
  have HZ := (show Hid _ from hz)
  clear hO hz
  obtain ⟨n, hnn⟩ : ∃ n, n = ops.length := ⟨_, rfl⟩
  have HN := (show Hid _ from hnn)
  rw [← hnn] at hn ⊢
  clear hnn
  by_cases hbig : (1048576 : Int) < (n : Int)
  · go_enter Try.func27, Try.ntmps27
    go_wp2
    go_ret
    exact ⟨⟨_, rfl⟩, rfl⟩
  have hn1 : (n : Int) ≤ 1048576 := by omega
  clear hbig hn
  go_enter Try.func27, Try.ntmps27
  go_wp2
  go_loopw [7, 8] (fun x y wr => ∃ (m : Nat) (z : Int), wr = w ∧ y = .int .i64 m ∧ m ≤ n ∧ x = .int .i64 z ∧ 0 ≤ z ∧ z ≤ 1048576) (fun _ y _ => n - (intOf y).toNat)
  case atStart => exact ⟨0, n, rfl, rfl, Nat.zero_le _, by first | rfl | go_num, by omega, by omega⟩
  case round =>
    obtain ⟨m, z, rfl, rfl, hm, rfl, hz0, hz1⟩ := hrel
    by_cases hlt : m < n
    · have hme : m < ops.length := by rw [← HN.out]; exact hlt
      obtain ⟨o, ho⟩ : ∃ o, ops[m]? = some o := ⟨_, List.getElem?_eq_getElem hme⟩
      obtain ⟨b, off, rfl, t1, _, _⟩ := OpsAt.addr HO.out ho
      have hs := HZ.out o (List.mem_of_getElem? ho)
      clear ho
      obtain ⟨s, r1, r2⟩ := o
      simp only at t1 hs
      have z1 : (m : Int) < (n : Int) := by omega
      have z2 : m ≤ 4000000000 := by omega
      by_cases hbig : (1048576 : Int) < (s.size : Int)
      · go_wp2
        go_ret
        exact ⟨⟨_, rfl⟩, rfl⟩
      · have hs1 : (s.size : Int) ≤ 1048576 := by omega
        clear hbig hs
        by_cases hbig : (1048576 : Int) < z + (s.size : Int)
        · go_wp2
          go_ret
          exact ⟨⟨_, rfl⟩, rfl⟩
        · have hs2 : z + (s.size : Int) ≤ 1048576 := by omega
          clear hbig
          go_wp2
          go_roundw
          case rel => exact ⟨m + 1, z + (s.size : Int), by first | rfl | trivial, by go_num, by omega, rfl, by omega, by omega⟩
          case measure => simp [intOf]; omega
    · obtain rfl : m = n := by omega
      by_cases hbig : (1048576 : Int) < (k.size : Int)
      · go_wp2
        go_ret
        exact ⟨⟨_, rfl⟩, rfl⟩
      · have hs1 : (k.size : Int) ≤ 1048576 := by omega
        clear hbig hk
        by_cases hbig : (1048576 : Int) < z + (k.size : Int)
        · go_wp2
          go_ret
          exact ⟨⟨_, rfl⟩, rfl⟩
        · have hs2 : z + (k.size : Int) ≤ 1048576 := by omega
          clear hbig
          go_wp2
          go_ret
          exact ⟨⟨_, rfl⟩, rfl⟩

set_option maxHeartbeats 4000000 in
set_option maxRecDepth 100000 in
theorem big21 (w : World) (a : Option Addr) (cap : Nat) (ops : List (ByteArray × Int × Bool)) (k : ByteArray) (hO : OpsAt w a ops) (hn : ops.length ≤ maxLen) (hk : k.size ≤ maxLen) (hz : ∀ o ∈ ops, o.1.size ≤ maxLen) :
    Calls Try.prog 21 #[.slice a ops.length cap, .string k] w fun e w' => Small w ops k e w' := by
  unfold maxLen at hn hk hz
  have HO := (show Hid _ from hO)
  have HZ := (show Hid _ from hz)
  clear hO hz
  obtain ⟨n, hnn⟩ : ∃ n, n = ops.length := ⟨_, rfl⟩
  have HN := (show Hid _ from hnn)
  rw [← hnn] at hn ⊢
  clear hnn
  by_cases hbig : (16384 : Int) < (n : Int)
  · go_enter Try.func21, Try.ntmps21
    go_wp2
    go_ret
    exact ⟨⟨_, rfl, fun h => by cases h⟩, rfl⟩
  have hn1 : (n : Int) ≤ 16384 := by omega
  clear hbig hn
  by_cases hbig : (1048576 : Int) < (k.size : Int)
  · go_enter Try.func21, Try.ntmps21
    go_wp2
    go_ret
    exact ⟨⟨_, rfl, fun h => by cases h⟩, rfl⟩
  have hk1 : (k.size : Int) ≤ 1048576 := by omega
  clear hbig hk
  go_enter Try.func21, Try.ntmps21
  go_wp2
  go_loopw [5, 6] (fun x y wr => ∃ (m : Nat) (z : Int), wr = w ∧ y = .int .i64 m ∧ m ≤ n ∧ x = .int .i64 z ∧ 0 ≤ z ∧ z ≤ 2000000 ∧ ∀ i o, i < m → ops[i]? = some o → o.1.size ≤ 1048576) (fun _ y _ => n - (intOf y).toNat)
  case atStart => exact ⟨0, (k.size : Int) + 24 * (n : Int), rfl, rfl, Nat.zero_le _, by first | rfl | go_num, by omega, by omega, fun i o hi => by omega⟩
  case round =>
    obtain ⟨m, z, rfl, rfl, hm, rfl, hz0, hz1, hall⟩ := hrel
    have HALL := (show Hid _ from hall)
    clear hall
    by_cases hlt : m < n
    · have hme : m < ops.length := by rw [← HN.out]; exact hlt
      obtain ⟨o, ho⟩ : ∃ o, ops[m]? = some o := ⟨_, List.getElem?_eq_getElem hme⟩
      obtain ⟨b, off, rfl, t1, _, _⟩ := OpsAt.addr HO.out ho
      have hs := HZ.out o (List.mem_of_getElem? ho)
      have HOM := (show Hid _ from ho)
      clear ho
      obtain ⟨s, r1, r2⟩ := o
      simp only at t1 hs
      have z1 : (m : Int) < (n : Int) := by omega
      have z2 : m ≤ 4000000000 := by omega
      by_cases hbig : (1048576 : Int) < (s.size : Int)
      · go_wp2
        go_ret
        exact ⟨⟨_, rfl, fun h => by cases h⟩, rfl⟩
      · have hs1 : (s.size : Int) ≤ 1048576 := by omega
        clear hbig hs
        by_cases hbig : (1048576 : Int) < z + (s.size : Int)
        · go_wp2
          go_ret
          exact ⟨⟨_, rfl, fun h => by cases h⟩, rfl⟩
        · have hs2 : z + (s.size : Int) ≤ 1048576 := by omega
          clear hbig
          go_wp2
          go_roundw
          case rel =>
            refine ⟨m + 1, z + (s.size : Int), by first | rfl | trivial, by go_num, by omega, rfl, by omega, by omega, fun i o hi ho => ?_⟩
            by_cases hi2 : i < m
            · exact HALL.out i o hi2 ho
            · obtain rfl : i = m := by omega
              rw [HOM.out] at ho
              injection ho with ho
              rw [← ho]
              show s.size ≤ 1048576
              omega
          case measure => simp [intOf]; omega
    · obtain rfl : m = n := by omega
      have hfin : ∀ o ∈ ops, o.1.size ≤ 1048576 := by
        intro o ho
        obtain ⟨i, hi⟩ := List.mem_iff_getElem?.1 ho
        have := (List.getElem?_eq_some_iff.1 hi).1
        exact HALL.out i o (by rw [HN.out]; exact this) hi
      have HFIN := (show Hid _ from hfin)
      clear hfin
      go_wp2
      go_ret
      exact ⟨⟨_, rfl, fun _ => ⟨by rw [← HN.out]; omega, by omega, HFIN.out⟩⟩, rfl⟩

theorem Try.info62 : (Try.prog.info? 62).map (fun i => (i.zero, i.size, i.bytes)) = some (some (.agg #[.string ⟨#[]⟩, .int .u32 0, .bool false]), 3, 24) := by kernel_rfl

def ocells (ops : List (ByteArray × Int × Bool)) : List Value := ops.flatMap fun o => [.string o.1, .int .u32 o.2.1, .bool o.2.2]

theorem ocells_length (ops : List (ByteArray × Int × Bool)) : (ocells ops).length = ops.length * 3 := by
  induction ops with
  | nil => rfl
  | cons o ops ih => simp only [ocells, List.flatMap_cons, List.length_append, List.length_cons, List.length_nil] at ih ⊢; omega

theorem ocells_succ {ops : List (ByteArray × Int × Bool)} {m : Nat} {o : ByteArray × Int × Bool} (h : ops[m]? = some o) : ocells (ops.take (m + 1)) = ocells (ops.take m) ++ [.string o.1, .int .u32 o.2.1, .bool o.2.2] := by
  rw [List.take_add_one, h]
  simp [ocells]

theorem ocells_get {ops : List (ByteArray × Int × Bool)} {m : Nat} {o : ByteArray × Int × Bool} (h : ops[m]? = some o) (rest : List Value) :
    (ocells ops ++ rest)[m * 3]? = some (.string o.1) ∧ (ocells ops ++ rest)[m * 3 + 1]? = some (.int .u32 o.2.1) ∧ (ocells ops ++ rest)[m * 3 + 2]? = some (.bool o.2.2) := by
  have hm := (List.getElem?_eq_some_iff.1 h).1
  have e : ocells ops = ocells (ops.take m) ++ ([.string o.1, .int .u32 o.2.1, .bool o.2.2] ++ ocells (ops.drop (m + 1))) := by
    rw [← List.append_assoc, ← ocells_succ h]
    rw [show ocells ops = ocells (ops.take (m + 1) ++ ops.drop (m + 1)) by rw [List.take_append_drop]]
    simp only [ocells, List.flatMap_append]
  have l : (ocells (ops.take m)).length = m * 3 := by rw [ocells_length, List.length_take]; omega
  rw [e, List.append_assoc]
  refine ⟨?_, ?_, ?_⟩
  · rw [List.getElem?_append_right (by omega), l, Nat.sub_self]; rfl
  · rw [List.getElem?_append_right (by omega), l, show m * 3 + 1 - m * 3 = 1 by omega]; rfl
  · rw [List.getElem?_append_right (by omega), l, show m * 3 + 2 - m * 3 = 2 by omega]; rfl

theorem block_ops {w : World} {g : Nat} {ops : List (ByteArray × Int × Bool)} {rest : List Value} (h : BlockAt w g 62 (ocells ops ++ rest)) : OpsAt w (some ⟨g, 0, none⟩) ops := by
  refine .inr ⟨g, 0, rfl, fun i o ho => ?_⟩
  rw [Nat.zero_add, h.cell, h.cell, h.cell]
  exact ocells_get ho rest

theorem set3 (A : List Value) (x y z : Value) (R : List Value) (a b c : Value) (i : Nat) (hi : A.length = i) : (((A ++ x :: y :: z :: R).set i a).set (i + 1) b).set (i + 2) c = A ++ [a, b, c] ++ R := by
  subst hi
  rw [List.set_append_right _ _ (Nat.le_refl _), Nat.sub_self, List.set_cons_zero, List.set_append_right _ _ (by omega), show A.length + 1 - A.length = 1 by omega, List.set_append_right _ _ (by omega), show A.length + 2 - A.length = 2 by omega]
  simp

/-- A copy of the script. -/
def ClonePost (w : World) (ops : List (ByteArray × Int × Bool)) (e : Ending) (w' : World) : Prop :=
  ∃ a c, e = .returned (.slice a ops.length c) ∧ OpsAt w' a ops ∧ w.grownBy w' none

theorem grown_below {w w' : World} (h : Below w.heap.size w w') : w.grownBy w' none := ⟨h.os, h.tape, h.output, h.size, fun b hb _ => h.block b hb⟩

set_option maxHeartbeats 4000000 in
set_option maxRecDepth 100000 in
theorem clone22 (w : World) (a : Option Addr) (cap : Nat) (ops : List (ByteArray × Int × Bool)) (hO : OpsAt w a ops) (hn : ops.length ≤ 16384) :
    Calls Try.prog 22 #[.slice a ops.length cap] w fun e w' => ClonePost w ops e w' := by
  have q : ∀ (w : World) (a : Option Addr) (n c n' c' : Nat), (binOp .eql 38 (.slice a n c) (.slice none n' c')).run Try.prog w = .ok (.bool a.isNone) w :=
    fun w a n c n' c' => Lib.run_eql_slice_nil w _ _ a n c n' c' Try.underlying38
  obtain ⟨i0, hi, hz0, hz1, hz2⟩ := info_parts Try.info62
  have HO := (show Hid _ from hO)
  cases a with
  | none =>
    have hnil : ops = [] := by
      rcases hO with h | ⟨b, off, h, _⟩
      · exact h
      · simp at h
    subst hnil
    go_enter Try.func22, Try.ntmps22
    go_wp2
    go_ret
    exact ⟨_, _, rfl, .inl rfl, World.grownBy.refl _ _⟩
  | some x =>
    clear hO
    obtain ⟨n, hnn⟩ : ∃ n, n = ops.length := ⟨_, rfl⟩
    have HN := (show Hid _ from hnn)
    rw [← hnn] at hn ⊢
    clear hnn
    go_enter Try.func22, Try.ntmps22
    go_wp2_with (at_make; refine wpList_make_full _ rfl _ _ 38 rfl w.heap.size 62 i0 (.agg #[.string ⟨#[]⟩, .int .u32 0, .bool false]) 3 Try.underlying38 hi hz0 hz1 .i64 .i64 _ _ n rfl rfl rfl rfl (by rw [hz2]; omega) (by unfold maxLen; omega) (Nat.le_refl _) ?_)
    intro w1 hown hgrow
    obtain ⟨Z, hZ, hB⟩ : ∃ Z : List Value, Z.length = n * 3 ∧ BlockAt w1 w.heap.size 62 Z := by
      obtain ⟨hlen, hop⟩ := own_open hown
      rcases hop with ⟨h1, _⟩ | ⟨g, cap2, rest, h1, _, _, _, hrest, hB⟩
      · cases h1
      · injection h1 with h1 _ h3
        injection h1 with h1
        injection h1 with h1
        subst h1 h3
        exact ⟨_, by rw [List.length_append, hlen, hrest]; omega, hB⟩
    have hbel : Below w.heap.size w w1 := (Below.refl _ _).grown hgrow (Nat.le_refl _) (by simp)
    clear hown hgrow
    go_wp2
    go_loopw [4] (fun i wr => ∃ (k : Nat) (R : List Value), k ≤ n ∧ i = .int .i64 k ∧ R.length = (n - k) * 3 ∧ BlockAt wr w.heap.size 62 (ocells (ops.take k) ++ R) ∧ Below w.heap.size w wr) (fun i _ => n - (intOf i).toNat)
    case atStart => exact ⟨0, Z, Nat.zero_le _, rfl, by rw [hZ]; rfl, by exact hB, hbel⟩
    case round =>
      clear hB hbel hZ
      obtain ⟨k, R, hk, rfl, hR, hB, hbe⟩ := hrel
      by_cases hlt : k < n
      · have hme : k < ops.length := by rw [← HN.out]; exact hlt
        obtain ⟨o, ho⟩ : ∃ o, ops[k]? = some o := ⟨_, List.getElem?_eq_getElem hme⟩
        obtain ⟨b, off, hx, t1, t2, t3⟩ := OpsAt.addr (OpsAt.below HO.out hbe (Nat.le_refl _)) ho
        injection hx with hx
        subst hx
        obtain ⟨x, y, z, R', rfl⟩ : ∃ x y z R', R = x :: y :: z :: R' := by
          match R, hR with
          | [], h => simp at h; omega
          | [_], h => simp at h; omega
          | [_, _], h => simp at h; omega
          | x :: y :: z :: R', _ => exact ⟨x, y, z, R', rfl⟩
        have hR' : R'.length = (n - (k + 1)) * 3 := by simp only [List.length_cons] at hR; omega
        have hl : (ocells (ops.take k)).length = k * 3 := by rw [ocells_length, List.length_take]; omega
        have f0 := hB.frozen (k * 3)
        have f1 := hB.frozen (k * 3 + 1)
        have f2 := hB.frozen (k * 3 + 2)
        have c0 := hB.cell (k * 3)
        have c1 := hB.cell (k * 3 + 1)
        have c2 := hB.cell (k * 3 + 2)
        rw [List.getElem?_append_right (by omega), hl, show k * 3 - k * 3 = 0 by omega] at c0
        rw [List.getElem?_append_right (by omega), hl, show k * 3 + 1 - k * 3 = 1 by omega] at c1
        rw [List.getElem?_append_right (by omega), hl, show k * 3 + 2 - k * 3 = 2 by omega] at c2
        simp only [List.getElem?_cons_zero, List.getElem?_cons_succ] at c0 c1 c2
        have B3 := ((hB.set (k * 3) (.string o.1)).set (k * 3 + 1) (.int .u32 o.2.1)).set (k * 3 + 2) (.bool o.2.2)
        rw [set3 _ _ _ _ _ _ _ _ _ hl, ← ocells_succ ho] at B3
        have hbe3 := ((hbe.setCell (p := ⟨w.heap.size, k * 3, none⟩) (Nat.le_refl _) (.string o.1)).setCell (p := ⟨w.heap.size, k * 3 + 1, none⟩) (Nat.le_refl _) (.int .u32 o.2.1)).setCell (p := ⟨w.heap.size, k * 3 + 2, none⟩) (Nat.le_refl _) (.bool o.2.2)
        have FIN : Hid (∃ wf, wf = (((wr.setCell ⟨w.heap.size, k * 3, none⟩ (.string o.1)).setCell ⟨w.heap.size, k * 3 + 1, none⟩ (.int .u32 o.2.1)).setCell ⟨w.heap.size, k * 3 + 2, none⟩ (.bool o.2.2)) ∧ BlockAt wf w.heap.size 62 (ocells (ops.take (k + 1)) ++ R') ∧ Below w.heap.size w wf) := ⟨_, rfl, B3, hbe3⟩
        clear B3 hbe3 hB hR hl
        have z1 : (k : Int) < (n : Int) := by omega
        have z2 : k ≤ 4000000000 := by omega
        obtain ⟨s, r1, r2⟩ := o
        simp only at t1 t2 t3 FIN
        clear ho
        go_wp2
        go_roundw
        case rel =>
          obtain ⟨wf, rfl, h1, h2⟩ := FIN.out
          exact ⟨k + 1, R', by omega, by go_num, hR', h1, h2⟩
        case measure => simp [intOf]; omega
      · obtain rfl : k = n := by omega
        go_wp2
        go_ret
        rw [List.take_of_length_le (by rw [← HN.out]; exact Nat.le_refl _)] at hB
        exact ⟨some ⟨w.heap.size, 0, none⟩, k, by rw [← HN.out]; rfl, block_ops hB, grown_below hbe⟩

end Go.Proofs.Qxb6601380a
