/-
  THE WALKS OF THE SMALL FUNCTIONS: lzwWidth (19), encWidth (16), the size guard (10), cloneBytes (7), isPrefix (9).
-/
import Derived.Test.Qxb6601318aRows
import Derived.WalkKit
import Derived.WalkSpells
import Derived.WalkLawsBesides
import Derived.Deep.QuietTactic
import Derived.BigQuiet
import Derived.Test.Qxb6601318aMem
namespace Go.Proofs.Qxb6601318a
open Go.RowKit

/-- The width that a table of n entries asks for. -/
def widthOf (n : Int) : Int := if n < 512 then 9 else if n < 1024 then 10 else if n < 2048 then 11 else 12
def early1 (b : Bool) : Int := if b then 1 else 0

theorem ret_int {k : IntKind} {a b : Int} (h : a = b) : Ending.returned (.int k a) = .returned (.int k b) := by rw [h]

set_option maxHeartbeats 400000 in
theorem lzwWidth_no (n : Int) (w : World) (h0 : 0 ≤ n) (h1 : n ≤ 4096) :
    Calls Try.prog 19 #[.int .i64 n, .bool false] w fun e w' => e = .returned (.int .i64 (widthOf (n))) ∧ w' = w := by
  go_enter Try.func19, Try.ntmps19
  go_wp2
  go_loop [6] (fun t => (t = .int .i64 9) ∨ (t = .int .i64 10 ∧ 512 ≤ n) ∨ (t = .int .i64 11 ∧ 1024 ≤ n) ∨ (t = .int .i64 12 ∧ 2048 ≤ n)) (fun t => (12 - intOf t).toNat)
  case atStart => exact .inl rfl
  case round =>
    rcases hrel with rfl | ⟨rfl, hd⟩ | ⟨rfl, hd⟩ | ⟨rfl, hd⟩
    · go_wp2
      · go_round
        case rel => exact .inr (.inl ⟨rfl, ‹_›⟩)
        case measure => simp [intOf]
      · go_ret
        exact ⟨ret_int (by unfold widthOf; split <;> omega), rfl⟩
    · go_wp2
      · go_round
        case rel => exact .inr (.inr (.inl ⟨rfl, ‹_›⟩))
        case measure => simp [intOf]
      · go_ret
        exact ⟨ret_int (by unfold widthOf; repeat' split <;> omega), rfl⟩
    · go_wp2
      · go_round
        case rel => exact .inr (.inr (.inr ⟨rfl, ‹_›⟩))
        case measure => simp [intOf]
      · go_ret
        exact ⟨ret_int (by unfold widthOf; repeat' split <;> omega), rfl⟩
    · go_wp2
      go_ret
      exact ⟨ret_int (by unfold widthOf; repeat' split <;> omega), rfl⟩

set_option maxHeartbeats 400000 in
theorem lzwWidth_yes (n : Int) (w : World) (h0 : 0 ≤ n) (h1 : n ≤ 4096) :
    Calls Try.prog 19 #[.int .i64 n, .bool true] w fun e w' => e = .returned (.int .i64 (widthOf (n + 1))) ∧ w' = w := by
  go_enter Try.func19, Try.ntmps19
  go_wp2
  go_loop [6] (fun t => (t = .int .i64 9) ∨ (t = .int .i64 10 ∧ 512 ≤ n + 1) ∨ (t = .int .i64 11 ∧ 1024 ≤ n + 1) ∨ (t = .int .i64 12 ∧ 2048 ≤ n + 1)) (fun t => (12 - intOf t).toNat)
  case atStart => exact .inl rfl
  case round =>
    rcases hrel with rfl | ⟨rfl, hd⟩ | ⟨rfl, hd⟩ | ⟨rfl, hd⟩
    · go_wp2
      · go_round
        case rel => exact .inr (.inl ⟨rfl, ‹_›⟩)
        case measure => simp [intOf]
      · go_ret
        exact ⟨ret_int (by unfold widthOf; split <;> omega), rfl⟩
    · go_wp2
      · go_round
        case rel => exact .inr (.inr (.inl ⟨rfl, ‹_›⟩))
        case measure => simp [intOf]
      · go_ret
        exact ⟨ret_int (by unfold widthOf; repeat' split <;> omega), rfl⟩
    · go_wp2
      · go_round
        case rel => exact .inr (.inr (.inr ⟨rfl, ‹_›⟩))
        case measure => simp [intOf]
      · go_ret
        exact ⟨ret_int (by unfold widthOf; repeat' split <;> omega), rfl⟩
    · go_wp2
      go_ret
      exact ⟨ret_int (by unfold widthOf; repeat' split <;> omega), rfl⟩

theorem lzwWidth_any (n : Int) (early : Bool) (w : World) (h0 : 0 ≤ n) (h1 : n ≤ 4096) :
    Calls Try.prog 19 #[.int .i64 n, .bool early] w fun e w' => e = .returned (.int .i64 (widthOf (n + early1 early))) ∧ w' = w := by
  cases early
  · have := lzwWidth_no n w h0 h1
    simpa [early1] using this
  · exact lzwWidth_yes n w h0 h1

/-- The table's size ahead of code number i. -/
def nextOf (i : Int) : Int := if i ≤ 1 then 258 else if 257 + i > 4096 then 4096 else 257 + i
def encW (i : Int) (early : Bool) : Int := widthOf (nextOf i + early1 early)

set_option maxHeartbeats 400000 in
theorem encWidth_any (i : Int) (early : Bool) (w : World) (h0 : 0 ≤ i) (h1 : i ≤ 100000) :
    Calls Try.prog 16 #[.int .i64 i, .bool early] w fun e w' => e = .returned (.int .i64 (encW i early)) ∧ w' = w := by
  by_cases c1 : 1 < i
  · by_cases c2 : 4096 < 258 + i - 1
    · have hn : nextOf i = 4096 := by unfold nextOf; rw [if_neg (by omega), if_pos (by omega)]
      go_enter Try.func16, Try.ntmps16
      go_wp2_with (go_at_call 19; refine (lzwWidth_any 4096 early _ (by omega) (by omega)).mono ?_; rintro e w' ⟨rfl, rfl⟩)
      go_ret
      exact ⟨by unfold encW; rw [hn]; rfl, rfl⟩
    · have hn : nextOf i = 258 + i - 1 := by unfold nextOf; rw [if_neg (by omega), if_neg (by omega)]; omega
      go_enter Try.func16, Try.ntmps16
      go_wp2_with (go_at_call 19; refine (lzwWidth_any (258 + i - 1) early _ (by omega) (by omega)).mono ?_; rintro e w' ⟨rfl, rfl⟩)
      go_ret
      exact ⟨by unfold encW; rw [hn]; rfl, rfl⟩
  · have hn : nextOf i = 258 := by unfold nextOf; rw [if_pos (by omega)]
    go_enter Try.func16, Try.ntmps16
    go_wp2_with (go_at_call 19; refine (lzwWidth_any 258 early _ (by omega) (by omega)).mono ?_; rintro e w' ⟨rfl, rfl⟩)
    go_ret
    exact ⟨by unfold encW; rw [hn]; rfl, rfl⟩

set_option maxHeartbeats 400000 in
theorem guard_any (a0 : Option Addr) (len0 cap0 : Nat) (b : Bool) (l : Int) (w : World) (hlen : len0 ≤ maxLen) :
    Calls Try.prog 10 #[.slice a0 len0 cap0, .bool b, .int .i64 l] w fun e w' => e = .returned (.bool (decide ((len0 : Int) ≤ 1048576))) ∧ w' = w := by
  unfold maxLen at hlen
  by_cases c : (len0 : Int) ≤ 1048576
  · have hd : decide ((len0 : Int) ≤ 1048576) = true := by simpa using c
    rw [hd]
    clear hd
    go_enter Try.func10, Try.ntmps10
    go_wp2
    go_ret
    exact ⟨rfl, rfl⟩
  · have hd : decide ((len0 : Int) ≤ 1048576) = false := by simpa using c
    rw [hd]
    clear hd
    go_enter Try.func10, Try.ntmps10
    go_wp2
    go_ret
    exact ⟨rfl, rfl⟩

end Go.Proofs.Qxb6601318a
