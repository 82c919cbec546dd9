/-
  zzSameLists (42).
-/
import Derived.Test.Qxb6601380aMput
namespace Go.Proofs.Qxb6601380a
open Go.RowKit

theorem row_open {w : World} {e : TypeId} {v : Value} {n : Nat} {xs : List Value} (h : w.ownsRow 0 e 1 v n xs) : ∃ a c, v = .slice a n c ∧ (0 < n → ∃ g rest, a = some ⟨g, 0, none⟩ ∧ BlockAt w g e (xs ++ rest)) := by
  rcases (own_open h).2 with ⟨rfl, h0, _⟩ | ⟨g, cap, rest, rfl, _, _, _, _, hB⟩
  · exact ⟨none, 0, by rw [h0], fun h => by omega⟩
  · exact ⟨_, cap, rfl, fun _ => ⟨g, rest, rfl, hB⟩⟩

set_option maxHeartbeats 4000000 in
set_option maxRecDepth 100000 in
theorem same42 (w : World) (v1 v2 v3 v4 : Value) (es : List Ent) (h1 : w.ownsRow 0 9 1 v1 es.length (skeys es)) (h2 : w.ownsRow 0 30 1 v2 es.length (srecs es)) (h3 : w.ownsRow 0 9 1 v3 es.length (skeys es)) (h4 : w.ownsRow 0 30 1 v4 es.length (srecs es)) (hn : es.length ≤ 100000000) :
    Calls Try.prog 42 #[v1, v2, v3, v4] w fun e w' => e = .returned (.bool true) ∧ ∃ q, w' = w.drewN q := by
  obtain ⟨x1, c1, rfl, o1⟩ := row_open h1
  obtain ⟨x2, c2, rfl, o2⟩ := row_open h2
  obtain ⟨x3, c3, rfl, o3⟩ := row_open h3
  obtain ⟨x4, c4, rfl, o4⟩ := row_open h4
  obtain ⟨n, hnn⟩ : ∃ n, n = es.length := ⟨_, rfl⟩
  have HN := (show Hid _ from hnn)
  rw [← hnn] at o1 o2 o3 o4 hn ⊢
  clear hnn h1 h2 h3 h4
  have d1 : ((n : Int) == (n : Int)) = true := by simp
  go_enter Try.func42, Try.ntmps42
  go_wp2
  go_loopw [9] (fun x wr => ∃ j : Nat, x = .int .i64 j ∧ j ≤ n ∧ ∃ q, wr = w.drewN q) (fun x _ => n - (intOf x).toNat)
  case atStart => exact ⟨0, rfl, Nat.zero_le _, 0, rfl⟩
  case round =>
    obtain ⟨j, rfl, hj, q, rfl⟩ := hrel
    by_cases hlt : j < n
    · obtain ⟨g1, r1, rfl, b1⟩ := o1 (by omega)
      obtain ⟨g2, r2, rfl, b2⟩ := o2 (by omega)
      obtain ⟨g3, r3, rfl, b3⟩ := o3 (by omega)
      obtain ⟨g4, r4, rfl, b4⟩ := o4 (by omega)
      have hme : j < es.length := by rw [← HN.out]; exact hlt
      obtain ⟨e, he⟩ : ∃ e, es[j]? = some e := ⟨_, List.getElem?_eq_getElem hme⟩
      have k1 : (skeys es)[j]? = some (.string e.1) := by rw [skeys, List.getElem?_map, he]; rfl
      have k2 : (srecs es)[j]? = some (.int .u32 e.2) := by rw [srecs, List.getElem?_map, he]; rfl
      have l1 : j < (skeys es).length := by rw [skeys, List.length_map]; exact hme
      have l2 : j < (srecs es).length := by rw [srecs, List.length_map]; exact hme
      have t1 : w.cell? ⟨g1, j, none⟩ = some (.string e.1) := by rw [b1.cell, List.getElem?_append_left l1, k1]
      have t2 : w.cell? ⟨g2, j, none⟩ = some (.int .u32 e.2) := by rw [b2.cell, List.getElem?_append_left l2, k2]
      have t3 : w.cell? ⟨g3, j, none⟩ = some (.string e.1) := by rw [b3.cell, List.getElem?_append_left l1, k1]
      have t4 : w.cell? ⟨g4, j, none⟩ = some (.int .u32 e.2) := by rw [b4.cell, List.getElem?_append_left l2, k2]
      have z1 : (j : Int) < (n : Int) := by omega
      have z2 : j ≤ 4000000000 := by omega
      have z3 : (e.1.toList == e.1.toList) = true := by simp
      clear b1 b2 b3 b4 k1 k2 l1 l2 he
      go_wp2
      go_quiet (fail)
      go_wp2
      go_roundw
      case rel => exact ⟨j + 1, by go_num, by omega, _, rfl⟩
      case measure => simp [intOf]; omega
    · obtain rfl : j = n := by omega
      go_wp2
      go_ret
      exact ⟨rfl, q, rfl⟩
end Go.Proofs.Qxb6601380a
