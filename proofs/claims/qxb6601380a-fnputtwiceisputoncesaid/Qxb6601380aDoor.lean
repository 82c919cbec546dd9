/-
  The thin doors: 38, 25, 31, 34, 39, 52 .. 56.
-/
import Derived.Test.Qxb6601380aPut
import Derived.Test.Qxb6601380aRem
namespace Go.Proofs.Qxb6601380a
open Go.RowKit

set_option maxRecDepth 100000 in
theorem new38 (w : World) : Calls Try.prog 38 #[] w fun e w' => ∃ st, e = .returned (.pointer (some ⟨st, 0, none⟩)) ∧ ∃ bs, TreeAt w' st [] bs ∧ w.grownBy w' none ∧ ∀ b ∈ bs, w.heap.size ≤ b := by
  go_enter Try.func38, Try.ntmps38
  go_wp2
  go_ret
  obtain ⟨w1, hw1⟩ : ∃ w1, w1 = w.alloc (Obj.cells #[Value.slice none 0 0, Value.slice none 0 0] 89) := ⟨_, rfl⟩
  have z1 : w1.heap.size = w.heap.size + 1 := by rw [hw1]; simp
  have g1 : w.grownBy w1 none := by rw [hw1]; exact World.grownBy_alloc _ _ _
  have e1 : BlockAt w1 w.heap.size 89 [.slice none 0 0, .slice none 0 0] := by rw [hw1]; exact blockAt_new w 89 [.slice none 0 0, .slice none 0 0]
  rw [← hw1]
  obtain ⟨w2, hw2⟩ : ∃ w2, w2 = w1.alloc (Obj.cells #[ptr w.heap.size, Value.int IntKind.i64 0, Value.int IntKind.u8 0] 74) := ⟨_, rfl⟩
  have e2 : BlockAt w2 (w.heap.size + 1) 74 [ptr w.heap.size, .int .i64 0, .int .u8 0] := by rw [hw2, ← z1]; exact blockAt_new w1 74 _
  have g2 : w1.grownBy w2 none := by rw [hw2]; exact World.grownBy_alloc _ _ _
  have hN : NodeAt w2 ⟨w.heap.size, .slice none 0 0, .slice none 0 0, []⟩ [] := ⟨e1.grown g2 (by simp), ⟨rfl, .inl ⟨rfl, rfl⟩⟩, ⟨rfl, .inl ⟨rfl, rfl⟩⟩, fun _ => rfl⟩
  refine ⟨w.heap.size + 1, rfl, [w.heap.size + 1, w.heap.size], ?_⟩
  have hT : TreeAt w2 (w.heap.size + 1) [] [w.heap.size + 1, w.heap.size] :=
    ⟨⟨0, (⟨w.heap.size, .slice none 0 0, .slice none 0 0, []⟩ : Hd), .int .u8 0, e2, ⟨hN, ⟨Nat.zero_le _, Nat.zero_le _⟩, by simp [blocks, Hd.own, Value.ownBlock]⟩, rfl, by simp [blocks, Hd.own, Value.ownBlock], by simp [blocks, Hd.own, Value.ownBlock]⟩, List.Pairwise.nil⟩
  rw [hw2] at hT
  exact ⟨hT, grown_trans g1 (World.grownBy_alloc _ _ _), by simp⟩

set_option maxRecDepth 100000 in
theorem zput25 (w : World) (st : Nat) (L : List Ent) (bs : List Nat) (k : ByteArray) (r : Int) (hT : TreeAt w st L bs) (hL : L.length ≤ 1000000000) :
    Calls Try.prog 25 #[ptr st, .string k, .int .u32 r] w fun e w' => e = .returned (.tuple #[]) ∧ ∃ bs', TreeAt w' st (putL k r L) bs' ∧ Moved w w' bs bs' := by
  have HC := hidC (put43 w st L bs k r hT hL)
  unfold ptr at HC ⊢
  go_enter Try.func25, Try.ntmps25
  go_wp2_with (go_at_call 43; refine HC.out.mono ?_; rintro e1 w1 ⟨rfl, hh⟩)
  go_end0
  exact ⟨rfl, hh⟩

set_option maxRecDepth 100000 in
theorem zrem31 (w : World) (st : Nat) (L : List Ent) (bs : List Nat) (k : ByteArray) (hT : TreeAt w st L bs) (hk : ∃ r0, (k, r0) ∈ L) (hL : L.length ≤ 1000000000) :
    Calls Try.prog 31 #[ptr st, .string k] w fun e w' => e = .returned (.tuple #[]) ∧ ∃ bs', TreeAt w' st (rmL k L) bs' ∧ Moved w w' bs bs' := by
  have HC := hidC (remove45 w st L bs k hT hk hL)
  unfold ptr at HC ⊢
  go_enter Try.func31, Try.ntmps31
  go_wp2_with (go_at_call 45; refine HC.out.mono ?_; rintro e1 w1 ⟨rfl, hh⟩)
  go_end0
  exact ⟨rfl, hh⟩

set_option maxRecDepth 100000 in
theorem cnt34 (w : World) (st : Nat) (rt c ah : Value) (h : BlockAt w st 74 [rt, c, ah]) :
    Calls Try.prog 34 #[ptr st] w fun e w' => e = .returned c ∧ w' = w := by
  have c1 := h.cell 1
  simp only [List.getElem?_cons_zero, List.getElem?_cons_succ] at c1
  unfold ptr
  go_enter Try.func34, Try.ntmps34
  go_wp2
  go_ret
  exact ⟨rfl, rfl⟩

set_option maxRecDepth 100000 in
theorem root39 (w : World) (st : Nat) (rt c ah : Value) (h : BlockAt w st 74 [rt, c, ah]) :
    Calls Try.prog 39 #[ptr st] w fun e w' => e = .returned rt ∧ w' = w := by
  have c1 := h.cell 0
  simp only [List.getElem?_cons_zero] at c1
  unfold ptr
  go_enter Try.func39, Try.ntmps39
  go_wp2
  go_ret
  exact ⟨rfl, rfl⟩

section
variable (w : World) (d : Hd) (ks : List Nat) (hN : NodeAt w d ks)

set_option maxRecDepth 100000 in
theorem ec52 (hN : NodeAt w d ks) : Calls Try.prog 52 #[ptr d.p] w fun e w' => e = .returned (.int .i64 d.es.length) ∧ w' = w := by
  obtain ⟨x, y, hv⟩ := ve_slice hN
  have a0 := hN.c0
  rw [hv] at a0
  obtain ⟨p, ve, vc, es⟩ := d
  simp only at a0
  unfold ptr
  go_enter Try.func52, Try.ntmps52
  go_wp2
  go_ret
  exact ⟨rfl, rfl⟩

theorem vc_slice {w : World} {d : Hd} {ks : List Nat} (hN : NodeAt w d ks) : ∃ a c, d.vc = .slice a ks.length c := by
  rcases (own_open hN.kids).2 with ⟨h1, h0, _⟩ | ⟨g, cap, rest, h1, _⟩
  · exact ⟨none, 0, by rw [h0]; exact h1⟩
  · exact ⟨_, _, h1⟩

set_option maxRecDepth 100000 in
theorem cc53 (hN : NodeAt w d ks) : Calls Try.prog 53 #[ptr d.p] w fun e w' => e = .returned (.int .i64 ks.length) ∧ w' = w := by
  obtain ⟨x, y, hv⟩ := vc_slice hN
  have a0 := hN.c1
  rw [hv] at a0
  obtain ⟨p, ve, vc, es⟩ := d
  simp only at a0
  unfold ptr
  go_enter Try.func53, Try.ntmps53
  go_wp2
  go_ret
  exact ⟨rfl, rfl⟩

set_option maxRecDepth 100000 in
theorem ch54 (i q : Nat) (hN : NodeAt w d ks) (hi : ks[i]? = some q) : Calls Try.prog 54 #[ptr d.p, .int .i64 i] w fun e w' => e = .returned (ptr q) ∧ w' = w := by
  have hil := (List.getElem?_eq_some_iff.1 hi).1
  obtain ⟨cg, ccap, crest, hvc, _, _, _, hcB⟩ := hN.kidsOpen (by omega)
  have a0 := hN.c1
  rw [hvc] at a0
  have a5 := kid_cell hcB hi
  obtain ⟨p, ve, vc, es⟩ := d
  simp only at a0
  have b1 : (i : Int) < (ks.length : Int) := by omega
  unfold ptr at a5 ⊢
  clear hcB hvc
  go_enter Try.func54, Try.ntmps54
  go_wp2
  go_ret
  exact ⟨rfl, rfl⟩

set_option maxRecDepth 100000 in
theorem na55 (i : Nat) (e : Ent) (hN : NodeAt w d ks) (hi : d.es[i]? = some e) : Calls Try.prog 55 #[ptr d.p, .int .i64 i] w fun x w' => x = .returned (.string e.1) ∧ w' = w := by
  have hil := (List.getElem?_eq_some_iff.1 hi).1
  obtain ⟨eg, ecap, erest, hve, _, _, _, heB⟩ := hN.entsOpen (by omega)
  have a0 := hN.c0
  rw [hve] at a0
  obtain ⟨a5, a6⟩ := ent_cell heB hi
  obtain ⟨p, ve, vc, es⟩ := d
  simp only at a0 hil
  have b1 : (i : Int) < (es.length : Int) := by omega
  unfold ptr
  clear heB hve hi
  go_enter Try.func55, Try.ntmps55
  go_wp2
  go_ret
  exact ⟨rfl, rfl⟩

set_option maxRecDepth 100000 in
theorem ra56 (i : Nat) (e : Ent) (hN : NodeAt w d ks) (hi : d.es[i]? = some e) : Calls Try.prog 56 #[ptr d.p, .int .i64 i] w fun x w' => x = .returned (.int .u32 e.2) ∧ w' = w := by
  have hil := (List.getElem?_eq_some_iff.1 hi).1
  obtain ⟨eg, ecap, erest, hve, _, _, _, heB⟩ := hN.entsOpen (by omega)
  have a0 := hN.c0
  rw [hve] at a0
  obtain ⟨a5, a6⟩ := ent_cell heB hi
  obtain ⟨p, ve, vc, es⟩ := d
  simp only at a0 hil
  have b1 : (i : Int) < (es.length : Int) := by omega
  unfold ptr
  clear heB hve hi
  go_enter Try.func56, Try.ntmps56
  go_wp2
  go_ret
  exact ⟨rfl, rfl⟩
end
end Go.Proofs.Qxb6601380a
