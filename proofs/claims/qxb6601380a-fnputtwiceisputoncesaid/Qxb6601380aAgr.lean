/-
  zzAgrees (24), zzSameTree (28).
-/
import Derived.Test.Qxb6601380aWlk
import Derived.Test.Qxb6601380aSame
import Derived.Test.Qxb6601380aRunA
namespace Go.Proofs.Qxb6601380a
open Go.RowKit

/-- True; old memory as it was. -/
def TruePost (w : World) (e : Ending) (w' : World) : Prop := e = .returned (.bool true) ∧ w.grownBy w' none

theorem nil_apart (b : Nat) : b ∉ own2 (.slice none 0 0) (.slice none 0 0) := by simp [own2, Value.ownBlock]

theorem grown_nil {w w' : World} {x1 x2 : Value} (m : Moved w w' (own2 (.slice none 0 0) (.slice none 0 0)) (own2 x1 x2)) : w.grownBy w' none :=
  ⟨m.os, m.tape, m.output, m.size, fun b hb _ => m.block b hb (nil_apart b)⟩

/-- What a tree answers to zzRoot, zzCount, zzShape and zzWalk. -/
structure Asked (w : World) (st rt : Nat) (L : List Ent) : Prop where
  root : Calls Try.prog 39 #[Value.pointer (some ⟨st, 0, none⟩)] w fun e w' => e = .returned (Value.pointer (some ⟨rt, 0, none⟩)) ∧ w' = w
  count : Calls Try.prog 34 #[Value.pointer (some ⟨st, 0, none⟩)] w fun e w' => e = .returned (.int .i64 L.length) ∧ w' = w
  shape : ∃ h : Nat, Calls Try.prog 40 #[Value.pointer (some ⟨rt, 0, none⟩), .bool true] w fun e w' => e = .returned (.tuple #[.bool true, .int .i64 h, .int .i64 L.length]) ∧ w' = w
  walk : Calls Try.prog 41 #[Value.pointer (some ⟨rt, 0, none⟩), .slice none 0 0, .slice none 0 0] w fun e w' => WlkPost w (.slice none 0 0) (.slice none 0 0) L e w'

theorem asked {w : World} {st : Nat} {L : List Ent} {bs : List Nat} (hT : TreeAt w st L bs) (hn : L.length ≤ 100000000) : ∃ root, ∀ w', w.grownBy w' none → Asked w' st root L := by
  obtain ⟨⟨H, u, ah, hB, hO, hF, _, _⟩, _⟩ := hT
  subst hF
  refine ⟨(hd H u).p, fun w' g => ?_⟩
  have hB' := hB.grown g (by simp)
  have hO' : Ok w' (min H 1) H u := hO.same fun b hb => g.block b (hO.lies.lt b hb) (by simp)
  have hlo : H = 0 ∨ 1 ≤ min H 1 := by omega
  have hh := hgt_le H _ u hO'.shape hlo
  refine ⟨root39 w' st _ _ _ hB', cnt34 w' st _ _ _ hB', ⟨H, shape40 H _ u true w' hO'.lies hO'.shape (.inl ⟨rfl, hlo⟩) (by omega) (by omega)⟩, ?_⟩
  have := walk41 H _ u hO'.shape w' (.slice none 0 0) (.slice none 0 0) [] hO'.lies (rows2_nil w') (fun b _ => nil_apart b) (by simpa using hn)
  rw [List.nil_append] at this
  exact this

set_option maxHeartbeats 4000000 in
set_option maxRecDepth 100000 in
theorem agr24 (w : World) (st : Nat) (v1 v2 : Value) (L : List Ent) (bs : List Nat) (hT : TreeAt w st L bs) (hR : Rows2 w v1 v2 L) (hn : L.length ≤ 100000000) :
    Calls Try.prog 24 #[ptr st, v1, v2] w fun e w' => TruePost w e w' := by
  obtain ⟨root, hA⟩ := asked hT hn
  have hA := hA w (World.grownBy.refl _ _)
  have H39 := hidC hA.root
  have H34 := hidC hA.count
  obtain ⟨h, h40⟩ := hA.shape
  have H40 := hidC h40
  have H41 := hidC hA.walk
  obtain ⟨x1, c1, hx1, _⟩ := row_open hR.ks
  subst hx1
  have HR := (show Hid (Rows2 w (.slice x1 L.length c1) v2 L) from hR)
  clear hA h40 hT hR
  have HN := (show Hid _ from hn)
  obtain ⟨n, hnn⟩ : ∃ n, n = L.length := ⟨_, rfl⟩
  rw [← hnn] at H34 H40 HR hn ⊢
  have HNN := (show Hid _ from hnn)
  clear hnn
  have d1 : ((n : Int) != (n : Int)) = false := by simp
  unfold ptr
  go_enter Try.func24, Try.ntmps24
  go_upto_region 6 with (first | (go_at_call 39; refine H39.out.mono ?_; rintro e1 w1 ⟨rfl, hw⟩; subst w1) | (go_at_call 40; refine H40.out.mono ?_; rintro e1 w1 ⟨rfl, hw⟩; subst w1) | (go_at_call 34; refine H34.out.mono ?_; rintro e1 w1 ⟨rfl, hw⟩; subst w1) | (go_at_call 41; refine H41.out.mono ?_; rintro e1 w1 ⟨y1, y2, rfl, hR1, hM1⟩))
  have g1 := grown_nil hM1
  have hR0 : Rows2 w1 (.slice x1 n c1) v2 L := Rows2.same HR.out fun b hb => g1.block b (HR.out.lt b hb) (by simp)
  have h42 := same42 w1 y1 y2 _ _ L hR1.ks hR1.rs hR0.ks hR0.rs HN.out
  have H42 := hidC h42
  clear h42 hR0 hR1 hM1
  have G1 := (show Hid _ from g1)
  clear g1
  go_wp2_with (go_at_call 42; refine H42.out.mono ?_; rintro e1 w2 ⟨rfl, q, rfl⟩)
  go_ret
  exact ⟨rfl, grown_drewN G1.out q⟩

set_option maxHeartbeats 4000000 in
set_option maxRecDepth 100000 in
theorem stree28 (w : World) (a b : Nat) (L : List Ent) (bs1 bs2 : List Nat) (hA : TreeAt w a L bs1) (hB : TreeAt w b L bs2) (hn : L.length ≤ 100000000) :
    Calls Try.prog 28 #[ptr a, ptr b] w fun e w' => TruePost w e w' := by
  obtain ⟨r1, hA⟩ := asked hA hn
  obtain ⟨r2, hB0⟩ := asked hB hn
  have hA := hA w (World.grownBy.refl _ _)
  have hB := hB0 w (World.grownBy.refl _ _)
  have H39 := hidC hA.root
  have H34 := hidC hA.count
  obtain ⟨h, h40⟩ := hA.shape
  have H40 := hidC h40
  have H41 := hidC hA.walk
  have J39 := hidC hB.root
  have J34 := hidC hB.count
  obtain ⟨h', j40⟩ := hB.shape
  have J40 := hidC j40
  have HB0 := (show Hid _ from hB0)
  clear hA h40 hB j40 hB0
  have HN := (show Hid _ from hn)
  obtain ⟨n, hnn⟩ : ∃ n, n = L.length := ⟨_, rfl⟩
  rw [← hnn] at H34 H40 J34 J40 hn
  clear hnn
  have d1 : ((n : Int) != (n : Int)) = false := by simp
  unfold ptr
  go_enter Try.func28, Try.ntmps28
  go_upto_region 8 with (first | (go_at_call 39; first | (refine H39.out.mono ?_; clear H39; rintro e1 w1 ⟨rfl, hw⟩; subst w1) | (refine J39.out.mono ?_; rintro e1 w1 ⟨rfl, hw⟩; subst w1)) | (go_at_call 40; first | (refine H40.out.mono ?_; clear H40; rintro e1 w1 ⟨rfl, hw⟩; subst w1) | (refine J40.out.mono ?_; rintro e1 w1 ⟨rfl, hw⟩; subst w1)) | (go_at_call 34; first | (refine H34.out.mono ?_; clear H34; rintro e1 w1 ⟨rfl, hw⟩; subst w1) | (refine J34.out.mono ?_; rintro e1 w1 ⟨rfl, hw⟩; subst w1)) | (go_at_call 41; refine H41.out.mono ?_; rintro e1 w1 ⟨y1, y2, rfl, hR1, hM1⟩))
  have g1 := grown_nil hM1
  have j41 := (HB0.out w1 g1).walk
  have J41 := hidC j41
  have G1 := (show Hid _ from g1)
  have HR1 := (show Hid _ from hR1)
  clear hM1 j41 g1 hR1
  go_upto_region 9 with (go_at_call 41; refine J41.out.mono ?_; rintro e1 w2 ⟨z1, z2, rfl, hR2, hM2⟩)
  have g2 := grown_nil hM2
  have hR1 : Rows2 w2 y1 y2 L := Rows2.same HR1.out fun b hb => g2.block b (HR1.out.lt b hb) (by simp)
  have h42 := same42 w2 y1 y2 _ _ L hR1.ks hR1.rs hR2.ks hR2.rs HN.out
  have H42 := hidC h42
  have G2 := (show Hid _ from grown_trans G1.out g2)
  clear h42 hR2 hR1 hM2 g2
  go_wp2_with (go_at_call 42; refine H42.out.mono ?_; rintro e1 w3 ⟨rfl, q, rfl⟩)
  go_ret
  exact ⟨rfl, grown_drewN G2.out q⟩

end Go.Proofs.Qxb6601380a
