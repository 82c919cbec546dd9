/-
  record (49), ZZRecord (40).
-/
import Derived.Test.Qxb6601448aPln
import Derived.Test.Qxb6601448aBld
namespace Go.Proofs.Qxb6601448a
open Go.RowKit
set_option linter.unusedSimpArgs false

/-- Behind slices.Values: its box is new. -/
def VPost (W : World) (v : Value) (w' : World) : Prop := w' = W.drew.alloc (.cells #[v] 23)

theorem VPost.facts {W w' : World} {v : Value} (h : VPost W v w') : W.grownBy w' none ∧ w'.cell? ⟨W.heap.size, 0, none⟩ = some v ∧ W.heap.size < w'.heap.size := by
  unfold VPost at h
  rw [h]
  refine ⟨grown_trans (grown_drew (World.grownBy.refl W _)) (World.grownBy_alloc _ _ _), ?_, ?_⟩
  · have := (blockAt_new W.drew 23 [v]).cell 0
    exact this
  · rw [World.size_alloc]
    exact Nat.lt_succ_self _

/-- What record leaves at the snapshot's block. -/
structure RecAt (w w' : World) (sb : Nat) (rd sq lc : Int) (nm : ByteArray) (ks : List ByteArray) (r1 r2 : Nat) (a : Option Addr) (c : Nat) : Prop where
  snap : BlockAt w' sb 59 [.int .u64 rd, .map (some r1), .map (some r2), .string nm, .int .u64 lc]
  m1 : w'.heap[r1]? = some (.map #[{ key := .string nm, val := .agg #[.int .u64 sq, .slice a ks.length c], born := 0 }] 1)
  m2 : w'.heap[r2]? = some (.map #[] 0)
  cells : Cells w' a (enS ks)
  grown : w.grownBy w' (some sb)

def RecPost (w : World) (sb : Nat) (rd sq lc : Int) (nm : ByteArray) (ks : List ByteArray) (e : Ending) (w' : World) : Prop :=
  e = .returned (.tuple #[]) ∧ ∃ r1 r2 a c, RecAt w w' sb rd sq lc nm ks r1 r2 a c

theorem map_first (w : World) (nm : ByteArray) (v : Value) : ∃ w', (Instr.mapUpdate 33 (.map (some w.heap.size)) (.string nm) v).run Try.prog (w.alloc (.map #[] 0)) = .ok () w' ∧ w'.heap[w.heap.size]? = some (.map #[{ key := .string nm, val := v, born := 0 }] 1) ∧ w.grownBy w' none ∧ w'.heap.size = w.heap.size + 1 := by
  have hb : (w.alloc (.map #[] 0)).heap[w.heap.size]? = some (.map #[] 0) := heap_alloc_new w _
  have hr := run_mapUpdate_first (P := Try.prog) (w.alloc (.map #[] 0)) 33 9 86 w.heap.size 0 nm v Try.underlying33 Try.underlying9 hb
  refine ⟨_, hr, (MapKept.heap_set hb).1, ⟨rfl, rfl, rfl, by simp, fun k hk _ => ?_⟩, by simp⟩
  rw [(MapKept.heap_set hb).2 k (by omega)]
  exact Below.heap_alloc w _ k hk

set_option maxHeartbeats 8000000 in
set_option maxRecDepth 100000 in
theorem record49 (w : World) (sb : Nat) (rd sq lc : Int) (nm : ByteArray) (ap ae : Option Addr) (cp ce : Nat) (ps ex : List ByteArray) (x0 x1 x2 x3 x4 : Value) (hsn : BlockAt w sb 59 [x0, x1, x2, x3, x4]) (hS : SiteAt w ap ae ps ex) (hp : ps.length ≤ 1048576) (he : ex.length ≤ 1048576) :
    Calls Try.prog 49 #[.pointer (some ⟨sb, 0, none⟩), .int .u64 rd, .agg #[.string nm, .slice ap ps.length cp, .slice ae ex.length ce], .int .u64 sq, .int .u64 lc] w fun e w' => RecPost w sb rd sq lc nm (keep ex (srt ps)) e w' := by
  obtain ⟨W, hW⟩ : ∃ W, W = w.alloc (Obj.cells #[.string nm, .slice ap ps.length cp, .slice ae ex.length ce] 52) := ⟨_, rfl⟩
  have g : w.grownBy W none := by rw [hW]; exact World.grownBy_alloc _ _ _
  have hB : BlockAt W w.heap.size 52 [.string nm, .slice ap ps.length cp, .slice ae ex.length ce] := by rw [hW]; exact blockAt_new w 52 _
  have HG := (show Hid _ from g)
  have HS := (show Hid _ from hS)
  have HSN := (show Hid _ from hsn)
  have Hv : Calls Try.prog 60 #[.slice ap ps.length cp] W.drew fun e w' => e = .returned (.func (.func 65) #[] #[.pointer (some ⟨W.heap.size, 0, none⟩)]) ∧ VPost W (.slice ap ps.length cp) w' := callsIn_wide.1 (values60 Fence.wide 6 trivial rfl ap ps.length cp W.drew)
  clear hS hsn g
  go_enter Try.func49, Try.ntmps49
  go_upto_region 1 with fail
  rw [← hW]
  clear hW
  refine region_last (fun w' => w'.cell? ⟨w.heap.size, 0, none⟩ = some (.string nm) ∧ w'.cell? ⟨w.heap.size, 1, none⟩ = some (.slice ap ps.length cp) ∧ w'.cell? ⟨w.heap.size, 2, none⟩ = some (.slice ae ex.length ce)) 7 (by kernel_rfl) ?_
  have hS : ((fun w' => w'.cell? ⟨w.heap.size, 0, none⟩ = some (.string nm) ∧ w'.cell? ⟨w.heap.size, 1, none⟩ = some (.slice ap ps.length cp) ∧ w'.cell? ⟨w.heap.size, 2, none⟩ = some (.slice ae ex.length ce)) : World → Prop) W.drew := ⟨(hB).cell 0, (hB).cell 1, (hB).cell 2⟩
  refine AnyL.take (i := 0) (v := ?_) rfl (by kernel_rfl) (by kernel_rfl) (by kernel_rfl) 0 (by kernel_rfl) (by kernel_rfl) (by kernel_rfl) (fun _ _ _ h => h) (Or.inl ⟨by rfl, ?_⟩) hS ?_
  rotate_left
  · intro w' hSw
    (try dsimp only at hSw)
    go_simp
    all_goals with_reducible rfl
  try simp only [Act.put, List.setIfInBounds_toArray, List.set_cons_zero, List.set_cons_succ]
  refine AnyL.take (i := 1) (v := ?_) rfl (by kernel_rfl) (by kernel_rfl) (by kernel_rfl) 1 (by kernel_rfl) (by kernel_rfl) (by kernel_rfl) (fun _ _ _ h => h) (Or.inl ⟨by rfl, ?_⟩) hS ?_
  rotate_left
  · intro w' hSw
    (try dsimp only at hSw)
    go_simp
    all_goals with_reducible rfl
  try simp only [Act.put, List.setIfInBounds_toArray, List.set_cons_zero, List.set_cons_succ]
  refine AnyL.take (i := 4) (v := ?_) rfl (by kernel_rfl) (by kernel_rfl) (by kernel_rfl) 4 (by kernel_rfl) (by kernel_rfl) (by kernel_rfl) (fun _ _ _ h => h) (Or.inl ⟨by rfl, ?_⟩) hS ?_
  rotate_left
  · intro w' hSw
    (try dsimp only at hSw)
    go_simp
    all_goals with_reducible rfl
  try simp only [Act.put, List.setIfInBounds_toArray, List.set_cons_zero, List.set_cons_succ]
  refine AnyL.take (i := 5) (v := ?_) rfl (by kernel_rfl) (by kernel_rfl) (by kernel_rfl) 5 (by kernel_rfl) (by kernel_rfl) (by kernel_rfl) (fun _ _ _ h => h) (Or.inl ⟨by rfl, ?_⟩) hS ?_
  rotate_left
  · intro w' hSw
    (try dsimp only at hSw)
    go_simp
    all_goals with_reducible rfl
  try simp only [Act.put, List.setIfInBounds_toArray, List.set_cons_zero, List.set_cons_succ]
  refine AnyL.one (i := 2) rfl (by kernel_rfl) (fun K hK => ?_)
  go_simp
  go_wp2_with (go_at_call 60; refine (Hv).mono ?_; rintro e1 w1 ⟨rfl, hw⟩)
  have hS1 : ((fun w' => w'.cell? ⟨w.heap.size, 0, none⟩ = some (.string nm) ∧ w'.cell? ⟨w.heap.size, 1, none⟩ = some (.slice ap ps.length cp) ∧ w'.cell? ⟨w.heap.size, 2, none⟩ = some (.slice ae ex.length ce)) : World → Prop) _ := ⟨(hB.grown (hw.facts.1) (by simp)).cell 0, (hB.grown (hw.facts.1) (by simp)).cell 1, (hB.grown (hw.facts.1) (by simp)).cell 2⟩
  refine hK.out _ _ (Or.inr hS1) ?_
  clear hK K
  try simp only [Act.put, List.setIfInBounds_toArray, List.set_cons_zero, List.set_cons_succ]
  have hs59 := callsIn_wide.1 (sorted59 6 (by omega) W.heap.size w1 ap cp ps (Cells.grown HS.out.c1 (grown_trans HG.out hw.facts.1)) hp hw.facts.2.2 hw.facts.2.1)
  refine AnyL.one (i := 3) rfl (by kernel_rfl) (fun K hK => ?_)
  go_simp
  go_wp2_with (go_at_call 59; refine hs59.mono ?_; rintro e1 w2 ⟨v, rfl, hrow, hb2⟩)
  have hS2 : ((fun w' => w'.cell? ⟨w.heap.size, 0, none⟩ = some (.string nm) ∧ w'.cell? ⟨w.heap.size, 1, none⟩ = some (.slice ap ps.length cp) ∧ w'.cell? ⟨w.heap.size, 2, none⟩ = some (.slice ae ex.length ce)) : World → Prop) _ := ⟨(hB.grown (grown_trans (hw.facts.1) (grown_below hb2)) (by simp)).cell 0, (hB.grown (grown_trans (hw.facts.1) (grown_below hb2)) (by simp)).cell 1, (hB.grown (grown_trans (hw.facts.1) (grown_below hb2)) (by simp)).cell 2⟩
  refine hK.out _ _ (Or.inr hS2) ?_
  clear hK K
  try simp only [Act.put, List.setIfInBounds_toArray, List.set_cons_zero, List.set_cons_succ]
  have hlen : (srt ps).length = ps.length := srt_len ps
  rw [← hlen] at hrow
  have h58 := delf58 w1 w2 nm (.slice ap ps.length cp) ae ce ex ⟨⟨_, _, _, rfl⟩, Cells.grown HS.out.c2 (grown_trans HG.out (hw.facts.1)), he⟩ hb2 v (srt ps) hrow (by rw [hlen]; exact hp)
  refine AnyL.one (i := 6) rfl (by kernel_rfl) (fun K hK => ?_)
  go_simp
  go_wp2_with (go_at_call 58; refine h58.mono ?_; rintro e1 w3 ⟨a3, c3, rfl, hC3, hN3, hb3⟩)
  have hS3 : ((fun w' => w'.cell? ⟨w.heap.size, 0, none⟩ = some (.string nm) ∧ w'.cell? ⟨w.heap.size, 1, none⟩ = some (.slice ap ps.length cp) ∧ w'.cell? ⟨w.heap.size, 2, none⟩ = some (.slice ae ex.length ce)) : World → Prop) _ := ⟨(hB.grown (grown_trans (hw.facts.1) (grown_below hb3)) (by simp)).cell 0, (hB.grown (grown_trans (hw.facts.1) (grown_below hb3)) (by simp)).cell 1, (hB.grown (grown_trans (hw.facts.1) (grown_below hb3)) (by simp)).cell 2⟩
  refine hK.out _ _ (Or.inr hS3) ?_
  clear hK K
  try simp only [Act.put, List.setIfInBounds_toArray, List.set_cons_zero, List.set_cons_succ]
  refine AnyL.one (i := 7) rfl (by kernel_rfl) (fun K hK => ?_)
  go_simp
  refine hK.out _ _ (Or.inl rfl) ?_
  clear hK K
  refine AnyL.done (by kernel_rfl) ?_ _
  obtain ⟨ks, hks⟩ : ∃ ks, ks = keep ex (srt ps) := ⟨_, rfl⟩
  rw [← hks] at hC3 ⊢
  have HKS := (show Hid _ from hks)
  have hg3 : w.grownBy w3 none := grown_trans HG.out (grown_trans hw.facts.1 (grown_below hb3))
  have hsb : sb < w.heap.size := BlockAt.lt HSN.out
  obtain ⟨w3a, hw3a⟩ : ∃ w3a, w3a = w3.alloc (.map #[] 0) := ⟨_, rfl⟩
  have hmk : (Instr.makeMap 33 none).run Try.prog w3 = .ok (.map (some w3.heap.size)) w3a := by rw [hw3a]; exact run_makeMap_plain w3 33
  obtain ⟨w4, hins, hm1, hg4, hz4⟩ := map_first w3 nm (.agg #[.int .u64 sq, .slice a3 ks.length c3])
  rw [← hw3a] at hins
  obtain ⟨w5, hw5⟩ : ∃ w5, w5 = w4.alloc (.map #[] 0) := ⟨_, rfl⟩
  have hmk2 : (Instr.makeMap 34 none).run Try.prog w4 = .ok (.map (some w4.heap.size)) w5 := by rw [hw5]; exact run_makeMap_plain w4 34
  have hg45 : w4.grownBy w5 none := by rw [hw5]; exact World.grownBy_alloc _ _ _
  have hm2 : w5.heap[w4.heap.size]? = some (.map #[] 0) := by rw [hw5]; exact heap_alloc_new w4 _
  have hg3a : w3.grownBy w3a none := by rw [hw3a]; exact World.grownBy_alloc _ _ _
  have hgW3 : W.grownBy w3 none := grown_trans hw.facts.1 (grown_below hb3)
  have k1 : w3a.cell? ⟨w.heap.size, 0, none⟩ = some (.string nm) := (hB.grown (grown_trans hgW3 hg3a) (by simp)).cell 0
  have k2 : w5.cell? ⟨w.heap.size, 0, none⟩ = some (.string nm) := (hB.grown (grown_trans hgW3 (grown_trans hg4 hg45)) (by simp)).cell 0
  have hS5 : BlockAt w5 sb 59 [x0, x1, x2, x3, x4] := BlockAt.grown HSN.out (grown_trans hg3 (grown_trans hg4 hg45)) (by simp)
  have v0 := hS5.cell 0
  have v1 := hS5.cell 1
  have v2 := hS5.cell 2
  have v3 := hS5.cell 3
  have v4 := hS5.cell 4
  have f0 := hS5.frozen 0
  have f1 := hS5.frozen 1
  have f2 := hS5.frozen 2
  have f3 := hS5.frozen 3
  have f4 := hS5.frozen 4
  simp only [List.getElem?_cons_zero, List.getElem?_cons_succ] at v0 v1 v2 v3 v4
  have hz3 := hg3.size
  have hz45 := hg45.size
  have FIN : Hid (RecAt w (((((w5.setCell ⟨sb, 0, none⟩ (.int .u64 rd)).setCell ⟨sb, 1, none⟩ (.map (some w3.heap.size))).setCell ⟨sb, 2, none⟩ (.map (some w4.heap.size))).setCell ⟨sb, 3, none⟩ (.string nm)).setCell ⟨sb, 4, none⟩ (.int .u64 lc)) sb rd sq lc nm ks w3.heap.size w4.heap.size a3 c3) := by
    have hoth : ∀ (b : Nat), b ≠ sb → (((((w5.setCell ⟨sb, 0, none⟩ (.int .u64 rd)).setCell ⟨sb, 1, none⟩ (.map (some w3.heap.size))).setCell ⟨sb, 2, none⟩ (.map (some w4.heap.size))).setCell ⟨sb, 3, none⟩ (.string nm)).setCell ⟨sb, 4, none⟩ (.int .u64 lc)).heap[b]? = w5.heap[b]? := by
      intro b hb
      rw [Below.heap_setCell _ _ _ _ hb, Below.heap_setCell _ _ _ _ hb, Below.heap_setCell _ _ _ _ hb, Below.heap_setCell _ _ _ _ hb, Below.heap_setCell _ _ _ _ hb]
    have hne : ∀ x, a3 = some x → x.block ≠ sb := fun x hx e => by
      have h1 := hN3 x hx
      have h2 := hw.facts.1.size
      have h3 := HG.out.size
      omega
    have hC5 := (hC3.grown hg4).grown hg45
    refine ⟨?_, ?_, ?_, ((((hC5.set hne _).set hne _).set hne _).set hne _).set hne _, ?_⟩
    · exact ((((hS5.set 0 _).set 1 _).set 2 _).set 3 _).set 4 _
    · rw [hoth _ (by omega), hg45.block _ (by omega) (by simp)]
      exact hm1
    · rw [hoth _ (by omega)]
      exact hm2
    · have hgt := grown_trans hg3 (grown_trans hg4 hg45)
      refine ⟨hgt.os, hgt.tape, hgt.output, by have := hgt.size; simpa [World.setCell] using this, fun b hb hn => ?_⟩
      rw [hoth b (fun e => hn (by rw [e])), hgt.block b hb (by simp)]
  clear hS5 hm1 hm2 hg45 hg4 hg3a hgW3 hg3 hz3 hz45 hC3 hN3 hb3 hb2 hrow hlen h58 hs59 hw HSN HG HS hz4 hw3a hw5 hS hS1 hS2 hS3 hB hks hsb
  go_wp2
  go_end0
  exact ⟨rfl, _, _, _, _, by rw [← HKS.out]; exact FIN.out⟩

set_option maxHeartbeats 4000000 in
set_option maxRecDepth 100000 in
theorem zzrec40 (w : World) (sb : Nat) (rd sq lc : Int) (nm : ByteArray) (ap ae : Option Addr) (cp ce : Nat) (ps ex : List ByteArray) (x0 x1 x2 x3 x4 : Value) (hsn : BlockAt w sb 59 [x0, x1, x2, x3, x4]) (hS : SiteAt w ap ae ps ex) (hp : ps.length ≤ 1048576) (he : ex.length ≤ 1048576) :
    Calls Try.prog 40 #[.pointer (some ⟨sb, 0, none⟩), .int .u64 rd, .agg #[.string nm, .slice ap ps.length cp, .slice ae ex.length ce], .int .u64 sq, .int .u64 lc] w fun e w' => RecPost w sb rd sq lc nm (keep ex (srt ps)) e w' := by
  obtain ⟨W, hW⟩ : ∃ W, W = w.alloc (Obj.cells #[.string nm, .slice ap ps.length cp, .slice ae ex.length ce] 52) := ⟨_, rfl⟩
  have g : w.grownBy W none := by rw [hW]; exact World.grownBy_alloc _ _ _
  have hB : BlockAt W w.heap.size 52 [.string nm, .slice ap ps.length cp, .slice ae ex.length ce] := by rw [hW]; exact blockAt_new w 52 _
  have H49 := hidC (record49 W sb rd sq lc nm ap ae cp ce ps ex x0 x1 x2 x3 x4 (hsn.grown g (by simp)) (hS.grown g) hp he)
  have k0 : W.cell? ⟨w.heap.size, 0, none⟩ = some (.string nm) := hB.cell 0
  have k1 : W.cell? ⟨w.heap.size, 1, none⟩ = some (.slice ap ps.length cp) := hB.cell 1
  have k2 : W.cell? ⟨w.heap.size, 2, none⟩ = some (.slice ae ex.length ce) := hB.cell 2
  have HG := (show Hid _ from g)
  clear g hB hsn hS
  go_enter Try.func40, Try.ntmps40
  go_upto_region 1 with fail
  rw [← hW]
  clear hW
  go_wp2_with (go_at_call 49; refine H49.out.mono ?_; rintro e1 w1 ⟨rfl, r1, r2, a, c, hR⟩)
  go_end0
  refine ⟨rfl, r1, r2, a, c, hR.snap, hR.m1, hR.m2, hR.cells, ?_⟩
  have g1 := HG.out
  have g2 := hR.grown
  exact ⟨g2.os.trans g1.os, g2.tape.trans g1.tape, g2.output.trans g1.output, Nat.le_trans g1.size g2.size, fun b hb hn => by
    have := g1.size
    rw [g2.block b (by omega) hn, g1.block b hb (by simp)]⟩

end Go.Proofs.Qxb6601448a
