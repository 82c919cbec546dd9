/-
  remove (45): what is known on the way. No program is walked here.
-/
import Derived.Test.Qxb6601380aPutA
namespace Go.Proofs.Qxb6601380a
open Go.RowKit

theorem rm_last {F : List Ent} {e : Ent} (hs : Srt (F ++ [e])) : rmL e.1 (F ++ [e]) = F := by
  obtain ⟨h1, _⟩ := srt_bef (X := F) (Y := []) (e := e) hs
  have := rmL_old (a := F) (b := []) (k := e.1) (r0 := e.2) h1 aft_nil
  simpa using this

theorem rm_first {F : List Ent} {e : Ent} (hs : Srt (e :: F)) : rmL e.1 (e :: F) = F := by
  obtain ⟨_, h2⟩ := srt_bef (X := []) (Y := F) (e := e) hs
  have := rmL_old (a := []) (b := F) (k := e.1) (r0 := e.2) bef_nil h2
  simpa using this

theorem rm_mid {X Y : List Ent} {k : ByteArray} {r0 : Int} (hs : Srt (X ++ (k, r0) :: Y)) : rmL k (X ++ (k, r0) :: Y) = X ++ Y := by
  obtain ⟨h1, h2⟩ := srt_bef hs
  exact rmL_old h1 h2

/-- A key that stands in the middle part. -/
theorem rm_part {X M Y : List Ent} {k : ByteArray} {r0 : Int} (hs : Srt (X ++ (M ++ Y))) (hm : (k, r0) ∈ M) : rmL k (X ++ (M ++ Y)) = X ++ (rmL k M ++ Y) := by
  obtain ⟨_, s2, s3⟩ := srt_app.1 hs
  obtain ⟨_, _, s6⟩ := srt_app.1 s2
  have hX : Bef X k := fun x hx => s3 x hx (k, r0) (List.mem_append_left _ hm)
  have hY : Aft Y k := fun y hy => s6 (k, r0) hm y hy
  have := rmL_in (a := X) (b := Y) hX hY M
  simpa using this

theorem rm_len {L : List Ent} {k : ByteArray} {r0 : Int} (hs : Srt L) (hm : (k, r0) ∈ L) : L.length = (rmL k L).length + 1 := by
  rcases srt_about hs k with ⟨a, b, rfl, ha, hb⟩ | ⟨a, r, b, rfl, ha, hb⟩
  · rcases List.mem_append.1 hm with q | q
    · exact absurd (ha _ q) (kl_irrefl k)
    · exact absurd (hb _ q) (kl_irrefl k)
  · rw [rmL_old ha hb]
    simp only [List.length_append, List.length_cons]
    omega

/-- The root is elsewhere, and bears an entry. -/
def RootAt (w : World) (root : Nat) (fo : List Nat) : Prop := ∃ d ks, NodeAt w d ks ∧ d.p = root ∧ 1 ≤ d.es.length ∧ ∀ b ∈ d.own, b ∈ fo

structure RmInv (w : World) (st : Nat) (L2 : List Ent) (bs : List Nat) (ah : Value) (root gk : Nat) (t : T gk) (lo : Nat) (fo : List Nat) (pre post : List Ent) (k : ByteArray) (wr : World) : Prop where
  spot : Spot wr lo gk t fo pre post root
  stb : BlockAt wr st 74 [ptr root, .int .i64 L2.length, ah]
  st1 : st ∉ fo ++ blocks gk t
  moved : Moved w wr bs (st :: (fo ++ blocks gk t))
  srt : Srt (flat gk t)
  has : ∃ r0, (k, r0) ∈ flat gk t
  goal : L2 = pre ++ rmL k (flat gk t) ++ post
  top : (lo = min gk 1 ∧ fo = [] ∧ pre = [] ∧ post = [] ∧ root = (hd gk t).p) ∨ (lo = 15 ∧ 16 ≤ (hd gk t).es.length ∧ RootAt wr root fo)

/-- Behind the switch: the child to go into is chosen. -/
structure RmMid (w : World) (st : Nat) (L2 : List Ent) (bs : List Nat) (ah : Value) (root g : Nat) (d : Hd) (A : List (T g)) (c : T g) (B : List (T g)) (a b : List Ent) (fo : List Nat) (pre post : List Ent) (k : ByteArray) (wx : World) : Prop where
  ok : Ok wx 0 (g + 1) (d, A ++ c :: B)
  es : d.es = a ++ b
  len : A.length = a.length
  c16 : 16 ≤ (hd g c).es.length
  stb : BlockAt wx st 74 [ptr root, .int .i64 L2.length, ah]
  st1 : st ∉ fo ++ blocks (g + 1) (d, A ++ c :: B)
  moved : Moved w wx bs (st :: (fo ++ blocks (g + 1) (d, A ++ c :: B)))
  srt : Srt (flat g c)
  has : ∃ r0, (k, r0) ∈ flat g c
  goal : L2 = pre ++ (inter a (A.map (flat g)) ++ (rmL k (flat g c) ++ tl b (B.map (flat g)))) ++ post
  top : (fo = [] ∧ pre = [] ∧ post = [] ∧ root = d.p) ∨ (Spot wx 15 (g + 1) (d, A ++ c :: B) fo pre post root ∧ RootAt wx root fo)

section
variable {w wr wx : World} {st : Nat} {L2 : List Ent} {bs : List Nat} {ah : Value} {root gk g lo : Nat} {fo : List Nat} {pre post : List Ent} {k : ByteArray}

theorem RootAt.same (h : RootAt wr root fo) (hs : ∀ b ∈ fo, wx.heap[b]? = wr.heap[b]?) : RootAt wx root fo := by
  obtain ⟨d, ks, h1, h2, h3, h4⟩ := h
  exact ⟨d, ks, h1.same fun b hb => hs b (h4 b hb), h2, h3, h4⟩

theorem RmInv.grown {t : T gk} (h : RmInv w st L2 bs ah root gk t lo fo pre post k wr) (hg : wr.grownBy wx none) : RmInv w st L2 bs ah root gk t lo fo pre post k wx :=
  ⟨h.spot.grown hg, h.stb.grown hg (by simp), h.st1, h.moved.grown hg, h.srt, h.has, h.goal, by
    rcases h.top with q | ⟨q1, q2, q3⟩
    · exact .inl q
    · exact .inr ⟨q1, q2, q3.same fun b hb => hg.block b (h.spot.old b hb) (by simp)⟩⟩

theorem RmMid.grown {d : Hd} {A B : List (T g)} {c : T g} {a b : List Ent} (h : RmMid w st L2 bs ah root g d A c B a b fo pre post k wr) (hg : wr.grownBy wx none) : RmMid w st L2 bs ah root g d A c B a b fo pre post k wx :=
  ⟨h.ok.same fun b hb => hg.block b (h.ok.lies.lt b hb) (by simp), h.es, h.len, h.c16, h.stb.grown hg (by simp), h.st1, h.moved.grown hg, h.srt, h.has, h.goal, by
    rcases h.top with q | ⟨q1, q2⟩
    · exact .inl q
    · exact .inr ⟨q1.grown hg, q2.same fun b hb => hg.block b (q1.old b hb) (by simp)⟩⟩

/-- The node's tree has been worked on; the child is chosen. -/
theorem RmInv.mid {t : T (g + 1)} {d : Hd} {A B : List (T g)} {c : T g} {a b : List Ent} {k2 : ByteArray} (h : RmInv w st L2 bs ah root (g + 1) t lo fo pre post k wr)
    (hm : Moved wr wx (blocks (g + 1) t) (blocks (g + 1) (d, A ++ c :: B))) (hp : d.p = (hd (g + 1) t).p) (ho : ∀ lo', lo' + 1 ≤ (hd (g + 1) t).es.length → Ok wx lo' (g + 1) (d, A ++ c :: B)) (he : d.es = a ++ b) (hA : A.length = a.length) (h16 : 16 ≤ (hd g c).es.length)
    (hs : Srt (flat g c)) (hh : ∃ r0, (k2, r0) ∈ flat g c) (hg : rmL k (flat (g + 1) t) = inter a (A.map (flat g)) ++ (rmL k2 (flat g c) ++ tl b (B.map (flat g)))) (h1 : 1 ≤ (hd (g + 1) t).es.length) :
    RmMid w st L2 bs ah root g d A c B a b fo pre post k2 wx := by
  have hst : st ∉ blocks (g + 1) t := fun q => h.st1 (List.mem_append_right _ q)
  have hfo : ∀ x ∈ fo, wx.heap[x]? = wr.heap[x]? := fun x hx => hm.block x (h.spot.old x hx) fun q => h.spot.apart x q hx
  refine ⟨ho 0 (by omega), he, hA, h16, h.stb.same (hm.block st h.stb.lt hst), fun q => ?_, ?_, hs, hh, by rw [h.goal, hg], ?_⟩
  · rcases List.mem_append.1 q with q | q
    · exact h.st1 (List.mem_append_left _ q)
    · rcases hm.place st q with q | q
      · exact hst q
      · have := h.stb.lt
        omega
  · refine h.moved.trans (hm.wide (fun x hx => List.mem_cons_of_mem _ (List.mem_append_right _ hx)) fun x hx => ?_)
    rcases List.mem_cons.1 hx with q | q
    · exact .inr (by rw [q]; exact List.mem_cons_self ..)
    · rcases List.mem_append.1 q with q | q
      · exact .inr (List.mem_cons_of_mem _ (List.mem_append_left _ q))
      · exact .inl q
  · rcases h.top with ⟨q1, q2, q3, q4, q5⟩ | ⟨q1, q2, q3⟩
    · exact .inl ⟨q2, q3, q4, by rw [q5, hp]⟩
    · subst q1
      exact .inr ⟨h.spot.work hm (ho 15 (by omega)) hp, q3.same hfo⟩

/-- One child down, the root bearing an entry. -/
theorem RmMid.down {d : Hd} {A B : List (T g)} {c : T g} {a b : List Ent} (h : RmMid w st L2 bs ah root g d A c B a b fo pre post k wx) (h1 : fo ≠ [] ∨ 1 ≤ d.es.length) :
    RmInv w st L2 bs ah root g c 15 (fo ++ (d.own ++ A.flatMap (blocks g) ++ B.flatMap (blocks g))) (pre ++ inter a (A.map (flat g))) (tl b (B.map (flat g)) ++ post) k wx := by
  have hsp : ∃ lo', Spot wx lo' (g + 1) (d, A ++ c :: B) fo pre post root := by
    rcases h.top with ⟨q1, q2, q3, q4⟩ | ⟨q1, _⟩
    · subst q1 q2 q3
      have he := h1.resolve_left (by simp)
      have o : Ok wx (min (g + 1) 1) (g + 1) (d, A ++ c :: B) := ⟨h.ok.lies, h.ok.shape.le (by show min (g + 1) 1 ≤ d.es.length; omega), h.ok.apart⟩
      have := spot_top o
      rw [q4]
      exact ⟨_, this⟩
    · exact ⟨_, q1⟩
  obtain ⟨lo', hsp⟩ := hsp
  refine ⟨hsp.down h.es h.len, h.stb, fun q => h.st1 (down_mem.1 q), ?_, h.srt, h.has, ?_, .inr ⟨rfl, h.c16, ?_⟩⟩
  · refine h.moved.trans ((Moved.of_grown (World.grownBy.refl wx _) _).wide (fun _ h => h) fun x hx => .inr ?_)
    rcases List.mem_cons.1 hx with q | q
    · rw [q]; exact List.mem_cons_self ..
    · exact List.mem_cons_of_mem _ (down_mem.1 q)
  · rw [h.goal]
    simp
  · rcases h.top with ⟨q1, q2, q3, q4⟩ | ⟨_, q2⟩
    · refine ⟨d, _, h.ok.lies.1, q4.symm, ?_, fun b hb => ?_⟩
      · exact h1.resolve_left (by simp [q1])
      · simp [hb]
    · obtain ⟨d0, ks, z1, z2, z3, z4⟩ := q2
      exact ⟨d0, ks, z1, z2, z3, fun b hb => List.mem_append_left _ (z4 b hb)⟩

/-- The root bears no entry any more: its one child is the root. -/
theorem RmMid.shrink {d : Hd} {A B : List (T g)} {c : T g} {a b : List Ent} (h : RmMid w st L2 bs ah root g d A c B a b fo pre post k wr) (h0 : d.es.length = 0) (htop : fo = [] ∧ pre = [] ∧ post = [] ∧ root = d.p)
    (hw : ∀ b, b ≠ st → wx.heap[b]? = wr.heap[b]?) (hsz : wx.heap.size = wr.heap.size) (hos : wx.os = wr.os ∧ wx.tape = wr.tape ∧ wx.output = wr.output) (hst : BlockAt wx st 74 [ptr (hd g c).p, .int .i64 L2.length, ah]) :
    RmInv w st L2 bs ah (hd g c).p g c (min g 1) [] [] [] k wx := by
  obtain ⟨rfl, rfl, rfl, _⟩ := htop
  have hc := h.ok.child
  have ha : a = [] ∧ b = [] := by
    have := congrArg List.length h.es
    rw [h0, List.length_append] at this
    exact ⟨List.eq_nil_of_length_eq_zero (by omega), List.eq_nil_of_length_eq_zero (by omega)⟩
  obtain ⟨rfl, rfl⟩ := ha
  have hA : A = [] := List.eq_nil_of_length_eq_zero h.len
  subst hA
  have hB : B = [] := by
    have := h.ok.shape.2.2.1
    rw [h0] at this
    simp only [List.nil_append, List.length_cons] at this
    exact List.eq_nil_of_length_eq_zero (by omega)
  subst hB
  have hin : ∀ x ∈ blocks g c, x ∈ blocks (g + 1) (d, [] ++ c :: []) := fun x hx => by
    simp only [blocks, List.nil_append, List.flatMap_cons, List.flatMap_nil, List.append_nil, List.mem_append]
    exact .inr hx
  have hsc : st ∉ blocks g c := fun q => h.st1 (List.mem_append_right _ (hin st q))
  have o : Ok wx (min g 1) g c := ⟨hc.lies.same fun x hx => hw x fun e => hsc (e ▸ hx), hc.shape.le (by have := h.c16; omega), hc.apart⟩
  refine ⟨spot_top o, hst, by simpa using hsc, ?_, h.srt, h.has, ?_, .inl ⟨rfl, rfl, rfl, rfl, rfl⟩⟩
  · have hm := h.moved
    have hs1 := hm.size
    refine ⟨hos.1.trans hm.os, hos.2.1.trans hm.tape, hos.2.2.trans hm.output, by omega, fun x hx hn => ?_, fun x hx => ?_⟩
    · have hbs : x ≠ st := fun e => by
        rcases hm.place st (List.mem_cons_self ..) with q | q
        · exact hn (e ▸ q)
        · omega
      rw [hw x hbs, hm.block x hx hn]
    · rcases List.mem_cons.1 hx with q | q
      · rw [q]; exact hm.place st (List.mem_cons_self ..)
      · exact hm.place x (List.mem_cons_of_mem _ (List.mem_append_right _ (hin x (by simpa using q))))
  · have := h.goal
    simpa [inter, tl] using this

/-- The end: the entry is out of its leaf. -/
theorem RmInv.done {t t' : T gk} {L : List Ent} {kk : ByteArray} (h : RmInv w st L2 bs ah root gk t lo fo pre post k wr) (hL : Srt L) (hL2 : L2 = rmL kk L) (m : Moved wr wx (blocks gk t) (blocks gk t')) (o : Ok wx lo gk t') (hp : (hd gk t').p = (hd gk t).p) (hf : flat gk t' = rmL k (flat gk t)) :
    ∃ bs', TreeAt wx st (rmL kk L) bs' ∧ Moved w wx bs bs' := by
  have S := h.spot.work m o hp
  obtain ⟨H, u, q1, q2, q3, q4⟩ := S.whole
  have hstx : st ∉ fo ++ blocks gk t' := fun hm => by
    rcases List.mem_append.1 hm with q | q
    · exact h.st1 (List.mem_append_left _ q)
    · rcases m.place st q with q | q
      · exact h.st1 (List.mem_append_right _ q)
      · have := h.stb.lt
        omega
  have hsu : st ∉ blocks H u := fun hm => hstx (List.mem_append.2 (q4 st hm))
  have hfl : flat H u = rmL kk L := by rw [q3, hf, ← h.goal, hL2]
  refine ⟨st :: blocks H u, ⟨⟨H, u, ah, ?_, q1, hfl, hsu, fun b => List.mem_cons⟩, srt_rm hL kk⟩, ?_⟩
  · rw [q2, ← hL2]
    exact h.stb.same (m.block st h.stb.lt fun hm => h.st1 (List.mem_append_right _ hm))
  · have m1 : Moved wr wx (st :: (fo ++ blocks gk t)) (st :: (fo ++ blocks gk t')) := m.wide (fun x hx => List.mem_cons_of_mem _ (List.mem_append_right _ hx)) fun x hx => by
      rcases List.mem_cons.1 hx with q | q
      · exact .inr (by rw [q]; exact List.mem_cons_self ..)
      · rcases List.mem_append.1 q with q | q
        · exact .inr (List.mem_cons_of_mem _ (List.mem_append_left _ q))
        · exact .inl q
    refine (h.moved.trans m1).wide (fun _ hx => hx) fun x hx => .inl ?_
    rcases List.mem_cons.1 hx with q | q
    · rw [q]; exact List.mem_cons_self ..
    · exact List.mem_cons_of_mem _ (List.mem_append.2 (q4 x q))
end
end Go.Proofs.Qxb6601380a
