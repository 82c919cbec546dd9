/-
  A spot in a tree: the node at hand and the rest about it. No program is walked here.
-/
import Derived.Test.Qxb6601380aFtree
namespace Go.Proofs.Qxb6601380a
open Go.RowKit

/-- One node's rows are laid anew; what is below stays. -/
theorem regroup1 {w w' : World} {lo lo' h : Nat} {t : T h} {d' : Hd} (o : Ok w lo h t) (g : Grp w (owns [(hd h t, kps h t)]) w' [(d', kps h t)])
    (h1 : lo' ≤ d'.es.length) (h2 : d'.es.length ≤ 31) (h3 : Cnt h d'.es.length (subs h t).length) :
    Ok w' lo' h (mk h d' (subs h t)) ∧ Moved w w' (blocks h t) (blocks h (mk h d' (subs h t))) := by
  have hb := blocks_subs h t
  have hb' := blocks_subs h (mk h d' (subs h t))
  rw [hd_mk, subs_mk] at hb'
  have hN := o.apart
  rw [hb] at hN
  obtain ⟨n1, n2, n3⟩ := List.nodup_append.1 hN
  have hlt : ∀ b ∈ (subs h t).flatMap (sblocks h), b < w.heap.size := fun b hx => o.lies.lt b (by rw [hb]; exact List.mem_append_right _ hx)
  have m := g.moved
  rw [owns_one, owns_one] at m
  have hsame : ∀ b ∈ (subs h t).flatMap (sblocks h), w'.heap[b]? = w.heap[b]? := fun b hx => m.block b (hlt b hx) fun hm => n3 b hm b hx rfl
  have hsh := shape_subs.1 o.shape
  refine ⟨⟨lies_subs.2 ⟨?_, fun x hx => ?_⟩, shape_subs.2 ?_, ?_⟩, ?_⟩
  · rw [hd_mk, kps_mk, ← kps_subs]
    exact g.n1
  · rw [subs_mk] at hx
    exact slies_same ((lies_subs.1 o.lies).2 x hx) fun b hb => hsame b (List.mem_flatMap.2 ⟨x, hx, hb⟩)
  · rw [hd_mk, subs_mk]
    exact ⟨h1, h2, h3, hsh.2.2.2⟩
  · rw [hb']
    have ha := g.apart
    rw [owns_one] at ha
    refine List.nodup_append.2 ⟨ha, n2, fun x hx y hy e => ?_⟩
    subst e
    rcases m.place x hx with q | q
    · exact n3 x q x hy rfl
    · have := hlt x hy
      omega
  · rw [hb, hb']
    refine ⟨m.os, m.tape, m.output, m.size, fun b hl hx => m.block b hl fun hm => hx (List.mem_append_left _ hm), fun b hx => ?_⟩
    rcases List.mem_append.1 hx with q | q
    · rcases m.place b q with q | q
      · exact .inl (List.mem_append_left _ q)
      · exact .inr q
    · exact .inl (List.mem_append_right _ q)

structure Spot (w : World) (lo h : Nat) (t : T h) (fo : List Nat) (pre post : List Ent) (root : Nat) : Prop where
  ok : Ok w lo h t
  hole : Hole w lo h (hd h t).p fo pre post root
  apart : ∀ b ∈ blocks h t, b ∉ fo
  old : ∀ b ∈ fo, b < w.heap.size

section
variable {w w' : World} {lo h : Nat} {fo : List Nat} {pre post : List Ent} {root : Nat}

theorem Moved.grown {bs bs' : List Nat} {w0 : World} (m : Moved w0 w bs bs') (h : w.grownBy w' none) : Moved w0 w' bs bs' :=
  ⟨h.os.trans m.os, h.tape.trans m.tape, h.output.trans m.output, Nat.le_trans m.size h.size, fun b hb hn => by
    have := m.size
    rw [h.block b (by omega) (by simp), m.block b hb hn], m.place⟩

theorem Moved.of_grown (h : w.grownBy w' none) (bs : List Nat) : Moved w w' bs bs :=
  ⟨h.os, h.tape, h.output, h.size, fun b hb _ => h.block b hb (by simp), fun _ hb => .inl hb⟩

theorem Spot.work {t t' : T h} (s : Spot w lo h t fo pre post root) (m : Moved w w' (blocks h t) (blocks h t')) (o : Ok w' lo h t') (hp : (hd h t').p = (hd h t).p) : Spot w' lo h t' fo pre post root := by
  have hf : ∀ b ∈ fo, w'.heap[b]? = w.heap[b]? := fun b hb => m.block b (s.old b hb) fun hm => s.apart b hm hb
  refine ⟨o, by rw [hp]; exact s.hole.same hf, fun b hb hf => ?_, fun b hb => Nat.lt_of_lt_of_le (s.old b hb) m.size⟩
  rcases m.place b hb with q | q
  · exact s.apart b q hf
  · have := s.old b hf
    omega

theorem Spot.grown {t : T h} (s : Spot w lo h t fo pre post root) (hg : w.grownBy w' none) : Spot w' lo h t fo pre post root :=
  s.work (Moved.of_grown hg _) (s.ok.same fun b hb => hg.block b (s.ok.lies.lt b hb) (by simp)) rfl

theorem Spot.down {d : Hd} {A B : List (T h)} {c : T h} {a b : List Ent} (s : Spot w lo (h + 1) (d, A ++ c :: B) fo pre post root) (he : d.es = a ++ b) (hA : A.length = a.length) :
    Spot w 15 h c (fo ++ (d.own ++ A.flatMap (blocks h) ++ B.flatMap (blocks h))) (pre ++ inter a (A.map (flat h))) (tl b (B.map (flat h)) ++ post) root := by
  have hca := s.ok.child_apart
  have hin : ∀ x ∈ d.own ++ A.flatMap (blocks h) ++ B.flatMap (blocks h), x ∈ blocks (h + 1) (d, A ++ c :: B) := by
    intro x hx
    simp only [blocks, List.flatMap_append, List.flatMap_cons, List.mem_append] at hx ⊢
    rcases hx with (hx | hx) | hx <;> simp [hx]
  refine ⟨s.ok.child, s.hole.down s.ok he hA rfl s.apart, fun x hx hf => ?_, fun x hx => ?_⟩
  · rcases List.mem_append.1 hf with q | q
    · refine s.apart x ?_ q
      simp only [blocks, List.flatMap_append, List.flatMap_cons, List.mem_append]
      simp [hx]
    · exact hca x hx q
  · rcases List.mem_append.1 hx with q | q
    · exact s.old x q
    · exact s.ok.lies.lt x (hin x q)

theorem down_mem {d : Hd} {A B : List (T h)} {c : T h} {x : Nat} : x ∈ (fo ++ (d.own ++ A.flatMap (blocks h) ++ B.flatMap (blocks h))) ++ blocks h c ↔ x ∈ fo ++ blocks (h + 1) (d, A ++ c :: B) := by
  simp only [blocks, List.flatMap_append, List.flatMap_cons, List.mem_append]
  constructor
  · rintro ((q | ((q | q) | q)) | q) <;> simp [q]
  · rintro (q | q | q | q | q) <;> simp [q]

theorem Spot.whole {t : T h} (s : Spot w lo h t fo pre post root) : ∃ (H : Nat) (u : T H), Ok w (min H 1) H u ∧ (hd H u).p = root ∧ flat H u = pre ++ flat h t ++ post ∧ ∀ b ∈ blocks H u, b ∈ fo ∨ b ∈ blocks h t :=
  s.hole w t (fun _ _ => rfl) s.ok rfl s.apart

theorem spot_top {t : T h} (o : Ok w (min h 1) h t) : Spot w (min h 1) h t [] [] [] (hd h t).p :=
  ⟨o, hole_top w h _, fun _ _ hb => by simp at hb, fun _ hb => by simp at hb⟩
end

/-- An entry of the node in its tree's list. -/
theorem flat_at {h : Nat} {t : T h} {a b : List Ent} {e : Ent} (hs : Cnt h (hd h t).es.length (subs h t).length) (he : (hd h t).es = a ++ e :: b) :
    ∃ X Y, flat h t = X ++ e :: Y ∧ ∀ (d' : Hd) (e' : Ent), d'.es = a ++ e' :: b → flat h (mk h d' (subs h t)) = X ++ e' :: Y := by
  have hl : Cnt h a.length ((subs h t).take (a.length + 1)).length := by
    refine cnt_mk ?_
    rcases cnt_cases hs with h0 | h0
    · exact .inl h0
    · refine .inr ?_
      rw [List.length_take, h0, he]
      simp only [List.length_append, List.length_cons]
      omega
  refine ⟨fl h a (((subs h t).take (a.length + 1)).map (sflat h)), fl h b (((subs h t).drop (a.length + 1)).map (sflat h)), ?_, fun d' e' hd' => ?_⟩
  · rw [flat_subs, he]
    conv => lhs; rw [← List.take_append_drop (a.length + 1) (subs h t), List.map_append]
    exact fl_mid (by rw [List.length_map]; exact hl)
  · rw [flat_subs, hd_mk, subs_mk, hd']
    conv => lhs; rw [← List.take_append_drop (a.length + 1) (subs h t), List.map_append]
    exact fl_mid (by rw [List.length_map]; exact hl)

theorem srt_bef {X Y : List Ent} {e : Ent} (hs : Srt (X ++ e :: Y)) : Bef X e.1 ∧ Aft Y e.1 := by
  obtain ⟨h1, h2, h3⟩ := srt_app.1 hs
  exact ⟨fun x hx => h3 x hx e (by simp), fun y hy => (srt_cons.1 h2).1 y hy⟩

/-- The tree of a store. -/
structure TreeAt (w : World) (st : Nat) (L : List Ent) (bs : List Nat) : Prop where
  tree : ∃ (H : Nat) (u : T H) (ah : Value), BlockAt w st 74 [ptr (hd H u).p, .int .i64 L.length, ah] ∧ Ok w (min H 1) H u ∧ flat H u = L ∧ st ∉ blocks H u ∧ ∀ b, b ∈ bs ↔ b = st ∨ b ∈ blocks H u
  srt : Srt L

end Go.Proofs.Qxb6601380a
