/-
  Trees as they lie in memory, by height; what a call may change; the rest of a tree about one of its nodes. No program is walked here.
-/
import Derived.Test.Qxb6601380aMem
import Derived.Test.Qxb6601380aPlain
namespace Go.Proofs.Qxb6601380a
open Go.RowKit

/-- A node: its block, its two slices, its entries. -/
structure Hd where
  p : Nat
  ve : Value
  vc : Value
  es : List Ent

/-- A tree of height h: a node, and below it trees of height h - 1. -/
def T : Nat → Type
  | 0 => Hd
  | h + 1 => Hd × List (T h)

def hd : (h : Nat) → T h → Hd
  | 0, t => t
  | _ + 1, t => t.1

/-- The children's blocks. -/
def kps : (h : Nat) → T h → List Nat
  | 0, _ => []
  | h + 1, t => t.2.map fun k => (hd h k).p

def flat : (h : Nat) → T h → List Ent
  | 0, t => t.es
  | h + 1, t => inter t.1.es (t.2.map (flat h))

def Hd.own (d : Hd) : List Nat := d.p :: (d.ve.ownBlock.toList ++ d.vc.ownBlock.toList)

def blocks : (h : Nat) → T h → List Nat
  | 0, t => t.own
  | h + 1, t => t.1.own ++ t.2.flatMap (blocks h)

def ecells (es : List Ent) : List Value := es.flatMap fun e => [.string e.1, .int .u32 e.2]
def ptr (p : Nat) : Value := .pointer (some ⟨p, 0, none⟩)

/-- A node's own cells: the node, its entries' row, its children's row. -/
structure NodeAt (w : World) (d : Hd) (ks : List Nat) : Prop where
  node : BlockAt w d.p 89 [d.ve, d.vc]
  ents : w.ownsRow 0 36 2 d.ve d.es.length (ecells d.es)
  kids : w.ownsRow 0 64 1 d.vc ks.length (ks.map ptr)
  leaf : ks = [] → d.vc = .slice none 0 0

def Lies (w : World) : (h : Nat) → T h → Prop
  | 0, t => NodeAt w t []
  | h + 1, t => NodeAt w t.1 (t.2.map fun k => (hd h k).p) ∧ ∀ k ∈ t.2, Lies w h k

/-- From lo to 31 entries, one child more; below, from 15. -/
def Shape : Nat → (h : Nat) → T h → Prop
  | lo, 0, t => lo ≤ t.es.length ∧ t.es.length ≤ 31
  | lo, h + 1, t => lo ≤ t.1.es.length ∧ t.1.es.length ≤ 31 ∧ t.2.length = t.1.es.length + 1 ∧ ∀ k ∈ t.2, Shape 15 h k

structure Ok (w : World) (lo h : Nat) (t : T h) : Prop where
  lies : Lies w h t
  shape : Shape lo h t
  apart : (blocks h t).Nodup

theorem ecells_length (es : List Ent) : (ecells es).length = es.length * 2 := by
  induction es with
  | nil => rfl
  | cons e es ih => simp only [ecells, List.flatMap_cons, List.length_append, List.length_cons, List.length_nil] at ih ⊢; omega

theorem ecells_app (a b : List Ent) : ecells (a ++ b) = ecells a ++ ecells b := by simp [ecells]
theorem ecells_take : ∀ (es : List Ent) (i : Nat), (ecells es).take (i * 2) = ecells (es.take i)
  | [], i => by simp [ecells]
  | e :: es, 0 => by simp [ecells]
  | e :: es, i + 1 => by
    have := ecells_take es i
    rw [show (i + 1) * 2 = i * 2 + 2 by omega]
    simp only [ecells, List.flatMap_cons, List.take_succ_cons, List.cons_append, List.nil_append] at this ⊢
    rw [this]
theorem ecells_drop : ∀ (es : List Ent) (i : Nat), (ecells es).drop (i * 2) = ecells (es.drop i)
  | [], i => by simp [ecells]
  | e :: es, 0 => by simp [ecells]
  | e :: es, i + 1 => by
    have := ecells_drop es i
    rw [show (i + 1) * 2 = i * 2 + 2 by omega]
    simp only [ecells, List.flatMap_cons, List.drop_succ_cons, List.cons_append, List.nil_append] at this ⊢
    rw [this]
theorem ecells_one (es : List Ent) : ∀ u ∈ ecells es, u.oneCell' = true := by
  intro u hu
  simp only [ecells, List.mem_flatMap, List.mem_cons, List.not_mem_nil, or_false] at hu
  obtain ⟨e, _, rfl | rfl⟩ := hu <;> rfl
theorem ptrs_one (ks : List Nat) : ∀ u ∈ ks.map ptr, u.oneCell' = true := by
  intro u hu
  obtain ⟨k, _, rfl⟩ := List.mem_map.1 hu
  rfl
theorem ecells_get (es : List Ent) (i : Nat) (h : i < es.length) : (ecells es)[i * 2]? = some (.string es[i].1) ∧ (ecells es)[i * 2 + 1]? = some (.int .u32 es[i].2) := by
  have e : (ecells es).drop (i * 2) = .string es[i].1 :: .int .u32 es[i].2 :: ecells (es.drop (i + 1)) := by
    rw [ecells_drop, List.drop_eq_getElem_cons h]
    rfl
  constructor
  · have := congrArg (·[0]?) e
    simpa using this
  · have := congrArg (·[1]?) e
    simpa using this

theorem lies_node {w : World} : ∀ {h : Nat} {t : T h}, Lies w h t → NodeAt w (hd h t) (kps h t)
  | 0, _, l => l
  | _ + 1, _, l => l.1

theorem own_mem : ∀ {h : Nat} {t : T h} {b : Nat}, b ∈ (hd h t).own → b ∈ blocks h t
  | 0, _, _, hb => hb
  | _ + 1, _, _, hb => List.mem_append_left _ hb

theorem p_mem {h : Nat} {t : T h} : (hd h t).p ∈ blocks h t := own_mem (List.mem_cons_self ..)

/-- Rows live in old blocks. -/
theorem ownsRow_same {w w' : World} {e : TypeId} {s n : Nat} {v : Value} {xs : List Value} (h : w.ownsRow 0 e s v n xs) (hb : ∀ b ∈ v.ownBlock.toList, w'.heap[b]? = w.heap[b]?) : w'.ownsRow 0 e s v n xs := by
  refine ⟨h.1, ?_⟩
  rcases h.2 with h | ⟨g, cap, cur, rfl, h1, h2, h3⟩
  · exact .inl h
  · exact .inr ⟨g, cap, cur, rfl, h1, by rw [hb g (by simp [Value.ownBlock])]; exact h2, h3⟩

theorem NodeAt.same {w w' : World} {d : Hd} {ks : List Nat} (h : NodeAt w d ks) (hb : ∀ b ∈ d.own, w'.heap[b]? = w.heap[b]?) : NodeAt w' d ks :=
  ⟨h.node.same (hb _ (List.mem_cons_self ..)), ownsRow_same h.ents fun b m => hb b (List.mem_cons_of_mem _ (List.mem_append_left _ m)),
    ownsRow_same h.kids fun b m => hb b (List.mem_cons_of_mem _ (List.mem_append_right _ m)), h.leaf⟩

theorem NodeAt.lt {w : World} {d : Hd} {ks : List Nat} (h : NodeAt w d ks) : ∀ b ∈ d.own, b < w.heap.size := by
  intro b hb
  rcases List.mem_cons.1 hb with rfl | hb
  · exact h.node.lt
  · rcases List.mem_append.1 hb with hb | hb
    · exact (h.ents.lt b (by simpa using hb)).2
    · exact (h.kids.lt b (by simpa using hb)).2

theorem Lies.same {w w' : World} : ∀ {h : Nat} {t : T h}, Lies w h t → (∀ b ∈ blocks h t, w'.heap[b]? = w.heap[b]?) → Lies w' h t
  | 0, _, l, hb => NodeAt.same l hb
  | _ + 1, _, l, hb => ⟨NodeAt.same l.1 fun b m => hb b (List.mem_append_left _ m),
      fun k hk => Lies.same (l.2 k hk) fun b m => hb b (List.mem_append_right _ (List.mem_flatMap.2 ⟨k, hk, m⟩))⟩

theorem Lies.lt {w : World} : ∀ {h : Nat} {t : T h}, Lies w h t → ∀ b ∈ blocks h t, b < w.heap.size
  | 0, _, l, b, hb => NodeAt.lt l b hb
  | _ + 1, _, l, b, hb => by
    rcases List.mem_append.1 hb with hb | hb
    · exact NodeAt.lt l.1 b hb
    · obtain ⟨k, hk, m⟩ := List.mem_flatMap.1 hb
      exact Lies.lt (l.2 k hk) b m

theorem Ok.same {w w' : World} {lo h : Nat} {t : T h} (o : Ok w lo h t) (hb : ∀ b ∈ blocks h t, w'.heap[b]? = w.heap[b]?) : Ok w' lo h t :=
  ⟨o.lies.same hb, o.shape, o.apart⟩

theorem Shape.le : ∀ {lo lo' h : Nat} {t : T h}, Shape lo h t → lo' ≤ (hd h t).es.length → Shape lo' h t
  | _, _, 0, _, s, hl => ⟨hl, s.2⟩
  | _, _, _ + 1, _, s, hl => ⟨hl, s.2⟩

theorem Shape.lo : ∀ {lo h : Nat} {t : T h}, Shape lo h t → lo ≤ (hd h t).es.length ∧ (hd h t).es.length ≤ 31
  | _, 0, _, s => s
  | _, _ + 1, _, s => ⟨s.1, s.2.1⟩

/-- What a call that works on the blocks bs leaves: the others as they were; and its new tree lies in bs or in new blocks. -/
structure Moved (w w' : World) (bs bs' : List Nat) : Prop where
  os : w'.os = w.os
  tape : w'.tape = w.tape
  output : w'.output = w.output
  size : w.heap.size ≤ w'.heap.size
  block : ∀ b, b < w.heap.size → b ∉ bs → w'.heap[b]? = w.heap[b]?
  place : ∀ b ∈ bs', b ∈ bs ∨ w.heap.size ≤ b

theorem Moved.trans {w1 w2 w3 : World} {a b c : List Nat} (h : Moved w1 w2 a b) (k : Moved w2 w3 b c) : Moved w1 w3 a c := by
  have hs := h.size
  refine ⟨k.os.trans h.os, k.tape.trans h.tape, k.output.trans h.output, Nat.le_trans h.size k.size, fun i hi hn => ?_, fun i hi => ?_⟩
  · rw [k.block i (by omega) fun m => ?_, h.block i hi hn]
    rcases h.place i m with m | m
    · exact hn m
    · omega
  · rcases k.place i hi with m | m
    · exact h.place i m
    · exact .inr (by omega)

theorem Moved.wide {w w' : World} {a b a' b' : List Nat} (h : Moved w w' a b) (ha : ∀ x ∈ a, x ∈ a') (hb : ∀ x ∈ b', x ∈ b ∨ x ∈ a') : Moved w w' a' b' :=
  ⟨h.os, h.tape, h.output, h.size, fun i hi hn => h.block i hi fun m => hn (ha i m), fun i hi => by
    rcases hb i hi with m | m
    · rcases h.place i m with m | m
      · exact .inl (ha i m)
      · exact .inr m
    · exact .inl m⟩

/-- The rest of a tree about the node at n: whatever tree of its height and bounds is laid there, the whole is a tree again. -/
def Hole (w : World) (lo h n : Nat) (fo : List Nat) (pre post : List Ent) (root : Nat) : Prop :=
  ∀ (w' : World) (t : T h), (∀ b ∈ fo, w'.heap[b]? = w.heap[b]?) → Ok w' lo h t → (hd h t).p = n → (∀ b ∈ blocks h t, b ∉ fo) →
    ∃ (H : Nat) (u : T H), Ok w' (min H 1) H u ∧ (hd H u).p = root ∧ flat H u = pre ++ flat h t ++ post ∧ ∀ b ∈ blocks H u, b ∈ fo ∨ b ∈ blocks h t

theorem hole_top (w : World) (h n : Nat) : Hole w (min h 1) h n [] [] [] n := by
  intro w' t _ o e _
  exact ⟨h, t, o, e, by simp, fun b hb => .inr hb⟩

theorem Hole.same {w w' : World} {lo h n : Nat} {fo : List Nat} {pre post : List Ent} {root : Nat} (k : Hole w lo h n fo pre post root) (hb : ∀ b ∈ fo, w'.heap[b]? = w.heap[b]?) : Hole w' lo h n fo pre post root :=
  fun w2 t h1 o e d => k w2 t (fun b m => (h1 b m).trans (hb b m)) o e d

theorem nodup_mid {own A K B : List Nat} : (own ++ (A ++ (K ++ B))).Nodup ↔ (own ++ A ++ B).Nodup ∧ K.Nodup ∧ ∀ b ∈ K, b ∉ own ++ A ++ B := by
  simp only [List.nodup_append, List.mem_append]
  constructor
  · rintro ⟨h1, ⟨h2, ⟨h3, h4, h5⟩, h6⟩, h7⟩
    refine ⟨⟨⟨h1, h2, fun a ha b hb => h7 a ha b (.inl hb)⟩, h4, fun a ha b hb => ?_⟩, h3, fun b hb h => ?_⟩
    · rcases ha with ha | ha
      · exact h7 a ha b (.inr (.inr hb))
      · exact h6 a ha b (.inr hb)
    · rcases h with (h | h) | h
      · exact h7 b h b (.inr (.inl hb)) rfl
      · exact h6 b h b (.inl hb) rfl
      · exact h5 b hb b h rfl
  · rintro ⟨⟨⟨h1, h2, h3⟩, h4, h5⟩, h6, h7⟩
    refine ⟨h1, ⟨h2, ⟨h6, h4, fun a ha b hb e => h7 a ha (.inr (e ▸ hb))⟩, fun a ha b hb e => ?_⟩, fun a ha b hb e => ?_⟩
    · rcases hb with hb | hb
      · exact h7 b hb (.inl (.inr (e ▸ ha)))
      · exact h5 a (.inr ha) b hb e
    · rcases hb with hb | hb | hb
      · exact h3 a ha b hb e
      · exact h7 b hb (.inl (.inl (e ▸ ha)))
      · exact h5 a (.inl ha) b hb e

/-- One child down. -/
theorem Hole.down {w : World} {lo h n : Nat} {fo : List Nat} {pre post : List Ent} {root : Nat} (k : Hole w lo (h + 1) n fo pre post root)
    {d : Hd} {A B : List (T h)} {c : T h} {a b : List Ent} (o : Ok w lo (h + 1) (d, A ++ c :: B)) (he : d.es = a ++ b) (hA : A.length = a.length) (hn : d.p = n) (hfo : ∀ x ∈ blocks (h + 1) (d, A ++ c :: B), x ∉ fo) :
    Hole w 15 h (hd h c).p (fo ++ (d.own ++ A.flatMap (blocks h) ++ B.flatMap (blocks h))) (pre ++ inter a (A.map (flat h))) (tl b (B.map (flat h)) ++ post) root := by
  intro w' t h1 o' e' hd'
  have hN := o.apart
  simp only [blocks, List.flatMap_append, List.flatMap_cons] at hN
  obtain ⟨hN1, _, _⟩ := nodup_mid.1 hN
  have hsame : ∀ x ∈ d.own ++ A.flatMap (blocks h) ++ B.flatMap (blocks h), w'.heap[x]? = w.heap[x]? := fun x hx => h1 x (List.mem_append_right _ hx)
  obtain ⟨s1, s2, s3, s4⟩ := o.shape
  have ok1 : Ok w' lo (h + 1) (d, A ++ t :: B) := by
    refine ⟨⟨?_, ?_⟩, ⟨s1, s2, by simpa using s3, ?_⟩, ?_⟩
    · have := NodeAt.same (w' := w') o.lies.1 fun x hx => hsame x (List.mem_append_left _ (List.mem_append_left _ hx))
      simpa [e'] using this
    · intro x hx
      rcases List.mem_append.1 hx with hx | hx
      · exact Lies.same (o.lies.2 x (List.mem_append_left _ hx)) fun y hy => hsame y (List.mem_append_left _ (List.mem_append_right _ (List.mem_flatMap.2 ⟨x, hx, hy⟩)))
      · rcases List.mem_cons.1 hx with rfl | hx
        · exact o'.lies
        · exact Lies.same (o.lies.2 x (List.mem_append_right _ (List.mem_cons_of_mem _ hx))) fun y hy => hsame y (List.mem_append_right _ (List.mem_flatMap.2 ⟨x, hx, hy⟩))
    · intro x hx
      rcases List.mem_append.1 hx with hx | hx
      · exact s4 x (List.mem_append_left _ hx)
      · rcases List.mem_cons.1 hx with rfl | hx
        · exact o'.shape
        · exact s4 x (List.mem_append_right _ (List.mem_cons_of_mem _ hx))
    · simp only [blocks, List.flatMap_append, List.flatMap_cons]
      exact nodup_mid.2 ⟨hN1, o'.apart, fun x hx hm => hd' x hx (List.mem_append_right _ hm)⟩
  have hmem : ∀ x ∈ blocks (h + 1) (d, A ++ t :: B), x ∈ d.own ++ A.flatMap (blocks h) ++ B.flatMap (blocks h) ∨ x ∈ blocks h t := by
    intro x hx
    simp only [blocks, List.flatMap_append, List.flatMap_cons, List.mem_append] at hx ⊢
    rcases hx with hx | hx | hx | hx <;> simp [hx]
  have hdis : ∀ x ∈ blocks (h + 1) (d, A ++ t :: B), x ∉ fo := by
    intro x hx hf
    rcases hmem x hx with m | m
    · refine hfo x ?_ hf
      simp only [blocks, List.flatMap_append, List.flatMap_cons, List.mem_append] at m ⊢
      rcases m with (m | m) | m <;> simp [m]
    · exact hd' x m (List.mem_append_left _ hf)
  obtain ⟨H, u, q1, q2, q3, q4⟩ := k w' (d, A ++ t :: B) (fun x hx => h1 x (List.mem_append_left _ hx)) ok1 hn hdis
  refine ⟨H, u, q1, q2, ?_, fun x hx => ?_⟩
  · rw [q3]
    simp only [flat, he, List.map_append, List.map_cons]
    rw [inter_app (by simpa using hA), inter_cons]
    simp
  · rcases q4 x hx with m | m
    · exact .inl (List.mem_append_left _ m)
    · rcases hmem x m with m | m
      · exact .inl (List.mem_append_right _ m)
      · exact .inr m

/-- The child of a good tree is a good tree. -/
theorem Ok.child {w : World} {lo h : Nat} {d : Hd} {A B : List (T h)} {c : T h} (o : Ok w lo (h + 1) (d, A ++ c :: B)) : Ok w 15 h c := by
  have hN := o.apart
  simp only [blocks, List.flatMap_append, List.flatMap_cons] at hN
  exact ⟨o.lies.2 c (by simp), o.shape.2.2.2 c (by simp), (nodup_mid.1 hN).2.1⟩

theorem Ok.child_apart {w : World} {lo h : Nat} {d : Hd} {A B : List (T h)} {c : T h} (o : Ok w lo (h + 1) (d, A ++ c :: B)) : ∀ x ∈ blocks h c, x ∉ d.own ++ A.flatMap (blocks h) ++ B.flatMap (blocks h) := by
  have hN := o.apart
  simp only [blocks, List.flatMap_append, List.flatMap_cons] at hN
  exact (nodup_mid.1 hN).2.2

end Go.Proofs.Qxb6601380a
