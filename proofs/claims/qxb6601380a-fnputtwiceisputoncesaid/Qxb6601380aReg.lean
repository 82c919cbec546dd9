/-
  A tree whose upper two nodes' rows are worked on: what is below is handed about as it is. No program is walked here.
-/
import Derived.Test.Qxb6601380aGrp
namespace Go.Proofs.Qxb6601380a
open Go.RowKit

/-- What stands below a node of height h. -/
def Sub : Nat → Type
  | 0 => Empty
  | h + 1 => T h

def mk : (h : Nat) → Hd → List (Sub h) → T h
  | 0, d, _ => d
  | _ + 1, d, l => (d, l)

def subs : (h : Nat) → T h → List (Sub h)
  | 0, _ => []
  | _ + 1, t => t.2

def sblocks : (h : Nat) → Sub h → List Nat
  | 0, _ => []
  | h + 1, t => blocks h t

def sp : (h : Nat) → Sub h → Nat
  | 0, _ => 0
  | h + 1, t => (hd h t).p

def sflat : (h : Nat) → Sub h → List Ent
  | 0, _ => []
  | h + 1, t => flat h t

def slies (w : World) : (h : Nat) → Sub h → Prop
  | 0, _ => True
  | h + 1, t => Lies w h t

def sshape : (h : Nat) → Sub h → Prop
  | 0, _ => True
  | h + 1, t => Shape 15 h t

/-- The entries of a node between what is below. -/
def fl : Nat → List Ent → List (List Ent) → List Ent
  | 0, es, _ => es
  | _ + 1, es, ls => inter es ls

theorem sub0 : ∀ l : List (Sub 0), l = []
  | [] => rfl
  | x :: _ => nomatch (show Empty from x)

theorem mk_eta : ∀ (h : Nat) (t : T h), mk h (hd h t) (subs h t) = t
  | 0, _ => rfl
  | _ + 1, _ => rfl

theorem hd_mk : ∀ (h : Nat) (d : Hd) (l : List (Sub h)), hd h (mk h d l) = d
  | 0, _, _ => rfl
  | _ + 1, _, _ => rfl

theorem subs_mk : ∀ (h : Nat) (d : Hd) (l : List (Sub h)), subs h (mk h d l) = l
  | 0, _, l => (sub0 l).symm
  | _ + 1, _, _ => rfl

theorem blocks_subs : ∀ (h : Nat) (t : T h), blocks h t = (hd h t).own ++ (subs h t).flatMap (sblocks h)
  | 0, t => by simp [blocks, hd, subs]
  | _ + 1, _ => rfl

theorem kps_subs : ∀ (h : Nat) (t : T h), kps h t = (subs h t).map (sp h)
  | 0, _ => rfl
  | _ + 1, _ => rfl

theorem kps_mk (h : Nat) (d : Hd) (l : List (Sub h)) : kps h (mk h d l) = l.map (sp h) := by rw [kps_subs, subs_mk]

theorem flat_subs : ∀ (h : Nat) (t : T h), flat h t = fl h (hd h t).es ((subs h t).map (sflat h))
  | 0, _ => rfl
  | _ + 1, _ => rfl

theorem lies_subs {w : World} : ∀ {h : Nat} {t : T h}, Lies w h t ↔ NodeAt w (hd h t) (kps h t) ∧ ∀ x ∈ subs h t, slies w h x
  | 0, _ => ⟨fun h => ⟨h, fun _ hx => by simp [subs] at hx⟩, fun h => h.1⟩
  | _ + 1, _ => Iff.rfl

/-- As many below as the entries ask for. -/
def Cnt : Nat → Nat → Nat → Prop
  | 0, _, _ => True
  | _ + 1, n, m => m = n + 1

theorem shape_subs : ∀ {lo h : Nat} {t : T h}, Shape lo h t ↔ lo ≤ (hd h t).es.length ∧ (hd h t).es.length ≤ 31 ∧ Cnt h (hd h t).es.length (subs h t).length ∧ ∀ x ∈ subs h t, sshape h x
  | _, 0, _ => ⟨fun h => ⟨h.1, h.2, trivial, fun _ hx => by simp [subs] at hx⟩, fun h => ⟨h.1, h.2.1⟩⟩
  | _, _ + 1, _ => Iff.rfl

theorem slies_same {w w' : World} : ∀ {h : Nat} {x : Sub h}, slies w h x → (∀ b ∈ sblocks h x, w'.heap[b]? = w.heap[b]?) → slies w' h x
  | 0, _, _, _ => trivial
  | _ + 1, _, l, hb => Lies.same (h := _) l hb

theorem slies_lt {w : World} : ∀ {h : Nat} {x : Sub h}, slies w h x → ∀ b ∈ sblocks h x, b < w.heap.size
  | 0, _, _, _, hb => by simp [sblocks] at hb
  | _ + 1, _, l, b, hb => Lies.lt (h := _) l b hb

/-- The head of each. -/
def heads (h : Nat) (M : List (T h)) : List (Hd × List Nat) := M.map fun t => (hd h t, kps h t)

theorem owns_heads (h : Nat) (M : List (T h)) : owns (heads h M) = M.flatMap fun t => (hd h t).own := by
  simp [owns, heads, List.flatMap_map]

theorem blocks_perm (h : Nat) : ∀ M : List (T h), (M.flatMap (blocks h)).Perm (owns (heads h M) ++ (M.flatMap (subs h)).flatMap (sblocks h))
  | [] => by simp [heads, owns]
  | t :: M => by
    have ih := blocks_perm h M
    rw [owns_heads] at ih ⊢
    simp only [List.flatMap_cons, List.flatMap_append]
    rw [blocks_subs h t]
    refine ((List.Perm.append_left _ ih).trans ?_)
    simp only [List.append_assoc]
    refine List.Perm.append_left _ ?_
    rw [← List.append_assoc, ← List.append_assoc]
    exact List.Perm.append_right _ List.perm_append_comm

/-- The rest: what is not worked on. -/
def rests (h : Nat) (A B : List (T h)) (S : List (Sub h)) : List Nat := A.flatMap (blocks h) ++ (S.flatMap (sblocks h) ++ B.flatMap (blocks h))

theorem tree_perm (h : Nat) (d : Hd) (ks : List Nat) (A M B : List (T h)) :
    (blocks (h + 1) (d, A ++ (M ++ B))).Perm (owns ((d, ks) :: heads h M) ++ rests h A B (M.flatMap (subs h))) := by
  have e : owns ((d, ks) :: heads h M) = d.own ++ owns (heads h M) := by simp [owns]
  rw [e]
  simp only [blocks, rests, List.flatMap_append, List.append_assoc]
  refine List.Perm.append_left _ ?_
  have h1 := blocks_perm h M
  refine (List.Perm.append_left _ (List.Perm.append_right _ h1)).trans ?_
  simp only [List.append_assoc]
  rw [← List.append_assoc, ← List.append_assoc (owns (heads h M))]
  exact List.Perm.append_right _ List.perm_append_comm

def kids (h : Nat) (l : List (T h)) : List Nat := l.map fun k => (hd h k).p

theorem Ok.grp {w : World} {lo h : Nat} {d : Hd} {A M B : List (T h)} (o : Ok w lo (h + 1) (d, A ++ (M ++ B))) :
    Grp w (owns ((d, kids h (A ++ (M ++ B))) :: heads h M)) w ((d, kids h (A ++ (M ++ B))) :: heads h M) := by
  refine Grp.start (fun x hx => ?_) ?_
  · rcases List.mem_cons.1 hx with rfl | hx
    · exact o.lies.1
    · obtain ⟨t, ht, rfl⟩ := List.mem_map.1 hx
      exact lies_node (o.lies.2 t (by simp [ht]))
  · exact (List.nodup_append.1 ((tree_perm h d (kids h (A ++ (M ++ B))) A M B).nodup_iff.1 o.apart)).1

theorem regroup {w w' : World} {lo lo' h : Nat} {d d' : Hd} {A M M' B : List (T h)} (o : Ok w lo (h + 1) (d, A ++ (M ++ B)))
    (g : Grp w (owns ((d, kids h (A ++ (M ++ B))) :: heads h M)) w' ((d', kids h (A ++ (M' ++ B))) :: heads h M'))
    (hS : M'.flatMap (subs h) = M.flatMap (subs h)) (h15 : lo' ≤ d'.es.length) (h31 : d'.es.length ≤ 31) (hcnt : (A ++ (M' ++ B)).length = d'.es.length + 1)
    (hM : ∀ t ∈ M', 15 ≤ (hd h t).es.length ∧ (hd h t).es.length ≤ 31 ∧ Cnt h (hd h t).es.length (subs h t).length) :
    Ok w' lo' (h + 1) (d', A ++ (M' ++ B)) ∧ Moved w w' (blocks (h + 1) (d, A ++ (M ++ B))) (blocks (h + 1) (d', A ++ (M' ++ B))) := by
  have p1 := tree_perm h d (kids h (A ++ (M ++ B))) A M B
  have p2 := tree_perm h d' (kids h (A ++ (M' ++ B))) A M' B
  rw [hS] at p2
  have hn := p1.nodup_iff.1 o.apart
  obtain ⟨_, hn2, hn3⟩ := List.nodup_append.1 hn
  have hlt : ∀ b ∈ rests h A B (M.flatMap (subs h)), b < w.heap.size := fun b hb => o.lies.lt b (p1.mem_iff.2 (List.mem_append_right _ hb))
  have hsame : ∀ b ∈ rests h A B (M.flatMap (subs h)), w'.heap[b]? = w.heap[b]? := fun b hb => g.moved.block b (hlt b hb) fun hm => hn3 b hm b hb rfl
  have hold : ∀ t ∈ A ++ (M ++ B), Lies w h t ∧ Shape 15 h t := fun t ht => ⟨o.lies.2 t ht, o.shape.2.2.2 t ht⟩
  have hsub : ∀ x ∈ M.flatMap (subs h), slies w h x ∧ sshape h x := by
    intro x hx
    obtain ⟨t, ht, hx⟩ := List.mem_flatMap.1 hx
    obtain ⟨l, s⟩ := hold t (by simp [ht])
    exact ⟨(lies_subs.1 l).2 x hx, (shape_subs.1 s).2.2.2 x hx⟩
  have hside : ∀ t, t ∈ A ∨ t ∈ B → Lies w' h t ∧ Shape 15 h t := by
    intro t ht
    obtain ⟨l, s⟩ := hold t (by rcases ht with ht | ht <;> simp [ht])
    refine ⟨l.same fun b hb => hsame b ?_, s⟩
    rcases ht with ht | ht
    · exact List.mem_append_left _ (List.mem_flatMap.2 ⟨t, ht, hb⟩)
    · exact List.mem_append_right _ (List.mem_append_right _ (List.mem_flatMap.2 ⟨t, ht, hb⟩))
  have hmid : ∀ t ∈ M', Lies w' h t ∧ Shape 15 h t := by
    intro t ht
    have hs : ∀ x ∈ subs h t, x ∈ M.flatMap (subs h) := fun x hx => by rw [← hS]; exact List.mem_flatMap.2 ⟨t, ht, hx⟩
    obtain ⟨q1, q2, q3⟩ := hM t ht
    refine ⟨lies_subs.2 ⟨g.nodes (hd h t, kps h t) (List.mem_cons_of_mem _ (List.mem_map.2 ⟨t, ht, rfl⟩)), fun x hx => ?_⟩, shape_subs.2 ⟨q1, q2, q3, fun x hx => (hsub x (hs x hx)).2⟩⟩
    exact slies_same (hsub x (hs x hx)).1 fun b hb => hsame b (List.mem_append_right _ (List.mem_append_left _ (List.mem_flatMap.2 ⟨x, hs x hx, hb⟩)))
  have hall : ∀ t ∈ A ++ (M' ++ B), Lies w' h t ∧ Shape 15 h t := by
    intro t ht
    simp only [List.mem_append] at ht
    rcases ht with ht | ht | ht
    · exact hside t (.inl ht)
    · exact hmid t ht
    · exact hside t (.inr ht)
  refine ⟨⟨⟨g.nodes _ (List.mem_cons_self ..), fun t ht => (hall t ht).1⟩, ⟨h15, h31, hcnt, fun t ht => (hall t ht).2⟩, p2.nodup_iff.2 ?_⟩, ?_⟩
  · refine List.nodup_append.2 ⟨g.apart, hn2, fun a ha b hb e => ?_⟩
    subst e
    rcases g.moved.place a ha with q | q
    · exact hn3 a q a hb rfl
    · have := hlt a hb
      omega
  · have m := g.moved
    refine ⟨m.os, m.tape, m.output, m.size, fun b hb hx => m.block b hb fun hm => hx (p1.mem_iff.2 (List.mem_append_left _ hm)), fun b hb => ?_⟩
    rcases List.mem_append.1 (p2.mem_iff.1 hb) with q | q
    · rcases m.place b q with q | q
      · exact .inl (p1.mem_iff.2 (List.mem_append_left _ q))
      · exact .inr q
    · exact .inl (p1.mem_iff.2 (List.mem_append_right _ q))

/-- A node that is let go. -/
theorem Grp.less {w0 w : World} {bs0 : List Nat} {G E : List (Hd × List Nat)} (g : Grp w0 bs0 w (G ++ E)) : Grp w0 bs0 w G := by
  have e : owns (G ++ E) = owns G ++ owns E := by simp [owns]
  have ha := g.apart
  have m := g.moved
  rw [e] at ha
  refine ⟨fun x hx => g.nodes x (List.mem_append_left _ hx), (List.nodup_append.1 ha).1, m.os, m.tape, m.output, m.size, m.block, fun b hb => m.place b ?_⟩
  rw [e]
  exact List.mem_append_left _ hb

/-- Entries and what is below, parted about one entry. -/
theorem fl_mid {h : Nat} {a b : List Ent} {e : Ent} {la lb : List (List Ent)} (hl : Cnt h a.length la.length) : fl h (a ++ e :: b) (la ++ lb) = fl h a la ++ e :: fl h b lb := by
  cases h with
  | zero => rfl
  | succ h =>
    simp only [Cnt] at hl
    rcases List.eq_nil_or_concat la with rfl | ⟨l, x, rfl⟩
    · simp at hl
    · have hl : l.length = a.length := by simpa using hl
      simp only [fl, List.concat_eq_append, List.append_assoc]
      have h1 := inter_app hl (e :: b) ([x] ++ lb)
      have h2 := inter_app hl [] [x]
      simp only [List.append_nil] at h2
      rw [h1, h2]
      simp [inter]

end Go.Proofs.Qxb6601380a
