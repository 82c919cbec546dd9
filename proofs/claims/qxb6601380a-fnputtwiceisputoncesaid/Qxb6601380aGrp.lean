/-
  A few nodes in memory, worked on step by step: what a store of a new slice, a new node, a grown heap do to them. No program is walked here.
-/
import Derived.Test.Qxb6601380aTree
import Derived.Test.Qxb6601380aApp
namespace Go.Proofs.Qxb6601380a
open Go.RowKit

def owns (G : List (Hd × List Nat)) : List Nat := G.flatMap fun x => x.1.own

/-- The nodes G lie in w, apart from one another; since w0 nothing moved but the blocks bs0. -/
structure Grp (w0 : World) (bs0 : List Nat) (w : World) (G : List (Hd × List Nat)) : Prop where
  nodes : ∀ x ∈ G, NodeAt w x.1 x.2
  apart : (owns G).Nodup
  moved : Moved w0 w bs0 (owns G)

theorem owns_mid (A B : List (Hd × List Nat)) (x : Hd × List Nat) : owns (A ++ x :: B) = owns A ++ (x.1.own ++ owns B) := by simp [owns]

theorem Grp.lt {w0 w : World} {bs0 : List Nat} {G : List (Hd × List Nat)} (g : Grp w0 bs0 w G) : ∀ b ∈ owns G, b < w.heap.size := by
  intro b hb
  obtain ⟨x, hx, m⟩ := List.mem_flatMap.1 hb
  exact (g.nodes x hx).lt b m

theorem swap_in {X Y p a a' c : List Nat} {N : Nat} (h : (X ++ ((p ++ (a ++ c)) ++ Y)).Nodup) (hlt : ∀ b ∈ X ++ ((p ++ (a ++ c)) ++ Y), b < N) (ha : a'.Nodup) (hp : ∀ b ∈ a', b ∈ a ∨ N ≤ b) : (X ++ ((p ++ (a' ++ c)) ++ Y)).Nodup := by
  have e : ∀ z : List Nat, X ++ ((p ++ (z ++ c)) ++ Y) = X ++ (p ++ (z ++ (c ++ Y))) := fun z => by simp
  rw [e] at h hlt ⊢
  obtain ⟨h1, _, h3⟩ := nodup_mid.1 h
  refine nodup_mid.2 ⟨h1, ha, fun b hb hm => ?_⟩
  rcases hp b hb with m | m
  · exact h3 b m hm
  · have := hlt b (by simp only [List.mem_append] at hm ⊢; rcases hm with (hm | hm) | hm | hm <;> simp [hm])
    omega

theorem opt_nodup (o : Option Nat) : o.toList.Nodup := by cases o <;> simp

section
variable {w0 w w1 : World} {bs0 : List Nat} {A B : List (Hd × List Nat)} {d : Hd} {ks : List Nat} {v v' : Value}

/-- Of a grown heap nothing is felt. -/
theorem Grp.grown {G : List (Hd × List Nat)} (g : Grp w0 bs0 w G) (h : w.grownBy w1 none) : Grp w0 bs0 w1 G := by
  have hs : ∀ b ∈ owns G, w1.heap[b]? = w.heap[b]? := fun b hb => h.block b (g.lt b hb) (by simp)
  refine ⟨fun x hx => (g.nodes x hx).same fun b m => hs b (List.mem_flatMap.2 ⟨x, hx, m⟩), g.apart, ?_⟩
  have m := g.moved
  refine ⟨h.os.trans m.os, h.tape.trans m.tape, h.output.trans m.output, Nat.le_trans m.size h.size, fun b hb hn => ?_, m.place⟩
  have := m.size
  rw [h.block b (by omega) (by simp), m.block b hb hn]

/-- Some of the nodes are worked on; the others stay. -/
theorem Grp.frame {M M' : List (Hd × List Nat)} (g : Grp w0 bs0 w (A ++ (M ++ B))) (k : Grp w (owns M) w1 M') : Grp w0 bs0 w1 (A ++ (M' ++ B)) := by
  have e : ∀ Z : List (Hd × List Nat), owns (A ++ (Z ++ B)) = [] ++ (owns A ++ (owns Z ++ owns B)) := fun Z => by simp [owns]
  have hap := g.apart
  have hlt := g.lt
  rw [e] at hap hlt
  obtain ⟨n1, n2, n3⟩ := nodup_mid.1 hap
  have m := g.moved
  have ms := m.size
  have km := k.moved
  have hout : ∀ b ∈ [] ++ owns A ++ owns B, w1.heap[b]? = w.heap[b]? := fun b hb =>
    km.block b (hlt b (by simp only [List.mem_append] at hb ⊢; rcases hb with (hb | hb) | hb <;> simp [hb])) fun hm => n3 b hm hb
  refine ⟨fun x hx => ?_, ?_, ?_⟩
  · simp only [List.mem_append] at hx
    rcases hx with h | h | h
    · exact (g.nodes x (by simp [h])).same fun b hb => hout b (List.mem_append_left _ (List.mem_append_right _ (List.mem_flatMap.2 ⟨x, h, hb⟩)))
    · exact k.nodes x h
    · exact (g.nodes x (by simp [h])).same fun b hb => hout b (List.mem_append_right _ (List.mem_flatMap.2 ⟨x, h, hb⟩))
  · rw [e]
    refine nodup_mid.2 ⟨n1, k.apart, fun b hb hm => ?_⟩
    rcases km.place b hb with q | q
    · exact n3 b q hm
    · have := hlt b (by simp only [List.mem_append] at hm ⊢; rcases hm with (hm | hm) | hm <;> simp [hm])
      omega
  · refine ⟨km.os.trans m.os, km.tape.trans m.tape, km.output.trans m.output, Nat.le_trans m.size km.size, fun b hb hn => ?_, fun b hb => ?_⟩
    · rw [km.block b (by omega) fun hm => ?_, m.block b hb hn]
      rcases m.place b (by rw [e]; simp [hm]) with q | q
      · exact hn q
      · omega
    · have hmp := m.place
      rw [e] at hb hmp
      simp only [List.mem_append] at hb hmp
      rcases hb with hb | hb | hb | hb
      · simp at hb
      · exact hmp b (.inr (.inl hb))
      · rcases km.place b hb with q | q
        · exact hmp b (.inr (.inr (.inl q)))
        · exact .inr (by omega)
      · exact hmp b (.inr (.inr (.inr hb)))

theorem Grp.start {G : List (Hd × List Nat)} (h : ∀ x ∈ G, NodeAt w x.1 x.2) (hn : (owns G).Nodup) : Grp w (owns G) w G :=
  ⟨h, hn, rfl, rfl, rfl, Nat.le_refl _, fun _ _ _ => rfl, fun _ h => .inl h⟩

theorem owns_one : owns [(d, ks)] = d.own := by simp [owns]

theorem own_ne (hown : d.own.Nodup) : some d.p ≠ d.ve.ownBlock ∧ some d.p ≠ d.vc.ownBlock ∧ ∀ b ∈ d.vc.ownBlock.toList, some b ≠ d.ve.ownBlock := by
  refine ⟨fun e => ?_, fun e => ?_, fun b hb e => ?_⟩
  · simp [Hd.own, ← e] at hown
  · simp [Hd.own, ← e] at hown
  · simp only [Hd.own, List.nodup_cons, List.nodup_append] at hown
    exact hown.2.2.2 b (by rw [← e]; simp) b hb rfl

theorem kept_place (K : Kept w w1 v v') : ∀ b ∈ v'.ownBlock.toList, b ∈ v.ownBlock.toList ∨ w.heap.size ≤ b := by
  intro b hb
  rcases K.place b (by simpa using hb) with m | m
  · exact .inl (by simp [m])
  · exact .inr m

/-- The entries' row of one node is another now; the node's own cell not yet, or it is the same slice. -/
theorem one_row {es' : List Ent} (hN : NodeAt w d ks) (hown : d.own.Nodup) (hg : w.grownBy w1 d.ve.ownBlock) (ho : w1.ownsRow 0 36 2 d.ve es'.length (ecells es')) :
    Grp w (owns [(d, ks)]) w1 [({ d with es := es' }, ks)] := by
  obtain ⟨hpe, hpc, hec⟩ := own_ne hown
  refine ⟨fun x hx => ?_, by rw [owns_one]; exact hown, hg.os, hg.tape, hg.output, hg.size, fun b hb hn => ?_, fun b hb => .inl ?_⟩
  · rw [List.mem_singleton.1 hx]
    exact ⟨hN.node.grown hg hpe, ho, ownsRow_same hN.kids fun b hb => hg.block b (hN.kids.lt b (by simpa using hb)).2 (hec b hb), hN.leaf⟩
  · rw [owns_one] at hn
    exact hg.block b hb fun e => hn (by simp [Hd.own, ← e])
  · rw [owns_one] at hb ⊢
    exact hb

/-- A new entries' slice is laid in a node. -/
theorem one_ents {es' : List Ent} (hN : NodeAt w d ks) (hown : d.own.Nodup) (K : Kept w w1 d.ve v') (ho : w1.ownsRow 0 36 2 v' es'.length (ecells es')) :
    Grp w (owns [(d, ks)]) (w1.setCell ⟨d.p, 0, none⟩ v') [({ d with ve := v', es := es' }, ks)] := by
  obtain ⟨hpe, hpc, hec⟩ := own_ne hown
  have hpl : d.p < w.heap.size := hN.node.lt
  have hp := kept_place K
  have hne : ∀ b ∈ v'.ownBlock.toList, b ≠ d.p := by
    intro b hb e
    rcases hp b hb with m | m
    · exact hpe (by rw [← e]; exact (Option.mem_toList.1 m).symm)
    · omega
  have hoth : ∀ b, b < w.heap.size → b ≠ d.p → some b ≠ d.ve.ownBlock → (w1.setCell ⟨d.p, 0, none⟩ v').heap[b]? = w.heap[b]? := fun b hb h1 h2 => by
    rw [Below.heap_setCell _ _ _ _ (by exact h1), K.grown.block b hb h2]
  refine ⟨fun x hx => ?_, ?_, K.grown.os, K.grown.tape, K.grown.output, Nat.le_trans K.grown.size (grown_set _ _ _ _).size, fun b hb hn => ?_, fun b hb => ?_⟩
  · rw [List.mem_singleton.1 hx]
    refine ⟨(hN.node.grown K.grown hpe).set 0 v', ownsRow_same ho fun b hb => Below.heap_setCell _ _ _ _ (by exact hne b hb), ownsRow_same hN.kids fun b hb => ?_, hN.leaf⟩
    exact hoth b (hN.kids.lt b (by simpa using hb)).2 (fun e => hpc (by rw [← e]; exact (Option.mem_toList.1 hb).symm)) (hec b hb)
  · rw [owns_one]
    have := swap_in (X := []) (Y := []) (p := [d.p]) (a := d.ve.ownBlock.toList) (a' := v'.ownBlock.toList) (c := d.vc.ownBlock.toList) (N := w.heap.size) (by simpa [Hd.own] using hown) (by simpa [Hd.own] using hN.lt) (opt_nodup _) hp
    simpa [Hd.own] using this
  · rw [owns_one] at hn
    exact hoth b hb (fun e => hn (by rw [e]; exact List.mem_cons_self ..)) (fun e => hn (by simp [Hd.own, ← e]))
  · rw [owns_one] at hb ⊢
    simp only [Hd.own, List.mem_append, List.mem_cons] at hb ⊢
    rcases hb with hb | hb | hb
    · exact .inl (.inl hb)
    · rcases hp b hb with q | q
      · exact .inl (.inr (.inl q))
      · exact .inr q
    · exact .inl (.inr (.inr hb))

/-- A new children's slice is laid in a node. -/
theorem one_kids {ks' : List Nat} (hN : NodeAt w d ks) (hown : d.own.Nodup) (K : Kept w w1 d.vc v') (ho : w1.ownsRow 0 64 1 v' ks'.length (ks'.map ptr)) (hlf : ks' = [] → v' = .slice none 0 0) :
    Grp w (owns [(d, ks)]) (w1.setCell ⟨d.p, 1, none⟩ v') [({ d with vc := v' }, ks')] := by
  obtain ⟨hpe, hpc, hec⟩ := own_ne hown
  have hpl : d.p < w.heap.size := hN.node.lt
  have hp := kept_place K
  have hce : ∀ b ∈ d.ve.ownBlock.toList, some b ≠ d.vc.ownBlock := fun b hb e => hec b (by simp [← e]) (Option.mem_toList.1 hb).symm
  have hne : ∀ b ∈ v'.ownBlock.toList, b ≠ d.p := by
    intro b hb e
    rcases hp b hb with m | m
    · exact hpc (by rw [← e]; exact (Option.mem_toList.1 m).symm)
    · omega
  have hoth : ∀ b, b < w.heap.size → b ≠ d.p → some b ≠ d.vc.ownBlock → (w1.setCell ⟨d.p, 1, none⟩ v').heap[b]? = w.heap[b]? := fun b hb h1 h2 => by
    rw [Below.heap_setCell _ _ _ _ (by exact h1), K.grown.block b hb h2]
  refine ⟨fun x hx => ?_, ?_, K.grown.os, K.grown.tape, K.grown.output, Nat.le_trans K.grown.size (grown_set _ _ _ _).size, fun b hb hn => ?_, fun b hb => ?_⟩
  · rw [List.mem_singleton.1 hx]
    refine ⟨(hN.node.grown K.grown hpc).set 1 v', ownsRow_same hN.ents fun b hb => ?_, ownsRow_same ho fun b hb => Below.heap_setCell _ _ _ _ (by exact hne b hb), hlf⟩
    exact hoth b (hN.ents.lt b (by simpa using hb)).2 (fun e => hpe (by rw [← e]; exact (Option.mem_toList.1 hb).symm)) (hce b hb)
  · rw [owns_one]
    have := swap_in (X := []) (Y := []) (p := d.p :: d.ve.ownBlock.toList) (a := d.vc.ownBlock.toList) (a' := v'.ownBlock.toList) (c := []) (N := w.heap.size) (by simpa [Hd.own] using hown) (by simpa [Hd.own] using hN.lt) (opt_nodup _) hp
    simpa [Hd.own] using this
  · rw [owns_one] at hn
    exact hoth b hb (fun e => hn (by rw [e]; exact List.mem_cons_self ..)) (fun e => hn (by simp [Hd.own, ← e]))
  · rw [owns_one] at hb ⊢
    simp only [Hd.own, List.mem_append, List.mem_cons] at hb ⊢
    rcases hb with hb | hb | hb
    · exact .inl (.inl hb)
    · exact .inl (.inr (.inl hb))
    · rcases hp b hb with q | q
      · exact .inl (.inr (.inr q))
      · exact .inr q

/-- A node made anew, of an entries' row made anew. -/
theorem one_new {es' : List Ent} (hg : w.grownBy w1 none) (ho : w1.ownsRow w.heap.size 36 2 v' es'.length (ecells es')) :
    Grp w (owns []) (w1.alloc (.cells #[v', .slice none 0 0] 89)) [(⟨w1.heap.size, v', .slice none 0 0, es'⟩, [])] := by
  have hs := hg.size
  refine ⟨fun x hx => ?_, ?_, hg.os, hg.tape, hg.output, Nat.le_trans hg.size (World.grownBy_alloc _ _ none).size, fun b hb _ => ?_, fun b hb => .inr ?_⟩
  · rw [List.mem_singleton.1 hx]
    refine ⟨blockAt_new w1 89 [v', .slice none 0 0], ?_, ⟨rfl, .inl ⟨rfl, rfl⟩⟩, fun _ => rfl⟩
    refine ownsRow_same (w := w1) ⟨ho.1, ?_⟩ fun b hb => Below.heap_alloc _ _ _ (ho.lt b (by simpa using hb)).2
    rcases ho.2 with h | ⟨g, cap, cur, h1, _, h2⟩
    · exact .inl h
    · exact .inr ⟨g, cap, cur, h1, Nat.zero_le _, h2⟩
  · rw [owns_one]
    simp only [Hd.own, List.nodup_cons]
    refine ⟨fun hm => ?_, by simpa [Value.ownBlock] using opt_nodup v'.ownBlock⟩
    simp only [List.mem_append] at hm
    rcases hm with hm | hm
    · have := (ho.lt _ (by simpa using hm)).2
      omega
    · simp [Value.ownBlock] at hm
  · rw [Below.heap_alloc _ _ _ (by omega), hg.block b hb (by simp)]
  · rw [owns_one] at hb
    simp only [Hd.own, List.mem_append, List.mem_cons] at hb
    rcases hb with hb | hb | hb
    · omega
    · exact (ho.lt b (by simpa using hb)).1
    · simp [Value.ownBlock] at hb

end
end Go.Proofs.Qxb6601380a
