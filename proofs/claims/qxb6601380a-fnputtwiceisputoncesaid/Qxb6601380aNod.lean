/-
  A node's cells, read: small facts that the walks of split, merge, fill, put, remove use. No program is walked here.
-/
import Derived.Test.Qxb6601380aReg
namespace Go.Proofs.Qxb6601380a
open Go.RowKit

theorem NodeAt.c0 {w : World} {d : Hd} {ks : List Nat} (h : NodeAt w d ks) : w.cell? ⟨d.p, 0, none⟩ = some d.ve := by rw [h.node.cell]; rfl
theorem NodeAt.c1 {w : World} {d : Hd} {ks : List Nat} (h : NodeAt w d ks) : w.cell? ⟨d.p, 1, none⟩ = some d.vc := by rw [h.node.cell]; rfl
theorem NodeAt.f {w : World} {d : Hd} {ks : List Nat} (h : NodeAt w d ks) (i : Nat) : w.frozen? ⟨d.p, i, none⟩ = false := h.node.frozen i

theorem NodeAt.kidsOpen {w : World} {d : Hd} {ks : List Nat} (h : NodeAt w d ks) (hk : 0 < ks.length) :
    ∃ g cap rest, d.vc = .slice (some ⟨g, 0, none⟩) ks.length cap ∧ ks.length ≤ cap ∧ cap ≤ maxLen ∧ rest.length = cap * 1 - ks.length * 1 ∧ BlockAt w g 64 (ks.map ptr ++ rest) := by
  rcases (own_open h.kids).2 with ⟨_, h0, _⟩ | ⟨g, cap, rest, h1, _, h2, h3, h4, h5⟩
  · omega
  · exact ⟨g, cap, rest, h1, h2, h3, h4, h5⟩

theorem NodeAt.entsOpen {w : World} {d : Hd} {ks : List Nat} (h : NodeAt w d ks) (hk : 0 < d.es.length) :
    ∃ g cap rest, d.ve = .slice (some ⟨g, 0, none⟩) d.es.length cap ∧ d.es.length ≤ cap ∧ cap ≤ maxLen ∧ rest.length = cap * 2 - d.es.length * 2 ∧ BlockAt w g 36 (ecells d.es ++ rest) := by
  rcases (own_open h.ents).2 with ⟨_, h0, _⟩ | ⟨g, cap, rest, h1, _, h2, h3, h4, h5⟩
  · omega
  · exact ⟨g, cap, rest, h1, h2, h3, h4, h5⟩

theorem kid_cell {w : World} {g : Nat} {ks : List Nat} {rest : List Value} (hB : BlockAt w g 64 (ks.map ptr ++ rest)) {i p : Nat} (hi : ks[i]? = some p) : w.cell? ⟨g, i, none⟩ = some (ptr p) := by
  have hl := (List.getElem?_eq_some_iff.1 hi).1
  rw [hB.cell, List.getElem?_append_left (by simpa using hl), List.getElem?_map, hi]
  rfl

theorem ent_cell {w : World} {g : Nat} {es : List Ent} {rest : List Value} (hB : BlockAt w g 36 (ecells es ++ rest)) {i : Nat} {e : Ent} (hi : es[i]? = some e) :
    w.cell? ⟨g, i * 2, none⟩ = some (.string e.1) ∧ w.cell? ⟨g, i * 2 + 1, none⟩ = some (.int .u32 e.2) := by
  obtain ⟨hl, he⟩ := List.getElem?_eq_some_iff.1 hi
  have h2 := ecells_length es
  obtain ⟨e1, e2⟩ := ecells_get es i hl
  rw [he] at e1 e2
  rw [hB.cell, hB.cell, List.getElem?_append_left (by omega), List.getElem?_append_left (by omega)]
  exact ⟨e1, e2⟩

theorem own_some {w : World} {b : Nat} {e : TypeId} {s n : Nat} {v : Value} {xs : List Value} (h : w.ownsRow b e s v n xs) (hn : 0 < n) : ∃ g cap, v = .slice (some ⟨g, 0, none⟩) n cap := by
  rcases (own_open h).2 with ⟨_, h0, _⟩ | ⟨g, cap, rest, h1, _⟩
  · omega
  · exact ⟨g, cap, h1⟩

theorem own_at {w : World} {b : Nat} {e : TypeId} {s n m g cap : Nat} {xs : List Value} (h : w.ownsRow b e s (.slice (some ⟨g, 0, none⟩) m cap) n xs) : ∃ rest : List Value, rest.length = cap * s - n * s ∧ BlockAt w g e (xs ++ rest) := by
  rcases (own_open h).2 with ⟨h0, _⟩ | ⟨g', cap', rest, h1, _, h2, h3, h4, h5⟩
  · cases h0
  · injection h1 with h1 h6 h7
    injection h1 with h1
    injection h1 with h1
    subst h1 h7
    exact ⟨rest, h4, h5⟩

/-- The cells from the i-th entry on. -/
theorem half_cells {w : World} {g i : Nat} {es : List Ent} {rest : List Value} (hB : BlockAt w g 36 (ecells es ++ rest)) : ∀ q u, (ecells (es.drop i))[q]? = some u → w.cell? ((⟨g, i * 2, none⟩ : Addr).add q) = some u := by
  intro q u hq
  have hq2 := (List.getElem?_eq_some_iff.1 hq).1
  rw [ecells_length, List.length_drop] at hq2
  have h2 := ecells_length es
  rw [Addr.add_lit, hB.cell, List.getElem?_append_left (by omega)]
  rw [← ecells_drop, List.getElem?_drop] at hq
  exact hq

theorem Grp.ownAt {w0 w : World} {bs0 : List Nat} {A B : List (Hd × List Nat)} {x : Hd × List Nat} (g : Grp w0 bs0 w (A ++ x :: B)) : x.1.own.Nodup := by
  have h := g.apart
  rw [owns_mid] at h
  exact ((nodup_mid (own := []) (A := owns A) (K := x.1.own) (B := owns B)).1 (by simpa using h)).2.1

/-- A step at one node; a block beside them all stays as it was. -/
theorem step_frame {w0 w w1 : World} {bs0 : List Nat} {A B : List (Hd × List Nat)} {x x' : Hd × List Nat} {M : Nat} {e : TypeId} {l : List Value} (g : Grp w0 bs0 w (A ++ x :: B)) (k : Grp w (owns [x]) w1 [x']) (hM : BlockAt w M e l) (hMo : M ∉ owns (A ++ x :: B)) :
    Grp w0 bs0 w1 (A ++ x' :: B) ∧ BlockAt w1 M e l ∧ M ∉ owns (A ++ x' :: B) := by
  have hx : M ∉ owns [x] := fun h => hMo (by rw [owns_mid]; simp [owns] at h ⊢; simp [h])
  refine ⟨Grp.frame (A := A) (M := [x]) (M' := [x']) (B := B) g k, hM.same (k.moved.block M hM.lt hx), fun h => ?_⟩
  rw [owns_mid] at h hMo
  simp only [List.mem_append] at h hMo
  rcases h with h | h | h
  · exact hMo (.inl h)
  · rcases k.moved.place M (by simpa [owns] using h) with q | q
    · exact hx q
    · have := hM.lt
      omega
  · exact hMo (.inr (.inr h))

theorem own_zero {w : World} {b : Nat} {e : TypeId} {s n : Nat} {v : Value} {xs : List Value} (h : w.ownsRow b e s v n xs) : w.ownsRow 0 e s v n xs := by
  refine ⟨h.1, ?_⟩
  rcases h.2 with h | ⟨g, cap, cur, h1, _, h2⟩
  · exact .inl h
  · exact .inr ⟨g, cap, cur, h1, Nat.zero_le _, h2⟩

section
variable {w0 w : World} {bs0 : List Nat} {a b c : Hd × List Nat} {G : List (Hd × List Nat)}
theorem Grp.n1 (g : Grp w0 bs0 w (a :: G)) : NodeAt w a.1 a.2 := g.nodes _ (List.mem_cons_self ..)
theorem Grp.n2 (g : Grp w0 bs0 w (a :: b :: G)) : NodeAt w b.1 b.2 := g.nodes _ (List.mem_cons_of_mem _ (List.mem_cons_self ..))
theorem Grp.n3 (g : Grp w0 bs0 w (a :: b :: c :: G)) : NodeAt w c.1 c.2 := g.nodes _ (List.mem_cons_of_mem _ (List.mem_cons_of_mem _ (List.mem_cons_self ..)))

theorem own_apart {x y : Hd × List Nat} {A B C : List (Hd × List Nat)} (g : Grp w0 bs0 w (A ++ x :: (B ++ y :: C))) : ∀ k ∈ x.1.own, k ∉ y.1.own := by
  intro k hk hy
  have h := g.apart
  simp only [owns, List.flatMap_append, List.flatMap_cons] at h
  have h2 := (List.nodup_append.1 (List.nodup_append.1 h).2.1).2.2
  exact h2 k hk k (by simp [hy]) rfl
end

theorem grp_back {W w1 : World} {x : Hd × List Nat} {G : List (Hd × List Nat)} {o : Nat} {v : Value} (k : Grp W (owns [x]) (w1.setCell ⟨x.1.p, o, none⟩ v) G) {b : Nat} (hb : b ∉ owns [x]) (hlt : b < W.heap.size) : w1.heap[b]? = W.heap[b]? := by
  have h := k.moved.block b hlt hb
  rw [Below.heap_setCell _ _ _ _ (by rintro rfl; exact hb (by simp [owns, Hd.own]))] at h
  exact h

theorem hidC {P : Program} {f : FuncId} {a : Array Value} {w : World} {Q : Ending → World → Prop} (h : Calls P f a w Q) : Hid (Calls P f a w Q) := h

theorem ve_own {d : Hd} {b : Nat} (h : d.ve.ownBlock = some b) : b ∈ d.own := by simp [Hd.own, h]
theorem vc_own {d : Hd} {b : Nat} (h : d.vc.ownBlock = some b) : b ∈ d.own := by simp [Hd.own, h]

end Go.Proofs.Qxb6601380a
