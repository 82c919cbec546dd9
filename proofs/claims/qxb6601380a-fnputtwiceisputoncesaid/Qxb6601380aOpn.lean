/-
  Delete, Insert, append on a node's rows, with the node's cell laid anew behind them.
-/
import Derived.Test.Qxb6601380aIns
import Derived.Test.Qxb6601380aNod
namespace Go.Proofs.Qxb6601380a
open Go.RowKit

theorem delE_node (w : World) (p : Nat) (ve vc : Value) (es : List Ent) (ks : List Nat) (i j : Nat) (hN : NodeAt w ⟨p, ve, vc, es⟩ ks) (hown : (⟨p, ve, vc, es⟩ : Hd).own.Nodup) (hij : i < j) (hjn : j ≤ es.length) :
    Calls Try.prog 62 #[ve, .int .i64 i, .int .i64 j] w fun e w' => ∃ g n c, e = .returned (.slice (some ⟨g, 0, none⟩) n c) ∧ w'.cell? ⟨p, 0, none⟩ = some ve ∧ w'.frozen? ⟨p, 0, none⟩ = false ∧
      Grp w (owns [(⟨p, ve, vc, es⟩, ks)]) (w'.setCell ⟨p, 0, none⟩ (.slice (some ⟨g, 0, none⟩) n c)) [(⟨p, .slice (some ⟨g, 0, none⟩) n c, vc, es.take i ++ es.drop j⟩, ks)] := by
  obtain ⟨g, cap, rest, hv, h1, h2, h3, h4⟩ := hN.entsOpen (by simp only; omega)
  simp only at hv h1 h2 h3 h4
  subst hv
  refine (delE_some g es.length cap i j (ecells es) rest w (ecells_length es) hij hjn h1 h2 h3 (ecells_one es) h4).mono ?_
  rintro e w' ⟨rfl, q1, q2⟩
  have hB := hN.node.grown q2 (own_ne hown).1
  refine ⟨_, _, _, rfl, ?_, hB.frozen 0, one_ents hN hown ⟨q2, fun _ h => .inl h⟩ ?_⟩
  · rw [hB.cell]; rfl
  · rw [ecells_take, ecells_drop, ← ecells_app] at q1
    have : (es.take i ++ es.drop j).length = i + (es.length - j) := by simp; omega
    rw [this]
    exact q1

theorem delC_node (w : World) (p : Nat) (ve vc : Value) (es : List Ent) (ks : List Nat) (i j : Nat) (hN : NodeAt w ⟨p, ve, vc, es⟩ ks) (hown : (⟨p, ve, vc, es⟩ : Hd).own.Nodup) (hij : i < j) (hjn : j ≤ ks.length) (hne : 0 < i + (ks.length - j)) :
    Calls Try.prog 72 #[vc, .int .i64 i, .int .i64 j] w fun e w' => ∃ g n c, e = .returned (.slice (some ⟨g, 0, none⟩) n c) ∧ w'.cell? ⟨p, 1, none⟩ = some vc ∧ w'.frozen? ⟨p, 1, none⟩ = false ∧
      Grp w (owns [(⟨p, ve, vc, es⟩, ks)]) (w'.setCell ⟨p, 1, none⟩ (.slice (some ⟨g, 0, none⟩) n c)) [(⟨p, ve, .slice (some ⟨g, 0, none⟩) n c, es⟩, ks.take i ++ ks.drop j)] := by
  obtain ⟨g, cap, rest, hv, h1, h2, h3, h4⟩ := hN.kidsOpen (by omega)
  simp only at hv h1 h2 h3 h4
  subst hv
  refine (delC_some g ks.length cap i j (ks.map ptr) rest w (by simp) hij hjn h1 h2 (by omega) (ptrs_one ks) h4).mono ?_
  rintro e w' ⟨rfl, q1, q2⟩
  have hB := hN.node.grown q2 (own_ne hown).2.1
  have hl : (ks.take i ++ ks.drop j).length = i + (ks.length - j) := by simp; omega
  refine ⟨_, _, _, rfl, ?_, hB.frozen 1, one_kids hN hown ⟨q2, fun _ h => .inl h⟩ ?_ fun h => ?_⟩
  · rw [hB.cell]; rfl
  · rw [hl]
    simpa using q1
  · rw [h] at hl
    simp at hl
    omega

theorem insE_node (w : World) (p : Nat) (ve vc : Value) (es : List Ent) (ks : List Nat) (i vb : Nat) (ms : ByteArray) (mr : Int) (hN : NodeAt w ⟨p, ve, vc, es⟩ ks) (hown : (⟨p, ve, vc, es⟩ : Hd).own.Nodup) (hi : i ≤ es.length) (hes : es.length ≤ 1000)
    (hy : BlockAt w vb 36 [.string ms, .int .u32 mr]) (hne : vb ∉ (⟨p, ve, vc, es⟩ : Hd).own) :
    Calls Try.prog 61 #[ve, .int .i64 i, .slice (some ⟨vb, 0, none⟩) 1 1] w fun e w' => ∃ g n c, e = .returned (.slice (some ⟨g, 0, none⟩) n c) ∧ w'.cell? ⟨p, 0, none⟩ = some ve ∧ w'.frozen? ⟨p, 0, none⟩ = false ∧
      Grp w (owns [(⟨p, ve, vc, es⟩, ks)]) (w'.setCell ⟨p, 0, none⟩ (.slice (some ⟨g, 0, none⟩) n c)) [(⟨p, .slice (some ⟨g, 0, none⟩) n c, vc, es.take i ++ (ms, mr) :: es.drop i⟩, ks)] := by
  refine (insE_some ve es.length i vb (ecells es) [.string ms, .int .u32 mr] w hN.ents hi (by omega) (fun e => hne (ve_own (d := ⟨p, ve, vc, es⟩) e)) rfl (ecells_one _) (by simp [Value.oneCell']) hy).mono ?_
  rintro e w' ⟨v', rfl, q1, q2⟩
  obtain ⟨g, c, rfl⟩ := own_some q1 (by omega)
  have hB := hN.node.grown q2.grown (own_ne hown).1
  refine ⟨_, _, _, rfl, ?_, hB.frozen 0, one_ents hN hown q2 ?_⟩
  · rw [hB.cell]; rfl
  · rw [ecells_take, ecells_drop] at q1
    have : (es.take i ++ (ms, mr) :: es.drop i).length = es.length + 1 := by simp; omega
    rw [this, ecells_app]
    simpa [ecells] using q1

theorem insC_node (w : World) (p : Nat) (ve vc : Value) (es : List Ent) (ks : List Nat) (i vb r : Nat) (hN : NodeAt w ⟨p, ve, vc, es⟩ ks) (hown : (⟨p, ve, vc, es⟩ : Hd).own.Nodup) (hi : i ≤ ks.length) (hks : ks.length ≤ 1000)
    (hy : BlockAt w vb 64 [ptr r]) (hne : vb ∉ (⟨p, ve, vc, es⟩ : Hd).own) :
    Calls Try.prog 73 #[vc, .int .i64 i, .slice (some ⟨vb, 0, none⟩) 1 1] w fun e w' => ∃ g n c, e = .returned (.slice (some ⟨g, 0, none⟩) n c) ∧ w'.cell? ⟨p, 1, none⟩ = some vc ∧ w'.frozen? ⟨p, 1, none⟩ = false ∧
      Grp w (owns [(⟨p, ve, vc, es⟩, ks)]) (w'.setCell ⟨p, 1, none⟩ (.slice (some ⟨g, 0, none⟩) n c)) [(⟨p, ve, .slice (some ⟨g, 0, none⟩) n c, es⟩, ks.take i ++ r :: ks.drop i)] := by
  refine (insC_some vc ks.length i vb (ks.map ptr) [ptr r] w hN.kids hi (by omega) (fun e => hne (vc_own (d := ⟨p, ve, vc, es⟩) e)) rfl (ptrs_one _) (by simp [ptr, Value.oneCell']) hy).mono ?_
  rintro e w' ⟨v', rfl, q1, q2⟩
  obtain ⟨g, c, rfl⟩ := own_some q1 (by omega)
  have hB := hN.node.grown q2.grown (own_ne hown).2.1
  refine ⟨_, _, _, rfl, ?_, hB.frozen 1, one_kids hN hown q2 ?_ (by simp)⟩
  · rw [hB.cell]; rfl
  · have : (ks.take i ++ r :: ks.drop i).length = ks.length + 1 := by simp; omega
    rw [this]
    simpa using q1

/-- append of one entry. -/
theorem appE_node (w : World) (p : Nat) (ve vc : Value) (es : List Ent) (ks : List Nat) (vb : Nat) (ms : ByteArray) (mr : Int) (hN : NodeAt w ⟨p, ve, vc, es⟩ ks) (hown : (⟨p, ve, vc, es⟩ : Hd).own.Nodup) (hes : es.length ≤ 1000)
    (hy : BlockAt w vb 36 [.string ms, .int .u32 mr]) :
    ∃ g n c w', (Builtin.append_ #[26, 26] 26 #[ve, .slice (some ⟨vb, 0, none⟩) 1 1]).run Try.prog w = .ok (.slice (some ⟨g, 0, none⟩) n c) w' ∧ w'.cell? ⟨p, 0, none⟩ = some ve ∧ w'.frozen? ⟨p, 0, none⟩ = false ∧
      Grp w (owns [(⟨p, ve, vc, es⟩, ks)]) (w'.setCell ⟨p, 0, none⟩ (.slice (some ⟨g, 0, none⟩) n c)) [(⟨p, .slice (some ⟨g, 0, none⟩) n c, vc, es ++ [(ms, mr)]⟩, ks)] := by
  obtain ⟨i0, hi0, hz0, hz1, hz2⟩ := info_parts Try.info36
  obtain ⟨v1, w1, hr1, h1, k1, k2⟩ := run_append_sharp (P := Try.prog) w 0 26 26 36 i0 (.agg #[.string ⟨#[]⟩, .int .u32 0]) 2 24 Try.underlying26 hi0 hz0 hz1 hz2 rfl (by decide) ve es.length (ecells es) hN.ents ⟨vb, 0, none⟩ 1 1 [.string ms, .int .u32 mr] rfl
    (fun q u hq => by rw [Addr.add_lit, Nat.zero_add, hy.cell]; exact hq) (by simp [Value.oneCell']) (by unfold maxLen; omega) (by omega) (Nat.zero_le _)
  obtain ⟨g, c, rfl⟩ := own_some h1 (by omega)
  have hB := hN.node.grown k1 (own_ne hown).1
  refine ⟨_, _, _, _, hr1, ?_, hB.frozen 0, one_ents hN hown ⟨k1, k2⟩ ?_⟩
  · rw [hB.cell]; rfl
  · have : (es ++ [(ms, mr)]).length = es.length + 1 := by simp
    rw [this, ecells_app]
    simpa [ecells] using h1

/-- append of pointers that lie in a row (or of no slice at all). -/
theorem appC_node (w : World) (p : Nat) (ve vc : Value) (es : List Ent) (ks : List Nat) (x : Value) (rs : List Nat) (hN : NodeAt w ⟨p, ve, vc, es⟩ ks) (hown : (⟨p, ve, vc, es⟩ : Hd).own.Nodup) (hks : ks.length ≤ 1000) (hrs : rs.length ≤ 1000)
    (hx : (x = .slice none 0 0 ∧ rs = []) ∨ ∃ rg cap rest, x = .slice (some ⟨rg, 0, none⟩) rs.length cap ∧ 0 < rs.length ∧ BlockAt w rg 64 (rs.map ptr ++ rest)) :
    ∃ a n c w', (Builtin.append_ #[87, 87] 87 #[vc, x]).run Try.prog w = .ok (.slice a n c) w' ∧ w'.cell? ⟨p, 1, none⟩ = some vc ∧ w'.frozen? ⟨p, 1, none⟩ = false ∧
      Grp w (owns [(⟨p, ve, vc, es⟩, ks)]) (w'.setCell ⟨p, 1, none⟩ (.slice a n c)) [(⟨p, ve, .slice a n c, es⟩, ks ++ rs)] := by
  obtain ⟨i0, hi0, hz0, hz1, hz2⟩ := info_parts Try.info64
  rcases hx with ⟨rfl, rfl⟩ | ⟨rg, cap, rest, rfl, hr0, hrB⟩
  · have hr := run_append_owned_none (P := Try.prog) w 0 87 87 64 i0 1 Try.underlying87 hi0 vc ks.length (ks.map ptr) hN.kids
    obtain ⟨a, n, c, rfl⟩ : ∃ a n c, vc = .slice a n c := by
      rcases (own_open hN.kids).2 with ⟨h, _⟩ | ⟨g, cap, rest, h, _⟩
      · exact ⟨_, _, _, h⟩
      · exact ⟨_, _, _, h⟩
    refine ⟨a, n, c, w, hr, ?_, hN.node.frozen 1, ?_⟩
    · rw [hN.node.cell]; rfl
    · have := one_kids (v' := .slice a n c) (ks' := ks ++ []) hN hown (Kept.refl w _) (by simpa using hN.kids) (by simpa using hN.leaf)
      exact this
  · obtain ⟨v1, w1, hr1, h1, k1, k2⟩ := run_append_sharp (P := Try.prog) w 0 87 87 64 i0 (.pointer none) 1 8 Try.underlying87 hi0 hz0 hz1 hz2 rfl (by decide) vc ks.length (ks.map ptr) hN.kids ⟨rg, 0, none⟩ rs.length cap (rs.map ptr) (by simp)
      (fun q u hq => by rw [Addr.add_lit, Nat.zero_add, hrB.cell, List.getElem?_append_left (List.getElem?_eq_some_iff.1 hq).1]; exact hq) (ptrs_one _) (by unfold maxLen; omega) (by omega) (Nat.zero_le _)
    obtain ⟨g, c, rfl⟩ := own_some h1 (by omega)
    have hB := hN.node.grown k1 (own_ne hown).2.1
    refine ⟨_, _, _, _, hr1, ?_, hB.frozen 1, one_kids hN hown ⟨k1, k2⟩ ?_ fun h => ?_⟩
    · rw [hB.cell]; rfl
    · have : (ks ++ rs).length = ks.length + rs.length := by simp
      rw [this, List.map_append]
      exact h1
    · have := congrArg List.length h
      simp only [List.length_append, List.length_nil] at this
      omega

theorem ecells_set : ∀ (es : List Ent) (j : Nat) (s : ByteArray) (r : Int), j < es.length → ecells (es.set j (s, r)) = ((ecells es).set (j * 2) (.string s)).set (j * 2 + 1) (.int .u32 r)
  | [], _, _, _, h => by simp at h
  | e :: es, 0, s, r, _ => by simp [ecells]
  | e :: es, j + 1, s, r, h => by
    have ih := ecells_set es j s r (by simpa using h)
    rw [show (j + 1) * 2 = j * 2 + 2 by omega, show j * 2 + 2 + 1 = j * 2 + 1 + 2 by omega]
    simp only [ecells, List.flatMap_cons, List.set_cons_succ, List.cons_append, List.nil_append] at ih ⊢
    rw [ih]

theorem ecells_setR (es : List Ent) (j : Nat) (s : ByteArray) (r r0 : Int) (h : es[j]? = some (s, r0)) : ecells (es.set j (s, r)) = (ecells es).set (j * 2 + 1) (.int .u32 r) := by
  obtain ⟨hl, he⟩ := List.getElem?_eq_some_iff.1 h
  rw [ecells_set es j s r hl]
  obtain ⟨e1, _⟩ := ecells_get es j hl
  rw [he] at e1
  congr 1
  apply List.ext_getElem?
  intro q
  rw [List.getElem?_set]
  have := ecells_length es
  split
  · rename_i hq
    subst hq
    rw [if_pos (by omega), e1]
  · rfl

/-- An entry is laid over another, where it stands. -/
theorem setE_node (w : World) (p eg ecap : Nat) (vc : Value) (es : List Ent) (ks : List Nat) (j : Nat) (ls : ByteArray) (lr : Int) (hN : NodeAt w ⟨p, .slice (some ⟨eg, 0, none⟩) es.length ecap, vc, es⟩ ks) (hown : (⟨p, .slice (some ⟨eg, 0, none⟩) es.length ecap, vc, es⟩ : Hd).own.Nodup) (hj : j < es.length) :
    Grp w (owns [(⟨p, .slice (some ⟨eg, 0, none⟩) es.length ecap, vc, es⟩, ks)]) ((w.setCell ⟨eg, j * 2, none⟩ (.string ls)).setCell ⟨eg, j * 2 + 1, none⟩ (.int .u32 lr)) [(⟨p, .slice (some ⟨eg, 0, none⟩) es.length ecap, vc, es.set j (ls, lr)⟩, ks)] := by
  obtain ⟨g, cap, rest, hv, h1, h2, h3, h4⟩ := hN.entsOpen (by simp only; omega)
  simp only at hv h1 h2 h3 h4
  injection hv with hv _ hc
  injection hv with hv
  injection hv with hv
  subst hv hc
  have hB := (h4.set (j * 2) (.string ls)).set (j * 2 + 1) (.int .u32 lr)
  have hl := ecells_length es
  rw [List.set_append_left _ _ (by omega), List.set_append_left _ _ (by rw [List.length_set]; omega), ← ecells_set es j ls lr hj] at hB
  refine one_row hN hown (grown_trans (grown_set _ _ _ _) (grown_set _ _ _ _)) ?_
  have hes : (es.set j (ls, lr)).length = es.length := List.length_set ..
  rw [hes]
  exact own_shut (by rw [ecells_length, hes]) (Nat.zero_le _) h1 h2 h3 hB

theorem setR_node (w : World) (p eg ecap : Nat) (vc : Value) (es : List Ent) (ks : List Nat) (j : Nat) (ls : ByteArray) (lr r0 : Int) (hN : NodeAt w ⟨p, .slice (some ⟨eg, 0, none⟩) es.length ecap, vc, es⟩ ks) (hown : (⟨p, .slice (some ⟨eg, 0, none⟩) es.length ecap, vc, es⟩ : Hd).own.Nodup) (hj : es[j]? = some (ls, r0)) :
    Grp w (owns [(⟨p, .slice (some ⟨eg, 0, none⟩) es.length ecap, vc, es⟩, ks)]) (w.setCell ⟨eg, j * 2 + 1, none⟩ (.int .u32 lr)) [(⟨p, .slice (some ⟨eg, 0, none⟩) es.length ecap, vc, es.set j (ls, lr)⟩, ks)] := by
  have hjl := (List.getElem?_eq_some_iff.1 hj).1
  obtain ⟨g, cap, rest, hv, h1, h2, h3, h4⟩ := hN.entsOpen (by simp only; omega)
  simp only at hv h1 h2 h3 h4
  injection hv with hv _ hc
  injection hv with hv
  injection hv with hv
  subst hv hc
  have hB := h4.set (j * 2 + 1) (.int .u32 lr)
  have hl := ecells_length es
  rw [List.set_append_left _ _ (by omega), ← ecells_setR es j ls lr r0 hj] at hB
  refine one_row hN hown (grown_set _ _ _ _) ?_
  have hes : (es.set j (ls, lr)).length = es.length := List.length_set ..
  rw [hes]
  exact own_shut (by rw [ecells_length, hes]) (Nat.zero_le _) h1 h2 h3 hB

end Go.Proofs.Qxb6601380a
