/-
  fill, said of trees.
-/
import Derived.Test.Qxb6601380aTops
import Derived.Test.Qxb6601380aFilL
import Derived.Test.Qxb6601380aFilR
import Derived.Test.Qxb6601380aFilM
namespace Go.Proofs.Qxb6601380a
open Go.RowKit

theorem flat_one {h : Nat} {d : Hd} {A B : List (T h)} {c : T h} {a b : List Ent} (he : d.es = a ++ b) (hA : A.length = a.length) :
    flat (h + 1) (d, A ++ c :: B) = inter a (A.map (flat h)) ++ (flat h c ++ tl b (B.map (flat h))) := by
  simp only [flat, he, List.map_append, List.map_cons]
  rw [inter_app (by simpa using hA), inter_cons]

theorem flat_pair {h : Nat} {d : Hd} {A B : List (T h)} {x y : T h} {a b : List Ent} {m : Ent} (he : d.es = a ++ m :: b) (hA : A.length = a.length) :
    flat (h + 1) (d, A ++ x :: y :: B) = inter a (A.map (flat h)) ++ (flat h x ++ m :: (flat h y ++ tl b (B.map (flat h)))) := by
  rw [flat_one he hA]
  simp only [tl, List.map_cons, inter_cons]

theorem ve_slice {w : World} {d : Hd} {ks : List Nat} (hN : NodeAt w d ks) : ∃ a c, d.ve = .slice a d.es.length c := by
  rcases (own_open hN.ents).2 with ⟨h1, h0, _⟩ | ⟨g, cap, rest, h1, _⟩
  · exact ⟨none, 0, by rw [h0]; exact h1⟩
  · exact ⟨_, _, h1⟩

theorem sub_last {h n : Nat} (l : List (Sub h)) (hc : Cnt h (n + 1) l.length) : ∃ (LK O : List (Sub h)) (o : Option Nat), l = LK ++ O ∧ O.map (sp h) = o.toList ∧ Cnt h n LK.length ∧ Cnt h 0 O.length ∧ (o = none → LK.map (sp h) = []) ∧ (o ≠ none → LK.map (sp h) ≠ []) := by
  cases h with
  | zero => exact ⟨[], [], none, sub0 l, rfl, trivial, trivial, fun _ => rfl, fun h => absurd rfl h⟩
  | succ h =>
    simp only [Cnt] at hc
    rcases List.eq_nil_or_concat l with rfl | ⟨L, x, rfl⟩
    · simp at hc
    · simp only [List.concat_eq_append, List.length_append, List.length_cons, List.length_nil] at hc
      refine ⟨L, [x], some (sp (h + 1) x), by simp, rfl, by simp only [Cnt]; omega, rfl, fun h => by simp at h, fun _ h => ?_⟩
      have := congrArg List.length h
      simp only [List.length_map, List.length_nil] at this
      omega

theorem sub_first {h n : Nat} (l : List (Sub h)) (hc : Cnt h (n + 1) l.length) : ∃ (RK O : List (Sub h)) (o : Option Nat), l = O ++ RK ∧ O.map (sp h) = o.toList ∧ Cnt h n RK.length ∧ Cnt h 0 O.length ∧ (o = none → RK.map (sp h) = []) ∧ (o ≠ none → RK.map (sp h) ≠ []) := by
  cases h with
  | zero => exact ⟨[], [], none, sub0 l, rfl, trivial, trivial, fun _ => rfl, fun h => absurd rfl h⟩
  | succ h =>
    simp only [Cnt] at hc
    rcases l with _ | ⟨x, L⟩
    · simp at hc
    · simp only [List.length_cons] at hc
      refine ⟨L, [x], some (sp (h + 1) x), rfl, rfl, by simp only [Cnt]; omega, rfl, fun h => by simp at h, fun _ h => ?_⟩
      have := congrArg List.length h
      simp only [List.length_map, List.length_nil] at this
      omega

theorem sub_len {h n : Nat} {L : List (Sub h)} (hc : Cnt h n L.length) (hn : n ≤ 31) : (L.map (sp h)).length ≤ 100 := by
  rw [List.length_map]
  rcases cnt_cases hc with h0 | h0
  · subst h0; rw [sub0 L]; simp
  · omega

/-- Two children side by side and the entry between them, laid anew. -/
theorem paired {w w' : World} {lo lo' h p : Nat} {ve vc ve' : Value} {a b : List Ent} {m m' : Ent} {A B : List (T h)} {x x' y y' : T h}
    (o : Ok w lo (h + 1) (⟨p, ve, vc, a ++ m :: b⟩, A ++ x :: y :: B))
    (hlo : lo' ≤ a.length + b.length + 1) (hx : (hd h x').p = (hd h x).p) (hy : (hd h y').p = (hd h y).p)
    (gg : Grp w (owns ((⟨p, ve, vc, a ++ m :: b⟩, kids h (A ++ ([x, y] ++ B))) :: heads h [x, y])) w' ((⟨p, ve', vc, a ++ m' :: b⟩, kids h (A ++ ([x, y] ++ B))) :: heads h [x', y']))
    (hS : subs h x' ++ subs h y' = subs h x ++ subs h y)
    (hsx : 15 ≤ (hd h x').es.length ∧ (hd h x').es.length ≤ 31 ∧ Cnt h (hd h x').es.length (subs h x').length) (hsy : 15 ≤ (hd h y').es.length ∧ (hd h y').es.length ≤ 31 ∧ Cnt h (hd h y').es.length (subs h y').length) :
    Ok w' lo' (h + 1) (⟨p, ve', vc, a ++ m' :: b⟩, A ++ x' :: y' :: B) ∧ Moved w w' (blocks (h + 1) (⟨p, ve, vc, a ++ m :: b⟩, A ++ x :: y :: B)) (blocks (h + 1) (⟨p, ve', vc, a ++ m' :: b⟩, A ++ x' :: y' :: B)) := by
  obtain ⟨s1, s2, s3, s4⟩ := o.shape
  simp only [List.length_append, List.length_cons] at s1 s2 s3
  have e : kids h (A ++ ([x, y] ++ B)) = kids h (A ++ ([x', y'] ++ B)) := by
    simp only [kids_app, kids_cons, List.cons_append, List.nil_append, hx, hy]
  have G : Grp w (owns ((⟨p, ve, vc, a ++ m :: b⟩, kids h (A ++ ([x, y] ++ B))) :: heads h [x, y])) w' ((⟨p, ve', vc, a ++ m' :: b⟩, kids h (A ++ ([x', y'] ++ B))) :: heads h [x', y']) := by
    rw [← e]
    exact gg
  refine regroup (lo' := lo') o G (by simpa using hS) (by simp only [List.length_append, List.length_cons]; omega) (by simp only [List.length_append, List.length_cons]; omega) (by simp only [List.length_append, List.length_cons, List.length_nil]; omega) ?_
  intro t ht
  simp only [List.mem_cons, List.not_mem_nil, or_false] at ht
  rcases ht with rfl | rfl
  · exact hsx
  · exact hsy

/-- What fill leaves. -/
structure Filled (w w' : World) (lo' h : Nat) (d : Hd) (A : List (T h)) (c : T h) (B : List (T h)) (d' : Hd) (A' : List (T h)) (c' : T h) (B' : List (T h)) (a' b' : List Ent) : Prop where
  p : d'.p = d.p
  es : d'.es = a' ++ b'
  len : A'.length = a'.length
  ok : Ok w' lo' (h + 1) (d', A' ++ c' :: B')
  flat : flat (h + 1) (d', A' ++ c' :: B') = flat (h + 1) (d, A ++ c :: B)
  more : 16 ≤ (hd h c').es.length
  keeps : ∀ x ∈ Go.Proofs.Qxb6601380a.flat h c, x ∈ Go.Proofs.Qxb6601380a.flat h c'
  moved : Moved w w' (blocks (h + 1) (d, A ++ c :: B)) (blocks (h + 1) (d', A' ++ c' :: B'))

theorem fillL_tree {w : World} {lo lo' h : Nat} {d : Hd} {A B : List (T h)} {l c : T h} {a b : List Ent} {m : Ent} (o : Ok w lo (h + 1) (d, A ++ l :: c :: B)) (hl : 16 ≤ (hd h l).es.length) (hc : (hd h c).es.length = 15) (he : d.es = a ++ m :: b) (hA : A.length = a.length) (hlo : lo' ≤ a.length + b.length + 1) :
    Calls Try.prog 65 #[ptr d.p, .int .i64 ((A.length : Int) + 1)] w fun e w' => e = .returned (.int .i64 ((A.length : Int) + 1)) ∧ ∃ d' l' c' m', Filled w w' lo' h d (A ++ [l]) c B d' (A ++ [l']) c' B (a ++ [m']) b := by
  obtain ⟨p, ve, vc, es⟩ := d
  obtain ⟨lp, le, lc, lle, ll, rfl⟩ := mk_open l
  obtain ⟨cp, ce, cc, ces, cl, rfl⟩ := mk_open c
  simp only [hd_mk] at hl hc he ⊢
  subst he
  obtain ⟨s1, s2, s3, s4⟩ := o.shape
  have hcl := shape_subs.1 (s4 (mk h ⟨lp, le, lc, lle⟩ ll) (by simp))
  have hcc := shape_subs.1 (s4 (mk h ⟨cp, ce, cc, ces⟩ cl) (by simp))
  simp only [hd_mk, subs_mk] at hcl hcc s1 s2 s3
  simp only [List.length_append, List.length_cons] at s3 s2
  obtain ⟨ms, mr⟩ := m
  rcases List.eq_nil_or_concat lle with rfl | ⟨les, ⟨ls, lr⟩, rfl⟩
  · simp at hl
  rw [List.concat_eq_append] at *
  simp only [List.length_append, List.length_cons, List.length_nil] at hl hcl
  obtain ⟨LK, O, oo, rfl, hO, hcLK, hcO, hn1, hn2⟩ := sub_last ll hcl.2.2.1
  have g := o.grp (M := [mk h ⟨lp, le, lc, les ++ [(ls, lr)]⟩ (LK ++ O), mk h ⟨cp, ce, cc, ces⟩ cl])
  simp only [heads_mk, List.map_append, hO] at g
  have hks : (kids h (A ++ ([mk h ⟨lp, le, lc, les ++ [(ls, lr)]⟩ (LK ++ O), mk h ⟨cp, ce, cc, ces⟩ cl] ++ B))) = kids h A ++ lp :: cp :: kids h B := by
    simp only [kids_app, kids_cons, List.cons_append, List.nil_append, hd_mk]
  refine (fill_left _ _ w p ve vc (a ++ (ms, mr) :: b) _ lp le lc les (LK.map (sp h)) oo cp ce cc ces _ A.length ls lr g ?_ ?_ ms mr ?_ (by simp only [List.length_append, List.length_cons]; omega) ?_ (by omega) (by omega) (by omega) (sub_len hcLK (by omega)) (sub_len hcc.2.2.1 (by omega)) hn1 hn2).mono ?_
  · rw [hks, ← kids_len h A]; simp
  · rw [hks, ← kids_len h A, List.getElem?_append_right (by omega)]; simp
  · rw [hA]; simp
  · rw [kids_len]; simp only [List.length_append, List.length_cons, List.length_nil]; omega
  rintro e w' ⟨rfl, ve', le', lc', ce', cc', gg⟩
  have hset : (a ++ (ms, mr) :: b).set A.length (ls, lr) = a ++ (ls, lr) :: b := by
    rw [hA, List.set_append_right _ _ (by omega)]; simp
  rw [hset] at gg
  have hcn : Cnt h ((ms, mr) :: ces).length (O ++ cl).length := by
    refine cnt_mk ?_
    rcases cnt_cases hcO with h0 | h0
    · exact .inl h0
    · rcases cnt_cases hcc.2.2.1 with h1 | h1
      · exact .inl h1
      · refine .inr ?_
        simp only [List.length_append, List.length_cons]
        omega
  obtain ⟨q1, q2⟩ := paired (lo' := lo') (m' := (ls, lr)) (x' := mk h ⟨lp, le', lc', les⟩ LK) (y' := mk h ⟨cp, ce', cc', (ms, mr) :: ces⟩ (O ++ cl)) o hlo (by simp only [hd_mk]) (by simp only [hd_mk])
    (by simp only [heads_mk, List.map_append, hO]; exact gg) (by simp only [subs_mk, List.append_assoc])
    (by simp only [hd_mk, subs_mk]; exact ⟨by omega, by omega, hcLK⟩) (by simp only [hd_mk, subs_mk]; exact ⟨by simp only [List.length_cons]; omega, by simp only [List.length_cons]; omega, hcn⟩)
  have hf1 : flat h (mk h ⟨lp, le, lc, les ++ [(ls, lr)]⟩ (LK ++ O)) = flat h (mk h ⟨lp, le', lc', les⟩ LK) ++ (ls, lr) :: fl h [] (O.map (sflat h)) := by
    rw [flat_subs, flat_subs]
    simp only [hd_mk, subs_mk, List.map_append]
    exact fl_mid (b := []) (by rw [List.length_map]; exact hcLK)
  have hf2 : flat h (mk h ⟨cp, ce', cc', (ms, mr) :: ces⟩ (O ++ cl)) = fl h [] (O.map (sflat h)) ++ (ms, mr) :: flat h (mk h ⟨cp, ce, cc, ces⟩ cl) := by
    rw [flat_subs, flat_subs]
    simp only [hd_mk, subs_mk, List.map_append]
    exact fl_mid (a := []) (by rw [List.length_map]; exact hcO)
  refine ⟨rfl, ⟨p, ve', vc, a ++ (ls, lr) :: b⟩, mk h ⟨lp, le', lc', les⟩ LK, mk h ⟨cp, ce', cc', (ms, mr) :: ces⟩ (O ++ cl), (ls, lr), rfl, by simp, by simpa using hA, by simpa using q1, ?_, ?_, ?_, by simpa using q2⟩
  · simp only [List.append_assoc, List.cons_append, List.nil_append]
    rw [flat_pair (a := a) (b := b) (m := (ls, lr)) rfl hA, flat_pair (a := a) (b := b) (m := (ms, mr)) rfl hA, hf1, hf2]
    simp
  · simp only [hd_mk, List.length_cons]; omega
  · intro x hx
    rw [hf2]
    simp [hx]

theorem fillR_tree {w : World} {lo lo' h : Nat} {d : Hd} {A B : List (T h)} {c r : T h} {a b : List Ent} {m : Ent} (o : Ok w lo (h + 1) (d, A ++ c :: r :: B)) (hr : 16 ≤ (hd h r).es.length) (hc : (hd h c).es.length = 15) (he : d.es = a ++ m :: b) (hA : A.length = a.length) (hlo : lo' ≤ a.length + b.length + 1)
    (hbef : ∀ A0 l, A = A0 ++ [l] → (hd h l).es.length ≤ 15) :
    Calls Try.prog 65 #[ptr d.p, .int .i64 A.length] w fun e w' => e = .returned (.int .i64 A.length) ∧ ∃ d' c' r' m', Filled w w' lo' h d A c (r :: B) d' A c' (r' :: B) a (m' :: b) := by
  obtain ⟨p, ve, vc, es⟩ := d
  obtain ⟨rp, re, rc, rre, rl, rfl⟩ := mk_open r
  obtain ⟨cp, ce, cc, ces, cl, rfl⟩ := mk_open c
  simp only [hd_mk] at hr hc he ⊢
  subst he
  obtain ⟨s1, s2, s3, s4⟩ := o.shape
  have hcl := shape_subs.1 (s4 (mk h ⟨rp, re, rc, rre⟩ rl) (by simp))
  have hcc := shape_subs.1 (s4 (mk h ⟨cp, ce, cc, ces⟩ cl) (by simp))
  simp only [hd_mk, subs_mk] at hcl hcc s1 s2 s3
  simp only [List.length_append, List.length_cons] at s3 s2
  obtain ⟨ms, mr⟩ := m
  rcases rre with _ | ⟨⟨rs, rr⟩, res⟩
  · simp at hr
  simp only [List.length_cons] at hr hcl
  obtain ⟨RK, O, oo, rfl, hO, hcRK, hcO, hn1, hn2⟩ := sub_first rl hcl.2.2.1
  have g := o.grp (M := [mk h ⟨cp, ce, cc, ces⟩ cl, mk h ⟨rp, re, rc, (rs, rr) :: res⟩ (O ++ RK)])
  simp only [heads_mk, List.map_append, hO] at g
  have hks : (kids h (A ++ ([mk h ⟨cp, ce, cc, ces⟩ cl, mk h ⟨rp, re, rc, (rs, rr) :: res⟩ (O ++ RK)] ++ B))) = kids h A ++ cp :: rp :: kids h B := by
    simp only [kids_app, kids_cons, List.cons_append, List.nil_append, hd_mk]
  have hbf : A.length = 0 ∨ ∃ lp le, (kids h A ++ cp :: rp :: kids h B)[A.length - 1]? = some lp ∧ w.cell? ⟨lp, 0, none⟩ = some le ∧ ∃ a n c, le = .slice a n c ∧ n ≤ 15 := by
    rcases List.eq_nil_or_concat A with rfl | ⟨A0, l, rfl⟩
    · exact .inl rfl
    · rw [List.concat_eq_append] at *
      have hl := hbef A0 l rfl
      have hN := lies_node (o.lies.2 l (by simp))
      obtain ⟨x, y, hv⟩ := ve_slice hN
      refine .inr ⟨(hd h l).p, (hd h l).ve, ?_, hN.c0, x, _, y, hv, hl⟩
      rw [kids_app, kids_cons]
      simp [kids]
  refine (fill_right _ _ w p ve vc (a ++ (ms, mr) :: b) _ cp ce cc ces _ rp re rc res (RK.map (sp h)) oo A.length rs rr g ?_ ?_ ms mr ?_ (by simp only [List.length_append, List.length_cons]; omega) ?_ (by omega) (by omega) (by omega) (sub_len hcRK (by omega)) (sub_len hcc.2.2.1 (by omega)) hn1 hn2 (by rw [hks]; exact hbf)).mono ?_
  · rw [hks, ← kids_len h A]; simp
  · rw [hks, ← kids_len h A, List.getElem?_append_right (by omega)]; simp
  · rw [hA]; simp
  · rw [kids_len]; simp only [List.length_append, List.length_cons, List.length_nil]; omega
  rintro e w' ⟨rfl, ve', re', rc', ce', cc', gg⟩
  have hset : (a ++ (ms, mr) :: b).set A.length (rs, rr) = a ++ (rs, rr) :: b := by
    rw [hA, List.set_append_right _ _ (by omega)]; simp
  rw [hset] at gg
  have hcn : Cnt h (ces ++ [(ms, mr)]).length (cl ++ O).length := by
    refine cnt_mk ?_
    rcases cnt_cases hcO with h0 | h0
    · exact .inl h0
    · rcases cnt_cases hcc.2.2.1 with h1 | h1
      · exact .inl h1
      · refine .inr ?_
        simp only [List.length_append, List.length_cons, List.length_nil]
        omega
  obtain ⟨q1, q2⟩ := paired (lo' := lo') (m' := (rs, rr)) (x' := mk h ⟨cp, ce', cc', ces ++ [(ms, mr)]⟩ (cl ++ O)) (y' := mk h ⟨rp, re', rc', res⟩ RK) o hlo (by simp only [hd_mk]) (by simp only [hd_mk])
    (by simp only [heads_mk, List.map_append, hO]; exact gg) (by simp only [subs_mk, List.append_assoc])
    (by simp only [hd_mk, subs_mk]; exact ⟨by simp only [List.length_append, List.length_cons, List.length_nil]; omega, by simp only [List.length_append, List.length_cons, List.length_nil]; omega, hcn⟩) (by simp only [hd_mk, subs_mk]; exact ⟨by omega, by omega, hcRK⟩)
  have hf1 : flat h (mk h ⟨rp, re, rc, (rs, rr) :: res⟩ (O ++ RK)) = fl h [] (O.map (sflat h)) ++ (rs, rr) :: flat h (mk h ⟨rp, re', rc', res⟩ RK) := by
    rw [flat_subs, flat_subs]
    simp only [hd_mk, subs_mk, List.map_append]
    exact fl_mid (a := []) (by rw [List.length_map]; exact hcO)
  have hf2 : flat h (mk h ⟨cp, ce', cc', ces ++ [(ms, mr)]⟩ (cl ++ O)) = flat h (mk h ⟨cp, ce, cc, ces⟩ cl) ++ (ms, mr) :: fl h [] (O.map (sflat h)) := by
    rw [flat_subs, flat_subs]
    simp only [hd_mk, subs_mk, List.map_append]
    exact fl_mid (b := []) (by rw [List.length_map]; exact hcc.2.2.1)
  refine ⟨rfl, ⟨p, ve', vc, a ++ (rs, rr) :: b⟩, mk h ⟨cp, ce', cc', ces ++ [(ms, mr)]⟩ (cl ++ O), mk h ⟨rp, re', rc', res⟩ RK, (rs, rr), rfl, rfl, hA, q1, ?_, ?_, ?_, q2⟩
  · rw [flat_pair (a := a) (b := b) (m := (rs, rr)) rfl hA, flat_pair (a := a) (b := b) (m := (ms, mr)) rfl hA, hf1, hf2]
    simp
  · simp only [hd_mk, List.length_append, List.length_cons, List.length_nil]; omega
  · intro x hx
    rw [hf2]
    simp [hx]

theorem fillMA_tree {w : World} {lo lo' h : Nat} {d : Hd} {A B : List (T h)} {c r : T h} {a b : List Ent} {m : Ent} (o : Ok w lo (h + 1) (d, A ++ c :: r :: B)) (hr : (hd h r).es.length = 15) (hc : (hd h c).es.length = 15) (he : d.es = a ++ m :: b) (hA : A.length = a.length) (hlo : lo' ≤ a.length + b.length)
    (hbef : ∀ A0 l, A = A0 ++ [l] → (hd h l).es.length ≤ 15) :
    Calls Try.prog 65 #[ptr d.p, .int .i64 A.length] w fun e w' => e = .returned (.int .i64 A.length) ∧ ∃ d' c', Filled w w' lo' h d A c (r :: B) d' A c' B a b := by
  obtain ⟨p, ve, vc, es⟩ := d
  obtain ⟨rp, re, rc, res, rl, rfl⟩ := mk_open r
  obtain ⟨cp, ce, cc, ces, cl, rfl⟩ := mk_open c
  simp only [hd_mk] at hr hc he ⊢
  subst he
  obtain ⟨s1, s2, s3, s4⟩ := o.shape
  have hcl := shape_subs.1 (s4 (mk h ⟨rp, re, rc, res⟩ rl) (by simp))
  have hcc := shape_subs.1 (s4 (mk h ⟨cp, ce, cc, ces⟩ cl) (by simp))
  simp only [hd_mk, subs_mk] at hcl hcc s1 s2 s3
  simp only [List.length_append, List.length_cons] at s3 s2
  obtain ⟨ms, mr⟩ := m
  have g := o.grp (M := [mk h ⟨cp, ce, cc, ces⟩ cl, mk h ⟨rp, re, rc, res⟩ rl])
  simp only [heads_mk] at g
  have hks : (kids h (A ++ ([mk h ⟨cp, ce, cc, ces⟩ cl, mk h ⟨rp, re, rc, res⟩ rl] ++ B))) = kids h A ++ cp :: rp :: kids h B := by
    simp only [kids_app, kids_cons, List.cons_append, List.nil_append, hd_mk]
  have hbf : A.length = 0 ∨ ∃ lp le, (kids h A ++ cp :: rp :: kids h B)[A.length - 1]? = some lp ∧ w.cell? ⟨lp, 0, none⟩ = some le ∧ ∃ a n c, le = .slice a n c ∧ n ≤ 15 := by
    rcases List.eq_nil_or_concat A with rfl | ⟨A0, l, rfl⟩
    · exact .inl rfl
    · rw [List.concat_eq_append] at *
      have hl := hbef A0 l rfl
      have hN := lies_node (o.lies.2 l (by simp))
      obtain ⟨x, y, hv⟩ := ve_slice hN
      refine .inr ⟨(hd h l).p, (hd h l).ve, ?_, hN.c0, x, _, y, hv, hl⟩
      rw [kids_app, kids_cons]
      simp [kids]
  refine (fill_mergeA _ _ w p ve vc (a ++ (ms, mr) :: b) _ cp ce cc ces _ rp re rc res _ A.length g ?_ ?_ ms mr ?_ (by simp only [List.length_append, List.length_cons]; omega) ?_ (by omega) (by omega) (by omega) (sub_len hcc.2.2.1 (by omega)) (sub_len hcl.2.2.1 (by omega)) (by rw [hks]; exact hbf)).mono ?_
  · rw [hks, ← kids_len h A]; simp
  · rw [hks, ← kids_len h A, List.getElem?_append_right (by omega)]; simp
  · rw [hA]; simp
  · rw [kids_len]; simp only [List.length_append, List.length_cons, List.length_nil]; omega
  rintro e w' ⟨rfl, ve', vc', le', lc', gg⟩
  obtain ⟨c', q1, q2, q3, q4⟩ := merged (lo' := lo') (m := (ms, mr)) o hA hc hr hlo (by simp only [heads_mk]; exact gg)
  refine ⟨rfl, ⟨p, ve', vc', a ++ b⟩, c', rfl, rfl, hA, q1, ?_, by omega, ?_, q4⟩
  · rw [flat_one (a := a) (b := b) rfl hA, flat_pair (a := a) (b := b) (m := (ms, mr)) rfl hA, q2]
    simp
  · intro x hx
    rw [q2]
    simp [hx]

theorem fillMB_tree {w : World} {lo lo' h : Nat} {d : Hd} {A : List (T h)} {l c : T h} {a : List Ent} {m : Ent} (o : Ok w lo (h + 1) (d, A ++ l :: c :: [])) (hl : (hd h l).es.length = 15) (hc : (hd h c).es.length = 15) (he : d.es = a ++ m :: []) (hA : A.length = a.length) (hlo : lo' ≤ a.length) :
    Calls Try.prog 65 #[ptr d.p, .int .i64 ((A.length : Int) + 1)] w fun e w' => e = .returned (.int .i64 A.length) ∧ ∃ d' c', Filled w w' lo' h d (A ++ [l]) c [] d' A c' [] a [] := by
  obtain ⟨p, ve, vc, es⟩ := d
  obtain ⟨rp, re, rc, res, rl, rfl⟩ := mk_open c
  obtain ⟨cp, ce, cc, ces, cl, rfl⟩ := mk_open l
  simp only [hd_mk] at hl hc he ⊢
  subst he
  obtain ⟨s1, s2, s3, s4⟩ := o.shape
  have hcl := shape_subs.1 (s4 (mk h ⟨rp, re, rc, res⟩ rl) (by simp))
  have hcc := shape_subs.1 (s4 (mk h ⟨cp, ce, cc, ces⟩ cl) (by simp))
  simp only [hd_mk, subs_mk] at hcl hcc s1 s2 s3
  simp only [List.length_append, List.length_cons, List.length_nil] at s3 s2
  obtain ⟨ms, mr⟩ := m
  have g := o.grp (M := [mk h ⟨cp, ce, cc, ces⟩ cl, mk h ⟨rp, re, rc, res⟩ rl]) (B := [])
  simp only [heads_mk] at g
  have hks : (kids h (A ++ ([mk h ⟨cp, ce, cc, ces⟩ cl, mk h ⟨rp, re, rc, res⟩ rl] ++ []))) = kids h A ++ cp :: rp :: kids h [] := by
    simp only [kids_app, kids_cons, List.cons_append, List.nil_append, hd_mk]
  refine (fill_mergeB _ _ w p ve vc (a ++ (ms, mr) :: []) _ cp ce cc ces _ rp re rc res _ A.length g ?_ ?_ ms mr ?_ (by simp; omega) (by simp only [List.length_append, List.length_cons, List.length_nil]; omega) ?_ (by omega) (by omega) (by omega) (by omega) (sub_len hcc.2.2.1 (by omega)) (sub_len hcl.2.2.1 (by omega))).mono ?_
  · rw [hks, ← kids_len h A]; simp
  · rw [hks, ← kids_len h A, List.getElem?_append_right (by omega)]; simp
  · rw [hA]; simp
  · rw [kids_len]; simp only [List.length_append, List.length_cons, List.length_nil]; omega
  rintro e w' ⟨rfl, ve', vc', le', lc', gg⟩
  obtain ⟨c', q1, q2, q3, q4⟩ := merged (lo' := lo') (m := (ms, mr)) (b := []) (B := []) o hA hl hc (by simp; omega) (by simp only [heads_mk]; exact gg)
  refine ⟨rfl, ⟨p, ve', vc', a ++ []⟩, c', rfl, rfl, hA, q1, ?_, by omega, ?_, by simpa using q4⟩
  · simp only [List.append_assoc, List.cons_append, List.nil_append]
    rw [flat_one (a := a) (b := []) rfl hA, flat_pair (a := a) (b := []) (m := (ms, mr)) rfl hA, q2]
    simp
  · intro x hx
    rw [q2]
    simp [hx]

theorem fill_tree {w : World} {lo lo' h : Nat} {d : Hd} {A B : List (T h)} {c : T h} {a b : List Ent} (o : Ok w lo (h + 1) (d, A ++ c :: B)) (hc : (hd h c).es.length = 15) (he : d.es = a ++ b) (hA : A.length = a.length) (hlo : lo' + 1 ≤ a.length + b.length) :
    Calls Try.prog 65 #[ptr d.p, .int .i64 A.length] w fun e w' => ∃ (d' : Hd) (A' : List (T h)) (c' : T h) (B' : List (T h)) (a' b' : List Ent), e = .returned (.int .i64 A'.length) ∧ Filled w w' lo' h d A c B d' A' c' B' a' b' := by
  have s3 := o.shape.2.2.1
  have h15 : ∀ t ∈ A ++ c :: B, 15 ≤ (hd h t).es.length := fun t ht => (o.shape.2.2.2 t ht).lo.1
  simp only [he, List.length_append, List.length_cons] at s3
  have hBb : B.length = b.length := by omega
  by_cases hL : ∃ A0 l, A = A0 ++ [l] ∧ 16 ≤ (hd h l).es.length
  · obtain ⟨A0, l, rfl, hl⟩ := hL
    rcases List.eq_nil_or_concat a with rfl | ⟨a0, m, rfl⟩
    · simp at hA
    rw [List.concat_eq_append] at *
    simp only [List.length_append, List.length_cons, List.length_nil, Nat.add_right_cancel_iff] at hA hlo
    have o' : Ok w lo (h + 1) (d, A0 ++ l :: c :: B) := by simpa using o
    have hC := fillL_tree (lo' := lo') o' hl hc (by simpa using he) hA (by omega)
    have e1 : ((A0 ++ [l]).length : Int) = (A0.length : Int) + 1 := by simp
    rw [e1]
    refine hC.mono ?_
    rintro e w' ⟨rfl, d', l', c', m', F⟩
    exact ⟨d', _, c', B, _, b, by simp, F⟩
  · have hbef : ∀ A0 l, A = A0 ++ [l] → (hd h l).es.length ≤ 15 := fun A0 l e => by
      rcases Nat.lt_or_ge 15 (hd h l).es.length with h1 | h1
      · exact absurd ⟨A0, l, e, h1⟩ hL
      · exact h1
    rcases B with _ | ⟨r, B⟩
    · have hb : b = [] := List.eq_nil_of_length_eq_zero (by simpa using hBb.symm)
      subst hb
      rcases List.eq_nil_or_concat A with rfl | ⟨A0, l, rfl⟩
      · have : a = [] := List.eq_nil_of_length_eq_zero (by simpa using hA.symm)
        subst this
        simp at hlo
      rcases List.eq_nil_or_concat a with rfl | ⟨a0, m, rfl⟩
      · simp at hA
      simp only [List.concat_eq_append] at *
      simp only [List.length_append, List.length_cons, List.length_nil, Nat.add_right_cancel_iff] at hA hlo
      have o' : Ok w lo (h + 1) (d, A0 ++ l :: c :: []) := by simpa using o
      have hl : (hd h l).es.length = 15 := by
        have h1 := hbef A0 l (by simp)
        have h2 := h15 l (by simp)
        omega
      have hC := fillMB_tree (lo' := lo') o' hl hc (by simpa using he) hA (by omega)
      have e1 : ((A0 ++ [l]).length : Int) = (A0.length : Int) + 1 := by simp
      rw [e1]
      refine hC.mono ?_
      rintro e w' ⟨rfl, d', c', F⟩
      exact ⟨d', _, c', _, _, _, rfl, F⟩
    · rcases b with _ | ⟨m, b⟩
      · simp at hBb
      simp only [List.length_cons] at hlo
      by_cases hr : 16 ≤ (hd h r).es.length
      · refine (fillR_tree (lo' := lo') o hr hc he hA (by omega) hbef).mono ?_
        rintro e w' ⟨rfl, d', c', r', m', F⟩
        exact ⟨d', _, c', _, _, _, rfl, F⟩
      · refine (fillMA_tree (lo' := lo') o (by have := h15 r (by simp); omega) hc he hA (by omega) hbef).mono ?_
        rintro e w' ⟨rfl, d', c', F⟩
        exact ⟨d', _, c', _, _, _, rfl, F⟩

end Go.Proofs.Qxb6601380a
