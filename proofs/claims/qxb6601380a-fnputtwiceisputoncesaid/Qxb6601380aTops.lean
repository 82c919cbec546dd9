/-
  split and merge, said of trees.
-/
import Derived.Test.Qxb6601380aSplit
import Derived.Test.Qxb6601380aSplitB
import Derived.Test.Qxb6601380aMrg
namespace Go.Proofs.Qxb6601380a
open Go.RowKit

theorem split57 (w0 : World) (bs0 : List Nat) (w : World) (p : Nat) (ve vc : Value) (es : List Ent) (ks : List Nat) (kp : Nat) (ke kc : Value) (kes : List Ent) (kk : List Nat) (i : Nat)
    (g : Grp w0 bs0 w [(⟨p, ve, vc, es⟩, ks), (⟨kp, ke, kc, kes⟩, kk)])
    (hi : ks[i]? = some kp) (hes : es.length ≤ 100) (hie : i ≤ es.length) (hke : kes.length = 31) (ms : ByteArray) (mr : Int) (hm : kes[15]? = some (ms, mr)) (hks : ks.length ≤ 100) (hkk : kk = [] ∨ kk.length = 32) :
    Calls Try.prog 57 #[ptr p, .int .i64 i] w fun e w' => e = .returned (.tuple #[]) ∧ ∃ ve' vc' ke' kc' r re rc,
      Grp w0 bs0 w' [(⟨p, ve', vc', es.take i ++ (ms, mr) :: es.drop i⟩, ks.take (i + 1) ++ r :: ks.drop (i + 1)), (⟨kp, ke', kc', kes.take 15⟩, kk.take 16), (⟨r, re, rc, kes.drop 16⟩, kk.drop 16)] := by
  rcases hkk with rfl | hkk
  · have hkc : kc = .slice none 0 0 := g.n2.leaf rfl
    subst hkc
    refine (split_leaf w0 bs0 w p ve vc es ks kp ke kes i g hi hes hie hke ms mr hm hks).mono ?_
    rintro e w' ⟨rfl, ve', vc', ke', r, re, gg⟩
    exact ⟨rfl, ve', vc', ke', _, r, re, _, gg⟩
  · refine (split_inner w0 bs0 w p ve vc es ks kp ke kc kes kk i g hi hes hie hke ms mr hm hks hkk).mono ?_
    rintro e w' ⟨rfl, ve', vc', ke', kc', r, re, rc, gg⟩
    exact ⟨rfl, ve', vc', ke', kc', r, re, rc, gg⟩

theorem kids_app (h : Nat) (A B : List (T h)) : kids h (A ++ B) = kids h A ++ kids h B := by simp [kids]
theorem kids_cons (h : Nat) (c : T h) (B : List (T h)) : kids h (c :: B) = (hd h c).p :: kids h B := rfl
theorem kids_len (h : Nat) (A : List (T h)) : (kids h A).length = A.length := by simp [kids]

theorem mk_open {h : Nat} (c : T h) : ∃ (p : Nat) (ve vc : Value) (es : List Ent) (l : List (Sub h)), c = mk h ⟨p, ve, vc, es⟩ l := ⟨_, _, _, _, subs h c, (mk_eta h c).symm⟩

theorem heads_mk (h : Nat) (d : Hd) (l : List (Sub h)) (M : List (T h)) : heads h (mk h d l :: M) = (d, l.map (sp h)) :: heads h M := by
  simp only [heads, List.map_cons, hd_mk, kps_mk]

/-- Cnt in a form for arithmetic. -/
theorem cnt_cases {h n m : Nat} (hc : Cnt h n m) : h = 0 ∨ m = n + 1 := by
  cases h with
  | zero => exact .inl rfl
  | succ h => exact .inr hc

theorem cnt_mk {h n m : Nat} (hc : h = 0 ∨ m = n + 1) : Cnt h n m := by
  cases h with
  | zero => trivial
  | succ h => exact hc.resolve_left (by omega)

theorem split_tree {w : World} {lo h : Nat} {d : Hd} {A B : List (T h)} {c : T h} {a b : List Ent} (o : Ok w lo (h + 1) (d, A ++ c :: B)) (hf : (hd h c).es.length = 31) (hroom : d.es.length ≤ 30) (he : d.es = a ++ b) (hA : A.length = a.length) :
    Calls Try.prog 57 #[ptr d.p, .int .i64 A.length] w fun e w' => e = .returned (.tuple #[]) ∧ ∃ d' c1 m c2, d'.p = d.p ∧ d'.es = a ++ m :: b ∧ Ok w' lo (h + 1) (d', A ++ c1 :: c2 :: B) ∧ flat h c = flat h c1 ++ m :: flat h c2 ∧
      (hd h c1).es.length = 15 ∧ (hd h c2).es.length = 15 ∧ Moved w w' (blocks (h + 1) (d, A ++ c :: B)) (blocks (h + 1) (d', A ++ c1 :: c2 :: B)) := by
  obtain ⟨p, ve, vc, es⟩ := d
  obtain ⟨kp, ke, kc, kes, l, rfl⟩ := mk_open c
  simp only [hd_mk] at hf he hroom ⊢
  subst he
  have hsh := o.shape
  obtain ⟨s1, s2, s3, s4⟩ := hsh
  have hcs := shape_subs.1 (s4 (mk h ⟨kp, ke, kc, kes⟩ l) (by simp))
  simp only [hd_mk, subs_mk] at hcs s1 s2 s3
  simp only [List.length_append, List.length_cons] at s3 hroom s1
  have g := o.grp (M := [mk h ⟨kp, ke, kc, kes⟩ l])
  rw [heads_mk] at g
  obtain ⟨⟨ms, mr⟩, hm⟩ : ∃ m, kes[15]? = some m := ⟨_, List.getElem?_eq_getElem (by omega)⟩
  have hkes : kes = kes.take 15 ++ (ms, mr) :: kes.drop 16 := by
    obtain ⟨h1, h2⟩ := List.getElem?_eq_some_iff.1 hm
    conv => lhs; rw [← List.take_append_drop 15 kes, List.drop_eq_getElem_cons h1, h2]
  have hkk : l.map (sp h) = [] ∨ (l.map (sp h)).length = 32 := by
    rcases cnt_cases hcs.2.2.1 with h0 | h0
    · subst h0
      rw [sub0 l]
      exact .inl rfl
    · rw [List.length_map, h0, hf]
      exact .inr rfl
  have hks : (kids h (A ++ ([mk h ⟨kp, ke, kc, kes⟩ l] ++ B))) = kids h A ++ kp :: kids h B := by
    rw [List.singleton_append, kids_app, kids_cons, hd_mk]
  refine (split57 _ _ w p ve vc (a ++ b) _ kp ke kc kes _ A.length g ?_ (by simp only [List.length_append]; omega) (by simp only [List.length_append]; omega) hf ms mr hm ?_ hkk).mono ?_
  · rw [hks, ← kids_len h A]; simp
  · rw [kids_len]; simp only [List.length_append, List.length_cons, List.length_nil]; omega
  rintro e w' ⟨rfl, ve', vc', ke', kc', r, re, rc, gg⟩
  have hes' : (a ++ b).take A.length ++ (ms, mr) :: (a ++ b).drop A.length = a ++ (ms, mr) :: b := by rw [hA]; simp
  have hks' : (kids h A ++ kp :: kids h B).take (A.length + 1) ++ r :: (kids h A ++ kp :: kids h B).drop (A.length + 1) = kids h A ++ kp :: r :: kids h B := by
    rw [← kids_len h A, show kids h A ++ kp :: kids h B = (kids h A ++ [kp]) ++ kids h B by simp, List.take_left' (by simp), List.drop_left' (by simp)]
    simp
  rw [hes', hks, hks'] at gg
  have hn : ∀ L : List (Sub h), L = l.take 16 ∨ L = l.drop 16 → Cnt h 15 L.length := by
    intro L hL
    refine cnt_mk ?_
    rcases cnt_cases hcs.2.2.1 with h0 | h0
    · exact .inl h0
    · refine .inr ?_
      rcases hL with rfl | rfl <;> simp only [List.length_take, List.length_drop] <;> omega
  have G : Grp w (owns ((⟨p, ve, vc, a ++ b⟩, kids h (A ++ ([mk h ⟨kp, ke, kc, kes⟩ l] ++ B))) :: heads h [mk h ⟨kp, ke, kc, kes⟩ l])) w'
      ((⟨p, ve', vc', a ++ (ms, mr) :: b⟩, kids h (A ++ ([mk h ⟨kp, ke', kc', kes.take 15⟩ (l.take 16), mk h ⟨r, re, rc, kes.drop 16⟩ (l.drop 16)] ++ B))) :: heads h [mk h ⟨kp, ke', kc', kes.take 15⟩ (l.take 16), mk h ⟨r, re, rc, kes.drop 16⟩ (l.drop 16)]) := by
    have e : kids h (A ++ ([mk h ⟨kp, ke', kc', kes.take 15⟩ (l.take 16), mk h ⟨r, re, rc, kes.drop 16⟩ (l.drop 16)] ++ B)) = kids h A ++ kp :: r :: kids h B := by
      simp only [kids_app, kids_cons, List.cons_append, List.nil_append, hd_mk]
    rw [e, hks, heads_mk, heads_mk, heads_mk, List.map_take, List.map_drop]
    exact gg
  obtain ⟨q1, q2⟩ := regroup (lo' := lo) o G
    (by simp [subs_mk]) (by simp only [List.length_append, List.length_cons]; omega) (by simp only [List.length_append, List.length_cons]; omega) (by simp only [List.length_append, List.length_cons, List.length_nil]; omega)
    (by
      intro t ht
      simp only [List.mem_cons, List.not_mem_nil, or_false] at ht
      rcases ht with rfl | rfl
      · simp only [hd_mk, subs_mk, List.length_take]
        exact ⟨by omega, by omega, by rw [show min 15 kes.length = 15 by omega]; have := hn _ (.inl rfl); simpa only [List.length_take] using this⟩
      · simp only [hd_mk, subs_mk, List.length_drop]
        exact ⟨by omega, by omega, by rw [show kes.length - 16 = 15 by omega]; have := hn _ (.inr rfl); simpa only [List.length_drop] using this⟩)
  refine ⟨rfl, ⟨p, ve', vc', a ++ (ms, mr) :: b⟩, _, (ms, mr), _, rfl, rfl, q1, ?_, ?_, ?_, q2⟩
  · rw [flat_subs, flat_subs, flat_subs]
    simp only [hd_mk, subs_mk]
    conv => lhs; rw [hkes, ← List.take_append_drop 16 l, List.map_append]
    refine fl_mid ?_
    have := hn _ (.inl rfl)
    rw [List.length_map, List.length_take (l := kes), show min 15 kes.length = 15 by omega]
    exact this
  · simp only [hd_mk, List.length_take]; omega
  · simp only [hd_mk, List.length_drop]; omega

/-- What a merge leaves, as a tree: from the nodes. -/
theorem merged {w w' : World} {lo lo' h p : Nat} {ve vc : Value} {a b : List Ent} {m : Ent} {A B : List (T h)} {lp rp : Nat} {le lc re rc : Value} {les res : List Ent} {l r : List (Sub h)} {ve' vc' le' lc' : Value}
    (o : Ok w lo (h + 1) (⟨p, ve, vc, a ++ m :: b⟩, A ++ mk h ⟨lp, le, lc, les⟩ l :: mk h ⟨rp, re, rc, res⟩ r :: B)) (hA : A.length = a.length) (hl : les.length = 15) (hr : res.length = 15) (hlo : lo' ≤ a.length + b.length)
    (gg : Grp w (owns ((⟨p, ve, vc, a ++ m :: b⟩, kids h (A ++ ([mk h ⟨lp, le, lc, les⟩ l, mk h ⟨rp, re, rc, res⟩ r] ++ B))) :: heads h [mk h ⟨lp, le, lc, les⟩ l, mk h ⟨rp, re, rc, res⟩ r])) w'
      [(⟨p, ve', vc', (a ++ m :: b).take A.length ++ (a ++ m :: b).drop (A.length + 1)⟩, (kids h (A ++ ([mk h ⟨lp, le, lc, les⟩ l, mk h ⟨rp, re, rc, res⟩ r] ++ B))).take (A.length + 1) ++ (kids h (A ++ ([mk h ⟨lp, le, lc, les⟩ l, mk h ⟨rp, re, rc, res⟩ r] ++ B))).drop (A.length + 2)),
        (⟨lp, le', lc', les ++ m :: res⟩, l.map (sp h) ++ r.map (sp h)), (⟨rp, re, rc, res⟩, r.map (sp h))]) :
    ∃ c, Ok w' lo' (h + 1) (⟨p, ve', vc', a ++ b⟩, A ++ c :: B) ∧ flat h c = flat h (mk h ⟨lp, le, lc, les⟩ l) ++ m :: flat h (mk h ⟨rp, re, rc, res⟩ r) ∧ (hd h c).es.length = 31 ∧
      Moved w w' (blocks (h + 1) (⟨p, ve, vc, a ++ m :: b⟩, A ++ mk h ⟨lp, le, lc, les⟩ l :: mk h ⟨rp, re, rc, res⟩ r :: B)) (blocks (h + 1) (⟨p, ve', vc', a ++ b⟩, A ++ c :: B)) := by
  obtain ⟨s1, s2, s3, s4⟩ := o.shape
  have hcl := shape_subs.1 (s4 (mk h ⟨lp, le, lc, les⟩ l) (by simp))
  have hcr := shape_subs.1 (s4 (mk h ⟨rp, re, rc, res⟩ r) (by simp))
  simp only [hd_mk, subs_mk] at hcl hcr s1 s2 s3
  simp only [List.length_append, List.length_cons] at s3 s2
  have hks : (kids h (A ++ ([mk h ⟨lp, le, lc, les⟩ l, mk h ⟨rp, re, rc, res⟩ r] ++ B))) = kids h A ++ lp :: rp :: kids h B := by
    simp only [kids_app, kids_cons, List.cons_append, List.nil_append, hd_mk]
  have hes' : (a ++ m :: b).take A.length ++ (a ++ m :: b).drop (A.length + 1) = a ++ b := by
    rw [hA, List.take_left, show a ++ m :: b = (a ++ [m]) ++ b by simp, List.drop_left' (by simp)]
  have hks' : (kids h A ++ lp :: rp :: kids h B).take (A.length + 1) ++ (kids h A ++ lp :: rp :: kids h B).drop (A.length + 2) = kids h A ++ lp :: kids h B := by
    rw [← kids_len h A, show kids h A ++ lp :: rp :: kids h B = (kids h A ++ [lp]) ++ rp :: kids h B by simp, List.take_left' (by simp), show (kids h A ++ [lp]) ++ rp :: kids h B = (kids h A ++ [lp, rp]) ++ kids h B by simp, List.drop_left' (by simp)]
    simp
  rw [hes', hks, hks'] at gg
  have g2 := Grp.less (G := [(⟨p, ve', vc', a ++ b⟩, kids h A ++ lp :: kids h B), (⟨lp, le', lc', les ++ m :: res⟩, l.map (sp h) ++ r.map (sp h))]) (E := [(⟨rp, re, rc, res⟩, r.map (sp h))]) gg
  have hcn : Cnt h (les ++ m :: res).length (l ++ r).length := by
    refine cnt_mk ?_
    rcases cnt_cases hcl.2.2.1 with h0 | h0
    · exact .inl h0
    · rcases cnt_cases hcr.2.2.1 with h1 | h1
      · exact .inl h1
      · refine .inr ?_
        simp only [List.length_append, List.length_cons]
        omega
  have G : Grp w (owns ((⟨p, ve, vc, a ++ m :: b⟩, kids h (A ++ ([mk h ⟨lp, le, lc, les⟩ l, mk h ⟨rp, re, rc, res⟩ r] ++ B))) :: heads h [mk h ⟨lp, le, lc, les⟩ l, mk h ⟨rp, re, rc, res⟩ r])) w'
      ((⟨p, ve', vc', a ++ b⟩, kids h (A ++ ([mk h ⟨lp, le', lc', les ++ m :: res⟩ (l ++ r)] ++ B))) :: heads h [mk h ⟨lp, le', lc', les ++ m :: res⟩ (l ++ r)]) := by
    have e : kids h (A ++ ([mk h ⟨lp, le', lc', les ++ m :: res⟩ (l ++ r)] ++ B)) = kids h A ++ lp :: kids h B := by
      simp only [kids_app, kids_cons, List.cons_append, List.nil_append, hd_mk]
    rw [e, hks]
    simp only [heads_mk, List.map_append] at g2 ⊢
    exact g2
  obtain ⟨q1, q2⟩ := regroup (lo' := lo') o G (by simp [subs_mk]) (by simp only [List.length_append]; omega) (by simp only [List.length_append]; omega) (by simp only [List.length_append, List.length_cons, List.length_nil]; omega)
    (by
      intro t ht
      simp only [List.mem_cons, List.not_mem_nil, or_false] at ht
      subst ht
      simp only [hd_mk, subs_mk]
      exact ⟨by simp only [List.length_append, List.length_cons]; omega, by simp only [List.length_append, List.length_cons]; omega, hcn⟩)
  refine ⟨_, q1, ?_, ?_, q2⟩
  · rw [flat_subs, flat_subs, flat_subs]
    simp only [hd_mk, subs_mk, List.map_append]
    exact fl_mid (by rw [List.length_map]; exact hcl.2.2.1)
  · simp only [hd_mk, List.length_append, List.length_cons]; omega

theorem merge_tree {w : World} {lo lo' h : Nat} {d : Hd} {A B : List (T h)} {c1 c2 : T h} {a b : List Ent} {m : Ent} (o : Ok w lo (h + 1) (d, A ++ c1 :: c2 :: B)) (h1 : (hd h c1).es.length = 15) (h2 : (hd h c2).es.length = 15) (he : d.es = a ++ m :: b) (hA : A.length = a.length) (hlo : lo' ≤ a.length + b.length) :
    Calls Try.prog 64 #[ptr d.p, .int .i64 A.length] w fun e w' => e = .returned (.tuple #[]) ∧ ∃ d' c, d'.p = d.p ∧ d'.es = a ++ b ∧ Ok w' lo' (h + 1) (d', A ++ c :: B) ∧ flat h c = flat h c1 ++ m :: flat h c2 ∧
      (hd h c).es.length = 31 ∧ Moved w w' (blocks (h + 1) (d, A ++ c1 :: c2 :: B)) (blocks (h + 1) (d', A ++ c :: B)) := by
  obtain ⟨p, ve, vc, es⟩ := d
  obtain ⟨lp, le, lc, les, l, rfl⟩ := mk_open c1
  obtain ⟨rp, re, rc, res, r, rfl⟩ := mk_open c2
  simp only [hd_mk] at h1 h2 he ⊢
  subst he
  obtain ⟨s1, s2, s3, s4⟩ := o.shape
  have hcl := shape_subs.1 (s4 (mk h ⟨lp, le, lc, les⟩ l) (by simp))
  have hcr := shape_subs.1 (s4 (mk h ⟨rp, re, rc, res⟩ r) (by simp))
  simp only [hd_mk, subs_mk] at hcl hcr s1 s2 s3
  simp only [List.length_append, List.length_cons] at s3 s2
  have hlen : ∀ {n : Nat} {L : List (Sub h)}, Cnt h n L.length → n ≤ 31 → L.length ≤ 100 := by
    intro n L hc hn
    rcases cnt_cases hc with h0 | h0
    · subst h0; rw [sub0 L]; simp
    · omega
  have g := o.grp (M := [mk h ⟨lp, le, lc, les⟩ l, mk h ⟨rp, re, rc, res⟩ r])
  have g0 := g
  rw [heads_mk, heads_mk] at g
  obtain ⟨ms, mr⟩ := m
  have hks : (kids h (A ++ ([mk h ⟨lp, le, lc, les⟩ l, mk h ⟨rp, re, rc, res⟩ r] ++ B))) = kids h A ++ lp :: rp :: kids h B := by
    simp only [kids_app, kids_cons, List.cons_append, List.nil_append, hd_mk]
  refine (merge64 _ _ w p ve vc (a ++ (ms, mr) :: b) _ lp le lc les _ rp re rc res _ A.length g ?_ ?_ ms mr ?_ (by simp only [List.length_append, List.length_cons]; omega) ?_ (by omega) (by omega) (by omega) (by rw [List.length_map]; exact hlen hcl.2.2.1 (by omega)) (by rw [List.length_map]; exact hlen hcr.2.2.1 (by omega))).mono ?_
  · rw [hks, ← kids_len h A]; simp
  · rw [hks, ← kids_len h A, List.getElem?_append_right (by omega)]; simp
  · rw [hA]; simp
  · rw [kids_len]; simp only [List.length_append, List.length_cons, List.length_nil]; omega
  rintro e w' ⟨rfl, ve', vc', le', lc', gg⟩
  obtain ⟨c, q1, q2, q3, q4⟩ := merged (lo' := lo') (m := (ms, mr)) o hA h1 h2 hlo (by rw [heads_mk, heads_mk]; exact gg)
  exact ⟨rfl, _, c, rfl, rfl, q1, q2, q3, q4⟩

end Go.Proofs.Qxb6601380a
