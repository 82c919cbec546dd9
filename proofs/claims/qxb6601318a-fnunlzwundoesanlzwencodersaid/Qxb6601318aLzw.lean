/-
  PLAIN: the LZW coder's facts and the decoder's table. No Go here.
-/
import Derived.Test.Qxb6601318aBits
namespace Go.Proofs.Qxb6601318a

/-- The text of a code, T the texts of the entries from 258 on. -/
def look (T : List (List Int)) (c : Nat) : List Int := if c < 256 then [(c : Int)] else T.getD (c - 258) []

/-- A code that a table of m entries knows. -/
def okCode (c m : Nat) : Prop := c < 256 ∨ (258 ≤ c ∧ c - 258 < m)

theorem okCode.mono {c m m' : Nat} (h : okCode c m) (hm : m ≤ m') : okCode c m' := by
  rcases h with h | ⟨h, h'⟩
  · exact .inl h
  · exact .inr ⟨h, by omega⟩

theorem look_append (T S : List (List Int)) (c : Nat) (h : okCode c T.length) : look (T ++ S) c = look T c := by
  unfold look
  rcases h with h | ⟨h, h'⟩
  · rw [if_pos h, if_pos h]
  · rw [if_neg (by omega), if_neg (by omega), List.getD_eq_getElem?_getD, List.getElem?_append_left h', List.getD_eq_getElem?_getD]

theorem look_ent (T : List (List Int)) (e : Nat) (s : List Int) (h : T[e]? = some s) : look T (258 + e) = s := by
  unfold look
  rw [if_neg (by omega), Nat.add_sub_cancel_left, List.getD_eq_getElem?_getD, h]
  rfl

theorem look_byte (T : List (List Int)) (b : Int) (h0 : 0 ≤ b) (h1 : b < 256) : look T b.toNat = [b] := by
  unfold look
  rw [if_pos (by omega), Int.toNat_of_nonneg h0]

/-- What holds of the codes C that the coder has made (the pending one last), its entries E and their texts T. -/
structure Good (x : List Int) (E : List (Nat × Int)) (T : List (List Int)) (C : List Nat) : Prop where
  len : T.length = E.length
  cnt : E.length = min (C.length - 1) 3838
  codes : ∀ (j c : Nat), C[j]? = some c → okCode c (min j 3838)
  ents : ∀ (e p : Nat) (b : Int), E[e]? = some (p, b) → C[e]? = some p ∧ ∃ c, C[e + 1]? = some c ∧ (look T c).head? = some b
  tab : ∀ (e p : Nat) (b : Int), E[e]? = some (p, b) → T[e]? = some (look T p ++ [b])
  text : (C.map (look T)).flatten = x
  rng : ∀ b ∈ x, 0 ≤ b ∧ b < 256

variable {x : List Int} {E : List (Nat × Int)} {T : List (List Int)} {C : List Nat} {w : Nat}

theorem Good.ne (h : Good x E T C) {c : Nat} (hc : okCode c E.length) : look T c ≠ [] := by
  rcases hc with hc | ⟨hc, hc'⟩
  · unfold look; rw [if_pos hc]; simp
  · obtain ⟨e, rfl⟩ : ∃ e, c = 258 + e := ⟨c - 258, by omega⟩
    have he : e < E.length := by omega
    have := h.tab e (E[e].1) (E[e].2) (by rw [List.getElem?_eq_getElem he])
    rw [look_ent T e _ this]
    simp

theorem good_start (b : Int) (h0 : 0 ≤ b) (h1 : b < 256) : Good [b] [] [] [b.toNat] where
  len := rfl
  cnt := by simp
  codes := by
    intro j c hj
    match j, hj with
    | 0, hj => simp at hj; exact .inl (by omega)
  ents := by intro e p b h; simp at h
  tab := by intro e p b h; simp at h
  text := by simp [look_byte [] b h0 h1]
  rng := by intro b' hb; simp at hb; subst hb; exact ⟨h0, h1⟩

theorem getElem?_snoc_lt {α : Type} (l : List α) (a : α) (i : Nat) (h : i < l.length) : (l ++ [a])[i]? = l[i]? := List.getElem?_append_left h
theorem getElem?_snoc_at {α : Type} (l : List α) (a : α) : (l ++ [a])[l.length]? = some a := by simp

theorem good_found (h : Good x E T (C ++ [w])) (e : Nat) (b : Int) (hb : 0 ≤ b ∧ b < 256) (he : E[e]? = some (w, b)) : Good (x ++ [b]) E T (C ++ [258 + e]) := by
  have hcnt := h.cnt
  simp only [List.length_append, List.length_cons, List.length_nil, Nat.zero_add, Nat.add_sub_cancel] at hcnt
  have hel : e < E.length := (List.getElem?_eq_some_iff.1 he).1
  have hT := h.tab e w b he
  have hL := look_ent T e _ hT
  have hw : okCode w (min C.length 3838) := h.codes C.length w (getElem?_snoc_at C w)
  have hne : look T w ≠ [] := h.ne (hw.mono (by omega))
  refine ⟨h.len, by simpa using hcnt, ?_, ?_, h.tab, ?_, ?_⟩
  · intro j c hj
    by_cases hjl : j < C.length
    · rw [getElem?_snoc_lt _ _ _ hjl] at hj
      exact h.codes j c (by rw [getElem?_snoc_lt _ _ _ hjl]; exact hj)
    · have := (List.getElem?_eq_some_iff.1 hj).1
      simp at this
      obtain rfl : j = C.length := by omega
      rw [getElem?_snoc_at] at hj
      injection hj with hj
      subst hj
      exact .inr ⟨by omega, by omega⟩
  · intro e' p b' he'
    obtain ⟨h1, c, h2, h3⟩ := h.ents e' p b' he'
    have hl := (List.getElem?_eq_some_iff.1 h2).1
    simp at hl
    refine ⟨by rw [getElem?_snoc_lt _ _ _ hl] at h1 ⊢; exact h1, ?_⟩
    by_cases hlt : e' + 1 < C.length
    · exact ⟨c, by rw [getElem?_snoc_lt _ _ _ hlt] at h2 ⊢; exact h2, h3⟩
    · have : e' + 1 = C.length := by omega
      rw [this, getElem?_snoc_at] at h2
      injection h2 with h2
      subst h2
      refine ⟨258 + e, by rw [this, getElem?_snoc_at], ?_⟩
      rw [hL, List.head?_append, h3]
      rfl
  · have := h.text
    simp only [List.map_append, List.flatten_append, List.map_cons, List.map_nil, List.flatten_cons, List.flatten_nil, List.append_nil] at this ⊢
    rw [hL, ← List.append_assoc, this]
  · intro b' hb'
    simp at hb'
    rcases hb' with hb' | rfl
    · exact h.rng b' hb'
    · exact hb

theorem map_look_append (h : Good x E T C) (S : List (List Int)) : C.map (look (T ++ S)) = C.map (look T) := by
  apply List.map_congr_left
  intro c hc
  obtain ⟨j, hj, rfl⟩ := List.getElem_of_mem hc
  have := h.codes j C[j] (List.getElem?_eq_getElem hj)
  exact look_append T S _ (this.mono (by rw [h.len, h.cnt]; omega))

theorem good_emit_room (h : Good x E T (C ++ [w])) (b : Int) (hb : 0 ≤ b ∧ b < 256) (hroom : E.length < 3838) :
    Good (x ++ [b]) (E ++ [(w, b)]) (T ++ [look T w ++ [b]]) (C ++ [w] ++ [b.toNat]) := by
  have hcnt := h.cnt
  simp only [List.length_append, List.length_cons, List.length_nil, Nat.zero_add, Nat.add_sub_cancel] at hcnt
  have hEC : E.length = C.length := by omega
  have hw : okCode w (min C.length 3838) := h.codes C.length w (getElem?_snoc_at C w)
  have hwT : okCode w T.length := hw.mono (by rw [h.len]; omega)
  refine ⟨by simp [h.len], by simp; omega, ?_, ?_, ?_, ?_, ?_⟩
  · intro j c hj
    by_cases hjl : j < (C ++ [w]).length
    · rw [getElem?_snoc_lt _ _ _ hjl] at hj
      exact h.codes j c hj
    · have := (List.getElem?_eq_some_iff.1 hj).1
      obtain rfl : j = (C ++ [w]).length := by simp at this hjl ⊢; omega
      rw [getElem?_snoc_at] at hj
      injection hj with hj
      subst hj
      exact .inl (by omega)
  · intro e p b' he
    by_cases hel : e < E.length
    · rw [getElem?_snoc_lt _ _ _ hel] at he
      obtain ⟨h1, c, h2, h3⟩ := h.ents e p b' he
      have hl := (List.getElem?_eq_some_iff.1 h2).1
      refine ⟨by rw [getElem?_snoc_lt _ _ _ (by omega)]; exact h1, c, by rw [getElem?_snoc_lt _ _ _ hl]; exact h2, ?_⟩
      rw [look_append T _ c ((h.codes _ c h2).mono (by rw [h.len]; omega))]
      exact h3
    · have := (List.getElem?_eq_some_iff.1 he).1
      obtain rfl : e = E.length := by simp at this; omega
      rw [getElem?_snoc_at] at he
      injection he with he
      injection he with he1 he2
      subst he1
      subst he2
      rw [hEC]
      refine ⟨by rw [getElem?_snoc_lt _ _ _ (by simp), getElem?_snoc_at], b.toNat, ?_, ?_⟩
      · have : C.length + 1 = (C ++ [w]).length := by simp
        rw [this, getElem?_snoc_at]
      · rw [look_byte _ b hb.1 hb.2]; rfl
  · intro e p b' he
    by_cases hel : e < E.length
    · rw [getElem?_snoc_lt _ _ _ hel] at he
      have h1 := h.tab e p b' he
      obtain ⟨h2, _⟩ := h.ents e p b' he
      rw [getElem?_snoc_lt _ _ _ (by rw [h.len]; exact hel), h1, look_append T _ p ((h.codes _ p h2).mono (by rw [h.len]; omega))]
    · have := (List.getElem?_eq_some_iff.1 he).1
      obtain rfl : e = E.length := by simp at this; omega
      rw [getElem?_snoc_at] at he
      injection he with he
      injection he with he1 he2
      subst he1
      subst he2
      rw [← h.len, getElem?_snoc_at, look_append T _ w hwT]
  · have := h.text
    rw [List.map_append, map_look_append h, List.flatten_append, this]
    simp [look_byte _ b hb.1 hb.2]
  · intro b' hb'
    simp at hb'
    rcases hb' with hb' | rfl
    · exact h.rng b' hb'
    · exact hb

theorem good_emit_full (h : Good x E T (C ++ [w])) (b : Int) (hb : 0 ≤ b ∧ b < 256) (hroom : ¬ E.length < 3838) :
    Good (x ++ [b]) E T (C ++ [w] ++ [b.toNat]) := by
  have hcnt := h.cnt
  simp only [List.length_append, List.length_cons, List.length_nil, Nat.zero_add, Nat.add_sub_cancel] at hcnt
  refine ⟨h.len, by simp; omega, ?_, ?_, h.tab, ?_, ?_⟩
  · intro j c hj
    by_cases hjl : j < (C ++ [w]).length
    · rw [getElem?_snoc_lt _ _ _ hjl] at hj
      exact h.codes j c hj
    · have := (List.getElem?_eq_some_iff.1 hj).1
      obtain rfl : j = (C ++ [w]).length := by simp at this hjl ⊢; omega
      rw [getElem?_snoc_at] at hj
      injection hj with hj
      subst hj
      exact .inl (by omega)
  · intro e p b' he
    obtain ⟨h1, c, h2, h3⟩ := h.ents e p b' he
    have hl := (List.getElem?_eq_some_iff.1 h2).1
    exact ⟨by rw [getElem?_snoc_lt _ _ _ (by omega)]; exact h1, c, by rw [getElem?_snoc_lt _ _ _ hl]; exact h2, h3⟩
  · rw [List.map_append, List.flatten_append, h.text]
    simp [look_byte _ b hb.1 hb.2]
  · intro b' hb'
    simp at hb'
    rcases hb' with hb' | rfl
    · exact h.rng b' hb'
    · exact hb

theorem flatten_take_prefix (T : List (List Int)) (C : List Nat) (j : Nat) : ((C.take j).map (look T)).flatten <+: (C.map (look T)).flatten := by
  have h : C.map (look T) = (C.take j).map (look T) ++ (C.drop j).map (look T) := by rw [← List.map_append, List.take_append_drop]
  rw [h, List.flatten_append]
  exact List.prefix_append _ _

/-! ### The decoder's table: m entries are known. -/
structure Dec (T : List (List Int)) (m : Nat) (PL LL HL SL : List Int) : Prop where
  pl : PL.length = 4096
  ll : LL.length = 4096
  hl : HL.length = 4096
  sl : SL.length = 4096
  pr : ∀ i, i < 4096 → 0 ≤ PL.getD i 0 ∧ PL.getD i 0 < 4096
  hd : ∀ c, okCode c m → HL.getD c 0 = (look T c).headD 0
  sz : ∀ c, okCode c m → SL.getD c 0 = ((look T c).length : Int)
  la : ∀ c, c < 256 → LL.getD c 0 = (c : Int)
  pre : ∀ e, e < m → okCode (PL.getD (258 + e) 0).toNat e ∧ look T (258 + e) = look T (PL.getD (258 + e) 0).toNat ++ [LL.getD (258 + e) 0]

theorem getD_set_ne (l : List Int) (i j : Nat) (a d : Int) (h : i ≠ j) : (l.set i a).getD j d = l.getD j d := by
  simp [List.getD_eq_getElem?_getD, h]
theorem getD_set_eq (l : List Int) (i : Nat) (a d : Int) (h : i < l.length) : (l.set i a).getD i d = a := by
  simp [List.getD_eq_getElem?_getD, h]

theorem okCode_ne {c m : Nat} (h : okCode c m) : 258 + m ≠ c := by
  rcases h with h | ⟨h, h'⟩ <;> omega

theorem okCode_succ {c m : Nat} (h : okCode c (m + 1)) : okCode c m ∨ c = 258 + m := by
  rcases h with h | ⟨h, h'⟩
  · exact .inl (.inl h)
  · by_cases e : c - 258 = m
    · exact .inr (by omega)
    · exact .inl (.inr ⟨h, by omega⟩)

theorem head_snoc (s : List Int) (b : Int) (h : s ≠ []) : (s ++ [b]).headD 0 = s.headD 0 := by
  cases s with
  | nil => exact absurd rfl h
  | cons a t => rfl

/-- The head that the decoder reads for the new entry's last byte. -/
theorem dec_head {m : Nat} {PL LL HL SL : List Int} (h : Dec T m PL LL HL SL) (hm : m < 3838) {p c : Nat} {b : Int} (hp : okCode p m) (hpn : look T p ≠ []) (hT : look T (258 + m) = look T p ++ [b])
    (hc : okCode c (m + 1)) : (HL.set (258 + m) (HL.getD p 0)).getD c 0 = (look T c).headD 0 := by
  rcases okCode_succ hc with hc | rfl
  · rw [getD_set_ne _ _ _ _ _ (okCode_ne hc)]
    exact h.hd c hc
  · rw [getD_set_eq _ _ _ _ (by rw [h.hl]; omega), hT, head_snoc _ _ hpn]
    exact h.hd p hp

theorem dec_step {m : Nat} {PL LL HL SL : List Int} (h : Dec T m PL LL HL SL) (hm : m < 3838) {p : Nat} {b : Int} (hp : okCode p m) (hpn : look T p ≠ []) (hT : look T (258 + m) = look T p ++ [b]) :
    Dec T (m + 1) (PL.set (258 + m) (p : Int)) (LL.set (258 + m) b) (HL.set (258 + m) (HL.getD p 0)) (SL.set (258 + m) (SL.getD p 0 + 1)) := by
  have hp4 : p < 4096 := by rcases hp with hp | ⟨_, hp⟩ <;> omega
  refine ⟨by simp [h.pl], by simp [h.ll], by simp [h.hl], by simp [h.sl], ?_, ?_, ?_, ?_, ?_⟩
  · intro i hi
    by_cases e : 258 + m = i
    · subst e
      rw [getD_set_eq _ _ _ _ (by rw [h.pl]; omega)]
      omega
    · rw [getD_set_ne _ _ _ _ _ e]
      exact h.pr i hi
  · intro c hc
    exact dec_head h hm hp hpn hT hc
  · intro c hc
    rcases okCode_succ hc with hc | rfl
    · rw [getD_set_ne _ _ _ _ _ (okCode_ne hc)]
      exact h.sz c hc
    · rw [getD_set_eq _ _ _ _ (by rw [h.sl]; omega), hT, h.sz p hp]
      simp
  · intro c hc
    rw [getD_set_ne _ _ _ _ _ (by omega)]
    exact h.la c hc
  · intro e he
    by_cases hem : e = m
    · subst hem
      rw [getD_set_eq _ _ _ _ (by rw [h.pl]; omega), getD_set_eq _ _ _ _ (by rw [h.ll]; omega)]
      exact ⟨hp, hT⟩
    · rw [getD_set_ne _ _ _ _ _ (by omega), getD_set_ne _ _ _ _ _ (by omega)]
      exact h.pre e (by omega)

/-- One step of the writing out: the code's text is the text of the code ahead of it and its last byte. -/
theorem dec_chain {m : Nat} {PL LL HL SL : List Int} (h : Dec T m PL LL HL SL) {c : Nat} (hc : okCode c m) :
    ∃ s, look T c = s ++ [LL.getD c 0] ∧ (s ≠ [] → okCode (PL.getD c 0).toNat m ∧ look T (PL.getD c 0).toNat = s) := by
  rcases hc with hc | ⟨hc, hc'⟩
  · refine ⟨[], ?_, fun h => absurd rfl h⟩
    rw [h.la c hc]
    unfold look
    rw [if_pos hc]
    rfl
  · obtain ⟨e, rfl⟩ : ∃ e, c = 258 + e := ⟨c - 258, by omega⟩
    obtain ⟨h1, h2⟩ := h.pre e (by omega)
    exact ⟨_, h2, fun _ => ⟨h1.mono (by omega), rfl⟩⟩

end Go.Proofs.Qxb6601318a
