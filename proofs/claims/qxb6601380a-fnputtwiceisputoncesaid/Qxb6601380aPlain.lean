/-
  Plain words for this seat: the order of keys, sorted lists of entries, put and remove over lists, the in-order reading of a node. No Go here.
-/
import Derived.Lib.Bytealg
import Derived.WalkKit
namespace Go.Proofs.Qxb6601380a

/-- An entry: its key and its record. -/
abbrev Ent := ByteArray × Int

/-- The byte order of keys. -/
def klb (a b : ByteArray) : Bool := decide (a.data.toList < b.data.toList)
def kl (a b : ByteArray) : Prop := klb a b = true

theorem kl_def {a b : ByteArray} : kl a b ↔ a.data.toList < b.data.toList := decide_eq_true_iff
theorem klb_false {a b : ByteArray} (h : ¬ kl a b) : klb a b = false := by simpa [kl] using h

theorem data_inj {a b : ByteArray} (h : a.data.toList = b.data.toList) : a = b := by
  obtain ⟨⟨x⟩⟩ := a
  obtain ⟨⟨y⟩⟩ := b
  simp at h
  rw [h]

theorem kl_irrefl (a : ByteArray) : ¬ kl a a := fun h => List.lt_irrefl _ (kl_def.1 h)
theorem kl_trans {a b c : ByteArray} (h : kl a b) (k : kl b c) : kl a c := kl_def.2 (List.lt_trans (kl_def.1 h) (kl_def.1 k))
theorem kl_asymm {a b : ByteArray} (h : kl a b) : ¬ kl b a := fun k => kl_irrefl a (kl_trans h k)
theorem kl_ne {a b : ByteArray} (h : kl a b) : a ≠ b := fun e => kl_irrefl a (by rw [e] at h ⊢; exact h)
theorem kl_tri (a b : ByteArray) : kl a b ∨ a = b ∨ kl b a := by
  rcases Classical.em (a.data.toList < b.data.toList) with h | h
  · exact .inl (kl_def.2 h)
  · rcases Classical.em (b.data.toList < a.data.toList) with k | k
    · exact .inr (.inr (kl_def.2 k))
    · exact .inr (.inl (data_inj (List.le_antisymm k h)))

theorem cmp_tri : ∀ (a b : List UInt8), (Lib.compareBytes a b = -1 ∧ a < b) ∨ (Lib.compareBytes a b = 0 ∧ a = b) ∨ (Lib.compareBytes a b = 1 ∧ b < a)
  | [], [] => .inr (.inl ⟨rfl, rfl⟩)
  | [], _ :: _ => .inl ⟨rfl, by simp⟩
  | _ :: _, [] => .inr (.inr ⟨rfl, by simp⟩)
  | x :: a, y :: b => by
    unfold Lib.compareBytes
    by_cases h1 : x < y
    · exact .inl ⟨by rw [if_pos h1], List.Lex.rel h1⟩
    · by_cases h2 : y < x
      · exact .inr (.inr ⟨by rw [if_neg h1, if_pos h2], List.Lex.rel h2⟩)
      · have e : x = y := UInt8.le_antisymm (UInt8.not_lt.1 h2) (UInt8.not_lt.1 h1)
        subst e
        rw [if_neg h1, if_neg h1]
        rcases cmp_tri a b with ⟨h, k⟩ | ⟨h, k⟩ | ⟨h, k⟩
        · exact .inl ⟨h, List.Lex.cons k⟩
        · exact .inr (.inl ⟨h, by rw [k]⟩)
        · exact .inr (.inr ⟨h, List.Lex.cons k⟩)

/-- What strings.Compare answers. -/
def kc (a b : ByteArray) : Int := Lib.compareBytes a.data.toList b.data.toList

theorem kc_tri (a b : ByteArray) : (kc a b = -1 ∧ kl a b) ∨ (kc a b = 0 ∧ a = b) ∨ (kc a b = 1 ∧ kl b a) := by
  rcases cmp_tri a.data.toList b.data.toList with ⟨h, k⟩ | ⟨h, k⟩ | ⟨h, k⟩
  · exact .inl ⟨h, kl_def.2 k⟩
  · exact .inr (.inl ⟨h, data_inj k⟩)
  · exact .inr (.inr ⟨h, kl_def.2 k⟩)

theorem kc_neg {a b : ByteArray} : kc a b < 0 ↔ kl a b := by
  rcases kc_tri a b with ⟨h, k⟩ | ⟨h, k⟩ | ⟨h, k⟩
  · simp [h, k]
  · subst k; simp [h, kl_irrefl]
  · have := kl_asymm k; simp [h, this]

theorem kc_zero {a b : ByteArray} : kc a b = 0 ↔ a = b := by
  rcases kc_tri a b with ⟨h, k⟩ | ⟨h, k⟩ | ⟨h, k⟩
  · have := kl_ne k; simp [h, this]
  · subst k; simp [h]
  · have := kl_ne k; simp [h, this.symm]

/-- Strictly ordered by key. -/
def Srt (l : List Ent) : Prop := l.Pairwise fun x y => kl x.1 y.1

theorem srt_app {a b : List Ent} : Srt (a ++ b) ↔ Srt a ∧ Srt b ∧ ∀ x ∈ a, ∀ y ∈ b, kl x.1 y.1 := List.pairwise_append
theorem srt_cons {e : Ent} {b : List Ent} : Srt (e :: b) ↔ (∀ y ∈ b, kl e.1 y.1) ∧ Srt b := List.pairwise_cons

/-- All of l before k; all of l after k. -/
def Bef (l : List Ent) (k : ByteArray) : Prop := ∀ x ∈ l, kl x.1 k
def Aft (l : List Ent) (k : ByteArray) : Prop := ∀ x ∈ l, kl k x.1

theorem bef_app {a b : List Ent} {k : ByteArray} : Bef (a ++ b) k ↔ Bef a k ∧ Bef b k := by
  simp only [Bef, List.mem_append, or_imp, forall_and]
theorem aft_app {a b : List Ent} {k : ByteArray} : Aft (a ++ b) k ↔ Aft a k ∧ Aft b k := by
  simp only [Aft, List.mem_append, or_imp, forall_and]
theorem bef_cons {e : Ent} {b : List Ent} {k : ByteArray} : Bef (e :: b) k ↔ kl e.1 k ∧ Bef b k := by
  simp only [Bef, List.mem_cons, or_imp, forall_and, forall_eq]
theorem aft_cons {e : Ent} {b : List Ent} {k : ByteArray} : Aft (e :: b) k ↔ kl k e.1 ∧ Aft b k := by
  simp only [Aft, List.mem_cons, or_imp, forall_and, forall_eq]
theorem bef_nil {k : ByteArray} : Bef [] k := fun _ h => by simp at h
theorem aft_nil {k : ByteArray} : Aft [] k := fun _ h => by simp at h

/-- Put over an ordered list; remove. -/
def putL (k : ByteArray) (r : Int) (l : List Ent) : List Ent := l.filter (fun e => klb e.1 k) ++ (k, r) :: l.filter (fun e => klb k e.1)
def rmL (k : ByteArray) (l : List Ent) : List Ent := l.filter (fun e => klb e.1 k) ++ l.filter (fun e => klb k e.1)

theorem lo_bef {l : List Ent} {k : ByteArray} (h : Bef l k) : l.filter (fun e => klb e.1 k) = l := by
  rw [List.filter_eq_self]; exact fun x hx => h x hx
theorem lo_aft {l : List Ent} {k : ByteArray} (h : Aft l k) : l.filter (fun e => klb e.1 k) = [] := by
  rw [List.filter_eq_nil_iff]; exact fun x hx => by simpa [kl] using kl_asymm (h x hx)
theorem hi_bef {l : List Ent} {k : ByteArray} (h : Bef l k) : l.filter (fun e => klb k e.1) = [] := by
  rw [List.filter_eq_nil_iff]; exact fun x hx => by simpa [kl] using kl_asymm (h x hx)
theorem hi_aft {l : List Ent} {k : ByteArray} (h : Aft l k) : l.filter (fun e => klb k e.1) = l := by
  rw [List.filter_eq_self]; exact fun x hx => h x hx

theorem putL_in {a b : List Ent} {k : ByteArray} {r : Int} (ha : Bef a k) (hb : Aft b k) (l : List Ent) : putL k r (a ++ l ++ b) = a ++ putL k r l ++ b := by
  simp only [putL, List.filter_append, lo_bef ha, lo_aft hb, hi_bef ha, hi_aft hb, List.append_assoc, List.append_nil, List.nil_append, List.cons_append]
theorem rmL_in {a b : List Ent} {k : ByteArray} (ha : Bef a k) (hb : Aft b k) (l : List Ent) : rmL k (a ++ l ++ b) = a ++ rmL k l ++ b := by
  simp only [rmL, List.filter_append, lo_bef ha, lo_aft hb, hi_bef ha, hi_aft hb, List.append_assoc, List.append_nil, List.nil_append]

theorem putL_nil (k : ByteArray) (r : Int) : putL k r [] = [(k, r)] := rfl
theorem putL_one (k : ByteArray) (r r0 : Int) : putL k r [(k, r0)] = [(k, r)] := by
  simp [putL, klb_false (kl_irrefl k)]
theorem rmL_one (k : ByteArray) (r0 : Int) : rmL k [(k, r0)] = [] := by
  simp [rmL, klb_false (kl_irrefl k)]
theorem rmL_nil (k : ByteArray) : rmL k [] = [] := rfl

theorem putL_new {a b : List Ent} {k : ByteArray} {r : Int} (ha : Bef a k) (hb : Aft b k) : putL k r (a ++ b) = a ++ (k, r) :: b := by
  have := putL_in (r := r) ha hb []
  rw [List.append_nil, putL_nil] at this
  rw [this]; simp
theorem putL_old {a b : List Ent} {k : ByteArray} {r r0 : Int} (ha : Bef a k) (hb : Aft b k) : putL k r (a ++ (k, r0) :: b) = a ++ (k, r) :: b := by
  have := putL_in (r := r) ha hb [(k, r0)]
  rw [putL_one] at this
  simpa using this
theorem rmL_old {a b : List Ent} {k : ByteArray} {r0 : Int} (ha : Bef a k) (hb : Aft b k) : rmL k (a ++ (k, r0) :: b) = a ++ b := by
  have := rmL_in ha hb [(k, r0)]
  rw [rmL_one] at this
  simpa using this

/-- A strictly ordered list stands about k so, or so. -/
theorem srt_about : ∀ {l : List Ent} (_ : Srt l) (k : ByteArray), (∃ a b, l = a ++ b ∧ Bef a k ∧ Aft b k) ∨ (∃ a r b, l = a ++ (k, r) :: b ∧ Bef a k ∧ Aft b k)
  | [], _, k => .inl ⟨[], [], rfl, bef_nil, aft_nil⟩
  | (s, r) :: l, h, k => by
    rw [srt_cons] at h
    rcases kl_tri s k with h1 | h1 | h1
    · rcases srt_about h.2 k with ⟨a, b, rfl, ha, hb⟩ | ⟨a, r', b, rfl, ha, hb⟩
      · exact .inl ⟨(s, r) :: a, b, rfl, bef_cons.2 ⟨h1, ha⟩, hb⟩
      · exact .inr ⟨(s, r) :: a, r', b, rfl, bef_cons.2 ⟨h1, ha⟩, hb⟩
    · subst h1
      exact .inr ⟨[], r, l, rfl, bef_nil, h.1⟩
    · exact .inl ⟨[], (s, r) :: l, rfl, bef_nil, aft_cons.2 ⟨h1, fun x hx => kl_trans h1 (h.1 x hx)⟩⟩

theorem srt_put {l : List Ent} (h : Srt l) (k : ByteArray) (r : Int) : Srt (putL k r l) := by
  rcases srt_about h k with ⟨a, b, rfl, ha, hb⟩ | ⟨a, r', b, rfl, ha, hb⟩
  · rw [putL_new ha hb, srt_app, srt_cons]
    rw [srt_app] at h
    refine ⟨h.1, ⟨hb, h.2.1⟩, fun x hx y hy => ?_⟩
    rcases List.mem_cons.1 hy with rfl | hy
    · exact ha x hx
    · exact h.2.2 x hx y hy
  · rw [putL_old ha hb, srt_app, srt_cons]
    rw [srt_app, srt_cons] at h
    refine ⟨h.1, ⟨hb, h.2.1.2⟩, fun x hx y hy => ?_⟩
    rcases List.mem_cons.1 hy with rfl | hy
    · exact ha x hx
    · exact h.2.2 x hx y (List.mem_cons_of_mem _ hy)

theorem srt_rm {l : List Ent} (h : Srt l) (k : ByteArray) : Srt (rmL k l) := by
  rcases srt_about h k with ⟨a, b, rfl, ha, hb⟩ | ⟨a, r', b, rfl, ha, hb⟩
  · have := rmL_in ha hb []
    rw [List.append_nil, rmL_nil, List.append_nil] at this
    rw [this]; exact h
  · rw [rmL_old ha hb, srt_app]
    rw [srt_app, srt_cons] at h
    exact ⟨h.1, h.2.1.2, fun x hx y hy => h.2.2 x hx y (List.mem_cons_of_mem _ hy)⟩

theorem putL_twice {l : List Ent} (h : Srt l) (k : ByteArray) (r : Int) : putL k r (putL k r l) = putL k r l := by
  rcases srt_about h k with ⟨a, b, rfl, ha, hb⟩ | ⟨a, r', b, rfl, ha, hb⟩
  · rw [putL_new ha hb, putL_old ha hb]
  · rw [putL_old ha hb, putL_old ha hb]

/-- Where a key stands in an ordered list: at i, found or not. -/
def Fnd (l : List Ent) (k : ByteArray) (i : Nat) (f : Bool) : Prop :=
  ∃ a b, a.length = i ∧ Bef a k ∧ Aft b k ∧ ((f = false ∧ l = a ++ b) ∨ (f = true ∧ ∃ r, l = a ++ (k, r) :: b))

/-- A node's entries read in order between its children's. -/
def inter : List Ent → List (List Ent) → List Ent
  | _, [] => []
  | [], k :: ks => k ++ inter [] ks
  | e :: es, k :: ks => k ++ e :: inter es ks

/-- What stands behind a child: its entry and so on. -/
def tl : List Ent → List (List Ent) → List Ent
  | [], ks => inter [] ks
  | e :: es, ks => e :: inter es ks

theorem inter_cons (es : List Ent) (k : List Ent) (ks : List (List Ent)) : inter es (k :: ks) = k ++ tl es ks := by
  cases es <;> simp [inter, tl]

theorem inter_app : ∀ {es1 : List Ent} {ks1 : List (List Ent)} (_ : ks1.length = es1.length) (es2 : List Ent) (ks2 : List (List Ent)), inter (es1 ++ es2) (ks1 ++ ks2) = inter es1 ks1 ++ inter es2 ks2
  | [], [], _, es2, ks2 => by cases es2 <;> simp [inter]
  | [], _ :: _, h, _, _ => by simp at h
  | _ :: _, [], h, _, _ => by simp at h
  | e :: es1, k :: ks1, h, es2, ks2 => by
    have := inter_app (es1 := es1) (ks1 := ks1) (by simpa using h) es2 ks2
    simp [inter, this]

end Go.Proofs.Qxb6601380a
