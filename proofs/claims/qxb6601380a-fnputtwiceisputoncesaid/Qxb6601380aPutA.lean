/-
  put (43): the root's split; what is known on the way.
-/
import Derived.Test.Qxb6601380aSpot
import Derived.Test.Qxb6601380aEnds
namespace Go.Proofs.Qxb6601380a
open Go.RowKit

theorem root_new {W : World} {H p g : Nat} {u : T H} (hl : Lies W H u) (hsh : Shape 15 H u) (hnd : (blocks H u).Nodup) (hb1 : BlockAt W p 89 [.slice none 0 0, .slice (some ⟨g, 0, none⟩) 1 1]) (hb2 : BlockAt W g 64 [ptr (hd H u).p]) (hpg : p ≠ g) (hp : p ∉ blocks H u) (hg : g ∉ blocks H u) :
    Ok W 0 (H + 1) (⟨p, .slice none 0 0, .slice (some ⟨g, 0, none⟩) 1 1, []⟩, [] ++ u :: []) := by
  refine ⟨⟨⟨hb1, ⟨rfl, .inl ⟨rfl, rfl⟩⟩, ?_, fun h => by simp at h⟩, fun c hc => ?_⟩, ⟨Nat.zero_le _, by simp, rfl, fun c hc => ?_⟩, ?_⟩
  · exact own_shut (rest := []) rfl (Nat.zero_le _) (Nat.le_refl _) (by unfold maxLen; omega) rfl (by simpa using hb2)
  · simp only [List.nil_append, List.mem_singleton] at hc
    subst hc
    exact hl
  · simp only [List.nil_append, List.mem_singleton] at hc
    subst hc
    exact hsh
  · simp only [blocks, Hd.own, Value.ownBlock, List.nil_append, List.flatMap_cons, List.flatMap_nil, List.append_nil, Option.toList_none, Option.toList_some, List.cons_append]
    refine List.nodup_cons.2 ⟨?_, List.nodup_cons.2 ⟨hg, hnd⟩⟩
    simp only [List.mem_cons, not_or]
    exact ⟨hpg, hp⟩

/-- What stands behind the root's split, if there is one. -/
def Inv0 (w : World) (st : Nat) (L : List Ent) (bs : List Nat) (k : ByteArray) (r : Int) (ah : Value) (wx : World) : Prop :=
  ∃ (H' : Nat) (u' : T H'), Ok wx (min H' 1) H' u' ∧ (hd H' u').es.length ≤ 30 ∧ flat H' u' = L ∧ BlockAt wx st 74 [ptr (hd H' u').p, .int .i64 L.length, ah] ∧ BlockAt wx w.heap.size 36 [.string k, .int .u32 r] ∧ st ∉ blocks H' u' ∧ w.heap.size ∉ blocks H' u' ∧ Moved w wx bs (st :: blocks H' u')

theorem put_root (w : World) (st : Nat) (L : List Ent) (bs : List Nat) (k : ByteArray) (r : Int) (H : Nat) (u : T H) (ah : Value) (rp : Nat) (hok : Ok w (min H 1) H u) (hfl : flat H u = L) (hst : BlockAt w st 74 [ptr rp, .int .i64 L.length, ah]) (hrp : rp = (hd H u).p) (hsu : st ∉ blocks H u) (hbs : ∀ b, b ∈ bs ↔ b = st ∨ b ∈ blocks H u) (hf : (hd H u).es.length = 31) :
    Calls Try.prog 57 #[ptr (w.heap.size + 1 + 1), .int .i64 0] ((((w.setCell ⟨st, 0, none⟩ (.pointer (some ⟨w.heap.size + 1 + 1, 0, none⟩))).alloc (.cells #[.string k, .int .u32 r] 36)).alloc (.cells #[.pointer (some ⟨rp, 0, none⟩)] 64)).alloc (.cells #[.slice none 0 0, .slice (some ⟨w.heap.size + 1, 0, none⟩) 1 1] 89))
      fun e w' => e = .returned (.tuple #[]) ∧ Inv0 w st L bs k r ah w' := by
  obtain ⟨ws, hws⟩ : ∃ ws, ws = w.setCell ⟨st, 0, none⟩ (.pointer (some ⟨w.heap.size + 1 + 1, 0, none⟩)) := ⟨_, rfl⟩
  have z0 : ws.heap.size = w.heap.size := by rw [hws]; simp
  have e0 : BlockAt ws st 74 [ptr (w.heap.size + 1 + 1), .int .i64 L.length, ah] := by rw [hws]; exact hst.set 0 _
  have hoth : ∀ b, b ≠ st → ws.heap[b]? = w.heap[b]? := fun b hb => by rw [hws]; exact Below.heap_setCell _ _ _ _ hb
  have hws1 : ws.os = w.os ∧ ws.tape = w.tape ∧ ws.output = w.output := by rw [hws]; exact ⟨rfl, rfl, rfl⟩
  rw [← hws]
  clear hws
  obtain ⟨w1, hw1⟩ : ∃ w1, w1 = ws.alloc (.cells #[.string k, .int .u32 r] 36) := ⟨_, rfl⟩
  obtain ⟨w2, hw2⟩ : ∃ w2, w2 = w1.alloc (.cells #[.pointer (some ⟨rp, 0, none⟩)] 64) := ⟨_, rfl⟩
  obtain ⟨W, hW⟩ : ∃ W, W = w2.alloc (.cells #[.slice none 0 0, .slice (some ⟨w.heap.size + 1, 0, none⟩) 1 1] 89) := ⟨_, rfl⟩
  have z1 : w1.heap.size = w.heap.size + 1 := by rw [hw1, ← z0]; simp
  have z2 : w2.heap.size = w.heap.size + 1 + 1 := by rw [hw2, ← z1]; simp
  have g1 : ws.grownBy w1 none := by rw [hw1]; exact World.grownBy_alloc _ _ _
  have g2 : w1.grownBy w2 none := by rw [hw2]; exact World.grownBy_alloc _ _ _
  have g3 : w2.grownBy W none := by rw [hW]; exact World.grownBy_alloc _ _ _
  have e1 : BlockAt w1 w.heap.size 36 [.string k, .int .u32 r] := by rw [hw1, ← z0]; exact blockAt_new ws 36 [.string k, .int .u32 r]
  have e2 : BlockAt w2 (w.heap.size + 1) 64 [ptr rp] := by rw [hw2, ← z1]; exact blockAt_new w1 64 [ptr rp]
  have E3 : BlockAt W (w.heap.size + 1 + 1) 89 [.slice none 0 0, .slice (some ⟨w.heap.size + 1, 0, none⟩) 1 1] := by
    have := blockAt_new w2 89 [.slice none 0 0, .slice (some ⟨w.heap.size + 1, 0, none⟩) 1 1]
    rw [z2, ← hW] at this
    exact this
  have g123 := grown_trans (grown_trans g1 g2) g3
  have hstl := hst.lt
  rw [← hw1, ← hw2, ← hW]
  clear hw1 hw2 hW
  have hold : ∀ b, b < w.heap.size → b ≠ st → W.heap[b]? = w.heap[b]? := fun b hb h => by rw [g123.block b (by omega) (by simp), hoth b h]
  have hbl : ∀ b ∈ blocks H u, b < w.heap.size := hok.lies.lt
  have E1 : BlockAt W w.heap.size 36 [.string k, .int .u32 r] := (e1.grown g2 (by simp)).grown g3 (by simp)
  have E2 : BlockAt W (w.heap.size + 1) 64 [ptr (hd H u).p] := by rw [← hrp]; exact e2.grown g3 (by simp)
  have E0 : BlockAt W st 74 [ptr (w.heap.size + 1 + 1), .int .i64 L.length, ah] := e0.grown g123 (by simp)
  have hzW : w.heap.size + 1 + 1 < W.heap.size := E3.lt
  have hL0 : Lies W H u := hok.lies.same fun b hb => hold b (hbl b hb) fun e => hsu (e ▸ hb)
  have o := root_new hL0 (hok.shape.le (by omega)) hok.apart E3 E2 (by omega) (fun h => by have := hbl _ h; omega) (fun h => by have := hbl _ h; omega)
  have hC := split_tree (a := []) (b := []) o hf (by simp) rfl rfl
  refine hC.mono ?_
  rintro e w' ⟨rfl, d', c1, m, c2, q1, q2, q3, q4, q5, q6, q7⟩
  simp only [List.nil_append] at q2 q3 q7
  have hB0 : blocks (H + 1) ((⟨w.heap.size + 1 + 1, .slice none 0 0, .slice (some ⟨w.heap.size + 1, 0, none⟩) 1 1, []⟩ : Hd), u :: []) = (w.heap.size + 1 + 1) :: (w.heap.size + 1) :: blocks H u := by
    simp [blocks, Hd.own, Value.ownBlock]
  rw [hB0] at q7
  have hno : ∀ b, b < w.heap.size + 1 → b ∉ blocks H u → b ∉ (w.heap.size + 1 + 1) :: (w.heap.size + 1) :: blocks H u := fun b hb hn h => by
    simp only [List.mem_cons] at h
    rcases h with h | h | h
    · omega
    · omega
    · exact hn h
  have hEb : w.heap.size ∉ blocks H u := fun h => by have := hbl _ h; omega
  refine ⟨rfl, H + 1, (d', [c1, c2]), ?_, by show d'.es.length ≤ 30; rw [q2]; simp, ?_, ?_, ?_, ?_, ?_, ?_⟩
  · have e : min (H + 1) 1 = 1 := by omega
    rw [e]
    refine ⟨q3.lies, ?_, q3.apart⟩
    have := q3.shape
    exact ⟨by rw [q2]; simp, this.2⟩
  · rw [← hfl, q4]
    have := flat_pair (A := []) (B := []) (x := c1) (y := c2) (a := []) (b := []) (m := m) q2 rfl
    simpa [inter, tl] using this
  · show BlockAt w' st 74 [ptr d'.p, _, _]
    rw [q1]
    exact E0.same (q7.block st (by omega) (hno st (by omega) hsu))
  · exact E1.same (q7.block _ (by omega) (hno _ (by omega) hEb))
  · intro h
    rcases q7.place st h with q | q
    · exact hno st (by omega) hsu q
    · omega
  · intro h
    rcases q7.place _ h with q | q
    · exact hno _ (by omega) hEb q
    · omega
  · have mW : Moved w W bs (st :: (w.heap.size + 1 + 1) :: (w.heap.size + 1) :: blocks H u) := by
      refine ⟨?_, ?_, ?_, ?_, fun b hb hn => hold b hb fun e => hn ((hbs b).2 (.inl e)), fun b hb => ?_⟩
      · exact g123.os.trans hws1.1
      · exact g123.tape.trans hws1.2.1
      · exact g123.output.trans hws1.2.2
      · omega
      · simp only [List.mem_cons] at hb
        rcases hb with h | h | h | h
        · exact .inl ((hbs b).2 (.inl h))
        · exact .inr (by omega)
        · exact .inr (by omega)
        · exact .inl ((hbs b).2 (.inr h))
    exact mW.trans (q7.wide (fun x hx => List.mem_cons_of_mem _ hx) (fun x hx => by
      rcases List.mem_cons.1 hx with h | h
      · exact .inr (by rw [h]; exact List.mem_cons_self ..)
      · exact .inl h))

theorem bl_eq : ∀ (x y : List UInt8), Op.bytesLess x y = decide (x < y)
  | [], [] => by simp [Op.bytesLess]
  | _ :: _, [] => by simp [Op.bytesLess]
  | [], _ :: _ => by simp [Op.bytesLess]
  | a :: x, b :: y => by
    rw [Op.bytesLess, bl_eq x y]
    simp only [List.cons_lt_cons_iff]
    by_cases h1 : a < b <;> by_cases h2 : a = b <;> by_cases h3 : x < y <;> simp [h1, h2, h3]

theorem gtr_kl {k s : ByteArray} (h : (!Op.bytesLess k.toList s.toList && !k.toList == s.toList) = true) : kl s k := by
  rw [bl_eq, ByteArray.toList_eq, ByteArray.toList_eq] at h
  simp only [Bool.and_eq_true, Bool.not_eq_true', decide_eq_false_iff_not, beq_eq_false_iff_ne, ne_eq] at h
  rcases kl_tri s k with q | q | q
  · exact q
  · exact absurd (by rw [q]) h.2
  · exact absurd (kl_def.1 q) h.1

theorem inter_last : ∀ {a : List Ent} {A : List (List Ent)} {m : Ent}, A.length = a.length + 1 → ∃ Z, inter (a ++ [m]) A = Z ++ [m]
  | [], [x], m, _ => ⟨x, by simp [inter]⟩
  | [], [], _, h => by simp at h
  | [], _ :: _ :: _, _, h => by simp at h
  | _ :: _, [], _, h => by simp at h
  | e :: a, x :: A, m, h => by
    obtain ⟨Z, hZ⟩ := inter_last (a := a) (A := A) (m := m) (by simpa using h)
    exact ⟨x ++ e :: Z, by simp [inter, hZ]⟩

theorem bef_inter {a : List Ent} {A : List (List Ent)} {k : ByteArray} (hA : A.length = a.length) (hs : Srt (inter a A)) (hb : Bef a k) : Bef (inter a A) k := by
  rcases List.eq_nil_or_concat a with rfl | ⟨a0, m, rfl⟩
  · have : A = [] := List.eq_nil_of_length_eq_zero (by simpa using hA)
    subst this
    exact bef_nil
  · rw [List.concat_eq_append] at *
    obtain ⟨Z, hZ⟩ := inter_last (a := a0) (A := A) (m := m) (by simpa using hA)
    rw [hZ] at hs ⊢
    have hm : kl m.1 k := hb m (by simp)
    refine bef_app.2 ⟨fun x hx => kl_trans ((srt_app.1 hs).2.2 x hx m (by simp)) hm, ?_⟩
    exact bef_cons.2 ⟨hm, bef_nil⟩

theorem aft_tl {b : List Ent} {B : List (List Ent)} {k : ByteArray} (hB : B.length = b.length) (hs : Srt (tl b B)) (hb : Aft b k) : Aft (tl b B) k := by
  rcases b with _ | ⟨m, b⟩
  · have : B = [] := List.eq_nil_of_length_eq_zero (by simpa using hB)
    subst this
    exact aft_nil
  · simp only [tl] at hs ⊢
    have hm : kl k m.1 := hb m (by simp)
    exact aft_cons.2 ⟨hm, fun x hx => kl_trans hm ((srt_cons.1 hs).1 x hx)⟩

/-- What is known at each node on the way down. -/
structure PutInv (w : World) (st : Nat) (L : List Ent) (bs : List Nat) (k : ByteArray) (r : Int) (ah : Value) (root : Nat) (lb : Bool) (gk : Nat) (t : T gk) (lo : Nat) (fo : List Nat) (pre post : List Ent) (wr : World) : Prop where
  spot : Spot wr lo gk t fo pre post root
  stb : BlockAt wr st 74 [ptr root, .int .i64 L.length, ah]
  eb : BlockAt wr w.heap.size 36 [.string k, .int .u32 r]
  st1 : st ∉ fo ++ blocks gk t
  e1 : w.heap.size ∉ fo ++ blocks gk t
  moved : Moved w wr bs (st :: (fo ++ blocks gk t))
  srt : Srt (flat gk t)
  goal : putL k r L = pre ++ putL k r (flat gk t) ++ post
  len : L.length = pre.length + (flat gk t).length + post.length
  last : lb = true → Bef (flat gk t) k

section
variable {w wr wx wf : World} {st : Nat} {L : List Ent} {bs : List Nat} {k : ByteArray} {r : Int} {ah : Value} {root : Nat} {lb : Bool} {gk lo : Nat} {fo : List Nat} {pre post : List Ent}

theorem PutInv.grown {t : T gk} (h : PutInv w st L bs k r ah root lb gk t lo fo pre post wr) (hg : wr.grownBy wx none) : PutInv w st L bs k r ah root lb gk t lo fo pre post wx :=
  ⟨h.spot.grown hg, h.stb.grown hg (by simp), h.eb.grown hg (by simp), h.st1, h.e1, h.moved.grown hg, h.srt, h.goal, h.len, h.last⟩

/-- The node's tree is another now, of the same entries. -/
theorem PutInv.same {t t' : T gk} (h : PutInv w st L bs k r ah root lb gk t lo fo pre post wr) (m : Moved wr wx (blocks gk t) (blocks gk t')) (o : Ok wx lo gk t') (hp : (hd gk t').p = (hd gk t).p) (hf : flat gk t' = flat gk t) :
    PutInv w st L bs k r ah root lb gk t' lo fo pre post wx := by
  have hin : ∀ b, b < wr.heap.size → b ∉ fo ++ blocks gk t → b ∉ fo ++ blocks gk t' := fun b hb hn hm => by
    rcases List.mem_append.1 hm with q | q
    · exact hn (List.mem_append_left _ q)
    · rcases m.place b q with q | q
      · exact hn (List.mem_append_right _ q)
      · omega
  refine ⟨h.spot.work m o hp, h.stb.same (m.block st h.stb.lt fun hm => h.st1 (List.mem_append_right _ hm)), h.eb.same (m.block _ h.eb.lt fun hm => h.e1 (List.mem_append_right _ hm)), hin st h.stb.lt h.st1, hin _ h.eb.lt h.e1, ?_, by rw [hf]; exact h.srt, by rw [hf]; exact h.goal, by rw [hf]; exact h.len, by rw [hf]; exact h.last⟩
  refine h.moved.trans (m.wide (fun x hx => List.mem_cons_of_mem _ (List.mem_append_right _ hx)) fun x hx => ?_)
  rcases List.mem_cons.1 hx with q | q
  · exact .inr (by rw [q]; exact List.mem_cons_self ..)
  · rcases List.mem_append.1 q with q | q
    · exact .inr (List.mem_cons_of_mem _ (List.mem_append_left _ q))
    · exact .inl q

/-- The node's tree bears the entry; the count is not laid yet. -/
structure PutEnd (w : World) (st : Nat) (L : List Ent) (bs : List Nat) (k : ByteArray) (r : Int) (ah : Value) (root : Nat) (n : Nat) (wx : World) : Prop where
  tree : ∃ (H : Nat) (u : T H), Ok wx (min H 1) H u ∧ (hd H u).p = root ∧ flat H u = putL k r L ∧ st ∉ blocks H u ∧ Moved w wx bs (st :: blocks H u)
  stb : BlockAt wx st 74 [ptr root, .int .i64 L.length, ah]
  len : (putL k r L).length = n

theorem PutInv.laid {t t' : T gk} (h : PutInv w st L bs k r ah root lb gk t lo fo pre post wr) (m : Moved wr wx (blocks gk t) (blocks gk t')) (o : Ok wx lo gk t') (hp : (hd gk t').p = (hd gk t).p) (hf : flat gk t' = putL k r (flat gk t)) (n : Nat) (hn : (flat gk t').length + L.length = (flat gk t).length + n) :
    PutEnd w st L bs k r ah root n wx := by
  have S := h.spot.work m o hp
  obtain ⟨H, u, q1, q2, q3, q4⟩ := S.whole
  have hstx : st ∉ fo ++ blocks gk t' := fun hm => by
    rcases List.mem_append.1 hm with q | q
    · exact h.st1 (List.mem_append_left _ q)
    · rcases m.place st q with q | q
      · exact h.st1 (List.mem_append_right _ q)
      · have := h.stb.lt
        omega
  have hsu : st ∉ blocks H u := fun hm => hstx (List.mem_append.2 (q4 st hm))
  have hfl : flat H u = putL k r L := by rw [q3, hf, h.goal]
  refine ⟨⟨H, u, q1, q2, hfl, hsu, ?_⟩, h.stb.same (m.block st h.stb.lt fun hm => h.st1 (List.mem_append_right _ hm)), ?_⟩
  · have m1 : Moved wr wx (st :: (fo ++ blocks gk t)) (st :: (fo ++ blocks gk t')) := m.wide (fun x hx => List.mem_cons_of_mem _ (List.mem_append_right _ hx)) fun x hx => by
      rcases List.mem_cons.1 hx with q | q
      · exact .inr (by rw [q]; exact List.mem_cons_self ..)
      · rcases List.mem_append.1 q with q | q
        · exact .inr (List.mem_cons_of_mem _ (List.mem_append_left _ q))
        · exact .inl q
    have m2 := h.moved.trans m1
    refine m2.wide (fun _ hx => hx) fun x hx => .inl ?_
    rcases List.mem_cons.1 hx with q | q
    · rw [q]; exact List.mem_cons_self ..
    · exact List.mem_cons_of_mem _ (List.mem_append.2 (q4 x q))
  · have e : (putL k r L).length = pre.length + (flat gk t').length + post.length := by rw [← hfl, q3]; simp only [List.length_append]
    have := h.len
    omega

theorem PutEnd.done {n : Nat} (h : PutEnd w st L bs k r ah root n wx) (hL : Srt L) (hw : ∀ b, b ≠ st → wf.heap[b]? = wx.heap[b]?) (hsz : wf.heap.size = wx.heap.size) (hos : wf.os = wx.os ∧ wf.tape = wx.tape ∧ wf.output = wx.output)
    (hst : BlockAt wf st 74 [ptr root, .int .i64 n, ah]) : ∃ bs', TreeAt wf st (putL k r L) bs' ∧ Moved w wf bs bs' := by
  obtain ⟨H, u, q1, q2, q3, hsu, hm⟩ := h.tree
  refine ⟨st :: blocks H u, ⟨⟨H, u, ah, ?_, q1.same fun b hb => hw b fun e => hsu (e ▸ hb), q3, hsu, fun b => List.mem_cons⟩, srt_put hL k r⟩, ?_⟩
  · rw [q2, h.len]
    exact hst
  · have hs1 := hm.size
    refine ⟨hos.1.trans hm.os, hos.2.1.trans hm.tape, hos.2.2.trans hm.output, by omega, fun b hb hn => ?_, hm.place⟩
    have hbs : b ≠ st := fun e => by
      rcases hm.place st (List.mem_cons_self ..) with q | q
      · exact hn (e ▸ q)
      · omega
    rw [hw b hbs, hm.block b hb hn]

/-- One child down. -/
theorem PutInv.down {d : Hd} {A B : List (T gk)} {c : T gk} {a b : List Ent} (h : PutInv w st L bs k r ah root lb (gk + 1) (d, A ++ c :: B) lo fo pre post wr)
    (he : d.es = a ++ b) (hA : A.length = a.length) (ha : Bef a k) (hb : Aft b k) :
    PutInv w st L bs k r ah root lb gk c 15 (fo ++ (d.own ++ A.flatMap (blocks gk) ++ B.flatMap (blocks gk))) (pre ++ inter a (A.map (flat gk))) (tl b (B.map (flat gk)) ++ post) wr := by
  have hB : B.length = b.length := by
    have := h.spot.ok.shape.2.2.1
    simp only [he, List.length_append, List.length_cons] at this
    omega
  have hs := h.srt
  have hg := h.goal
  have hl := h.len
  have hlb := h.last
  have hfl := flat_one (B := B) (c := c) he hA
  rw [hfl] at hs hg hl hlb
  obtain ⟨s1, s2, s3⟩ := srt_app.1 hs
  obtain ⟨s4, s5, s6⟩ := srt_app.1 s2
  have hX := bef_inter (by simpa using hA) s1 ha
  have hY := aft_tl (by simpa using hB) s5 hb
  refine ⟨h.spot.down he hA, h.stb, h.eb, fun q => h.st1 (down_mem.1 q), fun q => h.e1 (down_mem.1 q), ?_, s4, ?_, ?_, fun q => ?_⟩
  · refine h.moved.trans ((Moved.of_grown (World.grownBy.refl wr _) _).wide (fun _ h => h) fun x hx => .inr ?_)
    rcases List.mem_cons.1 hx with q | q
    · rw [q]; exact List.mem_cons_self ..
    · exact List.mem_cons_of_mem _ (down_mem.1 q)
  · rw [hg, ← List.append_assoc (inter a (A.map (flat gk))), putL_in hX hY]
    simp
  · rw [hl]
    simp only [List.length_append]
    omega
  · exact (bef_app.1 (bef_app.1 (hlb q)).2).1

/-- The entry is there: its record is laid anew. -/
theorem PutInv.old {t : T gk} {d' : Hd} {a b : List Ent} {r0 : Int} (h : PutInv w st L bs k r ah root lb gk t lo fo pre post wr) (he : (hd gk t).es = a ++ (k, r0) :: b) (he' : d'.es = a ++ (k, r) :: b) (hp : d'.p = (hd gk t).p)
    (g : Grp wr (owns [(hd gk t, kps gk t)]) wx [(d', kps gk t)]) : PutEnd w st L bs k r ah root L.length wx := by
  have hsh := shape_subs.1 h.spot.ok.shape
  have hlen : d'.es.length = (hd gk t).es.length := by rw [he, he']; simp
  obtain ⟨o', m'⟩ := regroup1 (lo' := lo) h.spot.ok g (by rw [hlen]; exact hsh.1) (by rw [hlen]; exact hsh.2.1) (by rw [hlen]; exact hsh.2.2.1)
  obtain ⟨X, Y, hX, hY⟩ := flat_at hsh.2.2.1 he
  have hY := hY d' (k, r) he'
  obtain ⟨q1, q2⟩ := srt_bef (by have := h.srt; rw [hX] at this; exact this)
  refine h.laid m' o' (by rw [hd_mk]; exact hp) ?_ _ ?_
  · rw [hY, hX, putL_old q1 q2]
  · rw [hY, hX]
    simp only [List.length_append, List.length_cons]
end

end Go.Proofs.Qxb6601380a
