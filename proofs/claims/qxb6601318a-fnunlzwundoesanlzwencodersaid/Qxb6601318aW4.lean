/-
  lzwCodes (14), lzwEncode (11).
-/
import Derived.Test.Qxb6601318aW3
import Derived.Test.Qxb6601318aStream
namespace Go.Proofs.Qxb6601318a
open Go.RowKit

theorem Try.info3 : (Try.prog.info? 3).map (fun i => (i.zero, i.size, i.bytes)) = some (some (.int .i64 0), 1, 8) := by kernel_rfl

theorem encWidth_nat (i : Nat) (early : Bool) (w : World) (h1 : i ≤ 100000) :
    Calls Try.prog 16 #[.int .i64 i, .bool early] w fun e w' => e = .returned (.int .i64 (wd early i)) ∧ w' = w := by
  have := encWidth_any i early w (by omega) (by omega)
  rw [encW_wd] at this
  exact this

def codesOf (E : List (Nat × Int)) : List Value := E.map fun q => Value.int .i64 (q.1 : Int)
def bytesOf (E : List (Nat × Int)) : List Value := E.map fun q => Value.int .u8 q.2

/-- The coder's memory. -/
structure Enc (w0 : World) (B : Nat) (early : Bool) (E : List (Nat × Int)) (C : List Nat) (pv pe be : Value) (wr : World) : Prop where
  pk : ∃ n, wr.ownsRow B 5 1 pv n ((pack (stream early 0 C)).map (Value.int .u8))
  ep : wr.ownsRow B 3 1 pe E.length (codesOf E)
  eb : wr.ownsRow B 5 1 be E.length (bytesOf E)
  d1 : ∀ k, pe.ownBlock = some k → pv.ownBlock ≠ some k
  d2 : ∀ k, be.ownBlock = some k → pv.ownBlock ≠ some k
  d3 : ∀ k, be.ownBlock = some k → pe.ownBlock ≠ some k
  bl : Below B w0 wr
  sz : B ≤ wr.heap.size

theorem apart_symm {u v : Value} (h : ∀ k, u.ownBlock = some k → v.ownBlock ≠ some k) : ∀ k, v.ownBlock = some k → u.ownBlock ≠ some k :=
  fun k h1 h2 => h k h2 h1

theorem enc_put {w0 wr w1 : World} {B : Nat} {early : Bool} {E : List (Nat × Int)} {C : List Nat} {pv pe be pv' : Value} (h : Enc w0 B early E C pv pe be wr) (K : Kept wr w1 pv pv') {c : Nat}
    (ho : ∃ n, w1.ownsRow B 5 1 pv' n ((pack (stream early 0 C ++ codeBits (wd early C.length) c)).map (Value.int .u8))) : Enc w0 B early E (C ++ [c]) pv' pe be w1 where
  pk := by rw [stream_snoc]; exact ho
  ep := K.own h.ep h.d1
  eb := K.own h.eb h.d2
  d1 := K.apart h.ep h.d1
  d2 := K.apart h.eb h.d2
  d3 := h.d3
  bl := K.below h.bl h.sz (fun k hk => by obtain ⟨n, hn⟩ := h.pk; exact (hn.lt k hk).1)
  sz := Nat.le_trans h.sz K.grown.size

theorem enc_entry {w0 wr w1 w2 : World} {B : Nat} {early : Bool} {E : List (Nat × Int)} {C : List Nat} {pv pe be pe' be' : Value} (h : Enc w0 B early E C pv pe be wr) (K1 : Kept wr w1 pe pe') (K2 : Kept w1 w2 be be') {c : Nat} {b : Int}
    (h1 : w1.ownsRow B 3 1 pe' (E.length + 1) (codesOf E ++ [Value.int .i64 (c : Int)])) (h2 : w2.ownsRow B 5 1 be' (E.length + 1) (bytesOf E ++ [Value.int .u8 b])) : Enc w0 B early (E ++ [(c, b)]) C pv pe' be' w2 := by
  have b1 : w1.ownsRow B 5 1 be E.length (bytesOf E) := K1.own h.eb h.d3
  have d3' : ∀ k, be.ownBlock = some k → pe'.ownBlock ≠ some k := K1.apart h.eb h.d3
  obtain ⟨n, hn⟩ := h.pk
  have p1 : w1.ownsRow B 5 1 pv n ((pack (stream early 0 C)).map (Value.int .u8)) := K1.own hn (apart_symm h.d1)
  have d1' : ∀ k, pv.ownBlock = some k → pe'.ownBlock ≠ some k := K1.apart hn (apart_symm h.d1)
  have hs1 := K1.grown.size
  have hs2 := K2.grown.size
  have hsz := h.sz
  exact {
    pk := ⟨n, K2.own p1 (apart_symm h.d2)⟩
    ep := by
      have := K2.own h1 (apart_symm d3')
      simpa [codesOf] using this
    eb := by simpa [bytesOf] using h2
    d1 := apart_symm d1'
    d2 := apart_symm (K2.apart p1 (apart_symm h.d2))
    d3 := apart_symm (K2.apart h1 (apart_symm d3'))
    bl := K2.below (K1.below h.bl hsz (fun k hk => (h.ep.lt k hk).1)) (by omega) (fun k hk => (h.eb.lt k hk).1)
    sz := by omega }

/-- The pending code: none yet, or one more good code. -/
def Pend (x : List Int) (E : List (Nat × Int)) (T : List (List Int)) (C : List Nat) (wv : Int) : Prop :=
  (wv = -1 ∧ x = [] ∧ C = [] ∧ E = [] ∧ T = []) ∨ ∃ wc : Nat, wv = wc ∧ Good x E T (C ++ [wc])

theorem good_empty : Good [] [] [] [] := by
  refine ⟨rfl, by simp, ?_, ?_, ?_, rfl, ?_⟩ <;> simp

theorem flatten_ge (f : Nat → List Int) (C : List Nat) (h : ∀ c ∈ C, f c ≠ []) : C.length ≤ (C.map f).flatten.length := by
  induction C with
  | nil => simp
  | cons c cs ih =>
    have h1 := ih (fun c' hc' => h c' (List.mem_cons_of_mem _ hc'))
    have h2 := List.length_pos_iff.2 (h c (List.mem_cons_self ..))
    simp only [List.map_cons, List.flatten_cons, List.length_append, List.length_cons]
    omega

theorem good_len {x : List Int} {E : List (Nat × Int)} {T : List (List Int)} {C : List Nat} (h : Good x E T C) : C.length ≤ x.length := by
  rw [← h.text]
  refine flatten_ge _ _ fun c hc => ?_
  obtain ⟨j, hj, rfl⟩ := List.getElem_of_mem hc
  exact h.ne ((h.codes j C[j] (List.getElem?_eq_getElem hj)).mono (by rw [h.cnt]; omega))

theorem owns_cells {w : World} {B : Nat} {e : TypeId} {v : Value} {n : Nat} {xs : List Value} (h : w.ownsRow B e 1 v n xs) :
    ∃ a c, v = .slice a n c ∧ ∀ i, i < n → ∃ g, a = some ⟨g, 0, none⟩ ∧ w.cell? ⟨g, i, none⟩ = xs[i]? := by
  rcases h.2 with ⟨rfl, rfl⟩ | ⟨g, cap, cur, rfl, hb, hg, hnc, hcm, hcs, htake⟩
  · exact ⟨none, 0, rfl, fun i hi => by omega⟩
  · exact ⟨_, cap, rfl, fun i hi => ⟨g, rfl, h.cellAt i (by omega)⟩⟩

set_option maxHeartbeats 1000000 in
set_option maxRecDepth 100000 in
theorem lzwCodes_any (ax : Option Addr) (cx : Nat) (X : List Int) (early : Bool) (w : World) (hX : Reads w ax X) (hlen : X.length ≤ 8192) (hr : ∀ b ∈ X, 0 ≤ b ∧ b < 256) :
    Calls Try.prog 14 #[.slice none 0 0, .int .i64 0, .slice ax X.length cx, .bool early] w fun e w' =>
      ∃ v C E T, e = .returned (.tuple #[v, .int .i64 ((stream early 0 C).length : Nat), .int .i64 (C.length : Nat)]) ∧ Good X E T C ∧ C.length ≤ X.length ∧
        (∃ n, w'.ownsRow w.heap.size 5 1 v n ((pack (stream early 0 C)).map (Value.int .u8))) ∧ Below w.heap.size w w' := by
  obtain ⟨i5, hi5, hz50, hz51, hz52⟩ := info_parts Try.info5
  obtain ⟨i3, hi3, hz30, hz31, hz32⟩ := info_parts Try.info3
  go_enter Try.func14, Try.ntmps14
  go_wp2
  go_loopw [0, 1, 11, 12, 13, 14, 15] (fun pv ps em pe be wv ks wr => ∃ (k : Nat) (C : List Nat) (E : List (Nat × Int)) (T : List (List Int)) (wc : Int), k ≤ X.length ∧ ks = .int .i64 k ∧ wv = .int .i64 wc ∧ em = .int .i64 C.length ∧ ps = .int .i64 ((stream early 0 C).length : Nat) ∧
      Enc w w.heap.size early E C pv pe be wr ∧ Pend (X.take k) E T C wc ∧ C.length ≤ k) (fun _ _ _ _ _ _ ks _ => X.length - (intOf ks).toNat)
  case atStart =>
    refine ⟨0, [], [], [], -1, Nat.zero_le _, rfl, rfl, rfl, rfl, ?_, .inl ⟨rfl, by simp, rfl, rfl, rfl⟩, Nat.zero_le _⟩
    exact ⟨⟨0, by simpa [stream, pack] using World.ownsRow_nil w _ _ _⟩, World.ownsRow_nil _ _ _ _, World.ownsRow_nil _ _ _ _, by simp [Value.ownBlock], by simp [Value.ownBlock], by simp [Value.ownBlock], Below.refl _ _, Nat.le_refl _⟩
  case round =>
    obtain ⟨k, C, E, T, wc, hk, rfl, rfl, rfl, rfl, hE, hP, hCk⟩ := hrel
    have hsl := stream_le early C 0
    by_cases hlt : k < X.length
    · obtain ⟨bx, ox, rfl, hcx⟩ : ∃ b off, ax = some ⟨b, off, none⟩ ∧ ∀ i, i < X.length → w.cell? ⟨b, off + i, none⟩ = some (.int .u8 (X.getD i 0)) := by
        rcases hX with rfl | h
        · simp at hlt
        · exact h
      obtain ⟨c, hc⟩ : ∃ c, c = X.getD k 0 := ⟨_, rfl⟩
      have hcr : 0 ≤ c ∧ c < 256 := by
        rw [hc, List.getD_eq_getElem?_getD, List.getElem?_eq_getElem hlt]
        exact hr _ (List.getElem_mem hlt)
      obtain ⟨hc0, hc1⟩ := hcr
      have hcell : wr.cell? ⟨bx, ox + k, none⟩ = some (.int .u8 c) := by
        rw [hc]
        exact (hE.bl.cell (World.block_lt_of_cell? w _ (hcx k hlt))).trans (hcx k hlt)
      have HT : Hid (X.take (k + 1) = X.take k ++ [c]) := by
        show X.take (k + 1) = X.take k ++ [c]
        rw [List.take_succ_eq_append_getElem hlt, hc, List.getD_eq_getElem?_getD, List.getElem?_eq_getElem hlt]
        rfl
      clear hc
      rcases hP with ⟨rfl, hx0, rfl, rfl, rfl⟩ | ⟨wn, rfl, hG⟩
      · have HX0 : Hid (X.take k = []) := hx0
        clear hx0 hsl
        go_wp2
        go_roundw
        case rel => exact ⟨k + 1, [], [], [], c, by omega, by go_num, rfl, rfl, rfl, hE, .inr ⟨c.toNat, by omega, by rw [HT.out, HX0.out]; exact good_start c hc0 hc1⟩, by simp⟩
        case measure => simp [intOf]; omega
      · obtain ⟨ape, cpe, rfl, hpe⟩ := owns_cells hE.ep
        obtain ⟨abe, cbe, rfl, hbe⟩ := owns_cells hE.eb
        have hEl : E.length ≤ 3838 := by rw [hG.cnt]; omega
        go_wp2
        go_loop [17, 18] (fun f es => f = .int .i64 (-1) ∧ ∃ e : Nat, e ≤ E.length ∧ es = .int .i64 e) (fun _ es => E.length - (intOf es).toNat)
        case atStart => exact ⟨rfl, 0, Nat.zero_le _, rfl⟩
        case round =>
          obtain ⟨rfl, e, he, rfl⟩ := hrel
          by_cases hel : e < E.length
          · obtain ⟨gp, rfl, hcp⟩ := hpe e hel
            obtain ⟨gb, rfl, hcb⟩ := hbe e hel
            obtain ⟨p, hp⟩ : ∃ p, p = E[e].1 := ⟨_, rfl⟩
            obtain ⟨b, hb⟩ : ∃ b, b = E[e].2 := ⟨_, rfl⟩
            have hcp' : wr.cell? ⟨gp, e, none⟩ = some (.int .i64 (p : Int)) := by rw [hcp, hp]; simp [codesOf, hel]
            have hcb' : wr.cell? ⟨gb, e, none⟩ = some (.int .u8 b) := by rw [hcb, hb]; simp [bytesOf, hel]
            have HE : Hid (E[e]? = some (p, b)) := by show E[e]? = some (p, b); rw [List.getElem?_eq_getElem hel, hp, hb]
            clear hp hb hcp hcb
            by_cases h1 : (p : Int) = wn
            · by_cases h2 : b = c
              · have h1' : ((p : Int) == (wn : Int)) = true := by simpa using h1
                have h2' : (b == c) = true := by simpa using h2
                have HF : Hid (Good (X.take (k + 1)) E T (C ++ [258 + e])) := by
                  show Good (X.take (k + 1)) E T (C ++ [258 + e])
                  rw [HT.out]
                  refine good_found hG e c ⟨hc0, hc1⟩ ?_
                  rw [HE.out, h2, show p = wn by omega]
                clear h1 h2
                go_wp2
                go_roundw
                case rel => exact ⟨k + 1, C, E, T, ((258 + e : Nat) : Int), by omega, by go_num, by go_num, rfl, rfl, hE, .inr ⟨258 + e, rfl, HF.out⟩, by omega⟩
                case measure => simp [intOf]; omega
              · have h1' : ((p : Int) == (wn : Int)) = true := by simpa using h1
                have h2' : (b == c) = false := by simpa using h2
                clear h1 h2
                go_wp2
                go_round
                case rel => exact ⟨rfl, e + 1, by omega, by go_num⟩
                case measure => simp [intOf]; omega
            · have h1' : ((p : Int) == (wn : Int)) = false := by simpa using h1
              clear h1
              go_wp2
              go_round
              case rel => exact ⟨rfl, e + 1, by omega, by go_num⟩
              case measure => simp [intOf]; omega
          · obtain ⟨n, hn⟩ := hE.pk
            have hok : okCode wn (min C.length 3838) := hG.codes C.length wn (getElem?_snoc_at C wn)
            have hwn : wn < 4096 := by rcases hok with h | ⟨_, h⟩ <;> omega
            go_wp2_with (go_at_call 16; refine (encWidth_nat C.length early _ (by omega)).mono ?_; rintro e w' ⟨rfl, rfl⟩)
            refine (putCode_any (stream early 0 C) (wd early C.length) wn _ n w.heap.size _ (wd_rng early C.length).2 hwn (by omega) hE.sz hn).mono ?_
            rintro e1 w1 ⟨pv1, rfl, ho1, K1⟩
            have hE1 := enc_put hE K1 ho1
            have hb1 := hE1.bl.size
            by_cases hroom : E.length < 3838
            · go_wp2_with (at_builtin; refine wpList_append_sharp _ rfl (.tmp 74) (.tmp 76) 45 rfl w.heap.size 3 i3 (.int .i64 0) 1 8 Try.underlying45 hi3 hz30 hz31 hz32 rfl (by decide) _ _ _ rfl (hE1.ep.alloc _) ⟨w1.heap.size, 0, none⟩ 1 1 [.int .i64 (wn : Int)] rfl rfl (cell_one_new _ _ _) ?_ ?_ ?_ ?_ ?_)
              · intro u hu; simp at hu; subst hu; rfl
              · unfold maxLen; omega
              · omega
              · simp; omega
              intro v2 w2 ho2 hg2 hp2
              have K2 : Kept w1 w2 (.slice ape E.length cpe) v2 := kept_append hg2 (by simpa using hp2)
              have hb2 := K2.grown.size
              have hbe2 := K2.own hE1.eb hE1.d3
              go_wp2_with (at_builtin; refine wpList_append_sharp _ rfl (.tmp 78) (.tmp 80) 22 rfl w.heap.size 5 i5 (.int .u8 0) 1 1 Try.underlying22 hi5 hz50 hz51 hz52 rfl (by decide) _ _ _ rfl (hbe2.alloc _) ⟨w2.heap.size, 0, none⟩ 1 1 [.int .u8 c] rfl rfl (cell_one_new _ _ _) ?_ ?_ ?_ ?_ ?_)
              · intro u hu; simp at hu; subst hu; rfl
              · unfold maxLen; omega
              · omega
              · simp; omega
              intro v3 w3 ho3 hg3 hp3
              have K3 : Kept w2 w3 (.slice abe E.length cbe) v3 := kept_append hg3 (by simpa using hp3)
              have hE3 := enc_entry hE1 K2 K3 ho2 ho3
              have HG : Hid (Good (X.take (k + 1)) (E ++ [(wn, c)]) (T ++ [look T wn ++ [c]]) (C ++ [wn] ++ [c.toNat])) := by
                show Good (X.take (k + 1)) _ _ _
                rw [HT.out]
                exact good_emit_room hG c ⟨hc0, hc1⟩ hroom
              clear ho3 hg3 hp3 K3 ho2 hg2 hp2 K2 hbe2 hE1 K1 ho1 hn hE hpe hbe hok
              go_wp2
              go_roundw
              case rel => exact ⟨k + 1, C ++ [wn], _, _, c, by omega, by go_num, rfl, by simp, by rw [stream_snoc]; simp, hE3, .inr ⟨c.toNat, by omega, HG.out⟩, by simp; omega⟩
              case measure => simp [intOf]; omega
            · have HG : Hid (Good (X.take (k + 1)) E T (C ++ [wn] ++ [c.toNat])) := by
                show Good (X.take (k + 1)) _ _ _
                rw [HT.out]
                exact good_emit_full hG c ⟨hc0, hc1⟩ hroom
              clear K1 ho1 hn hE hpe hbe hok
              go_wp2
              go_roundw
              case rel => exact ⟨k + 1, C ++ [wn], _, _, c, by omega, by go_num, rfl, by simp, by rw [stream_snoc]; simp, hE1, .inr ⟨c.toNat, by omega, HG.out⟩, by simp; omega⟩
              case measure => simp [intOf]; omega
    · have hkX : X.take k = X := List.take_of_length_le (by omega)
      rw [hkX] at hP
      clear hkX
      rcases hP with ⟨rfl, rfl, rfl, rfl, rfl⟩ | ⟨wn, rfl, hG⟩
      · clear hsl
        go_wp2
        go_ret3
        exact ⟨_, [], [], [], rfl, good_empty, Nat.zero_le _, hE.pk, hE.bl⟩
      · obtain ⟨n, hn⟩ := hE.pk
        have hok : okCode wn (min C.length 3838) := hG.codes C.length wn (getElem?_snoc_at C wn)
        have hwn : wn < 4096 := by rcases hok with h | ⟨_, h⟩ <;> omega
        go_wp2_with (go_at_call 16; refine (encWidth_nat C.length early _ (by omega)).mono ?_; rintro e w' ⟨rfl, rfl⟩)
        refine (putCode_any (stream early 0 C) (wd early C.length) wn _ n w.heap.size _ (wd_rng early C.length).2 hwn (by omega) hE.sz hn).mono ?_
        rintro e1 w1 ⟨pv1, rfl, ho1, K1⟩
        have hE1 := enc_put hE K1 ho1
        clear K1 ho1 hn hE hok
        go_wp2
        go_ret3
        refine ⟨_, C ++ [wn], E, T, ?_, hG, ?_, hE1.pk, hE1.bl⟩
        · rw [stream_snoc]; simp
        · exact good_len hG

set_option maxHeartbeats 1000000 in
theorem lzwEncode_any (ax : Option Addr) (cx : Nat) (X : List Int) (early : Bool) (w : World) (hX : Reads w ax X) (hlen : X.length ≤ 8192) (hr : ∀ b ∈ X, 0 ≤ b ∧ b < 256) :
    Calls Try.prog 11 #[.slice ax X.length cx, .bool early] w fun e w' =>
      ∃ v C E T, e = .returned v ∧ Good X E T C ∧ C.length ≤ X.length ∧
        (∃ n, w'.ownsRow w.heap.size 5 1 v n ((pack (full early C)).map (Value.int .u8))) ∧ Below w.heap.size w w' := by
  go_enter Try.func11, Try.ntmps11
  go_wp2_with fail
  refine (lzwCodes_any ax cx X early w hX hlen hr).mono ?_
  rintro e1 w1 ⟨v1, C, E, T, rfl, hG, hC, ⟨n1, ho1⟩, hb1⟩
  have hsl := stream_le early C 0
  go_wp2_with (go_at_call 16; refine (encWidth_nat C.length early _ (by omega)).mono ?_; rintro e w' ⟨rfl, rfl⟩)
  refine (putCode_any (stream early 0 C) (wd early C.length) 257 v1 n1 w.heap.size _ (wd_rng early C.length).2 (by omega) (by omega) hb1.size ho1).mono ?_
  rintro e2 w2 ⟨v2, rfl, ho2, K2⟩
  have hb2 := K2.below hb1 hb1.size (fun k hk => (ho1.lt k hk).1)
  clear ho1 K2
  go_wp2
  go_ret
  exact ⟨v2, C, E, T, rfl, hG, hC, ho2, hb2⟩

end Go.Proofs.Qxb6601318a
