/-
  slices.Values (60, 65), slices.AppendSeq (67), slices.Collect (63).
-/
import Derived.Test.Qxb6601448aCln
import Derived.RangeFuncBox
import Derived.RangeFuncLeaves
import Derived.Shelf.SlIter.Collect
import Derived.OwnWalkIn
import Derived.TacticsInMore
import Derived.LoopNIn
import Derived.LoopIn
namespace Go.Proofs.Qxb6601448a
open Go.RowKit

attribute [local go_sem] Oper.semAt_some

set_option maxRecDepth 100000 in
set_option maxHeartbeats 2000000 in
theorem values65 (F : Fence) (n : Nat) (h65 : F.fn 65) (hro : F.round = none) (hn : 1 ≤ n) (l Bv : Nat) (w0 : World) (a : Option Addr) (cap : Nat) (ss : List ByteArray) (hC : Cells w0 a (enS ss)) (hlen : ss.length ≤ 1048576)
    (hB : Bv < w0.heap.size) (hBv : w0.cell? ⟨Bv, 0, none⟩ = some (.slice a ss.length cap)) (J Jx : List ByteArray → World → Prop)
    (hY : ∀ pre x W, J pre W → pre.length < ss.length → YieldAt F (n - 1) Try.prog l #[.string x] W fun e W' =>
      (e = .returned (.bool true) ∧ J (pre ++ [x]) W' ∧ Below w0.heap.size W W') ∨ (e = .returned (.bool false) ∧ Jx (pre ++ [x]) W'))
    (W : World) (hW : Below w0.heap.size w0 W) (h0 : J [] W) :
    CallsIn F n Try.prog 65 #[.func (.yield l) #[] #[], .pointer (some ⟨Bv, 0, none⟩)] W fun e W' => (∃ v, e = .returned v) ∧
      ((∃ ys, ys = ss ∧ J ys W') ∨ (∃ pre, True ∧ Jx pre W')) := by
  have hBs : W.cell? ⟨Bv, 0, none⟩ = some (.slice a ss.length cap) := (hW.cell (p := ⟨Bv, 0, none⟩) hB).trans hBv
  have HC := (show Hid (Cells w0 a (enS ss)) from hC)
  have HY := (show Hid _ from hY)
  clear hC hY hBv
  obtain ⟨m, hm⟩ : ∃ m, m = ss.length := ⟨_, rfl⟩
  have HM := (show Hid _ from hm)
  rw [← hm] at hBs hlen
  clear hm
  refine callsIn_of_wp Try.func65 rfl h65 ?_ hro
  simp only [Try.ntmps65, List.size_toArray, List.length_cons, List.length_nil, Nat.reduceAdd, Nat.reduceSub, Array.replicate_succ, Array.replicate_zero, List.push_toArray, List.append_toArray, List.nil_append, List.cons_append]
  gi_wp2
  gi_loopw [7] (fun i wr => ∃ k : Nat, k ≤ m ∧ i = .int .i64 k ∧ J (ss.take k) wr ∧ Below w0.heap.size w0 wr) (fun i _ => m - (intOf i).toNat)
  case atStart => exact ⟨0, Nat.zero_le _, rfl, h0, hW⟩
  case round =>
    obtain ⟨k, hk, rfl, hJs, hnx⟩ := hrel
    by_cases hlt : k < m
    · obtain ⟨x, hx⟩ : ∃ x, ss[k]? = some x := ⟨_, List.getElem?_eq_getElem (by rw [← HM.out]; exact hlt)⟩
      obtain ⟨b, off, rfl, t1⟩ := Cells.addr (Cells.below HC.out hnx (Nat.le_refl _)) (enS_get hx)
      have hex : ss.take (k + 1) = ss.take k ++ [x] := by rw [List.take_add_one, hx]; rfl
      have HEX := (show Hid _ from hex)
      obtain ⟨fn, tmps, assign, body, hy, hR⟩ := HY.out (ss.take k) x wr hJs (by rw [List.length_take, ← HM.out]; omega)
      clear hex hx
      have z1 : (k : Int) < (m : Int) := by omega
      have z2 : (k : Int) ≤ 2000000 := by omega
      gi_wp2
      refine hR.mono ?_
      rintro e W3 (⟨rfl, hJ3, hk3⟩ | ⟨rfl, hJx3⟩)
      · gi_wp2
        go_roundw
        case rel => exact ⟨k + 1, by omega, by go_num, by rw [HEX.out]; exact hJ3, hnx.trans hk3⟩
        case measure => simp [intOf]; omega
      · gi_wp2
        refine bodyPost_ret (results_none rfl _ _ _) rfl ?_
        exact ⟨⟨_, rfl⟩, .inr ⟨_, trivial, hJx3⟩⟩
    · obtain rfl : k = m := by omega
      have hall : ss.take k = ss := List.take_of_length_le (by rw [← HM.out]; exact Nat.le_refl _)
      rw [hall] at hJs
      gi_wp2
      go_end0
      exact ⟨⟨_, rfl⟩, .inl ⟨_, rfl, hJs⟩⟩

set_option maxHeartbeats 1000000 in
theorem values60 (F : Fence) (n : Nat) (h60 : F.fn 60) (hro : F.round = none) (a : Option Addr) (len cap : Nat) (w : World) :
    CallsIn F n Try.prog 60 #[.slice a len cap] w fun e w' => e = .returned (.func (.func 65) #[] #[.pointer (some ⟨w.heap.size, 0, none⟩)]) ∧ w' = w.alloc (.cells #[.slice a len cap] 23) := by
  refine callsIn_of_wp Try.func60 rfl h60 ?_ hro
  simp only [Try.ntmps60, List.size_toArray, List.length_cons, List.length_nil, Nat.reduceAdd, Nat.reduceSub, Array.replicate_succ, Array.replicate_zero, List.push_toArray, List.append_toArray, List.nil_append, List.cons_append]
  gi_wp2
  go_ret
  exact ⟨rfl, rfl⟩

theorem values_stops (F : Fence) (n : Nat) (h65 : F.fn 65) (hro : F.round = none) (hn : 1 ≤ n) (Bv : Nat) (w : World) (a : Option Addr) (cap : Nat) (ss : List ByteArray) (hC : Cells w a (enS ss)) (hlen : ss.length ≤ 1048576)
    (hB : Bv < w.heap.size) (hBv : w.cell? ⟨Bv, 0, none⟩ = some (.slice a ss.length cap)) :
    SeqStopsK F n Try.prog 65 #[.pointer (some ⟨Bv, 0, none⟩)] (fun x : ByteArray => #[Value.string x]) (Below w.heap.size) (fun ys => ys = ss) (fun _ => True) ss.length w :=
  fun l J Jx W hW _ _ hY h0 => values65 F n h65 hro hn l Bv w a cap ss hC hlen hB hBv J Jx hY W hW h0

/-- Between two rounds: the box holds a slice that owns what has come; nothing that lay ahead has turned. -/
def ApI (w : World) (pre : List ByteArray) (W : World) : Prop :=
  (∃ v, BlockAt W w.heap.size 23 [v] ∧ W.ownsRow w.heap.size 9 1 v pre.length (enS pre)) ∧ Below w.heap.size w W

theorem own_not {W : World} {base : Nat} {e : TypeId} {size : Nat} {v : Value} {k : Nat} {xs : List Value} (h : W.ownsRow base e size v k xs) {j : Nat} {o : Obj} (hj : W.heap[j]? = some o) (hno : ∀ cur, o ≠ .cells cur e (0, 0)) : v.ownBlock ≠ some j := by
  rcases h.2 with ⟨rfl, _⟩ | ⟨g, cap, cur, rfl, _, hgb, _⟩
  · simp [Value.ownBlock]
  · intro e'
    have : g = j := by simpa [Value.ownBlock] using e'
    subst this
    rw [hgb] at hj
    cases hj
    exact hno cur rfl

theorem ownsRow_kept {w w' : World} {base : Nat} {e : TypeId} {s n : Nat} {v : Value} {xs : List Value} {row : Option Nat} (h : w.ownsRow base e s v n xs) (hg : w.grownBy w' row) (hr : ∀ r, row = some r → v.ownBlock ≠ some r) : w'.ownsRow base e s v n xs := by
  refine h.kept hg ?_
  cases hv : v.ownBlock with
  | none => exact .inl rfl
  | some k => exact .inr (fun e => hr k e.symm hv)

theorem api_own (w : World) (B : Nat) (hB : w.heap.size ≤ B) : OwnFrom B (ApI w) := by
  intro pre W W' row h hg hr
  obtain ⟨⟨v, hv, ho⟩, hb⟩ := h
  refine ⟨⟨v, ?_, ?_⟩, hb.grown hg hb.size (fun k e => Nat.le_trans hB (hr k e).1)⟩
  · refine hv.grown hg ?_
    intro e
    obtain ⟨_, o, h1, h2⟩ := hr _ e.symm
    have h3 : W.heap[w.heap.size]? = _ := hv
    rw [h3] at h1
    cases h1
    cases h2
  · refine ownsRow_kept ho hg fun r e => ?_
    obtain ⟨_, o, h1, h2⟩ := hr _ e
    exact own_not ho h1 (fun cur e2 => by rw [e2] at h2; cases h2)

theorem keeps_cells {B : Nat} {W W' : World} {row : Option Nat} (hg : W.grownBy W' row) (hrow : ∀ j, row = some j → ∃ o : Obj, W.heap[j]? = some o ∧ o.isCells = true) : KeepsFrom B W W' :=
  ⟨hg.size, fun k o _ hk ho => (hg.block k (Array.getElem?_eq_some_iff.1 hk).1 (fun e => by
    obtain ⟨o', h1, h2⟩ := hrow k e.symm
    rw [hk] at h1
    cases h1
    rw [ho] at h2
    cases h2)).trans hk⟩

theorem own_cells {W : World} {base : Nat} {e : TypeId} {size : Nat} {v : Value} {k : Nat} {xs : List Value} (h : W.ownsRow base e size v k xs) : ∀ j, v.ownBlock = some j → ∃ o : Obj, W.heap[j]? = some o ∧ o.isCells = true := by
  intro j hj
  rcases h.2 with ⟨rfl, _⟩ | ⟨g, cap, cur, rfl, _, hgb, _⟩
  · simp [Value.ownBlock] at hj
  · have : g = j := by simpa [Value.ownBlock] using hj
    subst this
    exact ⟨_, hgb, rfl⟩

set_option maxRecDepth 100000 in
set_option maxHeartbeats 4000000 in
theorem append67 (F : Fence) (n : Nat) (h67 : F.fn 67) (h65 : F.fn 65) (hro : F.round = none) (hn : 3 ≤ n) (Bv : Nat) (w : World) (a : Option Addr) (cap : Nat) (ss : List ByteArray) (hC : Cells w a (enS ss)) (hlen : ss.length ≤ 1048576)
    (hB : Bv < w.heap.size) (hBv : w.cell? ⟨Bv, 0, none⟩ = some (.slice a ss.length cap)) :
    CallsIn F n Try.prog 67 #[.slice none 0 0, .func (.func 65) #[] #[.pointer (some ⟨Bv, 0, none⟩)]] w fun e w' => ∃ v, e = .returned v ∧ w'.ownsRow w.heap.size 9 1 v ss.length (enS ss) ∧ Below w.heap.size w w' := by
  have h1 : 1 ≤ n := by omega
  obtain ⟨i0, hi, hz0, hz1, hz2⟩ := info_parts Try.info9
  refine callsIn_of_wp_marks Try.func67 rfl h67 ?_ hro
  simp only [Try.ntmps67, List.size_toArray, List.length_cons, List.length_nil, Nat.reduceAdd, Nat.reduceSub, Array.replicate_succ, Array.replicate_zero, List.push_toArray, List.append_toArray, List.nil_append, List.cons_append]
  gi_wp2
  have hs := values_stops F (n - 1) h65 hro (by omega) Bv w a cap ss hC hlen hB hBv
  have hB0 : Below w.heap.size w (w.alloc (.cells #[.slice none 0 0] 23)) := (Below.refl _ w).alloc (Nat.le_refl _) _
  refine wpIn_rangeFunc_ownG hro h1 (gf := 65) (lb := #[.pointer (some ⟨Bv, 0, none⟩)]) rfl h65 (enters_of Try.func65 (by kernel_rfl) rfl)
    hs belowK_t (belowK_b (by simp)) hB0 (fun _ => rfl)
    (ApI w) (fun _ _ _ => False) (api_own w _ (by simp)) (fun _ _ _ _ _ hs _ _ => hs)
    ⟨⟨.slice none 0 0, blockAt_new w 23 [.slice none 0 0], ⟨rfl, .inl ⟨rfl, rfl⟩⟩⟩, hB0⟩
    (fun x => { tmps := #[.slice none 0 0, .func (.func 65) #[] #[.pointer (some ⟨Bv, 0, none⟩)], .pointer (some ⟨w.heap.size, 0, none⟩), undef, .slice none 0 0, .string x, .func (.func 65) #[] #[.pointer (some ⟨Bv, 0, none⟩)], .string x, undef, undef, undef, undef, undef], defers := [] }) ?assign ?body ?done ?stop
  case assign =>
    intro l x W K hK
    gi_wp2
    exact hK
  case body =>
    rintro l pre x W ⟨⟨v, hv, ho⟩, hb⟩ hpl
    have hc := hv.cell 0
    have hf := hv.frozen 0
    simp only [List.getElem?_cons_zero] at hc
    have hne : some w.heap.size ≠ v.ownBlock := fun e => own_not ho hv (fun cur e => by injection e with _ e; cases e) e.symm
    have hsz : w.heap.size < W.heap.size := hv.lt
    have HV := (show Hid _ from hv)
    have HO := (show Hid _ from ho)
    have HB := (show Hid _ from hb)
    have HNE := (show Hid _ from hne)
    clear hv hb hne
    gi_wp2_with (gi_at_builtin; refine wpListIn_append_own _ rfl _ _ 23 rfl w.heap.size 9 i0 (.string ⟨#[]⟩) 1 16 Try.underlying23 hi hz0 hz1 hz2 rfl (by decide) _ _ _ rfl (ho.alloc _) ⟨W.heap.size, 0, none⟩ 1 1 [.string x] rfl rfl (cell_one_new _ _ _) (by simp [Value.oneCell']) (by unfold maxLen; omega) (by omega) (by simp; omega) ?_; intro v' w3 hown' hg3 hnil3
                 have hv3 : BlockAt w3 w.heap.size 23 [v] := (BlockAt.alloc HV.out _).grown hg3 HNE.out
                 have hc3 := hv3.cell 0
                 have hf3 := hv3.frozen 0
                 simp only [List.getElem?_cons_zero] at hc3
                 obtain ⟨g', cap', hv'⟩ : ∃ g' cap', v' = .slice (some ⟨g', 0, none⟩) (pre.length + 1) cap' := by
                   rcases hown'.2 with ⟨_, h0⟩ | ⟨g', cap', cur', h', _⟩
                   · exact absurd h0 (by omega)
                   · exact ⟨g', cap', h'⟩
                 subst hv'
                 have HV3 := (show Hid _ from hv3)
                 have HOW := (show Hid _ from hown')
                 have HG3 := (show Hid _ from hg3)
                 clear hv3 hown' hg3 hnil3
                 go_frame)
    have e1 : (enS pre ++ [.string x]) = enS (pre ++ [x]) := by simp [enS]
    have hne3 : (Value.slice (some ⟨g', 0, none⟩) (pre.length + 1) cap').ownBlock ≠ some w.heap.size := own_not HOW.out HV3.out (fun cur e => by injection e with _ e; cases e)
    have hgs := grown_set w3 w.heap.size 0 (.slice (some ⟨g', 0, none⟩) (pre.length + 1) cap')
    have hown4 := ownsRow_kept HOW.out hgs (fun r e => by injection e with e; rw [← e]; exact hne3)
    have hb3 : Below w.heap.size w w3 := ((HB.out.alloc HB.out.size _).grown HG3.out (by have := HB.out.size; simp; omega) (fun k e => (World.ownsRow.lt HO.out k e).1))
    refine ⟨?_, ?_, ⟨⟨_, BlockAt.set HV3.out 0 _, ?_⟩, hb3.setCell (p := ⟨w.heap.size, 0, none⟩) (Nat.le_refl _) _⟩⟩
    · refine (keeps_cells (row := none) (World.grownBy_alloc W (.cells #[.string x] 9) none) (fun j e => by cases e)).trans ((keeps_cells HG3.out (own_cells (ho.alloc _))).trans (keeps_cells hgs (fun j e => ?_)))
      injection e with e
      subst e
      exact ⟨_, HV3.out, rfl⟩
    · exact (((Below.refl w.heap.size W).alloc (by omega) _).grown HG3.out (by simp; omega) (fun k e => (World.ownsRow.lt HO.out k e).1)).setCell (p := ⟨w.heap.size, 0, none⟩) (Nat.le_refl _) _
    · rw [← e1]
      simpa using hown4
  case done =>
    rintro D ys W hD rfl ⟨⟨v, hv, ho⟩, hb⟩ hK
    have hc := hv.cell 0
    simp only [List.getElem?_cons_zero] at hc
    gi_wp2
    refine ⟨by simp, .inl ⟨_, _, rfl, run_takeDeferred hK, ?_⟩⟩
    refine ⟨_, results_tmp rfl _ _ _, v, rfl, ?_, ?_⟩
    · exact ownsRow_kept ho (grownBy_putObj' _ D (.deferred none)) (fun r e => by cases e; exact own_not ho hK (fun cur e => by cases e))
    · exact hb.trans (belowK_b (w := w) (Nat.le_refl _) W D _ _ (by simp at hD; omega) hK rfl rfl)
  case stop =>
    rintro D c pre W _ _ h _
    exact h.elim

end Go.Proofs.Qxb6601448a
