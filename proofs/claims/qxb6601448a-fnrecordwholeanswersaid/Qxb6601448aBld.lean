/-
  seqAt (52), peersAt (53), buildMarkers (47), buildFinals (48), toNews (13).
-/
import Derived.Test.Qxb6601448aCpy
import Derived.WideMake
import Derived.MapFrom
namespace Go.Proofs.Qxb6601448a
open Go.RowKit
set_option linter.unusedSimpArgs false

/-- A map of the call's own, its keys strings. -/
def MapAt (w : World) (r : Nat) : Prop := ∃ es clock, w.heap[r]? = some (.map es clock) ∧ ∀ x ∈ es.toList, MapKept.IsKey .string x.key

theorem MapAt.same {w w' : World} {r : Nat} (h : MapAt w r) (hs : w'.heap[r]? = w.heap[r]?) : MapAt w' r := by
  obtain ⟨es, clock, h1, h2⟩ := h
  exact ⟨es, clock, hs.trans h1, h2⟩

theorem map_put {mty kt et : TypeId} (w : World) (r : Nat) (s : ByteArray) (val : Value) (hm : Try.prog.underlying mty = some (.map kt et)) (hk : Try.prog.underlying kt = some .string) (h : MapAt w r) :
    ∃ w', (Instr.mapUpdate mty (.map (some r)) (.string s) val).run Try.prog w = .ok () w' ∧ MapAt w' r ∧ w.grownBy w' (some r) := by
  obtain ⟨es, clock, hb, hks⟩ := h
  have hkey : MapKept.IsKey .string (.string s) := by simp [MapKept.IsKey]
  have hc : (Instr.checkKey false 10000 kt (.string s)).run Try.prog w = .ok () w := MapKept.run_checkKey (k := .string s) hk hkey false 9999
  have hg : ∀ o, w.grownBy { w with heap := w.heap.setIfInBounds r o } (some r) := fun o => ⟨rfl, rfl, rfl, by simp, fun k _ hk => (MapKept.heap_set hb).2 k (fun e => hk (by rw [e]))⟩
  rcases MapKept.findNow_spec hkey es.toList 0 hks with ⟨h1, _⟩ | ⟨j, e, h1, h2, h3⟩
  · refine ⟨_, by simp [Instr.mapUpdate, run_underlying hm, MapKept.run_getObj_map hb, hc, MapKept.run_findKey hk h1, MapKept.run_setObj_map _ hb, Result.andThen]; rfl, ⟨_, _, (MapKept.heap_set hb).1, ?_⟩, hg _⟩
    intro x hx
    rw [Array.toList_push] at hx
    rcases List.mem_append.1 hx with q | q
    · exact hks x q
    · obtain rfl := List.mem_singleton.1 q
      exact hkey
  · have hj : es[j]? = some e := by simpa using h2
    refine ⟨_, by simp [Instr.mapUpdate, run_underlying hm, MapKept.run_getObj_map hb, hc, MapKept.run_findKey hk h1, hj, h3, MapKept.run_keyThatStays hkey, MapKept.run_setObj_map _ hb, Result.andThen]; rfl, ⟨_, _, (MapKept.heap_set hb).1, ?_⟩, hg _⟩
    intro x hx
    rw [Array.mem_toList_iff, Array.mem_iff_getElem?] at hx
    obtain ⟨i, hi⟩ := hx
    rw [Array.getElem?_modify] at hi
    split at hi
    · cases hq : es[i]? with
      | none => rw [hq] at hi; simp at hi
      | some y =>
        rw [hq] at hi
        simp at hi
        rw [← hi]
        exact hkey
    · exact hks x (by rw [Array.mem_toList_iff, Array.mem_iff_getElem?]; exact ⟨i, hi⟩)

theorem map_new (w : World) : MapAt (w.alloc (.map #[] 0)) w.heap.size := ⟨#[], 0, heap_alloc_new w _, fun x hx => by simp at hx⟩

set_option maxRecDepth 100000 in
theorem seq52 (w : World) (a : Option Addr) (cap : Nat) (ns : List Int) (i : Nat) (hC : Cells w a (enW ns)) :
    Calls Try.prog 52 #[.slice a ns.length cap, .int .i64 i] w fun e w' => (∃ z, e = .returned (.int .u64 z)) ∧ w' = w := by
  obtain ⟨n, hn⟩ : ∃ n, n = ns.length := ⟨_, rfl⟩
  by_cases hlt : i < ns.length
  · obtain ⟨z, hz⟩ : ∃ z, ns[i]? = some z := ⟨_, List.getElem?_eq_getElem hlt⟩
    obtain ⟨b, off, rfl, t1⟩ := Cells.addr hC (enW_get hz)
    rw [← hn] at hlt ⊢
    have z1 : (i : Int) < (n : Int) := by omega
    clear hC hz hn hlt
    go_enter Try.func52, Try.ntmps52
    go_wp2
    go_ret
    exact ⟨⟨_, rfl⟩, rfl⟩
  · rw [← hn] at hlt ⊢
    have z1 : (n : Int) ≤ (i : Int) := by omega
    clear hC hn hlt
    go_enter Try.func52, Try.ntmps52
    go_wp2
    go_ret
    exact ⟨⟨_, rfl⟩, rfl⟩

set_option maxRecDepth 100000 in
theorem peers53 (w : World) (a : Option Addr) (cap : Nat) (ys : List Value) (i : Nat) (hC : Cells w a ys) (hs : Sls ys) :
    Calls Try.prog 53 #[.slice a ys.length cap, .int .i64 i] w fun e w' => (∃ a n c, e = .returned (.slice a n c)) ∧ w' = w := by
  obtain ⟨n, hn⟩ : ∃ n, n = ys.length := ⟨_, rfl⟩
  by_cases hlt : i < ys.length
  · obtain ⟨z, hz⟩ : ∃ z, ys[i]? = some z := ⟨_, List.getElem?_eq_getElem hlt⟩
    obtain ⟨a2, n2, c2, rfl⟩ := hs z (List.mem_of_getElem? hz)
    obtain ⟨b, off, rfl, t1⟩ := Cells.addr hC hz
    rw [← hn] at hlt ⊢
    have z1 : (i : Int) < (n : Int) := by omega
    clear hC hz hn hlt
    go_enter Try.func53, Try.ntmps53
    go_wp2
    go_ret
    exact ⟨⟨_, _, _, rfl⟩, rfl⟩
  · rw [← hn] at hlt ⊢
    have z1 : (n : Int) ≤ (i : Int) := by omega
    clear hC hn hlt
    go_enter Try.func53, Try.ntmps53
    go_wp2
    go_ret
    exact ⟨⟨_, _, _, rfl⟩, rfl⟩

/-- Some map, or none. -/
def MapPost (w : World) (e : Ending) (w' : World) : Prop := (∃ r, e = .returned (.map r)) ∧ w.grownBy w' none

theorem grown_row_new {w w1 w2 : World} {r : Nat} (h : w.grownBy w1 none) (k : w1.grownBy w2 (some r)) (hr : w.heap.size ≤ r) : w.grownBy w2 none :=
  ⟨k.os.trans h.os, k.tape.trans h.tape, k.output.trans h.output, Nat.le_trans h.size k.size, fun i hi hn => by
    have := h.size
    rw [k.block i (by omega) (fun e => by injection e with e; omega), h.block i hi hn]⟩

set_option maxHeartbeats 4000000 in
set_option maxRecDepth 100000 in
theorem build47 (w : World) (a a2 a3 : Option Addr) (c1 c2 c3 : Nat) (names : List ByteArray) (seqs : List Int) (ys : List Value) (hC : Cells w a (enS names)) (hC2 : Cells w a2 (enW seqs)) (hC3 : Cells w a3 ys) (hS : Sls ys) (hn : names.length ≤ 1048576) :
    Calls Try.prog 47 #[.slice a names.length c1, .slice a2 seqs.length c2, .slice a3 ys.length c3, .bool false] w fun e w' => MapPost w e w' := by
  have q : ∀ (w : World) (a : Option Addr) (n c n' c' : Nat), (binOp .eql 23 (.slice a n c) (.slice none n' c')).run Try.prog w = .ok (.bool a.isNone) w :=
    fun w a n c n' c' => Lib.run_eql_slice_nil w _ _ a n c n' c' Try.underlying23
  have HC2 := (show Hid (Cells w a2 (enW seqs)) from hC2)
  have HC3 := (show Hid (Cells w a3 ys) from hC3)
  have HS := (show Hid (Sls ys) from hS)
  obtain ⟨n2, e2⟩ : ∃ n2, n2 = seqs.length := ⟨_, rfl⟩
  obtain ⟨n3, e3⟩ : ∃ n3, n3 = ys.length := ⟨_, rfl⟩
  have N2 := (show Hid _ from e2)
  have N3 := (show Hid _ from e3)
  rw [← e2, ← e3]
  clear hC2 hC3 hS e2 e3
  cases a with
  | none =>
    clear hC
    go_enter Try.func47, Try.ntmps47
    go_wp2
    go_ret
    exact ⟨⟨_, rfl⟩, World.grownBy.refl _ _⟩
  | some x =>
    have HC := (show Hid (Cells w (some x) (enS names)) from hC)
    clear hC
    obtain ⟨n, hnn⟩ : ∃ n, n = names.length := ⟨_, rfl⟩
    have HN := (show Hid _ from hnn)
    rw [← hnn] at hn ⊢
    clear hnn
    obtain ⟨W, hW⟩ : ∃ W, W = w.alloc (Obj.map #[] 0) := ⟨_, rfl⟩
    have hMW : MapAt W w.heap.size := by rw [hW]; exact map_new w
    have gW : w.grownBy W none := by rw [hW]; exact World.grownBy_alloc _ _ _
    have hmk : (Instr.makeMap 33 none).run Try.prog w = .ok (.map (some w.heap.size)) (w.alloc (.map #[] 0)) := run_makeMap_plain w 33
    go_enter Try.func47, Try.ntmps47
    go_wp2
    rw [← hW]
    clear hmk
    clear hW
    obtain ⟨r, hr⟩ : ∃ r, r = w.heap.size := ⟨_, rfl⟩
    rw [← hr] at hMW ⊢
    have HR := (show Hid _ from hr)
    clear hr
    go_loopw [10] (fun i wr => ∃ k : Nat, k ≤ n ∧ i = .int .i64 k ∧ MapAt wr r ∧ w.grownBy wr none) (fun i _ => n - (intOf i).toNat)
    case atStart => exact ⟨0, Nat.zero_le _, rfl, hMW, gW⟩
    case round =>
      clear hMW gW
      obtain ⟨m, hm, rfl, hM, hg⟩ := hrel
      have HM := (show Hid (MapAt wr r) from hM)
      have HG := (show Hid _ from hg)
      by_cases hlt : m < n
      · obtain ⟨s, hs⟩ : ∃ s, names[m]? = some s := ⟨_, List.getElem?_eq_getElem (by rw [← HN.out]; exact hlt)⟩
        obtain ⟨b, off, hx, t1⟩ := Cells.addr (Cells.grown HC.out hg) (enS_get hs)
        injection hx with hx
        subst hx
        have H52 := hidC (seq52 wr.drew a2 c2 seqs m (Cells.grown HC2.out (grown_drew hg)))
        have H53 := hidC (peers53 wr.drew a3 c3 ys m (Cells.grown HC3.out (grown_drew hg)) HS.out)
        rw [← N2.out] at H52
        rw [← N3.out] at H53
        clear hM hg hs
        have z1 : (m : Int) < (n : Int) := by omega
        have z2 : (m : Int) ≤ 2000000 := by omega
        have bw : IntKind.i64.wrap (m : Int) = (m : Int) := by rw [IntKind.wrap_i64]; omega
        go_upto_region 7 with fail
        refine region_last (fun w' => w'.cell? ⟨b, off + m, none⟩ = some (.string s)) 12 (by kernel_rfl) ?_
        have hS : ((fun w' => w'.cell? ⟨b, off + m, none⟩ = some (.string s)) : World → Prop) wr.drew := t1
        refine AnyL.take (i := 0) (v := ?_) rfl (by kernel_rfl) (by kernel_rfl) (by kernel_rfl) 0 (by kernel_rfl) (by kernel_rfl) (by kernel_rfl) (fun _ _ _ h => h) (Or.inl ⟨by rfl, ?_⟩) hS ?_
        rotate_left
        · intro w' hSw
          (try dsimp only at hSw)
          go_simp
          all_goals with_reducible rfl
        try simp only [Act.put, List.setIfInBounds_toArray, List.set_cons_zero, List.set_cons_succ]
        refine AnyL.take (i := 1) (v := ?_) rfl (by kernel_rfl) (by kernel_rfl) (by kernel_rfl) 1 (by kernel_rfl) (by kernel_rfl) (by kernel_rfl) (fun _ _ _ h => h) (Or.inl ⟨by rfl, ?_⟩) hS ?_
        rotate_left
        · intro w' hSw
          (try dsimp only at hSw)
          go_simp
          all_goals with_reducible rfl
        try simp only [Act.put, List.setIfInBounds_toArray, List.set_cons_zero, List.set_cons_succ]
        refine AnyL.take (i := 2) (v := ?_) rfl (by kernel_rfl) (by kernel_rfl) (by kernel_rfl) 2 (by kernel_rfl) (by kernel_rfl) (by kernel_rfl) (fun _ _ _ h => h) (Or.inl ⟨by rfl, ?_⟩) hS ?_
        rotate_left
        · intro w' hSw
          (try dsimp only at hSw)
          go_simp
          all_goals with_reducible rfl
        try simp only [Act.put, List.setIfInBounds_toArray, List.set_cons_zero, List.set_cons_succ]
        refine AnyL.take (i := 3) (v := ?_) rfl (by kernel_rfl) (by kernel_rfl) (by kernel_rfl) 3 (by kernel_rfl) (by kernel_rfl) (by kernel_rfl) (fun _ _ _ h => h) (Or.inl ⟨by rfl, ?_⟩) hS ?_
        rotate_left
        · intro w' hSw
          (try dsimp only at hSw)
          go_simp
          all_goals with_reducible rfl
        try simp only [Act.put, List.setIfInBounds_toArray, List.set_cons_zero, List.set_cons_succ]
        refine AnyL.take (i := 4) (v := ?_) rfl (by kernel_rfl) (by kernel_rfl) (by kernel_rfl) 4 (by kernel_rfl) (by kernel_rfl) (by kernel_rfl) (fun _ _ _ h => h) (Or.inl ⟨by rfl, ?_⟩) hS ?_
        rotate_left
        · intro w' hSw
          (try dsimp only at hSw)
          go_simp
          all_goals with_reducible rfl
        try simp only [Act.put, List.setIfInBounds_toArray, List.set_cons_zero, List.set_cons_succ]
        refine AnyL.take (i := 5) (v := ?_) rfl (by kernel_rfl) (by kernel_rfl) (by kernel_rfl) 5 (by kernel_rfl) (by kernel_rfl) (by kernel_rfl) (fun _ _ _ h => h) (Or.inl ⟨by rfl, ?_⟩) hS ?_
        rotate_left
        · intro w' hSw
          (try dsimp only at hSw)
          go_simp
          all_goals with_reducible rfl
        try simp only [Act.put, List.setIfInBounds_toArray, List.set_cons_zero, List.set_cons_succ]
        refine AnyL.take (i := 6) (v := ?_) rfl (by kernel_rfl) (by kernel_rfl) (by kernel_rfl) 6 (by kernel_rfl) (by kernel_rfl) (by kernel_rfl) (fun _ _ _ h => h) (Or.inl ⟨by rfl, ?_⟩) hS ?_
        rotate_left
        · intro w' hSw
          (try dsimp only at hSw)
          go_simp
          all_goals with_reducible rfl
        try simp only [Act.put, List.setIfInBounds_toArray, List.set_cons_zero, List.set_cons_succ]
        refine AnyL.take (i := 8) (v := ?_) rfl (by kernel_rfl) (by kernel_rfl) (by kernel_rfl) 8 (by kernel_rfl) (by kernel_rfl) (by kernel_rfl) (fun _ _ _ h => h) (Or.inl ⟨by rfl, ?_⟩) hS ?_
        rotate_left
        · intro w' hSw
          (try dsimp only at hSw)
          go_simp
          all_goals with_reducible rfl
        try simp only [Act.put, List.setIfInBounds_toArray, List.set_cons_zero, List.set_cons_succ]
        refine AnyL.take (i := 9) (v := ?_) rfl (by kernel_rfl) (by kernel_rfl) (by kernel_rfl) 9 (by kernel_rfl) (by kernel_rfl) (by kernel_rfl) (fun _ _ _ h => h) (Or.inl ⟨by rfl, ?_⟩) hS ?_
        rotate_left
        · intro w' hSw
          (try dsimp only at hSw)
          go_simp
          all_goals with_reducible rfl
        try simp only [Act.put, List.setIfInBounds_toArray, List.set_cons_zero, List.set_cons_succ]
        refine AnyL.one (i := 7) rfl (by kernel_rfl) (fun K hK => ?_)
        go_simp
        go_wp2_with (go_at_call 52; refine H52.out.mono ?_; rintro e1 w1 ⟨⟨z, rfl⟩, hw⟩; subst w1)
        have hS1 : ((fun w' => w'.cell? ⟨b, off + m, none⟩ = some (.string s)) : World → Prop) _ := hS
        refine hK.out _ _ (Or.inr hS1) ?_
        clear hK K
        try simp only [Act.put, List.setIfInBounds_toArray, List.set_cons_zero, List.set_cons_succ]
        refine AnyL.one (i := 10) rfl (by kernel_rfl) (fun K hK => ?_)
        go_simp
        go_wp2_with (go_at_call 53; refine H53.out.mono ?_; rintro e1 w1 ⟨⟨pa, pn, pc, rfl⟩, hw⟩; subst w1)
        have hS2 : ((fun w' => w'.cell? ⟨b, off + m, none⟩ = some (.string s)) : World → Prop) _ := hS
        refine hK.out _ _ (Or.inr hS2) ?_
        clear hK K
        try simp only [Act.put, List.setIfInBounds_toArray, List.set_cons_zero, List.set_cons_succ]
        refine AnyL.take (i := 11) (v := ?_) rfl (by kernel_rfl) (by kernel_rfl) (by kernel_rfl) 11 (by kernel_rfl) (by kernel_rfl) (by kernel_rfl) (fun _ _ _ h => h) (Or.inl ⟨by rfl, ?_⟩) hS2 ?_
        rotate_left
        · intro w' hSw
          (try dsimp only at hSw)
          go_simp
          all_goals with_reducible rfl
        try simp only [Act.put, List.setIfInBounds_toArray, List.set_cons_zero, List.set_cons_succ]
        obtain ⟨w9, hput, hM9, g9⟩ := map_put wr.drew r s (.agg #[.int .u64 z, .slice pa pn pc]) Try.underlying33 Try.underlying9 (MapAt.same HM.out rfl)
        refine AnyL.one (i := 12) rfl (by kernel_rfl) (fun K hK => ?_)
        go_simp
        refine hK.out _ _ (Or.inl rfl) ?_
        clear hK K
        refine AnyL.done (by kernel_rfl) ?_ _
        go_wp2
        go_roundw
        case rel => exact ⟨m + 1, by omega, by go_num, hM9, grown_row_new (grown_drew HG.out) g9 (by rw [HR.out]; exact Nat.le_refl _)⟩
        case measure => simp [intOf]; omega
      · obtain rfl : m = n := by omega
        go_wp2
        go_ret
        exact ⟨⟨_, rfl⟩, HG.out⟩

set_option maxHeartbeats 4000000 in
set_option maxRecDepth 100000 in
theorem build48 (w : World) (a a2 : Option Addr) (c1 c2 : Nat) (names : List ByteArray) (seqs : List Int) (hC : Cells w a (enS names)) (hC2 : Cells w a2 (enW seqs)) (hn : names.length ≤ 1048576) :
    Calls Try.prog 48 #[.slice a names.length c1, .slice a2 seqs.length c2, .bool false] w fun e w' => MapPost w e w' := by
  have q : ∀ (w : World) (a : Option Addr) (n c n' c' : Nat), (binOp .eql 23 (.slice a n c) (.slice none n' c')).run Try.prog w = .ok (.bool a.isNone) w :=
    fun w a n c n' c' => Lib.run_eql_slice_nil w _ _ a n c n' c' Try.underlying23
  have HC2 := (show Hid (Cells w a2 (enW seqs)) from hC2)
  obtain ⟨n2, e2⟩ : ∃ n2, n2 = seqs.length := ⟨_, rfl⟩
  have N2 := (show Hid _ from e2)
  rw [← e2]
  clear hC2 e2
  cases a with
  | none =>
    clear hC
    go_enter Try.func48, Try.ntmps48
    go_wp2
    go_ret
    exact ⟨⟨_, rfl⟩, World.grownBy.refl _ _⟩
  | some x =>
    have HC := (show Hid (Cells w (some x) (enS names)) from hC)
    clear hC
    obtain ⟨n, hnn⟩ : ∃ n, n = names.length := ⟨_, rfl⟩
    have HN := (show Hid _ from hnn)
    rw [← hnn] at hn ⊢
    clear hnn
    obtain ⟨W, hW⟩ : ∃ W, W = w.alloc (Obj.map #[] 0) := ⟨_, rfl⟩
    have hMW : MapAt W w.heap.size := by rw [hW]; exact map_new w
    have gW : w.grownBy W none := by rw [hW]; exact World.grownBy_alloc _ _ _
    have hmk : (Instr.makeMap 34 none).run Try.prog w = .ok (.map (some w.heap.size)) (w.alloc (.map #[] 0)) := run_makeMap_plain w 34
    go_enter Try.func48, Try.ntmps48
    go_wp2
    rw [← hW]
    clear hmk
    clear hW
    obtain ⟨r, hr⟩ : ∃ r, r = w.heap.size := ⟨_, rfl⟩
    rw [← hr] at hMW ⊢
    have HR := (show Hid _ from hr)
    clear hr
    go_loopw [8] (fun i wr => ∃ k : Nat, k ≤ n ∧ i = .int .i64 k ∧ MapAt wr r ∧ w.grownBy wr none) (fun i _ => n - (intOf i).toNat)
    case atStart => exact ⟨0, Nat.zero_le _, rfl, hMW, gW⟩
    case round =>
      clear hMW gW
      obtain ⟨m, hm, rfl, hM, hg⟩ := hrel
      have HM := (show Hid (MapAt wr r) from hM)
      have HG := (show Hid _ from hg)
      by_cases hlt : m < n
      · obtain ⟨s, hs⟩ : ∃ s, names[m]? = some s := ⟨_, List.getElem?_eq_getElem (by rw [← HN.out]; exact hlt)⟩
        obtain ⟨b, off, hx, t1⟩ := Cells.addr (Cells.grown HC.out hg) (enS_get hs)
        injection hx with hx
        subst hx
        have H52 := hidC (seq52 wr.drew a2 c2 seqs m (Cells.grown HC2.out (grown_drew hg)))
        rw [← N2.out] at H52
        clear hM hg hs
        have z1 : (m : Int) < (n : Int) := by omega
        have z2 : (m : Int) ≤ 2000000 := by omega
        have bw : IntKind.i64.wrap (m : Int) = (m : Int) := by rw [IntKind.wrap_i64]; omega
        go_upto_region 7 with fail
        refine region_last (fun w' => w'.cell? ⟨b, off + m, none⟩ = some (.string s)) 8 (by kernel_rfl) ?_
        have hS : ((fun w' => w'.cell? ⟨b, off + m, none⟩ = some (.string s)) : World → Prop) wr.drew := t1
        refine AnyL.take (i := 0) (v := ?_) rfl (by kernel_rfl) (by kernel_rfl) (by kernel_rfl) 0 (by kernel_rfl) (by kernel_rfl) (by kernel_rfl) (fun _ _ _ h => h) (Or.inl ⟨by rfl, ?_⟩) hS ?_
        rotate_left
        · intro w' hSw
          (try dsimp only at hSw)
          go_simp
          all_goals with_reducible rfl
        try simp only [Act.put, List.setIfInBounds_toArray, List.set_cons_zero, List.set_cons_succ]
        refine AnyL.take (i := 1) (v := ?_) rfl (by kernel_rfl) (by kernel_rfl) (by kernel_rfl) 1 (by kernel_rfl) (by kernel_rfl) (by kernel_rfl) (fun _ _ _ h => h) (Or.inl ⟨by rfl, ?_⟩) hS ?_
        rotate_left
        · intro w' hSw
          (try dsimp only at hSw)
          go_simp
          all_goals with_reducible rfl
        try simp only [Act.put, List.setIfInBounds_toArray, List.set_cons_zero, List.set_cons_succ]
        refine AnyL.take (i := 2) (v := ?_) rfl (by kernel_rfl) (by kernel_rfl) (by kernel_rfl) 2 (by kernel_rfl) (by kernel_rfl) (by kernel_rfl) (fun _ _ _ h => h) (Or.inl ⟨by rfl, ?_⟩) hS ?_
        rotate_left
        · intro w' hSw
          (try dsimp only at hSw)
          go_simp
          all_goals with_reducible rfl
        try simp only [Act.put, List.setIfInBounds_toArray, List.set_cons_zero, List.set_cons_succ]
        refine AnyL.take (i := 3) (v := ?_) rfl (by kernel_rfl) (by kernel_rfl) (by kernel_rfl) 3 (by kernel_rfl) (by kernel_rfl) (by kernel_rfl) (fun _ _ _ h => h) (Or.inl ⟨by rfl, ?_⟩) hS ?_
        rotate_left
        · intro w' hSw
          (try dsimp only at hSw)
          go_simp
          all_goals with_reducible rfl
        try simp only [Act.put, List.setIfInBounds_toArray, List.set_cons_zero, List.set_cons_succ]
        refine AnyL.take (i := 4) (v := ?_) rfl (by kernel_rfl) (by kernel_rfl) (by kernel_rfl) 4 (by kernel_rfl) (by kernel_rfl) (by kernel_rfl) (fun _ _ _ h => h) (Or.inl ⟨by rfl, ?_⟩) hS ?_
        rotate_left
        · intro w' hSw
          (try dsimp only at hSw)
          go_simp
          all_goals with_reducible rfl
        try simp only [Act.put, List.setIfInBounds_toArray, List.set_cons_zero, List.set_cons_succ]
        refine AnyL.take (i := 5) (v := ?_) rfl (by kernel_rfl) (by kernel_rfl) (by kernel_rfl) 5 (by kernel_rfl) (by kernel_rfl) (by kernel_rfl) (fun _ _ _ h => h) (Or.inl ⟨by rfl, ?_⟩) hS ?_
        rotate_left
        · intro w' hSw
          (try dsimp only at hSw)
          go_simp
          all_goals with_reducible rfl
        try simp only [Act.put, List.setIfInBounds_toArray, List.set_cons_zero, List.set_cons_succ]
        refine AnyL.take (i := 6) (v := ?_) rfl (by kernel_rfl) (by kernel_rfl) (by kernel_rfl) 6 (by kernel_rfl) (by kernel_rfl) (by kernel_rfl) (fun _ _ _ h => h) (Or.inl ⟨by rfl, ?_⟩) hS ?_
        rotate_left
        · intro w' hSw
          (try dsimp only at hSw)
          go_simp
          all_goals with_reducible rfl
        try simp only [Act.put, List.setIfInBounds_toArray, List.set_cons_zero, List.set_cons_succ]
        refine AnyL.one (i := 7) rfl (by kernel_rfl) (fun K hK => ?_)
        go_simp
        go_wp2_with (go_at_call 52; refine H52.out.mono ?_; rintro e1 w1 ⟨⟨z, rfl⟩, hw⟩; subst w1)
        have hS1 : ((fun w' => w'.cell? ⟨b, off + m, none⟩ = some (.string s)) : World → Prop) _ := hS
        refine hK.out _ _ (Or.inr hS1) ?_
        clear hK K
        try simp only [Act.put, List.setIfInBounds_toArray, List.set_cons_zero, List.set_cons_succ]
        obtain ⟨w9, hput, hM9, g9⟩ := map_put wr.drew r s (.int .u64 z) Try.underlying34 Try.underlying9 (MapAt.same HM.out rfl)
        refine AnyL.one (i := 8) rfl (by kernel_rfl) (fun K hK => ?_)
        go_simp
        refine hK.out _ _ (Or.inl rfl) ?_
        clear hK K
        refine AnyL.done (by kernel_rfl) ?_ _
        go_wp2
        go_roundw
        case rel => exact ⟨m + 1, by omega, by go_num, hM9, grown_row_new (grown_drew HG.out) g9 (by rw [HR.out]; exact Nat.le_refl _)⟩
        case measure => simp [intOf]; omega
      · obtain rfl : m = n := by omega
        go_wp2
        go_ret
        exact ⟨⟨_, rfl⟩, HG.out⟩

/-- Some News. -/
def ToPost (w : World) (r : Int) (e : Ending) (w' : World) : Prop := (∃ m1 m2, e = .returned (.agg #[.int .u64 r, .map m1, .map m2])) ∧ w.grownBy w' none

set_option maxHeartbeats 8000000 in
set_option maxRecDepth 100000 in
theorem tonews13 (w : World) (r : Int) (a1 a2 a3 a4 a5 : Option Addr) (c1 c2 c3 c4 c5 : Nat) (names finals : List ByteArray) (seqs vals : List Int) (ys : List Value) (h : NewsC w a1 a2 a3 a4 a5 names finals seqs vals ys) (h1 : names.length ≤ 1048576) (h4 : finals.length ≤ 1048576) :
    Calls Try.prog 13 #[.agg #[.int .u64 r, .slice a1 names.length c1, .slice a2 seqs.length c2, .slice a3 ys.length c3, .slice a4 finals.length c4, .slice a5 vals.length c5], .bool false] w fun e w' => ToPost w r e w' := by
  obtain ⟨W, hW⟩ : ∃ W, W = (w.alloc (Obj.cells #[.int .u64 r, .slice a1 names.length c1, .slice a2 seqs.length c2, .slice a3 ys.length c3, .slice a4 finals.length c4, .slice a5 vals.length c5] 27)).alloc (Obj.cells #[.int .u64 0, .map none, .map none] 36) := ⟨_, rfl⟩
  have g : w.grownBy W none := by rw [hW]; exact grown_trans (World.grownBy_alloc _ _ _) (World.grownBy_alloc _ _ _)
  have hB : BlockAt W w.heap.size 27 [.int .u64 r, .slice a1 names.length c1, .slice a2 seqs.length c2, .slice a3 ys.length c3, .slice a4 finals.length c4, .slice a5 vals.length c5] := by rw [hW]; exact (blockAt_new w 27 _).alloc _
  have hR : BlockAt W (w.heap.size + 1) 36 [.int .u64 0, .map none, .map none] := by rw [hW]; have := blockAt_new (w.alloc (Obj.cells #[.int .u64 r, .slice a1 names.length c1, .slice a2 seqs.length c2, .slice a3 ys.length c3, .slice a4 finals.length c4, .slice a5 vals.length c5] 27)) 36 [.int .u64 0, .map none, .map none]; rwa [World.size_alloc] at this
  have h' := h.grown (grown_drew g)
  have H1 := hidC (build47 W.drew a1 a2 a3 c1 c2 c3 names seqs ys h'.c1 h'.c2 h'.c3 h'.s3 h1)
  have HN := (show Hid _ from h)
  have HG := (show Hid _ from g)
  have HR := (show Hid _ from hR)
  clear h h' g hR
  go_enter Try.func13, Try.ntmps13
  go_upto_region 1 with fail
  rw [← hW]
  clear hW
  refine region_last (fun w' => w'.cell? ⟨w.heap.size, 0, none⟩ = some (.int .u64 r) ∧ w'.cell? ⟨w.heap.size, 1, none⟩ = some (.slice a1 names.length c1) ∧ w'.cell? ⟨w.heap.size, 2, none⟩ = some (.slice a2 seqs.length c2) ∧ w'.cell? ⟨w.heap.size, 3, none⟩ = some (.slice a3 ys.length c3) ∧ w'.cell? ⟨w.heap.size, 4, none⟩ = some (.slice a4 finals.length c4) ∧ w'.cell? ⟨w.heap.size, 5, none⟩ = some (.slice a5 vals.length c5)) 17 (by kernel_rfl) ?_
  have hS : ((fun w' => w'.cell? ⟨w.heap.size, 0, none⟩ = some (.int .u64 r) ∧ w'.cell? ⟨w.heap.size, 1, none⟩ = some (.slice a1 names.length c1) ∧ w'.cell? ⟨w.heap.size, 2, none⟩ = some (.slice a2 seqs.length c2) ∧ w'.cell? ⟨w.heap.size, 3, none⟩ = some (.slice a3 ys.length c3) ∧ w'.cell? ⟨w.heap.size, 4, none⟩ = some (.slice a4 finals.length c4) ∧ w'.cell? ⟨w.heap.size, 5, none⟩ = some (.slice a5 vals.length c5)) : World → Prop) W.drew := ⟨(hB).cell 0, (hB).cell 1, (hB).cell 2, (hB).cell 3, (hB).cell 4, (hB).cell 5⟩
  refine AnyL.take (i := 0) (v := ?_) rfl (by kernel_rfl) (by kernel_rfl) (by kernel_rfl) 0 (by kernel_rfl) (by kernel_rfl) (by kernel_rfl) (fun _ _ _ h => h) (Or.inl ⟨by rfl, ?_⟩) hS ?_
  rotate_left
  · intro w' hSw
    (try dsimp only at hSw)
    go_simp
    all_goals with_reducible rfl
  try simp only [Act.put, List.setIfInBounds_toArray, List.set_cons_zero, List.set_cons_succ]
  refine AnyL.take (i := 1) (v := ?_) rfl (by kernel_rfl) (by kernel_rfl) (by kernel_rfl) 1 (by kernel_rfl) (by kernel_rfl) (by kernel_rfl) (fun _ _ _ h => h) (Or.inl ⟨by rfl, ?_⟩) hS ?_
  rotate_left
  · intro w' hSw
    (try dsimp only at hSw)
    go_simp
    all_goals with_reducible rfl
  try simp only [Act.put, List.setIfInBounds_toArray, List.set_cons_zero, List.set_cons_succ]
  refine AnyL.take (i := 2) (v := ?_) rfl (by kernel_rfl) (by kernel_rfl) (by kernel_rfl) 2 (by kernel_rfl) (by kernel_rfl) (by kernel_rfl) (fun _ _ _ h => h) (Or.inl ⟨by rfl, ?_⟩) hS ?_
  rotate_left
  · intro w' hSw
    (try dsimp only at hSw)
    go_simp
    all_goals with_reducible rfl
  try simp only [Act.put, List.setIfInBounds_toArray, List.set_cons_zero, List.set_cons_succ]
  refine AnyL.take (i := 3) (v := ?_) rfl (by kernel_rfl) (by kernel_rfl) (by kernel_rfl) 3 (by kernel_rfl) (by kernel_rfl) (by kernel_rfl) (fun _ _ _ h => h) (Or.inl ⟨by rfl, ?_⟩) hS ?_
  rotate_left
  · intro w' hSw
    (try dsimp only at hSw)
    go_simp
    all_goals with_reducible rfl
  try simp only [Act.put, List.setIfInBounds_toArray, List.set_cons_zero, List.set_cons_succ]
  refine AnyL.take (i := 4) (v := ?_) rfl (by kernel_rfl) (by kernel_rfl) (by kernel_rfl) 4 (by kernel_rfl) (by kernel_rfl) (by kernel_rfl) (fun _ _ _ h => h) (Or.inl ⟨by rfl, ?_⟩) hS ?_
  rotate_left
  · intro w' hSw
    (try dsimp only at hSw)
    go_simp
    all_goals with_reducible rfl
  try simp only [Act.put, List.setIfInBounds_toArray, List.set_cons_zero, List.set_cons_succ]
  refine AnyL.take (i := 5) (v := ?_) rfl (by kernel_rfl) (by kernel_rfl) (by kernel_rfl) 5 (by kernel_rfl) (by kernel_rfl) (by kernel_rfl) (fun _ _ _ h => h) (Or.inl ⟨by rfl, ?_⟩) hS ?_
  rotate_left
  · intro w' hSw
    (try dsimp only at hSw)
    go_simp
    all_goals with_reducible rfl
  try simp only [Act.put, List.setIfInBounds_toArray, List.set_cons_zero, List.set_cons_succ]
  refine AnyL.take (i := 6) (v := ?_) rfl (by kernel_rfl) (by kernel_rfl) (by kernel_rfl) 6 (by kernel_rfl) (by kernel_rfl) (by kernel_rfl) (fun _ _ _ h => h) (Or.inl ⟨by rfl, ?_⟩) hS ?_
  rotate_left
  · intro w' hSw
    (try dsimp only at hSw)
    go_simp
    all_goals with_reducible rfl
  try simp only [Act.put, List.setIfInBounds_toArray, List.set_cons_zero, List.set_cons_succ]
  refine AnyL.take (i := 7) (v := ?_) rfl (by kernel_rfl) (by kernel_rfl) (by kernel_rfl) 7 (by kernel_rfl) (by kernel_rfl) (by kernel_rfl) (fun _ _ _ h => h) (Or.inl ⟨by rfl, ?_⟩) hS ?_
  rotate_left
  · intro w' hSw
    (try dsimp only at hSw)
    go_simp
    all_goals with_reducible rfl
  try simp only [Act.put, List.setIfInBounds_toArray, List.set_cons_zero, List.set_cons_succ]
  refine AnyL.take (i := 8) (v := ?_) rfl (by kernel_rfl) (by kernel_rfl) (by kernel_rfl) 8 (by kernel_rfl) (by kernel_rfl) (by kernel_rfl) (fun _ _ _ h => h) (Or.inl ⟨by rfl, ?_⟩) hS ?_
  rotate_left
  · intro w' hSw
    (try dsimp only at hSw)
    go_simp
    all_goals with_reducible rfl
  try simp only [Act.put, List.setIfInBounds_toArray, List.set_cons_zero, List.set_cons_succ]
  refine AnyL.take (i := 10) (v := ?_) rfl (by kernel_rfl) (by kernel_rfl) (by kernel_rfl) 10 (by kernel_rfl) (by kernel_rfl) (by kernel_rfl) (fun _ _ _ h => h) (Or.inl ⟨by rfl, ?_⟩) hS ?_
  rotate_left
  · intro w' hSw
    (try dsimp only at hSw)
    go_simp
    all_goals with_reducible rfl
  try simp only [Act.put, List.setIfInBounds_toArray, List.set_cons_zero, List.set_cons_succ]
  refine AnyL.take (i := 11) (v := ?_) rfl (by kernel_rfl) (by kernel_rfl) (by kernel_rfl) 11 (by kernel_rfl) (by kernel_rfl) (by kernel_rfl) (fun _ _ _ h => h) (Or.inl ⟨by rfl, ?_⟩) hS ?_
  rotate_left
  · intro w' hSw
    (try dsimp only at hSw)
    go_simp
    all_goals with_reducible rfl
  try simp only [Act.put, List.setIfInBounds_toArray, List.set_cons_zero, List.set_cons_succ]
  refine AnyL.take (i := 12) (v := ?_) rfl (by kernel_rfl) (by kernel_rfl) (by kernel_rfl) 12 (by kernel_rfl) (by kernel_rfl) (by kernel_rfl) (fun _ _ _ h => h) (Or.inl ⟨by rfl, ?_⟩) hS ?_
  rotate_left
  · intro w' hSw
    (try dsimp only at hSw)
    go_simp
    all_goals with_reducible rfl
  try simp only [Act.put, List.setIfInBounds_toArray, List.set_cons_zero, List.set_cons_succ]
  refine AnyL.take (i := 13) (v := ?_) rfl (by kernel_rfl) (by kernel_rfl) (by kernel_rfl) 13 (by kernel_rfl) (by kernel_rfl) (by kernel_rfl) (fun _ _ _ h => h) (Or.inl ⟨by rfl, ?_⟩) hS ?_
  rotate_left
  · intro w' hSw
    (try dsimp only at hSw)
    go_simp
    all_goals with_reducible rfl
  try simp only [Act.put, List.setIfInBounds_toArray, List.set_cons_zero, List.set_cons_succ]
  refine AnyL.take (i := 14) (v := ?_) rfl (by kernel_rfl) (by kernel_rfl) (by kernel_rfl) 14 (by kernel_rfl) (by kernel_rfl) (by kernel_rfl) (fun _ _ _ h => h) (Or.inl ⟨by rfl, ?_⟩) hS ?_
  rotate_left
  · intro w' hSw
    (try dsimp only at hSw)
    go_simp
    all_goals with_reducible rfl
  try simp only [Act.put, List.setIfInBounds_toArray, List.set_cons_zero, List.set_cons_succ]
  refine AnyL.one (i := 9) rfl (by kernel_rfl) (fun K hK => ?_)
  go_simp
  go_wp2_with (go_at_call 47; refine H1.out.mono ?_; rintro e1 w1 ⟨⟨m1, rfl⟩, g1⟩)
  have hS1 : ((fun w' => w'.cell? ⟨w.heap.size, 0, none⟩ = some (.int .u64 r) ∧ w'.cell? ⟨w.heap.size, 1, none⟩ = some (.slice a1 names.length c1) ∧ w'.cell? ⟨w.heap.size, 2, none⟩ = some (.slice a2 seqs.length c2) ∧ w'.cell? ⟨w.heap.size, 3, none⟩ = some (.slice a3 ys.length c3) ∧ w'.cell? ⟨w.heap.size, 4, none⟩ = some (.slice a4 finals.length c4) ∧ w'.cell? ⟨w.heap.size, 5, none⟩ = some (.slice a5 vals.length c5)) : World → Prop) _ := ⟨(hB.grown (grown_trans (grown_drew (World.grownBy.refl W _)) g1) (by simp)).cell 0, (hB.grown (grown_trans (grown_drew (World.grownBy.refl W _)) g1) (by simp)).cell 1, (hB.grown (grown_trans (grown_drew (World.grownBy.refl W _)) g1) (by simp)).cell 2, (hB.grown (grown_trans (grown_drew (World.grownBy.refl W _)) g1) (by simp)).cell 3, (hB.grown (grown_trans (grown_drew (World.grownBy.refl W _)) g1) (by simp)).cell 4, (hB.grown (grown_trans (grown_drew (World.grownBy.refl W _)) g1) (by simp)).cell 5⟩
  refine hK.out _ _ (Or.inr hS1) ?_
  clear hK K
  try simp only [Act.put, List.setIfInBounds_toArray, List.set_cons_zero, List.set_cons_succ]
  have K2 := build48 w1 a4 a5 c4 c5 finals vals (Cells.grown HN.out.c4 (grown_trans HG.out (grown_trans (grown_drew (World.grownBy.refl W _)) g1))) (Cells.grown HN.out.c5 (grown_trans HG.out (grown_trans (grown_drew (World.grownBy.refl W _)) g1))) h4
  refine AnyL.one (i := 15) rfl (by kernel_rfl) (fun K hK => ?_)
  go_simp
  go_wp2_with (go_at_call 48; refine K2.mono ?_; rintro e1 w2 ⟨⟨m2, rfl⟩, g2⟩)
  have hS2 : ((fun w' => w'.cell? ⟨w.heap.size, 0, none⟩ = some (.int .u64 r) ∧ w'.cell? ⟨w.heap.size, 1, none⟩ = some (.slice a1 names.length c1) ∧ w'.cell? ⟨w.heap.size, 2, none⟩ = some (.slice a2 seqs.length c2) ∧ w'.cell? ⟨w.heap.size, 3, none⟩ = some (.slice a3 ys.length c3) ∧ w'.cell? ⟨w.heap.size, 4, none⟩ = some (.slice a4 finals.length c4) ∧ w'.cell? ⟨w.heap.size, 5, none⟩ = some (.slice a5 vals.length c5)) : World → Prop) _ := ⟨(hB.grown (grown_trans (grown_trans (grown_drew (World.grownBy.refl W _)) g1) g2) (by simp)).cell 0, (hB.grown (grown_trans (grown_trans (grown_drew (World.grownBy.refl W _)) g1) g2) (by simp)).cell 1, (hB.grown (grown_trans (grown_trans (grown_drew (World.grownBy.refl W _)) g1) g2) (by simp)).cell 2, (hB.grown (grown_trans (grown_trans (grown_drew (World.grownBy.refl W _)) g1) g2) (by simp)).cell 3, (hB.grown (grown_trans (grown_trans (grown_drew (World.grownBy.refl W _)) g1) g2) (by simp)).cell 4, (hB.grown (grown_trans (grown_trans (grown_drew (World.grownBy.refl W _)) g1) g2) (by simp)).cell 5⟩
  refine hK.out _ _ (Or.inr hS2) ?_
  clear hK K
  try simp only [Act.put, List.setIfInBounds_toArray, List.set_cons_zero, List.set_cons_succ]
  refine AnyL.take (i := 16) (v := ?_) rfl (by kernel_rfl) (by kernel_rfl) (by kernel_rfl) 16 (by kernel_rfl) (by kernel_rfl) (by kernel_rfl) (fun _ _ _ h => h) (Or.inl ⟨by rfl, ?_⟩) hS2 ?_
  rotate_left
  · intro w' hSw
    (try dsimp only at hSw)
    go_simp
    all_goals with_reducible rfl
  try simp only [Act.put, List.setIfInBounds_toArray, List.set_cons_zero, List.set_cons_succ]
  have hR2 := BlockAt.grown HR.out (grown_trans (grown_trans (grown_drew (World.grownBy.refl W _)) g1) g2) (by simp)
  have r0 := hR2.cell 0
  have r1 := hR2.cell 1
  have r2 := hR2.cell 2
  have s0 := hR2.frozen 0
  have s1 := hR2.frozen 1
  have s2 := hR2.frozen 2
  simp only [List.getElem?_cons_zero, List.getElem?_cons_succ] at r0 r1 r2
  clear hR2
  refine AnyL.one (i := 17) rfl (by kernel_rfl) (fun K hK => ?_)
  go_simp
  refine hK.out _ _ (Or.inl rfl) ?_
  clear hK K
  refine AnyL.done (by kernel_rfl) ?_ _
  go_wp2
  (try simp only [Exit.inBlock, Exit.then])
  refine bodyPost_ret (v := .agg #[.int .u64 r, .map m1, .map m2]) ?_ rfl ?_
  · rw [results_cell1 rfl]
    go_simp
  · clear r0 r1 r2 s0 s1 s2
    have hgr := grown_trans HG.out (grown_trans (grown_trans (grown_drew (World.grownBy.refl W _)) g1) g2)
    exact ⟨⟨m1, m2, rfl⟩, grown_set_new (grown_set_new (grown_set_new hgr (by omega) _) (by omega) _) (by omega) _⟩

end Go.Proofs.Qxb6601448a
