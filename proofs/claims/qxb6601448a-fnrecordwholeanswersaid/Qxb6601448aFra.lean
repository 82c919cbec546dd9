/-
  The parameters that came in, laid open.
-/
import Derived.Test.Qxb6601448aByu
import Derived.Deep.Strs
namespace Go.Proofs.Qxb6601448a
open Go.ChangeShapes Go.WideShapes Go.RowKit Go.Deep

theorem Try.cells9 : Try.prog.cellsOf 9 = 1 := by kernel_rfl
theorem Try.cells22 : Try.prog.cellsOf 22 = 1 := by kernel_rfl
theorem Try.cells23 : Try.prog.cellsOf 23 = 1 := by kernel_rfl
theorem Try.cells24 : Try.prog.cellsOf 24 = 1 := by kernel_rfl
theorem Try.cells25 : Try.prog.cellsOf 25 = 1 := by kernel_rfl
theorem Try.cells27 : Try.prog.cellsOf 27 = 6 := by kernel_rfl
theorem Try.cells40 : Try.prog.cellsOf 40 = 8 := by kernel_rfl
theorem Try.cells42 : Try.prog.cellsOf 42 = 3 := by kernel_rfl

theorem Try.str42 : ∃ f0 f1 f2 : Field, Try.prog.underlying 42 = some (.struct #[f0, f1, f2]) ∧ f0.type = 9 ∧ f0.offset = 0 ∧ f1.type = 23 ∧ f1.offset = 1 ∧ f2.type = 23 ∧ f2.offset = 2 := ⟨_, _, _, Try.underlying42, rfl, rfl, rfl, rfl, rfl, rfl⟩
theorem Try.str40 : ∃ f0 f1 f2 : Field, Try.prog.underlying 40 = some (.struct #[f0, f1, f2]) ∧ f0.type = 27 ∧ f0.offset = 0 ∧ f1.type = 9 ∧ f1.offset = 6 ∧ f2.type = 22 ∧ f2.offset = 7 := ⟨_, _, _, Try.underlying40, rfl, rfl, rfl, rfl, rfl, rfl⟩
theorem Try.str27 : ∃ f0 f1 f2 f3 f4 f5 : Field, Try.prog.underlying 27 = some (.struct #[f0, f1, f2, f3, f4, f5]) ∧ (f0.type = 22 ∧ f0.offset = 0) ∧ (f1.type = 23 ∧ f1.offset = 1) ∧ (f2.type = 24 ∧ f2.offset = 2) ∧ (f3.type = 25 ∧ f3.offset = 3) ∧ (f4.type = 23 ∧ f4.offset = 4) ∧ (f5.type = 24 ∧ f5.offset = 5) :=
  ⟨_, _, _, _, _, _, Try.underlying27, ⟨rfl, rfl⟩, ⟨rfl, rfl⟩, ⟨rfl, rfl⟩, ⟨rfl, rfl⟩, ⟨rfl, rfl⟩, ⟨rfl, rfl⟩⟩

theorem cells_of {w : World} {ad : Addr} {len m : Nat} {V : Nat → Value} (hlm : len ≤ m) (h : ∀ i, i < m → w.cell? (ad.add i) = some (V i)) : Cells w (some ad) ((List.range len).map V) := by
  by_cases h0 : len = 0
  · exact .inl (by rw [h0]; rfl)
  · have hsp : ad.spot = none := by simpa [Addr.add] using World.cell?_spot (h 0 (by omega))
    obtain ⟨b, off, spot⟩ := ad
    simp only at hsp
    subst hsp
    refine .inr ⟨b, off, rfl, fun i x hx => ?_⟩
    have hi : i < len := by have := (List.getElem?_eq_some_iff.1 hx).1; simpa using this
    have e : V i = x := by
      rw [List.getElem?_map, List.getElem?_range hi] at hx
      simpa using hx
    have := h i (by omega)
    rw [e, Addr.add_lit] at this
    exact this

section
variable {H : Type} {enc : TypeId × Value → H} {w : World} {base : Nat} {spare : Nat → Bool} {held : Bool}

theorem op_strs {fuel : Nat} {c : Value} {x : DataW H × List MemPlace} (h : DataW.trod enc Try.prog w base spare held fuel 23 [c] = some x) :
    ∃ (a : Option Addr) (cap : Nat) (ss : List ByteArray), c = .slice a ss.length cap ∧ Cells w a (enS ss) ∧ Small ss := by
  rcases open_slice1 Try.underlying23 Try.cells9 h with ⟨h0, _⟩ | ⟨ad, len, cap, m, n, V, D, Pl, h0, hb, hl, hm, hmm, _, hx⟩
  · simp only [List.cons.injEq, and_true] at h0
    exact ⟨none, 0, [], h0, .inl rfl, Nat.zero_le _, fun s hs => by simp at hs⟩
  · simp only [List.cons.injEq, and_true] at h0
    have hlm : len ≤ m := by rw [hmm]; split <;> omega
    have each : ∀ i, i < m → ∃ s : ByteArray, V i = .string s ∧ s.size ≤ maxLen := fun i hi => by
      obtain ⟨s, h1, _, h3⟩ := DataW.trod_string Try.underlying9 (hx i hi).2
      exact ⟨s, by simpa using h1, h3⟩
    obtain ⟨F, hF⟩ := choose_lt each
    refine ⟨some ad, cap, (List.range len).map F, by simpa using h0, ?_, by simp; omega, fun s hs => ?_⟩
    · have e : enS ((List.range len).map F) = (List.range len).map V := by
        rw [enS, List.map_map]
        apply List.map_congr_left
        intro i hi
        exact (hF i (by have := List.mem_range.1 hi; omega)).1.symm
      rw [e]
      exact cells_of hlm fun i hi => (hx i hi).1
    · obtain ⟨i, hi, rfl⟩ := List.mem_map.1 hs
      exact (hF i (by have := List.mem_range.1 hi; omega)).2

theorem op_words {fuel : Nat} {c : Value} {x : DataW H × List MemPlace} (h : DataW.trod enc Try.prog w base spare held fuel 24 [c] = some x) :
    ∃ (a : Option Addr) (cap : Nat) (ns : List Int), c = .slice a ns.length cap ∧ Cells w a (enW ns) ∧ ns.length ≤ maxLen := by
  rcases open_slice1 Try.underlying24 Try.cells22 h with ⟨h0, _⟩ | ⟨ad, len, cap, m, n, V, D, Pl, h0, hb, hl, hm, hmm, _, hx⟩
  · simp only [List.cons.injEq, and_true] at h0
    exact ⟨none, 0, [], h0, .inl rfl, Nat.zero_le _⟩
  · simp only [List.cons.injEq, and_true] at h0
    have hlm : len ≤ m := by rw [hmm]; split <;> omega
    have each : ∀ i, i < m → ∃ z : Int, V i = .int .u64 z := fun i hi => by
      obtain ⟨z, h1, _⟩ := DataW.trod_int Try.underlying22 (hx i hi).2
      exact ⟨z, by simpa using h1⟩
    obtain ⟨F, hF⟩ := choose_lt each
    refine ⟨some ad, cap, (List.range len).map F, by simpa using h0, ?_, by simp; omega⟩
    have e : enW ((List.range len).map F) = (List.range len).map V := by
      rw [enW, List.map_map]
      apply List.map_congr_left
      intro i hi
      exact (hF i (by have := List.mem_range.1 hi; omega)).symm
    rw [e]
    exact cells_of hlm fun i hi => (hx i hi).1

theorem op_nest {fuel : Nat} {c : Value} {x : DataW H × List MemPlace} (h : DataW.trod enc Try.prog w base spare held fuel 25 [c] = some x) :
    ∃ (a : Option Addr) (cap : Nat) (sss : List (Option Addr × Nat × List ByteArray)), c = .slice a sss.length cap ∧ Nest w a sss ∧ sss.length ≤ maxLen ∧ ∀ t ∈ sss, Small t.2.2 := by
  rcases open_slice1 Try.underlying25 Try.cells23 h with ⟨h0, _⟩ | ⟨ad, len, cap, m, n, V, D, Pl, h0, hb, hl, hm, hmm, _, hx⟩
  · simp only [List.cons.injEq, and_true] at h0
    exact ⟨none, 0, [], h0, ⟨.inl rfl, fun t ht => by simp at ht⟩, Nat.zero_le _, fun t ht => by simp at ht⟩
  · simp only [List.cons.injEq, and_true] at h0
    have hlm : len ≤ m := by rw [hmm]; split <;> omega
    have each : ∀ i, i < m → ∃ t : Option Addr × Nat × List ByteArray, V i = .slice t.1 t.2.2.length t.2.1 ∧ Cells w t.1 (enS t.2.2) ∧ Small t.2.2 := fun i hi => by
      obtain ⟨a, k, ss, h1, h2, h3⟩ := op_strs (hx i hi).2
      exact ⟨(a, k, ss), h1, h2, h3⟩
    obtain ⟨F, hF⟩ := choose_lt each
    refine ⟨some ad, cap, (List.range len).map F, by simpa using h0, ⟨?_, fun t ht => ?_⟩, by simp; omega, fun t ht => ?_⟩
    · have e : (((List.range len).map F).map fun t => Value.slice t.1 t.2.2.length t.2.1) = (List.range len).map V := by
        rw [List.map_map]
        apply List.map_congr_left
        intro i hi
        exact (hF i (by have := List.mem_range.1 hi; omega)).1.symm
      rw [e]
      exact cells_of hlm fun i hi => (hx i hi).1
    · obtain ⟨i, hi, rfl⟩ := List.mem_map.1 ht
      exact (hF i (by have := List.mem_range.1 hi; omega)).2.1
    · obtain ⟨i, hi, rfl⟩ := List.mem_map.1 ht
      exact (hF i (by have := List.mem_range.1 hi; omega)).2.2

theorem len3 {l : List Value} (h : l.length = 3) : ∃ a b c, l = [a, b, c] := by
  match l, h with
  | [a, b, c], _ => exact ⟨a, b, c, rfl⟩

theorem len8 {l : List Value} (h : l.length = 8) : ∃ a b c d e f g k, l = [a, b, c, d, e, f, g, k] := by
  match l, h with
  | [a, b, c, d, e, f, g, k], _ => exact ⟨a, b, c, d, e, f, g, k, rfl⟩

theorem op_site {fuel : Nat} {cs : List Value} {x : DataW H × List MemPlace} (h : DataW.trod enc Try.prog w base spare held fuel 42 cs = some x) :
    ∃ (nm : ByteArray) (bp be : Option Addr) (dp de : Nat) (peers exps : List ByteArray), cs = [.string nm, .slice bp peers.length dp, .slice be exps.length de] ∧ SiteAt w bp be peers exps ∧ nm.size ≤ maxLen := by
  obtain ⟨f0, f1, f2, hu, t0, o0, t1, o1, t2, o2⟩ := Try.str42
  obtain ⟨y0, y1, y2, k, _, hlen, g0, g1, g2⟩ := trod_struct3 hu h
  rw [Try.cells42] at hlen
  obtain ⟨c0, c1, c2, rfl⟩ := len3 hlen
  rw [t0, o0, Try.cells9] at g0
  rw [t1, o1, Try.cells23] at g1
  rw [t2, o2, Try.cells23] at g2
  simp only [List.drop_zero, List.take_succ_cons, List.take_zero, List.drop_succ_cons] at g0 g1 g2
  obtain ⟨s, hs, _, hsz⟩ := DataW.trod_string Try.underlying9 g0
  obtain ⟨a1, k1, l1, e1, q1, r1⟩ := op_strs g1
  obtain ⟨a2, k2, l2, e2, q2, r2⟩ := op_strs g2
  simp only [List.cons.injEq, and_true] at hs
  exact ⟨s, a1, a2, k1, k2, l1, l2, by rw [hs, e1, e2], ⟨q1, q2, r1, r2⟩, hsz⟩

theorem op_snap {fuel : Nat} {cs : List Value} {x : DataW H × List MemPlace} (h : DataW.trod enc Try.prog w base spare held fuel 40 cs = some x) :
    ∃ (r sv : Int) (st : ByteArray) (an aq ap af av : Option Addr) (cn ck cp cf cv : Nat) (names finals : List ByteArray) (seqs vals : List Int) (sss : List (Option Addr × Nat × List ByteArray)),
      cs = [.int .u64 r, .slice an names.length cn, .slice aq seqs.length ck, .slice ap sss.length cp, .slice af finals.length cf, .slice av vals.length cv, .string st, .int .u64 sv] ∧ NewsAt w an aq ap af av names finals seqs vals sss ∧ st.size ≤ maxLen := by
  obtain ⟨f0, f1, f2, hu, t0, o0, t1, o1, t2, o2⟩ := Try.str40
  obtain ⟨y0, y1, y2, k, _, hlen, g0, g1, g2⟩ := trod_struct3 hu h
  rw [Try.cells40] at hlen
  obtain ⟨c0, c1, c2, c3, c4, c5, c6, c7, rfl⟩ := len8 hlen
  rw [t0, o0, Try.cells27] at g0
  rw [t1, o1, Try.cells9] at g1
  rw [t2, o2, Try.cells22] at g2
  simp only [List.drop_zero, List.take_succ_cons, List.take_zero, List.drop_succ_cons] at g0 g1 g2
  obtain ⟨s, hs, _, hsz⟩ := DataW.trod_string Try.underlying9 g1
  obtain ⟨z, hz, _⟩ := DataW.trod_int Try.underlying22 g2
  obtain ⟨e0, e1, e2, e3, e4, e5, hv, u0, u1, u2, u3, u4, u5⟩ := Try.str27
  obtain ⟨xs, k2, _, _, _, hxl, hf⟩ := DataW.trod_struct hv g0
  have w0 := hf 0 e0 rfl
  have w1 := hf 1 e1 rfl
  have w2 := hf 2 e2 rfl
  have w3 := hf 3 e3 rfl
  have w4 := hf 4 e4 rfl
  have w5 := hf 5 e5 rfl
  have hx6 : xs.length = 6 := hxl
  rw [u0.1, u0.2, Try.cells22, List.getElem?_eq_getElem (by omega)] at w0
  rw [u1.1, u1.2, Try.cells23, List.getElem?_eq_getElem (by omega)] at w1
  rw [u2.1, u2.2, Try.cells24, List.getElem?_eq_getElem (by omega)] at w2
  rw [u3.1, u3.2, Try.cells25, List.getElem?_eq_getElem (by omega)] at w3
  rw [u4.1, u4.2, Try.cells23, List.getElem?_eq_getElem (by omega)] at w4
  rw [u5.1, u5.2, Try.cells24, List.getElem?_eq_getElem (by omega)] at w5
  simp only [List.drop_zero, List.take_succ_cons, List.take_zero, List.drop_succ_cons] at w0 w1 w2 w3 w4 w5
  obtain ⟨r, hr, _⟩ := DataW.trod_int Try.underlying22 w0
  obtain ⟨a1, k1, l1, x1, q1, r1⟩ := op_strs w1
  obtain ⟨a2, k2, l2, x2, q2, r2⟩ := op_words w2
  obtain ⟨a3, k3, l3, x3, q3, r3⟩ := op_nest w3
  obtain ⟨a4, k4, l4, x4, q4, r4⟩ := op_strs w4
  obtain ⟨a5, k5, l5, x5, q5, r5⟩ := op_words w5
  simp only [List.cons.injEq, and_true] at hs hz hr
  exact ⟨r, z, s, a1, a2, a3, a4, a5, k1, k2, k3, k4, k5, l1, l4, l2, l5, l3, by rw [hs, hz, hr, x1, x2, x3, x4, x5], ⟨q1, q2, q3, q4, q5, r1, r2, r3, r4, r5⟩, hsz⟩
end
end Go.Proofs.Qxb6601448a
