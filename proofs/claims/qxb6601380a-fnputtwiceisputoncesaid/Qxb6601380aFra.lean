/-
  A slice of operations that came in, laid open.
-/
import Derived.Test.Qxb6601380aRows
import Derived.Test.Qxb6601380aOps
import Derived.WalkKit
import Derived.Deep.Strs
namespace Go.Proofs.Qxb6601380a
open Go.ChangeShapes Go.WideShapes Go.RowKit Go.Deep

theorem Try.cells62 : Try.prog.cellsOf 62 = 3 := by kernel_rfl
theorem Try.cells9 : Try.prog.cellsOf 9 = 1 := by kernel_rfl
theorem Try.cells30 : Try.prog.cellsOf 30 = 1 := by kernel_rfl
theorem Try.cells4 : Try.prog.cellsOf 4 = 1 := by kernel_rfl
theorem Try.str62 : ∃ f0 f1 f2 : Field, Try.prog.underlying 62 = some (.struct #[f0, f1, f2]) ∧ f0.type = 9 ∧ f0.offset = 0 ∧ f1.type = 30 ∧ f1.offset = 1 ∧ f2.type = 4 ∧ f2.offset = 2 := ⟨_, _, _, Try.underlying62, rfl, rfl, rfl, rfl, rfl, rfl⟩

theorem len3 {l : List Value} (h : l.length = 3) : ∃ a b c, l = [a, b, c] := by
  match l, h with
  | [a, b, c], _ => exact ⟨a, b, c, rfl⟩

section
variable {H : Type} {enc : TypeId × Value → H} {w : World} {base : Nat} {spare : Nat → Bool} {held : Bool}

theorem open_ops {fuel : Nat} {a : Option Addr} {len cap : Nat} {x : DataW H × List MemPlace} (h : DataW.trod enc Try.prog w base spare held fuel 38 [.slice a len cap] = some x) :
    ∃ ops : List (ByteArray × Int × Bool), ops.length = len ∧ OpsAt w a ops ∧ len ≤ maxLen ∧ ∀ o ∈ ops, o.1.size ≤ maxLen := by
  rcases open_slice Try.underlying38 h with ⟨h0, _⟩ | ⟨ad, l, c, m, n, D, Pl, h0, hb, hl, hm, hmm, _, hx⟩
  · simp only [List.cons.injEq, Value.slice.injEq, and_true] at h0
    obtain ⟨rfl, rfl, rfl⟩ := h0
    exact ⟨[], rfl, .inl rfl, Nat.zero_le _, fun o ho => by simp at ho⟩
  · simp only [List.cons.injEq, Value.slice.injEq, and_true] at h0
    obtain ⟨rfl, rfl, rfl⟩ := h0
    have hlm : len ≤ m := by rw [hmm]; split <;> omega
    have each : ∀ i, i < m → ∃ o : ByteArray × Int × Bool, w.cell? (ad.add (i * 3)) = some (.string o.1) ∧ w.cell? (ad.add (i * 3 + 1)) = some (.int .u32 o.2.1) ∧ w.cell? (ad.add (i * 3 + 2)) = some (.bool o.2.2) ∧ o.1.size ≤ maxLen := by
      intro i hi
      obtain ⟨cs', h1, h2⟩ := hx i hi
      rw [Try.cells62] at h1
      obtain ⟨_, hlen, hcell⟩ := World.cells?_some h1
      obtain ⟨f0, f1, f2, hu, t0, o0, t1, o1, t2, o2⟩ := Try.str62
      obtain ⟨y0, y1, y2, k, _, _, g0, g1, g2⟩ := trod_struct3 hu h2
      obtain ⟨c0, c1, c2, rfl⟩ := len3 hlen
      rw [t0, o0, Try.cells9] at g0
      rw [t1, o1, Try.cells30] at g1
      rw [t2, o2, Try.cells4] at g2
      obtain ⟨s, hs, _, hsz⟩ := DataW.trod_string Try.underlying9 g0
      obtain ⟨z, hz, _⟩ := DataW.trod_int Try.underlying30 g1
      obtain ⟨b, hb', _⟩ := DataW.trod_bool Try.underlying4 g2
      simp only [List.drop_zero, List.take_succ_cons, List.take_zero, List.cons.injEq, and_true, List.drop_succ_cons] at hs hz hb'
      have q0 := hcell 0 (by omega)
      have q1 := hcell 1 (by omega)
      have q2 := hcell 2 (by omega)
      simp only [List.getElem?_cons_zero, List.getElem?_cons_succ] at q0 q1 q2
      refine ⟨(s, z, b), ?_, ?_, ?_, hsz⟩
      · rw [← hs, ← q0, Addr.add_add, Nat.add_zero]
      · rw [← hz, ← q1, Addr.add_add]
      · rw [← hb', ← q2, Addr.add_add]
    obtain ⟨F, hF⟩ := choose_lt each
    refine ⟨(List.range len).map F, by simp, ?_, by omega, fun o ho => ?_⟩
    · by_cases h0 : len = 0
      · exact .inl (by rw [h0]; rfl)
      · have hsp : ad.spot = none := by simpa [Addr.add] using World.cell?_spot (hF 0 (by omega)).1
        obtain ⟨b, off, spot⟩ := ad
        simp only at hsp
        subst hsp
        refine .inr ⟨b, off, rfl, fun i o ho => ?_⟩
        have hi : i < len := by have := (List.getElem?_eq_some_iff.1 ho).1; simpa using this
        have e : F i = o := by
          rw [List.getElem?_map, List.getElem?_range hi] at ho
          simpa using ho
        have := hF i (by omega)
        rw [e] at this
        simp only [Addr.add_lit] at this
        exact ⟨this.1, by rw [Nat.add_assoc]; exact this.2.1, by rw [Nat.add_assoc]; exact this.2.2.1⟩
    · obtain ⟨i, hi, rfl⟩ := List.mem_map.1 ho
      have := List.mem_range.1 hi
      exact (hF i (by omega)).2.2.2
end
end Go.Proofs.Qxb6601380a
