/-
  THE PROOF OF 'Rows.FnRecordWholeAnswerSaid': the row's frame, after the guide's own; the walk is 'law7' (Qxb6601448aLaw).
-/
import Derived.Test.Qxb6601448aRows
import Derived.WalkKit
import Derived.ProofKit
import Derived.OpenShut
import Derived.ShutString
import Derived.ChangeOld
import Derived.Below
import Derived.Test.Qxb6601448aFra
import Derived.Test.Qxb6601448aLaw
namespace Go.Proofs.Qxb6601448a.fnRecordWholeAnswer
open Go.ChangeShapes Go.WideShapes Go.ChangeAt Go.RowKit

theorem own : ownKnob Try.prog.godebug = none := by kernel_rfl
theorem laidOut : laidOutB Try.prog = true := by kernel_rfl

set_option maxRecDepth 100000 in
theorem lifted (os : Os) (started : os.Started) (H : Type) (enc : TypeId × Value → H) :
    ReturnsInHanded {} Try.checked os 7 .any (Rows.fnRecordWholeAnswerSpec.pre6 enc Try.prog Try.f7 Rows.fnRecordWholeAnswerRow.domain false) (Rows.fnRecordWholeAnswerSpec.post enc Try.prog Try.f7 false true false false) := by
  refine returnsInHanded_of_change (C := Try.checked) own started (by kernel_rfl) Try.func7
    (ChangeSpec.witness6 (enc := enc) (C := Try.checked) false ⟨#[], #[.agg #[.int .u64 0, .slice none 0 0, .slice none 0 0, .slice none 0 0, .slice none 0 0, .slice none 0 0, .string ⟨#[]⟩, .int .u64 0], .int .u64 0, .agg #[.string ⟨#[]⟩, .slice none 0 0, .slice none 0 0], .int .u64 0, .int .u64 0], []⟩ 8 (by kernel_rfl) (by kernel_rfl) (by kernel_rfl) (by kernel_rfl)) ?_
  intro W base args ds gs before hval0 hW _ _
  have hval : ∀ (j : Nat) t v, Try.f7.params[j]? = some t → args[j]? = some v → Value.okWide Try.prog W .any base t v := hval0
  have hW' := hW
  obtain ⟨p, q, hA0, hV, rfl, hfz, hnd⟩ := hW
  have hA : DataW.TrodAll enc Try.prog W 0 (fun _ => true) true Try.f7.params.toList args.toList ds p := hA0
  rw [Try.params7] at hA hval
  obtain ⟨v0, vs0, d0, ds0, p0, q0, hargs, rfl, rfl, h0, r0⟩ := trodAll_cons hA
  obtain ⟨v1, vs1, d1, ds1, p1, q1, rfl, rfl, rfl, h1, r1⟩ := trodAll_cons r0
  obtain ⟨v2, vs2, d2, ds2, p2, q2, rfl, rfl, rfl, h2, r2⟩ := trodAll_cons r1
  obtain ⟨v3, vs3, d3, ds3, p3, q3, rfl, rfl, rfl, h3, r3⟩ := trodAll_cons r2
  obtain ⟨v4, vs4, d4, ds4, p4, q4, rfl, rfl, rfl, h4, r4⟩ := trodAll_cons r3
  obtain ⟨rfl, rfl, rfl⟩ := trodAll_nil r4
  obtain rfl : args = #[v0, v1, v2, v3, v4] := by cases args; simp_all
  obtain ⟨rfl, rfl⟩ := trodVars_none hV
  obtain ⟨cs0, rfl, hc0⟩ := okWide_struct Try.underlying40 (hval 0 40 v0 rfl rfl)
  obtain ⟨cs2, rfl, hc2⟩ := okWide_struct Try.underlying42 (hval 2 42 v2 rfl rfl)
  have k0 := h0
  have k2 := h2
  have lt0 : ∀ x ∈ p0, x.block < W.heap.size := by obtain ⟨m, hm⟩ := k0; exact DataW.trod_lt m _ _ _ hm
  have lt2 : ∀ x ∈ p2, x.block < W.heap.size := by obtain ⟨m, hm⟩ := k2; exact DataW.trod_lt m _ _ _ hm
  obtain ⟨r, sv, st, an, aq, ap, af, av, cn, ck, cp, cf, cv, names, finals, seqs, vals, sss, e0, hN, hst⟩ := (by obtain ⟨fuel, hf⟩ := h0; exact op_snap hf : ∃ (r sv : Int) (st : ByteArray) (an aq ap af av : Option Addr) (cn ck cp cf cv : Nat) (names finals : List ByteArray) (seqs vals : List Int) (sss : List (Option Addr × Nat × List ByteArray)), (Value.agg cs0).cells.toList = [.int .u64 r, .slice an names.length cn, .slice aq seqs.length ck, .slice ap sss.length cp, .slice af finals.length cf, .slice av vals.length cv, .string st, .int .u64 sv] ∧ NewsAt W an aq ap af av names finals seqs vals sss ∧ st.size ≤ maxLen)
  obtain ⟨nm, bp, be, dp, de, peers, exps, e2, hS, hnm⟩ := (by obtain ⟨fuel, hf⟩ := h2; exact op_site hf : ∃ (nm : ByteArray) (bp be : Option Addr) (dp de : Nat) (peers exps : List ByteArray), (Value.agg cs2).cells.toList = [.string nm, .slice bp peers.length dp, .slice be exps.length de] ∧ SiteAt W bp be peers exps ∧ nm.size ≤ maxLen)
  obtain ⟨rd, rfl, rfl, rfl, w1⟩ := open_int Try.underlying22 (hval 1 22 v1 rfl rfl) h1
  obtain ⟨sq, rfl, rfl, rfl, w3⟩ := open_int Try.underlying22 (hval 3 22 v3 rfl rfl) h3
  obtain ⟨lc, rfl, rfl, rfl, w4⟩ := open_int Try.underlying22 (hval 4 22 v4 rfl rfl) h4
  obtain rfl : cs0 = #[.int .u64 r, .slice an names.length cn, .slice aq seqs.length ck, .slice ap sss.length cp, .slice af finals.length cf, .slice av vals.length cv, .string st, .int .u64 sv] := Array.toList_inj.1 (by simpa [Value.cells] using e0)
  obtain rfl : cs2 = #[.string nm, .slice bp peers.length dp, .slice be exps.length de] := Array.toList_inj.1 (by simpa [Value.cells] using e2)
  clear hA0 hval0
  refine (law7 W r sv rd sq lc st nm an aq ap af av bp be cn ck cp cf cv dp de names finals peers exps seqs vals sss hN hS hst hnm).mono fun e W' ⟨he, hg⟩ => ?_
  subst he
  have bel : Below W.heap.size W W' := below_grown hg
  exact ⟨_, rfl, _, _, _, [], _, [], hW', trodAll_mk1 (shut_bool Try.underlying4 _), (trodAll_cons_mk (Below.trod laidOut (by kernel_rfl) (of_decide_eq_true (by kernel_rfl)) k0 bel lt0) (trodAll_cons_mk (shut_int Try.underlying22 w1) (trodAll_cons_mk (Below.trod laidOut (by kernel_rfl) (of_decide_eq_true (by kernel_rfl)) k2 bel lt2) (trodAll_cons_mk (shut_int Try.underlying22 w3) (trodAll_cons_mk (shut_int Try.underlying22 w4) trodAll_mk0))))), rfl, bel.frame _, fun h => by cases h⟩

theorem over : Rows.fnRecordWholeAnswerRow.holds Try.pinned (OpenSpec.ofChange Rows.fnRecordWholeAnswerSpec) :=
  OpenClaim.holds_of_wide 7 Try.f7 rfl rfl rfl rfl rfl rfl rfl ⟨rfl, rfl, rfl, rfl, rfl⟩ rfl rfl rfl rfl rfl (by kernel_rfl) Try.func7 (by kernel_rfl)
    (of_decide_eq_true (by kernel_rfl)) (by unfold Func.isWrapper; first | (rw [if_pos (by decide +kernel)]; kernel_rfl) | (rw [if_neg (by decide +kernel)]; exact ⟨rfl, rfl⟩))
    (fun os started H enc _ => lifted os started H enc)

theorem proved : Rows.FnRecordWholeAnswerSaid := over
#print axioms proved
end Go.Proofs.Qxb6601448a.fnRecordWholeAnswer
