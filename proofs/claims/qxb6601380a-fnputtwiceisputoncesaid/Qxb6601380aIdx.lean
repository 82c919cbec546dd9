/-
  zzIndex (30).
-/
import Derived.Test.Qxb6601380aMod
import Derived.Test.Qxb6601380aSrch
import Derived.Test.Qxb6601380aNod
namespace Go.Proofs.Qxb6601380a
open Go.RowKit

theorem srt_bef' {X Y : List Ent} {e : Ent} (hs : Srt (X ++ e :: Y)) : Bef X e.1 ∧ Aft Y e.1 := by
  obtain ⟨h1, h2, h3⟩ := srt_app.1 hs
  exact ⟨fun x hx => h3 x hx e (by simp), fun y hy => (srt_cons.1 h2).1 y hy⟩

def skeys (es : List Ent) : List Value := es.map fun e => .string e.1

set_option maxHeartbeats 4000000 in
set_option maxRecDepth 100000 in
theorem idx30 (v : Value) (es : List Ent) (k : ByteArray) (w : World) (ho : w.ownsRow 0 9 1 v es.length (skeys es)) (hs : Srt es) (hn : es.length ≤ 100000000) (hk : k.size ≤ 1000000000) (hz : ∀ e ∈ es, e.1.size ≤ 1000000000) :
    Calls Try.prog 30 #[v, .string k] w fun e w' => ∃ (i : Nat) (f : Bool), e = .returned (.tuple #[.int .i64 i, .bool f]) ∧ Fnd es k i f ∧ ∃ q, w' = w.drewN q := by
  obtain ⟨n, hnl⟩ : ∃ n, n = es.length := ⟨_, rfl⟩
  have hv : ∃ a c, v = .slice a n c ∧ (0 < n → ∃ g rest, a = some ⟨g, 0, none⟩ ∧ BlockAt w g 9 (skeys es ++ rest)) := by
    rcases (own_open ho).2 with ⟨rfl, h0, _⟩ | ⟨g, cap, rest, rfl, _, _, _, _, hB⟩
    · exact ⟨none, 0, by rw [hnl, h0], fun h => by omega⟩
    · exact ⟨_, cap, by rw [hnl], fun _ => ⟨g, rest, rfl, hB⟩⟩
  obtain ⟨a, c, rfl, ha⟩ := hv
  have HN : Hid (n = es.length) := hnl
  rw [← hnl] at hn
  clear hnl ho
  go_enter Try.func30, Try.ntmps30
  go_wp2
  go_loopw [6, 7] (fun x y wr => ∃ i j : Nat, x = .int .i64 i ∧ y = .int .i64 j ∧ i ≤ j ∧ j ≤ n ∧ Bef (es.take i) k ∧ Aft (es.drop j) k ∧ ∃ q, wr = w.drewN q) (fun x y _ => (intOf y - intOf x).toNat)
  case atStart => exact ⟨0, n, rfl, rfl, Nat.zero_le _, Nat.le_refl _, by simpa using bef_nil, by rw [HN.out]; simpa using aft_nil, 0, rfl⟩
  case round =>
    obtain ⟨i, j, rfl, rfl, hij, hjn, h1, h2, q, rfl⟩ := hrel
    by_cases hlt : i < j
    · obtain ⟨g, rest, rfl, hB⟩ := ha (by omega)
      obtain ⟨d, hd⟩ : ∃ d, d = (j - i) / 2 := ⟨_, rfl⟩
      have hme : i + d < es.length := by have := HN.out; omega
      have m1 : ((j : Int) - (i : Int)).tdiv 2 = (d : Int) := by
        rw [Int.tdiv_eq_ediv_of_nonneg (by omega)]; omega
      have m3 : (i : Int) + (d : Int) < (n : Int) := by have := HN.out; omega
      have m4 : i + d < j := by omega
      have m5 : i + d ≤ 4000000000 := by omega
      have m6 : (0 : Int) ≤ (i : Int) + (d : Int) := by omega
      have bw : IntKind.i64.wrap ((i : Int) + (d : Int)) = (i : Int) + (d : Int) := by rw [IntKind.wrap_i64]; omega
      have bw2 : IntKind.i64.wrap ((j : Int) - (i : Int)) = (j : Int) - (i : Int) := by rw [IntKind.wrap_i64]; omega
      have bw3 : IntKind.i64.wrap (d : Int) = (d : Int) := by rw [IntKind.wrap_i64]; omega
      obtain ⟨s, hse⟩ : ∃ s, s = (es[i + d]'hme).1 := ⟨_, rfl⟩
      have c1 : (w.drewN q).cell? ⟨g, i + d, none⟩ = some (.string s) := by
        have := (hB.same (w' := w.drewN q) rfl).cell (i + d)
        rw [this, List.getElem?_append_left (by simpa [skeys] using hme)]
        simp [skeys, List.getElem?_eq_getElem hme, hse]
      have HC := hidC (cmp44 s k (w.drewN q) (by rw [hse]; exact hz _ (List.getElem_mem hme)) hk)
      have HS : Hid (s = (es[i + d]'hme).1) := hse
      clear hse hd hB
      rcases kc_tri s k with ⟨hz1, hk1⟩ | ⟨hz1, hk1⟩ | ⟨hz1, hk1⟩
      all_goals have HK := (show Hid _ from hk1)
      all_goals clear hk1
      · rw [hz1] at HC
        clear hz1
        go_wp2_with (go_at_call 44; refine HC.out.mono ?_; rintro e w' ⟨rfl, q2, rfl⟩)
        refine ⟨⟨i + d + 1, j, by go_num, rfl, by omega, hjn, bef_step hs hme (by rw [← HS.out]; exact HK.out), h2, _, rfl⟩, ?_⟩
        simp only [intOf]; omega
      · rw [hz1] at HC
        clear hz1
        go_wp2_with (go_at_call 44; refine HC.out.mono ?_; rintro e w' ⟨rfl, q2, rfl⟩)
        go_ret2
        refine ⟨i + d, true, by go_num, ?_, _, rfl⟩
        have he : es = es.take (i + d) ++ es[i + d] :: es.drop (i + d + 1) := by rw [← List.drop_eq_getElem_cons hme, List.take_append_drop]
        have h3 : es[i + d].1 = k := by rw [← HS.out]; exact HK.out
        rw [he] at hs
        obtain ⟨z1, z2⟩ := srt_bef' hs
        rw [h3] at z1 z2
        exact ⟨es.take (i + d), es.drop (i + d + 1), by rw [List.length_take]; omega, z1, z2, .inr ⟨rfl, es[i + d].2, by rw [← h3]; exact he⟩⟩
      · rw [hz1] at HC
        clear hz1
        go_wp2_with (go_at_call 44; refine HC.out.mono ?_; rintro e w' ⟨rfl, q2, rfl⟩)
        refine ⟨⟨i, i + d, rfl, by go_num, by omega, by omega, h1, ?_, _, rfl⟩, ?_⟩
        · intro x hx
          have hk1 := HK.out; rw [HS.out] at hk1
          rw [List.drop_eq_getElem_cons hme] at hx
          rcases List.mem_cons.1 hx with rfl | hx
          · exact hk1
          · have he : es = es.take (i + d) ++ es[i + d] :: es.drop (i + d + 1) := by rw [← List.drop_eq_getElem_cons hme, List.take_append_drop]
            rw [he] at hs
            exact kl_trans hk1 ((srt_bef' hs).2 x hx)
        · simp only [intOf]; omega
    · obtain rfl : i = j := by omega
      go_wp2
      go_ret2
      exact ⟨i, false, rfl, ⟨es.take i, es.drop i, by have := HN.out; rw [List.length_take]; omega, h1, h2, .inl ⟨rfl, (List.take_append_drop i es).symm⟩⟩, q, rfl⟩
end Go.Proofs.Qxb6601380a
