/-
  zzModelPut (26).
-/
import Derived.Test.Qxb6601380aIdx
import Derived.Test.Qxb6601380aApp
import Derived.Test.Qxb6601380aDel
import Derived.Deep.DeepCutAuto
namespace Go.Proofs.Qxb6601380a
open Go.RowKit

def srecs (es : List Ent) : List Value := es.map fun e => .int .u32 e.2

theorem Try.info9 : (Try.prog.info? 9).map (fun i => (i.zero, i.size, i.bytes)) = some (some (.string ⟨#[]⟩), 1, 16) := by kernel_rfl
theorem Try.info30 : (Try.prog.info? 30).map (fun i => (i.zero, i.size, i.bytes)) = some (some (.int .u32 0), 1, 4) := by kernel_rfl

/-- The model's two rows. -/
structure Rows2 (w : World) (v1 v2 : Value) (es : List Ent) : Prop where
  ks : w.ownsRow 0 9 1 v1 es.length (skeys es)
  rs : w.ownsRow 0 30 1 v2 es.length (srecs es)
  ne : ∀ b, v1.ownBlock = some b → v2.ownBlock ≠ some b

def own2 (v1 v2 : Value) : List Nat := v1.ownBlock.toList ++ v2.ownBlock.toList

theorem shift_set (A R : List Value) (y : Value) (j : Nat) (h : j < A.length) : (A.take (j + 1) ++ y :: (A.drop (j + 1) ++ R)).set (j + 1) A[j] = A.take j ++ A[j] :: (A.drop j ++ R) := by
  have hl : (A.take (j + 1)).length = j + 1 := by rw [List.length_take]; omega
  have e1 : A.take (j + 1) = A.take j ++ [A[j]] := by rw [List.take_add_one, List.getElem?_eq_getElem h]; rfl
  have e2 : A.drop j = A[j] :: A.drop (j + 1) := List.drop_eq_getElem_cons h
  rw [List.set_append_right _ _ (by omega), hl, Nat.sub_self, List.set_cons_zero, e1, e2]
  simp only [List.append_assoc, List.cons_append, List.nil_append]

theorem shift_get (A R : List Value) (y : Value) (j : Nat) (h : j < A.length) : (A.take (j + 1) ++ y :: (A.drop (j + 1) ++ R))[j]? = some A[j] := by
  rw [List.getElem?_append_left (by rw [List.length_take]; omega), List.getElem?_take_of_lt (by omega), List.getElem?_eq_getElem h]

theorem shift_put (A R : List Value) (y z : Value) (i : Nat) (h : i ≤ A.length) : (A.take i ++ y :: (A.drop i ++ R)).set i z = (A.take i ++ z :: A.drop i) ++ R := by
  have hl : (A.take i).length = i := by rw [List.length_take]; omega
  rw [List.set_append_right _ _ (by omega), hl, Nat.sub_self, List.set_cons_zero]
  simp

set_option maxHeartbeats 4000000 in
set_option maxRecDepth 100000 in
theorem mput26 (w : World) (v1 v2 : Value) (es : List Ent) (k : ByteArray) (r : Int) (hR : Rows2 w v1 v2 es) (hs : Srt es) (hn : es.length ≤ 100000000) (hk : k.size ≤ 1000000000) (hz : ∀ e ∈ es, e.1.size ≤ 1000000000) :
    Calls Try.prog 26 #[v1, v2, .string k, .int .u32 r] w fun e w' => ∃ v1' v2', e = .returned (.tuple #[v1', v2']) ∧ Rows2 w' v1' v2' (putL k r es) ∧ Moved w w' (own2 v1 v2) (own2 v1' v2') := by
  have HC := hidC (idx30 v1 es k w hR.ks hs hn hk hz)
  go_enter Try.func26, Try.ntmps26
  go_upto_region 2 with (go_at_call 30; refine HC.out.mono ?_; rintro e1 w1 ⟨i, f, rfl, hF, q, rfl⟩)
  obtain ⟨a, b, hai, hBef, hAft, hfnd⟩ := hF
  rcases hfnd with ⟨rfl, hes⟩ | ⟨rfl, r0, hes⟩
  · have hput : putL k r es = a ++ (k, r) :: b := by rw [hes]; exact putL_new hBef hAft
    have HES := (show Hid _ from hes)
    have HAI := (show Hid _ from hai)
    have HPUT := (show Hid _ from hput)
    clear hes hai hput hBef hAft
    obtain ⟨i0, hi0, hz0, hz1, hz2⟩ := info_parts Try.info9
    obtain ⟨j0, hj0, hy0, hy1, hy2⟩ := info_parts Try.info30
    obtain ⟨W1, hW1⟩ : ∃ W1, W1 = (w.drewN q).alloc (Obj.cells #[Value.string ⟨#[]⟩] 9) := ⟨_, rfl⟩
    have g1 : w.grownBy W1 none := by rw [hW1]; exact grown_trans (grown_drewN (World.grownBy.refl w _) q) (World.grownBy_alloc _ _ _)
    have e1 : BlockAt W1 w.heap.size 9 [.string ⟨#[]⟩] := by rw [hW1]; exact blockAt_new (w.drewN q) 9 [.string ⟨#[]⟩]
    have k1 : W1.ownsRow 0 9 1 v1 es.length (skeys es) := ownsRow_same hR.ks fun x hx => g1.block x (hR.ks.lt x (by simpa using hx)).2 (by simp)
    have k2 : W1.ownsRow 0 30 1 v2 es.length (srecs es) := ownsRow_same hR.rs fun x hx => g1.block x (hR.rs.lt x (by simpa using hx)).2 (by simp)
    obtain ⟨v1', w1, hr1, h1, m1, m2⟩ := run_append_sharp (P := Try.prog) W1 0 43 43 9 i0 (.string ⟨#[]⟩) 1 16 Try.underlying43 hi0 hz0 hz1 hz2 rfl (by decide) v1 es.length (skeys es) k1 ⟨w.heap.size, 0, none⟩ 1 1 [.string ⟨#[]⟩] rfl
      (fun z u hu => by rw [Addr.add_lit, Nat.zero_add, e1.cell]; exact hu) (by simp [Value.oneCell']) (by unfold maxLen; omega) (by omega) (Nat.zero_le _)
    have K1 : Kept W1 w1 v1 v1' := ⟨m1, m2⟩
    have k3 := K1.own k2 fun x hx hv => hR.ne x hv hx
    have k3n := K1.apart k2 fun x hx hv => hR.ne x hv hx
    obtain ⟨W2, hW2⟩ : ∃ W2, W2 = w1.alloc (Obj.cells #[Value.int IntKind.u32 0] 30) := ⟨_, rfl⟩
    have g2 : w1.grownBy W2 none := by rw [hW2]; exact World.grownBy_alloc _ _ _
    have e2 : BlockAt W2 w1.heap.size 30 [.int .u32 0] := by rw [hW2]; exact blockAt_new w1 30 [.int .u32 0]
    have k4 : W2.ownsRow 0 30 1 v2 es.length (srecs es) := ownsRow_same k3 fun x hx => g2.block x (k3.lt x (by simpa using hx)).2 (by simp)
    have k5 : W2.ownsRow 0 9 1 v1' (es.length + 1) (skeys es ++ [.string ⟨#[]⟩]) := ownsRow_same h1 fun x hx => g2.block x (h1.lt x (by simpa using hx)).2 (by simp)
    obtain ⟨v2', w2, hr2, h2, m3, m4⟩ := run_append_sharp (P := Try.prog) W2 0 44 44 30 j0 (.int .u32 0) 1 4 Try.underlying44 hj0 hy0 hy1 hy2 rfl (by decide) v2 es.length (srecs es) k4 ⟨w1.heap.size, 0, none⟩ 1 1 [.int .u32 0] rfl
      (fun z u hu => by rw [Addr.add_lit, Nat.zero_add, e2.cell]; exact hu) (by simp [Value.oneCell']) (by unfold maxLen; omega) (by omega) (Nat.zero_le _)
    have K2 : Kept W2 w2 v2 v2' := ⟨m3, m4⟩
    have k6 := K2.own k5 fun x hx hv => k3n x hv hx
    have k6n := K2.apart k5 fun x hx hv => k3n x hv hx
    obtain ⟨p1, c1, rfl⟩ := own_some k6 (by omega)
    obtain ⟨p2, c2, rfl⟩ := own_some h2 (by omega)
    have hne : p1 ≠ p2 := fun e => k6n p1 rfl (by rw [e]; rfl)
    have HA1 : Hid ((Builtin.append_ #[43, 43] 43 #[v1, .slice (some ⟨w.heap.size, 0, none⟩) 1 1]).run Try.prog ((w.drewN q).alloc (Obj.cells #[Value.string ⟨#[]⟩] 9)) = .ok (.slice (some ⟨p1, 0, none⟩) (es.length + 1) c1) w1) := by rw [← hW1]; exact hr1
    have HA2 : Hid ((Builtin.append_ #[44, 44] 44 #[v2, .slice (some ⟨w1.heap.size, 0, none⟩) 1 1]).run Try.prog (w1.alloc (Obj.cells #[Value.int IntKind.u32 0] 30)) = .ok (.slice (some ⟨p2, 0, none⟩) (es.length + 1) c2) w2) := by rw [← hW2]; exact hr2
    go_upto_region 7 with (first | (at_builtin; refine wpList_known rfl (exec_append (.tmp 26) (.tmp 27) 43 43 rfl rfl rfl HA1.out) ?_) | (at_builtin; refine wpList_known rfl (exec_append (.tmp 29) (.tmp 30) 44 44 rfl rfl rfl HA2.out) ?_))
    obtain ⟨rest1, hl1, hB1⟩ := own_at k6
    obtain ⟨rest2, hl2, hB2⟩ := own_at h2
    obtain ⟨n, hnn⟩ : ∃ n, n = es.length := ⟨_, rfl⟩
    have hA1 : (skeys es).length = n := by simp [skeys, hnn]
    have hA2 : (srecs es).length = n := by simp [srecs, hnn]
    obtain ⟨A1, hA1e⟩ : ∃ A1, A1 = skeys es := ⟨_, rfl⟩
    obtain ⟨A2, hA2e⟩ : ∃ A2, A2 = srecs es := ⟨_, rfl⟩
    rw [← hA1e] at hA1
    rw [← hA2e] at hA2
    have hB1 : BlockAt w2 p1 9 (A1.take n ++ .string ⟨#[]⟩ :: (A1.drop n ++ rest1)) := by
      rw [List.take_of_length_le (by omega), List.drop_eq_nil_of_le (by omega), hA1e]
      simpa using hB1
    have hB2 : BlockAt w2 p2 30 (A2.take n ++ .int .u32 0 :: (A2.drop n ++ rest2)) := by
      rw [List.take_of_length_le (by omega), List.drop_eq_nil_of_le (by omega), hA2e]
      simpa using hB2
    have HV1 : Hid (∀ j, (h : j < A1.length) → ∃ s, A1[j] = .string s) := by
      intro j h
      subst hA1e
      simp [skeys]
    have HV2 : Hid (∀ j, (h : j < A2.length) → ∃ s, A2[j] = .int .u32 s) := by
      intro j h
      subst hA2e
      simp [srecs]
    have hin : i ≤ n := by rw [hnn, HES.out, ← HAI.out]; simp
    rw [← hnn] at HA1 HA2 hn ⊢
    have HFIN : Hid (∀ wf, BlockAt wf p1 9 ((A1.take i ++ .string k :: A1.drop i) ++ rest1) → BlockAt wf p2 30 ((A2.take i ++ .int .u32 r :: A2.drop i) ++ rest2) → (∀ b, b ≠ p1 → b ≠ p2 → wf.heap[b]? = w2.heap[b]?) → wf.heap.size = w2.heap.size → (wf.os = w2.os ∧ wf.tape = w2.tape ∧ wf.output = w2.output) →
        Rows2 wf (.slice (some ⟨p1, 0, none⟩) (n + 1) c1) (.slice (some ⟨p2, 0, none⟩) (n + 1) c2) (putL k r es) ∧ Moved w wf (own2 v1 v2) (own2 (.slice (some ⟨p1, 0, none⟩) (n + 1) c1) (.slice (some ⟨p2, 0, none⟩) (n + 1) c2))) := by
      intro wf t1 t2 t3 t4 t5
      have hlen : (putL k r es).length = n + 1 := by
        rw [HPUT.out, hnn, HES.out]
        simp only [List.length_append, List.length_cons]
        omega
      have hAa : es.take i = a ∧ es.drop i = b := by rw [HES.out, ← HAI.out]; simp
      have q1 : skeys (putL k r es) = A1.take i ++ .string k :: A1.drop i := by
        rw [hA1e, HPUT.out]
        simp only [skeys, ← List.map_take, ← List.map_drop, hAa.1, hAa.2]
        simp
      have q2 : srecs (putL k r es) = A2.take i ++ .int .u32 r :: A2.drop i := by
        rw [hA2e, HPUT.out]
        simp only [srecs, ← List.map_take, ← List.map_drop, hAa.1, hAa.2]
        simp
      rw [← q1] at t1
      rw [← q2] at t2
      rcases (own_open k6).2 with ⟨h0, _⟩ | ⟨_, _, _, hv, _, u1, u2, _, _⟩
      · cases h0
      rcases (own_open h2).2 with ⟨h0, _⟩ | ⟨_, _, _, hv', _, u3, u4, _, _⟩
      · cases h0
      injection hv with _ _ hv
      injection hv' with _ _ hv'
      subst hv hv'
      have hMV : Moved w w2 (own2 v1 v2) (own2 (.slice (some ⟨p1, 0, none⟩) (n + 1) c1) (.slice (some ⟨p2, 0, none⟩) (n + 1) c2)) := by
        have z1 := g1.size
        have z2 := K1.grown.size
        have z3 := g2.size
        have z4 := K2.grown.size
        refine ⟨K2.grown.os.trans (g2.os.trans (K1.grown.os.trans g1.os)), K2.grown.tape.trans (g2.tape.trans (K1.grown.tape.trans g1.tape)), K2.grown.output.trans (g2.output.trans (K1.grown.output.trans g1.output)), by omega, fun x hx hn => ?_, fun x hx => ?_⟩
        · rw [K2.grown.block x (by omega) fun e => hn (by simp [own2, ← e]), g2.block x (by omega) (by simp), K1.grown.block x (by omega) fun e => hn (by simp [own2, ← e]), g1.block x hx (by simp)]
        · simp only [own2, Value.ownBlock, Option.toList_some, List.cons_append, List.nil_append, List.mem_cons, List.not_mem_nil, or_false] at hx
          rcases hx with rfl | rfl
          · rcases K1.place x rfl with h | h
            · exact .inl (by simp [own2, h])
            · exact .inr (by omega)
          · rcases K2.place x rfl with h | h
            · exact .inl (by simp [own2, h])
            · exact .inr (by omega)
      refine ⟨⟨?_, ?_, fun b hb hb2 => ?_⟩, ?_⟩
      · rw [hlen]
        exact own_shut (by rw [skeys, List.length_map, hlen]; omega) (Nat.zero_le _) (by omega) u2 (by omega) t1
      · rw [hlen]
        exact own_shut (by rw [srecs, List.length_map, hlen]; omega) (Nat.zero_le _) (by omega) u4 (by omega) t2
      · have e1 : p1 = b := by simpa [Value.ownBlock] using hb
        have e2 : p2 = b := by simpa [Value.ownBlock] using hb2
        exact hne (e1.trans e2.symm)
      · have hs0 := hMV.size
        have hp1 := hMV.place p1 (by simp [own2, Value.ownBlock])
        have hp2 := hMV.place p2 (by simp [own2, Value.ownBlock])
        refine ⟨t5.1.trans hMV.os, t5.2.1.trans hMV.tape, t5.2.2.trans hMV.output, by omega, fun x hx hn => ?_, hMV.place⟩
        rw [t3 x ?_ ?_, hMV.block x hx hn]
        · rintro rfl
          rcases hp1 with h | h
          · exact hn h
          · omega
        · rintro rfl
          rcases hp2 with h | h
          · exact hn h
          · omega
    clear hR k1 k2 k3 k3n k4 k5 k6 k6n h1 h2 m1 m2 m3 m4 K1 K2 g1 g2 e1 e2 hW1 hW2 hr1 hr2 HC HA1 HA2 hs hz hk HPUT HES HAI hA1e hA2e hnn hl1 hl2 hi0 hj0 hz0 hz1 hz2 hy0 hy1 hy2
    go_wp2
    go_loopw [12] (fun x wr => ∃ (j : Nat) (y1 : ByteArray) (y2 : Int), x = .int .i64 j ∧ i ≤ j ∧ j ≤ n ∧ BlockAt wr p1 9 (A1.take j ++ .string y1 :: (A1.drop j ++ rest1)) ∧ BlockAt wr p2 30 (A2.take j ++ .int .u32 y2 :: (A2.drop j ++ rest2)) ∧ (∀ b, b ≠ p1 → b ≠ p2 → wr.heap[b]? = w2.heap[b]?) ∧ wr.heap.size = w2.heap.size ∧ (wr.os = w2.os ∧ wr.tape = w2.tape ∧ wr.output = w2.output)) (fun x _ => (intOf x).toNat)
    case atStart => exact ⟨n, _, _, by go_num, hin, Nat.le_refl _, hB1, hB2, fun _ _ _ => rfl, rfl, rfl, rfl, rfl⟩
    case round =>
      clear hB1 hB2
      obtain ⟨j, y1, y2, rfl, hij, hjn, hB1, hB2, hoth, hsz, hos⟩ := hrel
      by_cases hlt : i < j
      · obtain ⟨j, rfl⟩ : ∃ j', j = j' + 1 := ⟨j - 1, by omega⟩
        have c1 := hB1.cell j; have c2 := hB2.cell j
        rw [shift_get A1 rest1 _ j (by omega)] at c1
        rw [shift_get A2 rest2 _ j (by omega)] at c2
        have d1 := hB1.cell (j + 1); have d2 := hB2.cell (j + 1)
        rw [List.getElem?_append_right (by rw [List.length_take]; omega)] at d1 d2
        rw [List.length_take, show j + 1 - min (j + 1) A1.length = 0 by omega] at d1
        rw [List.length_take, show j + 1 - min (j + 1) A2.length = 0 by omega] at d2
        simp only [List.getElem?_cons_zero] at d1 d2
        have f1 := hB1.frozen (j + 1); have f2 := hB2.frozen (j + 1)
        have s1 := hB1.set (j + 1) (A1[j]'(by omega))
        have s2 := (hB2.other (a := ⟨p1, j + 1, none⟩) (by exact fun e => hne e.symm) (A1[j]'(by omega))).set (j + 1) (A2[j]'(by omega))
        rw [shift_set A1 rest1 _ j (by omega)] at s1
        rw [shift_set A2 rest2 _ j (by omega)] at s2
        have s3 := s1.other (a := ⟨p2, j + 1, none⟩) (by exact hne) (A2[j]'(by omega))
        obtain ⟨z1, hz1⟩ := HV1.out j (by omega)
        obtain ⟨z2, hz2⟩ := HV2.out j (by omega)
        rw [hz1] at c1 s1 s2 s3
        rw [hz2] at c2 s2 s3
        clear hz1 hz2
        have b1 : (j : Int) < (n : Int) + 1 := by omega
        have b2 : (j : Int) + 1 < (n : Int) + 1 := by omega
        have b3 : (i : Int) < (j : Int) + 1 := by omega
        have b4 : j ≤ 4000000000 := by omega
        have e1 : ((j + 1 : Nat) : Int) = (j : Int) + 1 := rfl
        rw [e1]
        clear e1
        have HB : Hid _ := hB1
        clear hB1 hB2
        go_wp2
        go_roundw
        case rel =>
          exact ⟨j, z1, z2, by go_num, by omega, by omega, s3, s2, fun b h1 h2 => by rw [Below.heap_setCell _ _ _ _ (by exact h2), Below.heap_setCell _ _ _ _ (by exact h1), hoth b h1 h2], by simpa using hsz, hos⟩
        case measure => simp [intOf]
      · obtain rfl : i = j := by omega
        have d1 := hB1.cell i; have d2 := hB2.cell i
        rw [List.getElem?_append_right (by rw [List.length_take]; omega)] at d1 d2
        rw [List.length_take, show i - min i A1.length = 0 by omega] at d1
        rw [List.length_take, show i - min i A2.length = 0 by omega] at d2
        simp only [List.getElem?_cons_zero] at d1 d2
        have f1 := hB1.frozen i; have f2 := hB2.frozen i
        have s1 := (hB1.set i (.string k)).other (a := ⟨p2, i, none⟩) (by exact hne) (.int .u32 r)
        have s2 := (hB2.other (a := ⟨p1, i, none⟩) (by exact fun e => hne e.symm) (.string k)).set i (.int .u32 r)
        rw [shift_put A1 rest1 _ _ i (by omega)] at s1
        rw [shift_put A2 rest2 _ _ i (by omega)] at s2
        have b2 : (i : Int) < (n : Int) + 1 := by omega
        have HH := HFIN.out _ s1 s2 (fun b h1 h2 => by rw [Below.heap_setCell _ _ _ _ (by exact h2), Below.heap_setCell _ _ _ _ (by exact h1), hoth b h1 h2]) (by simpa using hsz) hos
        have HH2 : Hid _ := HH
        clear HH HFIN hB1 hB2 s1 s2 HV1 HV2
        go_wp2
        go_ret2
        exact ⟨_, _, rfl, HH2.out.1, HH2.out.2⟩
  · have hil : i < es.length := by rw [hes, ← hai]; simp
    have hput : putL k r es = a ++ (k, r) :: b := by rw [hes]; exact putL_old hBef hAft
    rcases (own_open hR.rs).2 with ⟨_, h0, _⟩ | ⟨g2, c2, rest2, hv2, _, hnc, hcm, hr2, hB2⟩
    · omega
    have hsr : srecs es = srecs a ++ .int .u32 r0 :: srecs b := by rw [hes]; simp [srecs]
    have hla : (srecs a).length = i := by simp [srecs, hai]
    have hBq : BlockAt (w.drewN q) g2 30 (srecs es ++ rest2) := hB2.same rfl
    have c1 := hBq.cell i
    rw [hsr, List.append_assoc, ← hla, List.getElem?_append_right (Nat.le_refl _)] at c1
    simp only [Nat.sub_self, List.cons_append, List.getElem?_cons_zero] at c1
    rw [hla] at c1
    have f1 := hBq.frozen i
    have b1 : (i : Int) < (es.length : Int) := by omega
    have hset := hBq.set i (.int .u32 r)
    have hls : (srecs es ++ rest2).set i (.int .u32 r) = srecs (putL k r es) ++ rest2 := by
      rw [hput, hsr, ← hla, List.append_assoc, List.set_append_right _ _ (Nat.le_refl _)]
      simp [srecs]
    rw [hls] at hset
    have hg := grown_set (w.drewN q) g2 i (.int .u32 r)
    have hlen : (putL k r es).length = es.length := by rw [hput, hes]; simp
    have hks : skeys (putL k r es) = skeys es := by rw [hput, hes]; simp [skeys]
    have HR : Hid (Rows2 ((w.drewN q).setCell ⟨g2, i, none⟩ (.int .u32 r)) v1 (.slice (some ⟨g2, 0, none⟩) es.length c2) (putL k r es)) := by
      refine ⟨?_, ?_, by rw [← hv2]; exact hR.ne⟩
      · rw [hlen, hks]
        refine ⟨hR.ks.1, ?_⟩
        rcases hR.ks.2 with h | ⟨g, cap, cur, h1, h2, h3, h4⟩
        · exact .inl h
        · refine .inr ⟨g, cap, cur, h1, h2, ?_, h4⟩
          rw [Below.heap_setCell _ _ _ _ (fun e => hR.ne g (by rw [h1]; rfl) (by rw [hv2]; show some g2 = some g; rw [show g = g2 from e]))]
          exact h3
      · rw [hlen]
        exact own_shut (by simp [srecs, hlen]) (Nat.zero_le _) hnc hcm hr2 hset
    have HM : Hid (Moved w ((w.drewN q).setCell ⟨g2, i, none⟩ (.int .u32 r)) (own2 v1 v2) (own2 v1 (.slice (some ⟨g2, 0, none⟩) es.length c2))) := by
      refine ⟨rfl, rfl, rfl, by simp, fun x hx hn => ?_, fun x hx => .inl (by rw [hv2]; exact hx)⟩
      rw [Below.heap_setCell _ _ _ _ (fun e => hn (by rw [hv2, show x = g2 from e]; simp [own2, Value.ownBlock]))]
      rfl
    subst hv2
    clear hR hset hls hBq hB2 hsr hks hlen hg hes hput hBef hAft
    go_wp2
    go_ret2
    exact ⟨_, _, rfl, HR.out, HM.out⟩
end Go.Proofs.Qxb6601380a
