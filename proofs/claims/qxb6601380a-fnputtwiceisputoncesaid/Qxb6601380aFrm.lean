/-
  Frames for a tree and for the model's two rows; the script's plain reading. No program is walked here.
-/
import Derived.Test.Qxb6601380aDoor
import Derived.Test.Qxb6601380aMrem
namespace Go.Proofs.Qxb6601380a
open Go.RowKit

theorem TreeAt.same {w w' : World} {st : Nat} {L : List Ent} {bs : List Nat} (h : TreeAt w st L bs) (hs : ∀ b ∈ bs, w'.heap[b]? = w.heap[b]?) : TreeAt w' st L bs := by
  obtain ⟨⟨H, u, ah, h1, h2, h3, h4, h5⟩, h6⟩ := h
  exact ⟨⟨H, u, ah, h1.same (hs st ((h5 st).2 (.inl rfl))), h2.same fun b hb => hs b ((h5 b).2 (.inr hb)), h3, h4, h5⟩, h6⟩

theorem TreeAt.lt {w : World} {st : Nat} {L : List Ent} {bs : List Nat} (h : TreeAt w st L bs) : ∀ b ∈ bs, b < w.heap.size := by
  obtain ⟨⟨H, u, ah, h1, h2, h3, h4, h5⟩, h6⟩ := h
  intro b hb
  rcases (h5 b).1 hb with q | q
  · rw [q]; exact h1.lt
  · exact h2.lies.lt b q

theorem Rows2.same {w w' : World} {v1 v2 : Value} {es : List Ent} (h : Rows2 w v1 v2 es) (hs : ∀ b ∈ own2 v1 v2, w'.heap[b]? = w.heap[b]?) : Rows2 w' v1 v2 es :=
  ⟨ownsRow_same h.ks fun b hb => hs b (List.mem_append_left _ hb), ownsRow_same h.rs fun b hb => hs b (List.mem_append_right _ hb), h.ne⟩

theorem Rows2.lt {w : World} {v1 v2 : Value} {es : List Ent} (h : Rows2 w v1 v2 es) : ∀ b ∈ own2 v1 v2, b < w.heap.size := by
  intro b hb
  rcases List.mem_append.1 hb with q | q
  · exact (h.ks.lt b (by simpa using q)).2
  · exact (h.rs.lt b (by simpa using q)).2

theorem rows2_nil (w : World) : Rows2 w (.slice none 0 0) (.slice none 0 0) [] :=
  ⟨⟨rfl, .inl ⟨rfl, rfl⟩⟩, ⟨rfl, .inl ⟨rfl, rfl⟩⟩, fun b hb => by simp [Value.ownBlock] at hb⟩

/-- One step of a script: a key, a record, whether it is a removal. -/
def stepL (L : List Ent) (o : ByteArray × Int × Bool) : List Ent :=
  if o.2.2 then (if L.any (fun e => decide (e.1 = o.1)) then rmL o.1 L else L) else putL o.1 o.2.1 L

def runL (ops : List (ByteArray × Int × Bool)) : List Ent := ops.foldl stepL []

theorem srt_step {L : List Ent} (h : Srt L) (o : ByteArray × Int × Bool) : Srt (stepL L o) := by
  unfold stepL
  split
  · split
    · exact srt_rm h _
    · exact h
  · exact srt_put h _ _

end Go.Proofs.Qxb6601380a
