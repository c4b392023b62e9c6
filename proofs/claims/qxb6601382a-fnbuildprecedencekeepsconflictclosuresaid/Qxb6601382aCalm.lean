/- The statements of buildPrecedence's fourth loop, one by one: what they leave alone. -/
import Derived.Test.Qxb6601382aStart
namespace Go.Proofs.Qxb6601382a
open Go.RowKit

/-- The statement that begins with region n. -/
def findSeq (n : Nat) : Code → Option Code
  | .seq (.region m a b) c => if m = n then some (.seq (.region m a b) c) else findSeq n c
  | .seq a b => match findSeq n a with
    | some c => some c
    | none => findSeq n b
  | .block _ c => findSeq n c
  | .loop c => findSeq n c
  | .scope c => findSeq n c
  | .cond _ a b => match findSeq n a with
    | some c => some c
    | none => findSeq n b
  | _ => none

/-- What nobody owns is as it was. -/
structure Calm (w w' : World) (tag tag' : Nat → Tag) : Prop where
  os : w'.os = w.os
  tape : w'.tape = w.tape
  output : w'.output = w.output
  size : w.heap.size ≤ w'.heap.size
  block : ∀ b, b < w.heap.size → tag b = .no → w'.heap[b]? = w.heap[b]? ∧ tag' b = .no
theorem Calm.refl (w : World) (tag : Nat → Tag) : Calm w w tag tag := ⟨rfl, rfl, rfl, Nat.le_refl _, fun _ _ h => ⟨rfl, h⟩⟩
theorem Calm.trans {a b c : World} {t1 t2 t3 : Nat → Tag} (h : Calm a b t1 t2) (k : Calm b c t2 t3) : Calm a c t1 t3 :=
  ⟨k.os.trans h.os, k.tape.trans h.tape, k.output.trans h.output, Nat.le_trans h.size k.size, fun x hx ht => by
    obtain ⟨h1, h2⟩ := h.block x hx ht
    obtain ⟨k1, k2⟩ := k.block x (Nat.lt_of_lt_of_le hx h.size) h2
    exact ⟨k1.trans h1, k2⟩⟩
theorem Calm.below {B : Nat} {w0 w w' : World} {tag tag' : Nat → Tag} (h : Calm w w' tag tag') (hb : Below B w0 w) (hB : B ≤ w.heap.size) (ht : ∀ b, b < B → tag b = .no) : Below B w0 w' :=
  ⟨h.os.trans hb.os, h.tape.trans hb.tape, h.output.trans hb.output, Nat.le_trans hb.size h.size, fun k hk => ((h.block k (by omega) (ht k hk)).1).trans (hb.block k hk)⟩
theorem Calm.row {w w' : World} {tag tag' : Nat → Tag} (h : Calm w w' tag tag') {b : Nat} {t : TypeId} {n : Nat} {f : Nat → Value} (hr : w.rowIs b t n f) (ht : tag b = .no) : w'.rowIs b t n f := hr.of_block (h.block b hr.lt ht).1

section
variable {F : Fix} {wr wa w1 : World} {c : Nat} {tag : Nat → Tag} {sv : Nat → Value} {bl : List UInt8 → Nat} {rv : List UInt8 → Value} {L : Nat → List Int} {I : Items}

/-- One edge more at node r: the row appended to, its header stored. -/
theorem suc_done {r gg cap H : Nat} {x : Int} (hR : Rep F wr c tag sv bl rv L I) (hr : r < F.n) (hgrow : wa.grownBy w1 (sv r).ownBlock) (hga : wr.grownBy wa none)
    (hown : w1.ownsRow F.B 3 1 (.slice (some ⟨gg, 0, none⟩) ((L r).length + 1) cap) ((L r).length + 1) (ints (L r) ++ [.int .i64 x])) (hat : (sv r).ownBlock = some gg ∨ gg = wr.heap.size + H) (hlt : gg < w1.heap.size) :
    Rep F (w1.setCell ⟨F.S, r, none⟩ (.slice (some ⟨gg, 0, none⟩) ((L r).length + 1) cap)) c (updT tag gg (.suc r)) (updV sv r (.slice (some ⟨gg, 0, none⟩) ((L r).length + 1) cap)) bl rv (fun j => if j = r then L j ++ [x] else L j) I ∧
      Calm wr (w1.setCell ⟨F.S, r, none⟩ (.slice (some ⟨gg, 0, none⟩) ((L r).length + 1) cap)) tag (updT tag gg (.suc r)) := by
  obtain ⟨ho, htag⟩ := hR.suc r hr
  have hs : wr.heap.size ≤ w1.heap.size := Nat.le_trans hga.size hgrow.size
  have hbl : ∀ b, b < wr.heap.size → tag b ≠ .suc r → w1.heap[b]? = wr.heap[b]? := fun b hb hne =>
    (hgrow.block b (Nat.lt_of_lt_of_le hb hga.size) fun e => hne (htag b e.symm)).trans (hga.block b hb (by simp))
  have hown' : OwnI w1 F.B (.slice (some ⟨gg, 0, none⟩) ((L r).length + 1) cap) (L r ++ [x]) := by
    have := app_own hown
    rwa [List.length_append] at this
  refine ⟨hR.putSuc hr hs (fun b hb hne => ⟨hbl b (hR.lt b hb).2 hne, rfl⟩) hown' rfl (hat.imp id fun e => by omega) hlt, ?_⟩
  have hg := grown_set w1 ⟨F.S, r, none⟩ (.slice (some ⟨gg, 0, none⟩) ((L r).length + 1) cap)
  refine ⟨hg.os.trans (hgrow.os.trans hga.os), hg.tape.trans (hgrow.tape.trans hga.tape), hg.output.trans (hgrow.output.trans hga.output), Nat.le_trans hs hg.size, fun b hb ht => ?_⟩
  have hS : b ≠ F.S := fun e => by rw [e, hR.ts] at ht; cases ht
  have hgg : b ≠ gg := fun e => by
    rcases hat with h | h
    · have := htag gg h; rw [← e, ht] at this; cases this
    · omega
  exact ⟨(hg.block b (by omega) (by simpa using hS)).trans (hbl b hb (by rw [ht]; simp)), by simp [updT, hgg, ht]⟩
end
end Go.Proofs.Qxb6601382a
