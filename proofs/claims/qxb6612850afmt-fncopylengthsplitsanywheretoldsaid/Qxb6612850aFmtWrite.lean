/- bufio.Writer.Write. -/
import Derived.Test.Qxb6612850aFmtWr
import Derived.Test.Qxb6612850aFmtCopyLaw
import Derived.Deep.LoopGhost
namespace Go.Proofs.Qxb6612850aFmt
open Go.RowKit Go.Deep
set_option linter.unusedVariables false

theorem IsBuf.otherRow {M b : Nat} {bs : List Value} {w : World} (h : IsBuf M b bs w) {g : Nat} (hgM : g < M) (hgb : g ≠ b) (cs : Array Value) : IsBuf M b bs (w.setRow g cs) := by
  obtain ⟨i1, v, lr, i2, i3⟩ := h
  refine ⟨i1, v, lr, by rw [setRow_other _ _ _ _ (fun e => hgb e.symm)]; exact i2, ?_⟩
  rcases i3 with i3 | ⟨h, cap, cur, e1, e2, e3, e4⟩
  · exact .inl i3
  · exact .inr ⟨h, cap, cur, e1, e2, by unfold Row; rw [setRow_other _ _ _ _ (by omega)]; exact e3, e4⟩

theorem splice_length (cur cs : List Value) (off : Nat) (hfit : off + cs.length ≤ cur.length) : (splice cur off cs).length = cur.length := by
  unfold splice
  simp
  omega

/-- Bytes put into the writer's own array, and its count raised. -/
theorem dst_put {M p b g S n k : Nat} {bs buf cs : List Value} {w : World} (h : DstAt M p b g S n bs buf w) (hcs : Byts cs) (hk : cs.length = k) (hfit : n + k ≤ S) :
    DstAt M p b g S (n + k) bs (splice buf n cs) ((w.setRow g (splice buf n cs).toArray).setCell ⟨p, 2, none⟩ (.int .i64 ((n : Int) + (k : Int)))) ∧
    Keeps M (fun i => i = p ∨ i = b ∨ i = g) w ((w.setRow g (splice buf n cs).toArray).setCell ⟨p, 2, none⟩ (.int .i64 ((n : Int) + (k : Int)))) := by
  subst hk
  refine ⟨⟨h.pM, h.gM, h.pb, h.gb, h.pg, ?_, ?_, ?_, ?_, hfit, h.S0, h.S1, ?_, h.hbs, h.hbuf.splice hcs n⟩, ?_⟩
  · rw [World.size_setCell]; simpa using h.hM
  · rw [Lib.heap_setCell_same (by rw [setRow_other _ _ _ _ h.pg]; exact h.hp)]
    simp
  · unfold Row
    rw [Below.heap_setCell _ _ _ _ (by show g ≠ p; exact fun e => h.pg e.symm)]
    exact h.hg.splice n cs
  · rw [splice_length _ _ _ (by rw [h.len]; exact hfit)]; exact h.len
  · exact (h.hI.otherRow h.gM h.gb _).other h.pM h.pb _
  · exact (Keeps.setRow (S := fun i => i = p ∨ i = b ∨ i = g) (.inr (.inr (.inr rfl))) _).trans (Keeps.setCell (S := fun i => i = p ∨ i = b ∨ i = g) (p := ⟨p, 2, none⟩) (.inr (.inl rfl)) _)

/-- The whole of a write that is passed through: the buffer takes it. -/
theorem dst_direct {M p b g S : Nat} {bs buf cs : List Value} {w w2 : World} (h : DstAt M p b g S 0 bs buf w) (hcs : Byts cs) (hI : IsBuf M b (bs ++ cs) w2) (hK : Keeps M (fun k => k = b) w w2) :
    DstAt M p b g S 0 (bs ++ cs) buf (w2.setCell ⟨p, 0, none⟩ .nilIface) ∧ Keeps M (fun i => i = p ∨ i = b ∨ i = g) w (w2.setCell ⟨p, 0, none⟩ .nilIface) := by
  refine ⟨⟨h.pM, h.gM, h.pb, h.gb, h.pg, ?_, ?_, ?_, h.len, Nat.zero_le _, h.S0, h.S1, ?_, h.hbs.append hcs, h.hbuf⟩, ?_⟩
  · rw [World.size_setCell]; exact Nat.le_trans h.hM hK.size
  · rw [Lib.heap_setCell_same (hK.at h.hp h.pM h.pb)]
    rfl
  · unfold Row
    rw [Below.heap_setCell _ _ _ _ (by show g ≠ p; exact fun e => h.pg e.symm)]
    exact hK.at h.hg h.gM h.gb
  · exact hI.other h.pM h.pb _
  · exact (hK.mono (Nat.le_refl _) (fun _ _ e => .inr (.inl e))).trans (Keeps.setCell (S := fun i => i = p ∨ i = b ∨ i = g) (p := ⟨p, 0, none⟩) (.inr (.inl rfl)) _)

theorem Keeps.cell {M : Nat} {S : Nat → Prop} {a b : World} (h : Keeps M S a b) {x o : Nat} {v : Value} (hc : a.cell? ⟨x, o, none⟩ = some v) (hx : x < M) (hs : ¬ S x) : b.cell? ⟨x, o, none⟩ = some v := by
  rw [World.cell?_of_block (w := a) (a := ⟨x, o, none⟩) (h.block x hx hs)]; exact hc

theorem write_join (buf P cs : List Value) (n k S : Nat) (hb : buf.length = S) (hcs : cs = (P.drop k).take (S - n)) (hn : n ≤ S) (hfit : n + cs.length ≤ S) : (splice buf n cs).take (n + cs.length) = buf.take n ++ cs := splice_grow buf cs n (by omega)

theorem take_more (P : List Value) (k j : Nat) : P.take k ++ (P.drop k).take j = P.take (k + j) := by rw [List.take_add]

/-- What the loop of Write keeps. -/
def Wrote (M p b g S m : Nat) (xb xo : Nat) (P out : List Value) (w : World) (k n : Nat) (bs buf : List Value) (a : Option Addr) (c : Nat) (wr : World) : Prop :=
  k ≤ m ∧ (k < m → a = some ⟨xb, xo + k, none⟩ ∧ m - k ≤ c) ∧ DstAt M p b g S n bs buf wr ∧ bs ++ buf.take n = out ++ P.take k ∧ Keeps M (fun i => i = p ∨ i = b ∨ i = g) w wr
end Go.Proofs.Qxb6612850aFmt
