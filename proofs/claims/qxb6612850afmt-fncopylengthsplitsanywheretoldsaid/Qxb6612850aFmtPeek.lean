/- bufio.Reader: fill in terms of the source; Peek; Discard. -/
import Derived.Test.Qxb6612850aFmtFill
namespace Go.Proofs.Qxb6612850aFmt
open Go.RowKit Go.Deep
set_option linter.unusedVariables false

/-- The struct alone has changed, its two indices not. -/
theorem SrcAt.with {p q g d S r e pos : Nat} {buf D : List Value} {err err' : Value} {lb lr : Int} {w w' : World} (h : SrcAt p q g d S r e pos buf D err w) (hp : RdCells p q g S r e err' lb lr w') (ho : Only (fun i => i = p) w w') : SrcAt p q g d S r e pos buf D err' w' := by
  obtain ⟨ao, pr, a5, a6⟩ := h.hq
  refine ⟨h.pq, h.pg, h.qg, ⟨lb, lr, hp⟩, ⟨ao, pr, (ho.at (fun e => h.pq e.symm)).trans a5, ?_⟩, (ho.at (fun e => h.pg e.symm)).trans h.hg, h.len, h.re, h.eS, h.S0, h.S1, h.fit, h.same, h.hD, h.hbuf, h.lim⟩
  rcases a6 with a6 | ⟨b1, b2, b3, b4, b5⟩
  · exact .inl a6
  · exact .inr ⟨b1, (ho.at b3).trans b2, b3, b4, b5⟩

theorem SrcAt.rd {p q g d S r e pos : Nat} {buf D : List Value} {err : Value} {w : World} (h : SrcAt p q g d S r e pos buf D err w) : ∃ lb lr, RdCells p q g S r e err lb lr w := h.hp

theorem splice_head (buf cs : List Value) (k : Nat) (hk : cs.length = k) : ((splice buf 0 cs).drop 0).take k = cs := by
  rw [List.drop_zero]
  unfold splice
  rw [List.take_zero, List.nil_append]
  rw [List.take_append_of_le_length (by omega), List.take_of_length_le (by omega)]

theorem fill_some (p q g d S r pos k : Nat) (buf D : List Value) (w : World) (h : SrcAt p q g d S r r pos buf D .nilIface w) (hpos : pos < D.length) (hk : k = Nat.min (D.length - pos) S) :
    Calls Tryf.prog 38 #[.pointer (some ⟨p, 0, none⟩)] w fun e w' => e = .returned (.tuple #[]) ∧ (∃ buf', SrcAt p q g d S 0 k pos buf' D .nilIface w') ∧ Only (fun i => i = p ∨ i = q ∨ i = g) w w' := by
  have hS0 := h.S0
  have hk' : k ≤ S ∧ 1 ≤ k ∧ pos + k ≤ D.length := by rw [hk]; simp only [Nat.min_def]; split <;> omega
  obtain ⟨ao, pr, a5, a6⟩ := h.hq
  rw [Nat.sub_self, Nat.add_zero] at a5
  obtain ⟨rfl, b2, b3, b4, b5⟩ : ao = some ⟨d, 0, none⟩ ∧ Row w d D ∧ d ≠ p ∧ d ≠ q ∧ d ≠ g := by
    rcases a6 with ⟨_, rfl⟩ | a6
    · simp at hpos
    · exact a6
  refine (fill38 p q g d S r pos k .nilIface buf D w h hk'.1 (.inl ⟨hk'.2.1, rfl⟩) (fun w2 => ∃ w1, Only (fun i => i = p) w w1 ∧ ReadDone q d g 0 pos k D buf w1 w2) ?_).mono ?_
  · intro w1 lb lr hp1 ho1
    refine (read89_some q d g 0 S S pos D.length k D buf pr w1 rfl ((ho1.at (fun e => h.pq e.symm)).trans a5) hpos h.lim ((ho1.at b3).trans b2) h.hD ((ho1.at (fun e => h.pg e.symm)).trans h.hg) (by rw [h.len]; omega) hk (fun e => h.qg e.symm) (fun e => b5 e.symm) b4 (by have := h.S1; omega)).mono ?_
    rintro e w2 ⟨rfl, hR⟩
    exact ⟨rfl, (hR.only.at (fun e => e.elim h.pg h.pq)).trans hp1, w1, ho1, hR⟩
  · rintro e w' ⟨rfl, w2, ⟨w1, ho1, hR⟩, ⟨lb, lr, hp'⟩, ho'⟩
    have hcs : ((D.drop pos).take k).length = k := by rw [List.length_take, List.length_drop]; omega
    refine ⟨rfl, ⟨splice buf 0 ((D.drop pos).take k), ⟨h.pq, h.pg, h.qg, ⟨lb, lr, hp'⟩, ⟨some ⟨d, 0, none⟩, -1, ?_, .inr ⟨rfl, ?_, b3, b4, b5⟩⟩, ?_, ?_, Nat.zero_le _, hk'.1, h.S0, h.S1, ?_, ?_, h.hD, ?_, h.lim⟩⟩, ?_⟩
    · rw [Nat.sub_zero]
      exact (ho'.at (fun e => h.pq e.symm)).trans hR.hq
    · exact (ho'.at b3).trans ((hR.only.at (fun e => e.elim b5 b4)).trans ((ho1.at b3).trans b2))
    · exact (ho'.at (fun e => h.pg e.symm)).trans hR.hx
    · rw [splice_length _ _ _ (by rw [hcs, h.len]; omega)]; exact h.len
    · omega
    · rw [Nat.sub_zero]; exact splice_head buf _ k hcs
    · exact h.hbuf.splice ((h.hD.drop pos).take k) 0
    · exact (ho1.mono (fun _ e => .inl e)).trans ((hR.only.mono (fun _ e => e.elim (fun e => .inr (.inr e)) (fun e => .inr (.inl e)))).trans (ho'.mono (fun _ e => .inl e)))

theorem fill_eof (p q g d S r pos : Nat) (buf D : List Value) (T : TypeId) (v : Value) (w : World) (h : SrcAt p q g d S r r pos buf D .nilIface w) (hpos : pos = D.length) (hE : w.cell? ⟨3, 0, none⟩ = some (.iface T v)) (h3 : p ≠ 3) :
    Calls Tryf.prog 38 #[.pointer (some ⟨p, 0, none⟩)] w fun e w' => e = .returned (.tuple #[]) ∧ SrcAt p q g d S 0 0 pos buf D (.iface T v) w' ∧ Only (fun i => i = p) w w' := by
  obtain ⟨ao, pr, a5, a6⟩ := h.hq
  rw [Nat.sub_self, Nat.add_zero] at a5
  have hlim := h.lim
  refine (fill38 p q g d S r pos 0 (.iface T v) buf D w h (Nat.zero_le _) (.inr ⟨rfl, T, v, rfl⟩) (fun w2 => Only (fun i => i = p) w w2) ?_).mono ?_
  · intro w1 lb lr hp1 ho1
    refine (read89_eof q pos D.length ao pr _ (.iface T v) w1 ((ho1.at (fun e => h.pq e.symm)).trans a5) (by omega) (by omega) ((ho1.cell (fun e => h3 e.symm)).trans hE)).mono ?_
    rintro e w2 ⟨rfl, hs⟩
    exact ⟨rfl, hs.at hp1, ho1.trans (Only.of_same hs)⟩
  · rintro e w' ⟨rfl, w2, ho1, ⟨lb, lr, hp'⟩, ho'⟩
    have ho := ho1.trans ho'
    refine ⟨rfl, ?_, ho⟩
    refine ⟨h.pq, h.pg, h.qg, ⟨lb, lr, hp'⟩, ⟨ao, pr, ?_, ?_⟩, (ho.at (fun e => h.pg e.symm)).trans h.hg, h.len, Nat.le_refl _, Nat.zero_le _, h.S0, h.S1, by omega, by simp, h.hD, h.hbuf, h.lim⟩
    · rw [Nat.sub_zero, Nat.add_zero]
      exact (ho.at (fun e => h.pq e.symm)).trans a5
    · rcases a6 with a6 | ⟨b1, b2, b3, b4, b5⟩
      · exact .inl a6
      · exact .inr ⟨b1, (ho.at b3).trans b2, b3, b4, b5⟩
end Go.Proofs.Qxb6612850aFmt
