/- bufio.Reader: Peek(1) in terms of the source; Discard. -/
import Derived.Test.Qxb6612850aFmtPeekW
namespace Go.Proofs.Qxb6612850aFmt
open Go.RowKit Go.Deep
set_option linter.unusedVariables false

theorem peek_some (p q g d S r pos k : Nat) (buf D : List Value) (w : World) (h : SrcAt p q g d S r r pos buf D .nilIface w) (hpos : pos < D.length) (hk : k = Nat.min (D.length - pos) S) :
    Calls Tryf.prog 27 #[.pointer (some ⟨p, 0, none⟩), .int .i64 1] w fun x w' => (∃ v, x = .returned (.tuple #[v, .nilIface])) ∧ (∃ buf', SrcAt p q g d S 0 k pos buf' D .nilIface w') ∧ Only (fun i => i = p ∨ i = q ∨ i = g) w w' := by
  have hS0 := h.S0
  have hk' : k ≤ S ∧ 1 ≤ k := by rw [hk]; simp only [Nat.min_def]; split <;> omega
  refine (peek_one p q g d S r pos k .nilIface buf D w h hk'.1 (.inl ⟨hk'.2, rfl⟩) (fun w2 => (∃ buf', SrcAt p q g d S 0 k pos buf' D .nilIface w2) ∧ Only (fun i => i = p ∨ i = q ∨ i = g) w w2) ?_).mono ?_
  · intro w1 h1 ho1
    refine (fill_some p q g d S r pos k buf D w1 h1 hpos hk).mono ?_
    rintro e w2 ⟨rfl, ⟨buf', h2⟩, ho2⟩
    exact ⟨rfl, h2.rd, ⟨buf', h2⟩, (ho1.mono (fun _ e => .inl e)).trans ho2⟩
  · rintro x w' ⟨hx, w2, ⟨⟨buf', h2⟩, ho2⟩, ⟨lb, lr, hp'⟩, ho'⟩
    exact ⟨hx, ⟨buf', h2.with hp' ho'⟩, ho2.trans (ho'.mono (fun _ e => .inl e))⟩

theorem peek_eof (p q g d S r pos : Nat) (buf D : List Value) (T : TypeId) (v : Value) (w : World) (h : SrcAt p q g d S r r pos buf D .nilIface w) (hpos : pos = D.length) (hE : w.cell? ⟨3, 0, none⟩ = some (.iface T v)) (h3 : p ≠ 3) :
    Calls Tryf.prog 27 #[.pointer (some ⟨p, 0, none⟩), .int .i64 1] w fun x w' => (∃ u, x = .returned (.tuple #[u, .iface T v])) ∧ SrcAt p q g d S 0 0 pos buf D .nilIface w' ∧ Only (fun i => i = p) w w' := by
  refine (peek_one p q g d S r pos 0 (.iface T v) buf D w h (Nat.zero_le _) (.inr ⟨rfl, T, v, rfl⟩) (fun w2 => SrcAt p q g d S 0 0 pos buf D (.iface T v) w2 ∧ Only (fun i => i = p) w w2) ?_).mono ?_
  · intro w1 h1 ho1
    refine (fill_eof p q g d S r pos buf D T v w1 h1 hpos ((ho1.cell (fun e => h3 e.symm)).trans hE) h3).mono ?_
    rintro e w2 ⟨rfl, h2, ho2⟩
    exact ⟨rfl, h2.rd, h2, ho1.trans ho2⟩
  · rintro x w' ⟨hx, w2, ⟨h2, ho2⟩, ⟨lb, lr, hp'⟩, ho'⟩
    exact ⟨hx, h2.with hp' ho', ho2.trans ho'⟩

theorem drop_take_more (l m : List Value) (r e pos n : Nat) (hn : n ≤ e - r) (h : (l.drop r).take (e - r) = (m.drop pos).take (e - r)) : (l.drop (r + n)).take (e - (r + n)) = (m.drop (pos + n)).take (e - (r + n)) := by
  have h1 := congrArg (List.drop n) h
  rw [List.drop_take, List.drop_take, List.drop_drop, List.drop_drop] at h1
  rw [Nat.sub_add_eq]
  exact h1

/-- The reader's index goes on by n. -/
theorem SrcAt.skip {p q g d S r e pos : Nat} {buf D : List Value} {lb lr : Int} {w w' : World} (h : SrcAt p q g d S r e pos buf D .nilIface w) (n : Nat) (hn : n ≤ e - r) (hp : RdCells p q g S (r + n) e .nilIface lb lr w') (ho : Only (fun i => i = p) w w') : SrcAt p q g d S (r + n) e (pos + n) buf D .nilIface w' := by
  obtain ⟨ao, pr, a5, a6⟩ := h.hq
  have hre := h.re
  have hfit := h.fit
  refine ⟨h.pq, h.pg, h.qg, ⟨lb, lr, hp⟩, ⟨ao, pr, ?_, ?_⟩, (ho.at (fun e => h.pg e.symm)).trans h.hg, h.len, by omega, h.eS, h.S0, h.S1, by omega, drop_take_more _ _ _ _ _ _ hn h.same, h.hD, h.hbuf, h.lim⟩
  · rw [show pos + n + (e - (r + n)) = pos + (e - r) from by omega]
    exact (ho.at (fun e => h.pq e.symm)).trans a5
  · rcases a6 with a6 | ⟨b1, b2, b3, b4, b5⟩
    · exact .inl a6
    · exact .inr ⟨b1, (ho.at b3).trans b2, b3, b4, b5⟩

set_option maxRecDepth 100000 in
set_option maxHeartbeats 1000000 in
theorem discard29 (p q g d S r e pos n : Nat) (buf D : List Value) (w : World) (h : SrcAt p q g d S r e pos buf D .nilIface w) (hn1 : 1 ≤ n) (hn : n ≤ e - r) :
    Calls Tryf.prog 29 #[.pointer (some ⟨p, 0, none⟩), .int .i64 (n : Int)] w fun x w' => (∃ v, x = .returned v) ∧ SrcAt p q g d S (r + n) e (pos + n) buf D .nilIface w' ∧ Only (fun i => i = p) w w' := by
  obtain ⟨lb, lr, hp⟩ := h.rd
  have c5 : w.cell? ⟨p, 5, none⟩ = some (.int .i64 lb) := by rw [Lib.cell_of_heap hp]; rfl
  have f5 := Lib.frozen_of_heap hp 5
  have hp5 := hp.store5 (-1)
  have c6 : (w.setCell ⟨p, 5, none⟩ (.int .i64 (-1))).cell? ⟨p, 6, none⟩ = some (.int .i64 lr) := by rw [Lib.cell_of_heap hp5]; rfl
  have f6 := Lib.frozen_of_heap hp5 6
  have hp6 := hp5.store6 (-1)
  have ho6 : Only (fun i => i = p) w ((w.setCell ⟨p, 5, none⟩ (.int .i64 (-1))).setCell ⟨p, 6, none⟩ (.int .i64 (-1))) := (Only.setCell (S := fun i => i = p) (p := ⟨p, 5, none⟩) rfl _).trans (Only.setCell (S := fun i => i = p) (p := ⟨p, 6, none⟩) rfl _)
  have H : Hid (SrcAt p q g d S r e pos buf D .nilIface w) := h
  have HP6 : Hid (RdCells p q g S r e .nilIface (-1) (-1) ((w.setCell ⟨p, 5, none⟩ (.int .i64 (-1))).setCell ⟨p, 6, none⟩ (.int .i64 (-1)))) := hp6
  have HO6 : Hid _ := ho6
  have hS1 := h.S1
  have hre := h.re
  have heS := h.eS
  clear h hp hp5 hp6 ho6
  go_enter Tryf.func29, Tryf.ntmps29
  have hn0 : ((n : Int) == 0) = false := by simp; omega
  have hn0' : ¬ n = 0 := by omega
  go_wp2_with fail
  obtain ⟨w0, hw0⟩ : ∃ w0, w0 = (w.setCell ⟨p, 5, none⟩ (.int .i64 (-1))).setCell ⟨p, 6, none⟩ (.int .i64 (-1)) := ⟨_, rfl⟩
  rw [← hw0]
  have HP : Hid (RdCells p q g S r e .nilIface (-1) (-1) w0) := by show RdCells p q g S r e .nilIface (-1) (-1) w0; rw [hw0]; exact HP6.out
  have HO : Hid (Only (fun i => i = p) w w0) := by show Only (fun i => i = p) w w0; rw [hw0]; exact HO6.out
  clear hw0 HP6 HO6 c5 c6 f5 f6
  go_loopg [6, 7] 1 (fun gk rm sk wr => wr = w0 ∧ rm = .int .i64 (n : Int))
  case atStart => exact ⟨rfl, rfl⟩
  case round =>
    obtain ⟨rfl, rfl⟩ := hrel
    go_wp2_with fail
    refine (buffered25 p q g S r e .nilIface (-1) (-1) _ HP.out hre (by omega)).mono ?_
    rintro x w1 ⟨rfl, hs1⟩
    have HP1 : Hid (RdCells p q g S r e .nilIface (-1) (-1) w1) := hs1.at HP.out
    have HO1 : Hid (Only (fun i => i = p) w w1) := HO.out.trans (Only.of_same hs1)
    clear hs1
    have c2 : w1.cell? ⟨p, 2, none⟩ = some (.int .i64 (r : Int)) := by rw [Lib.cell_of_heap HP1.out]; rfl
    have f2 := Lib.frozen_of_heap HP1.out 2
    obtain ⟨m, hm⟩ : ∃ m, m = e - r := ⟨_, rfl⟩
    rw [← hm]
    have hm0 : ((m : Int) == 0) = false := by simp; omega
    have hm0' : ¬ m = 0 := by omega
    have HE : Hid (SrcAt p q g d S (r + n) e (pos + n) buf D .nilIface (w1.setCell ⟨p, 2, none⟩ (.int .i64 ((r : Int) + (n : Int))))) := by
      have h1 := HP1.out.store2 (r + n)
      have hcast : (((r + n : Nat) : Int)) = (r : Int) + (n : Int) := by omega
      rw [hcast] at h1
      exact H.out.skip n hn h1 (HO1.out.trans (Only.setCell (S := fun i => i = p) (p := ⟨p, 2, none⟩) rfl _))
    have HO2 : Hid (Only (fun i => i = p) w (w1.setCell ⟨p, 2, none⟩ (.int .i64 ((r : Int) + (n : Int))))) := HO1.out.trans (Only.setCell (S := fun i => i = p) (p := ⟨p, 2, none⟩) rfl _)
    by_cases hgt : n < m
    · have hgt' : (m : Int) > (n : Int) := by omega
      clear hm
      go_wp2
      go_ret2
      exact ⟨⟨_, rfl⟩, HE.out, HO2.out⟩
    · have hmn : m = n := by omega
      clear hm
      subst hmn
      go_wp2
      go_ret2
      exact ⟨⟨_, rfl⟩, HE.out, HO2.out⟩
end Go.Proofs.Qxb6612850aFmt
