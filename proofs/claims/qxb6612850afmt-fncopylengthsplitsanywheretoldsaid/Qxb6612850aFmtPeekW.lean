/- bufio.Reader.Peek, the walks. -/
import Derived.Test.Qxb6612850aFmtPeek
namespace Go.Proofs.Qxb6612850aFmt
open Go.RowKit Go.Deep
set_option linter.unusedVariables false

theorem RdCells.store5 {p q g S r e : Nat} {err : Value} {lb lr : Int} {w : World} (h : RdCells p q g S r e err lb lr w) (v : Int) : RdCells p q g S r e err v lr (w.setCell ⟨p, 5, none⟩ (.int .i64 v)) := by
  unfold RdCells; rw [Lib.heap_setCell_same h]; rfl
theorem RdCells.store6 {p q g S r e : Nat} {err : Value} {lb lr : Int} {w : World} (h : RdCells p q g S r e err lb lr w) (v : Int) : RdCells p q g S r e err lb v (w.setCell ⟨p, 6, none⟩ (.int .i64 v)) := by
  unfold RdCells; rw [Lib.heap_setCell_same h]; rfl
theorem RdCells.store2 {p q g S r e : Nat} {err : Value} {lb lr : Int} {w : World} (h : RdCells p q g S r e err lb lr w) (k : Nat) : RdCells p q g S k e err lb lr (w.setCell ⟨p, 2, none⟩ (.int .i64 (k : Int))) := by
  unfold RdCells; rw [Lib.heap_setCell_same h]; rfl

set_option maxRecDepth 100000 in
set_option maxHeartbeats 1000000 in
/-- Peek of no more than lies in the array. -/
theorem peek_have (p q g d S r e pos n : Nat) (buf D : List Value) (w : World) (h : SrcAt p q g d S r e pos buf D .nilIface w) (hn1 : 1 ≤ n) (hn : n ≤ e - r) :
    Calls Tryf.prog 27 #[.pointer (some ⟨p, 0, none⟩), .int .i64 (n : Int)] w fun x w' => x = .returned (.tuple #[.slice (some ⟨g, r, none⟩) n (S - r), .nilIface]) ∧ SrcAt p q g d S r e pos buf D .nilIface w' ∧ Only (fun i => i = p) w w' := by
  obtain ⟨lb, lr, hp⟩ := h.rd
  have c5 : w.cell? ⟨p, 5, none⟩ = some (.int .i64 lb) := by rw [Lib.cell_of_heap hp]; rfl
  have f5 := Lib.frozen_of_heap hp 5
  have hp5 := hp.store5 (-1)
  have c6 : (w.setCell ⟨p, 5, none⟩ (.int .i64 (-1))).cell? ⟨p, 6, none⟩ = some (.int .i64 lr) := by rw [Lib.cell_of_heap hp5]; rfl
  have f6 := Lib.frozen_of_heap hp5 6
  have hp6 := hp5.store6 (-1)
  have ho6 : Only (fun i => i = p) w ((w.setCell ⟨p, 5, none⟩ (.int .i64 (-1))).setCell ⟨p, 6, none⟩ (.int .i64 (-1))) := (Only.setCell (S := fun i => i = p) (p := ⟨p, 5, none⟩) rfl _).trans (Only.setCell (S := fun i => i = p) (p := ⟨p, 6, none⟩) rfl _)
  have H : Hid (SrcAt p q g d S r e pos buf D .nilIface w) := h
  have HP6 : Hid (RdCells p q g S r e .nilIface (-1) (-1) ((w.setCell ⟨p, 5, none⟩ (.int .i64 (-1))).setCell ⟨p, 6, none⟩ (.int .i64 (-1)))) := hp6
  have HO6 : Hid _ := ho6
  have hS1 := h.S1
  have hre := h.re
  have heS := h.eS
  clear h hp hp5 hp6 ho6
  go_enter Tryf.func27, Tryf.ntmps27
  go_wp2_with fail
  obtain ⟨w0, hw0⟩ : ∃ w0, w0 = (w.setCell ⟨p, 5, none⟩ (.int .i64 (-1))).setCell ⟨p, 6, none⟩ (.int .i64 (-1)) := ⟨_, rfl⟩
  rw [← hw0]
  have HP : Hid (RdCells p q g S r e .nilIface (-1) (-1) w0) := by show RdCells p q g S r e .nilIface (-1) (-1) w0; rw [hw0]; exact HP6.out
  have HO : Hid (Only (fun i => i = p) w w0) := by show Only (fun i => i = p) w w0; rw [hw0]; exact HO6.out
  clear hw0 HP6 HO6 c5 c6 f5 f6
  go_loopg [] 1 (fun gk wr => wr = w0)
  case atStart => rfl
  case round =>
    subst hrel
    have c0 : wr.cell? ⟨p, 0, none⟩ = some (.slice (some ⟨g, 0, none⟩) S S) := by rw [Lib.cell_of_heap HP.out]; rfl
    have c2 : wr.cell? ⟨p, 2, none⟩ = some (.int .i64 (r : Int)) := by rw [Lib.cell_of_heap HP.out]; rfl
    have c3 : wr.cell? ⟨p, 3, none⟩ = some (.int .i64 (e : Int)) := by rw [Lib.cell_of_heap HP.out]; rfl
    have c4 : wr.cell? ⟨p, 4, none⟩ = some .nilIface := by rw [Lib.cell_of_heap HP.out]; rfl
    have t1 : decide ((e : Int) - (r : Int) < (n : Int)) = false := by simp; omega
    have t2 : ¬ ((n : Int) > (S : Int)) := by omega
    have hSr : ¬ S = r := by omega
    go_wp2_with fail
    go_quiet (fail)
    go_wp2_with fail
    go_quiet (fail)
    go_wp2_with fail
    go_quiet (fail)
    go_wp2
    go_ret2
    go_light
    refine ⟨by rw [Nat.add_sub_cancel_left]; rfl, H.out.with HP.out (HO.out.trans (Only.of_same (Same.drewN _ _))), HO.out.trans (Only.of_same (Same.drewN _ _))⟩

set_option maxRecDepth 100000 in
set_option maxHeartbeats 1000000 in
/-- Peek(1) where the array holds nothing more: one fill. -/
theorem peek_one (p q g d S r pos k : Nat) (er : Value) (buf D : List Value) (w : World) (h : SrcAt p q g d S r r pos buf D .nilIface w) (hk : k ≤ S) (hker : (1 ≤ k ∧ er = .nilIface) ∨ (k = 0 ∧ ∃ T v, er = .iface T v)) (B : World → Prop)
    (hfill : ∀ w1, SrcAt p q g d S r r pos buf D .nilIface w1 → Only (fun i => i = p) w w1 → Calls Tryf.prog 38 #[.pointer (some ⟨p, 0, none⟩)] w1 fun e w2 => e = .returned (.tuple #[]) ∧ (∃ lb lr, RdCells p q g S 0 k er lb lr w2) ∧ B w2) :
    Calls Tryf.prog 27 #[.pointer (some ⟨p, 0, none⟩), .int .i64 1] w fun x w' => (∃ v, x = .returned (.tuple #[v, er])) ∧ ∃ w2, B w2 ∧ (∃ lb lr, RdCells p q g S 0 k .nilIface lb lr w') ∧ Only (fun i => i = p) w2 w' := by
  obtain ⟨lb, lr, hp⟩ := h.rd
  have c5 : w.cell? ⟨p, 5, none⟩ = some (.int .i64 lb) := by rw [Lib.cell_of_heap hp]; rfl
  have f5 := Lib.frozen_of_heap hp 5
  have hp5 := hp.store5 (-1)
  have c6 : (w.setCell ⟨p, 5, none⟩ (.int .i64 (-1))).cell? ⟨p, 6, none⟩ = some (.int .i64 lr) := by rw [Lib.cell_of_heap hp5]; rfl
  have f6 := Lib.frozen_of_heap hp5 6
  have hp6 := hp5.store6 (-1)
  have ho6 : Only (fun i => i = p) w ((w.setCell ⟨p, 5, none⟩ (.int .i64 (-1))).setCell ⟨p, 6, none⟩ (.int .i64 (-1))) := (Only.setCell (S := fun i => i = p) (p := ⟨p, 5, none⟩) rfl _).trans (Only.setCell (S := fun i => i = p) (p := ⟨p, 6, none⟩) rfl _)
  have H : Hid (SrcAt p q g d S r r pos buf D .nilIface w) := h
  have HP6 : Hid (RdCells p q g S r r .nilIface (-1) (-1) ((w.setCell ⟨p, 5, none⟩ (.int .i64 (-1))).setCell ⟨p, 6, none⟩ (.int .i64 (-1)))) := hp6
  have HO6 : Hid _ := ho6
  have HF : Hid (∀ w1, SrcAt p q g d S r r pos buf D .nilIface w1 → Only (fun i => i = p) w w1 → Calls Tryf.prog 38 #[.pointer (some ⟨p, 0, none⟩)] w1 fun e w2 => e = .returned (.tuple #[]) ∧ (∃ lb lr, RdCells p q g S 0 k er lb lr w2) ∧ B w2) := hfill
  have HKE : Hid ((1 ≤ k ∧ er = .nilIface) ∨ (k = 0 ∧ ∃ T v, er = .iface T v)) := hker
  have hS1 := h.S1
  have hS0 := h.S0
  have heS := h.eS
  clear h hp hp5 hp6 ho6 hfill hker
  go_enter Tryf.func27, Tryf.ntmps27
  go_wp2_with fail
  obtain ⟨w0, hw0⟩ : ∃ w0, w0 = (w.setCell ⟨p, 5, none⟩ (.int .i64 (-1))).setCell ⟨p, 6, none⟩ (.int .i64 (-1)) := ⟨_, rfl⟩
  rw [← hw0]
  have HP : Hid (RdCells p q g S r r .nilIface (-1) (-1) w0) := by show RdCells p q g S r r .nilIface (-1) (-1) w0; rw [hw0]; exact HP6.out
  have HO : Hid (Only (fun i => i = p) w w0) := by show Only (fun i => i = p) w w0; rw [hw0]; exact HO6.out
  clear hw0 HP6 HO6 c5 c6 f5 f6
  go_loopg [] 1 (fun gk wr => (gk = 1 ∧ wr = w0) ∨ (gk = 0 ∧ B wr ∧ ∃ lb lr, RdCells p q g S 0 k er lb lr wr))
  case atStart => exact .inl ⟨rfl, rfl⟩
  case round =>
    rcases hrel with ⟨rfl, rfl⟩ | ⟨rfl, hB, lb, lr, hP⟩
    · have c0 : wr.cell? ⟨p, 0, none⟩ = some (.slice (some ⟨g, 0, none⟩) S S) := by rw [Lib.cell_of_heap HP.out]; rfl
      have c2 : wr.cell? ⟨p, 2, none⟩ = some (.int .i64 (r : Int)) := by rw [Lib.cell_of_heap HP.out]; rfl
      have c3 : wr.cell? ⟨p, 3, none⟩ = some (.int .i64 (r : Int)) := by rw [Lib.cell_of_heap HP.out]; rfl
      have c4 : wr.cell? ⟨p, 4, none⟩ = some .nilIface := by rw [Lib.cell_of_heap HP.out]; rfl
      have hS0' : decide (0 < S) = true := by simp; omega
      have hwr : IntKind.i64.wrap 0 = 0 := by decide
      go_wp2_with fail
      go_quiet (fail)
      go_wp2_with fail
      refine Calls.mono (HF.out _ (H.out.with (HP.out : RdCells p q g S r r .nilIface (-1) (-1) (wr.drewN nq)) (HO.out.trans (Only.of_same (Same.drewN _ _)))) (HO.out.trans (Only.of_same (Same.drewN _ _)))) ?_
      rintro e w2 ⟨rfl, hP2, hB2⟩
      have HB2 : Hid (B w2) := hB2
      have HP2 : Hid (∃ lb lr, RdCells p q g S 0 k er lb lr w2) := hP2
      clear hB2 hP2 c0 c2 c3 c4
      go_wp2
      go_roundg 0
      case measure => go_light; omega
      case rel => go_light; exact .inr ⟨rfl, HB2.out, HP2.out⟩
    · have HBB : Hid (B wr) := hB
      have HPP : Hid (RdCells p q g S 0 k er lb lr wr) := hP
      clear hB hP
      have c0 : wr.cell? ⟨p, 0, none⟩ = some (.slice (some ⟨g, 0, none⟩) S S) := by rw [Lib.cell_of_heap HPP.out]; rfl
      have c2 : wr.cell? ⟨p, 2, none⟩ = some (.int .i64 0) := by rw [Lib.cell_of_heap HPP.out]; rfl
      have c3 : wr.cell? ⟨p, 3, none⟩ = some (.int .i64 (k : Int)) := by rw [Lib.cell_of_heap HPP.out]; rfl
      have c4 : wr.cell? ⟨p, 4, none⟩ = some er := by rw [Lib.cell_of_heap HPP.out]; rfl
      have hSl : ¬ ((1 : Int) > (S : Int)) := by omega
      rcases HKE.out with ⟨hk1, rfl⟩ | ⟨rfl, T, v, rfl⟩
      · have hkd : decide ((k : Int) < 1) = false := by simp; omega
        have hS1' : 1 ≤ S := by omega
        go_wp2_with fail
        go_quiet (fail)
        go_wp2_with fail
        go_quiet (fail)
        go_wp2_with fail
        go_quiet (fail)
        go_wp2
        go_ret2
        go_light
        exact ⟨⟨_, rfl⟩, wr, HBB.out, ⟨lb, lr, HPP.out⟩, Only.of_same (Same.drewN _ _)⟩
      · have hS0' : decide (0 < S) = true := by simp; omega
        have hwr : IntKind.i64.wrap 0 = 0 := by decide
        go_wp2_with fail
        go_quiet (fail)
        go_wp2_with fail
        go_quiet (fail)
        go_wp2_with fail
        refine Calls.mono (readErr39 p q g S 0 0 (.iface T v) lb lr _ HPP.out) ?_
        rintro e w3 ⟨rfl, hP3, hO3⟩
        have HP3 : Hid (RdCells p q g S 0 0 .nilIface lb lr w3) := hP3
        have HO3 : Hid _ := hO3
        clear hP3 hO3 c0 c2 c3 c4
        have d0 : w3.cell? ⟨p, 0, none⟩ = some (.slice (some ⟨g, 0, none⟩) S S) := by rw [Lib.cell_of_heap HP3.out]; rfl
        have d2 : w3.cell? ⟨p, 2, none⟩ = some (.int .i64 0) := by rw [Lib.cell_of_heap HP3.out]; rfl
        go_wp2_with fail
        go_quiet (fail)
        go_wp2
        go_ret2
        go_light
        exact ⟨⟨_, rfl⟩, wr, HBB.out, ⟨lb, lr, HP3.out⟩, (Only.of_same (Same.drewN _ _)).trans (HO3.out.trans (Only.of_same (Same.drewN _ _)))⟩
end Go.Proofs.Qxb6612850aFmt
