/- bufio.Reader: Buffered, readErr, fill. -/
import Derived.Test.Qxb6612850aFmtRd
import Derived.Deep.LoopGhost
import Derived.Deep.DeepCutAuto
namespace Go.Proofs.Qxb6612850aFmt
open Go.RowKit Go.Deep
set_option linter.unusedVariables false

/-- The reader's own struct. -/
def RdCells (p q g S : Nat) (r e : Nat) (err : Value) (lb lr : Int) (w : World) : Prop := w.heap[p]? = some (.cells #[.slice (some ⟨g, 0, none⟩) S S, .iface 45 (.pointer (some ⟨q, 0, none⟩)), .int .i64 (r : Int), .int .i64 (e : Int), err, .int .i64 lb, .int .i64 lr] 79 (0, 0))

theorem buffered25 (p q g S r e : Nat) (err : Value) (lb lr : Int) (w : World) (h : RdCells p q g S r e err lb lr w) (hre : r ≤ e) (he : e ≤ 1048576) : Calls Tryf.prog 25 #[.pointer (some ⟨p, 0, none⟩)] w fun x w' => x = .returned (.int .i64 ((e - r : Nat) : Int)) ∧ Same w w' := by
  have c2 : w.cell? ⟨p, 2, none⟩ = some (.int .i64 (r : Int)) := by rw [Lib.cell_of_heap h]; rfl
  have c3 : w.cell? ⟨p, 3, none⟩ = some (.int .i64 (e : Int)) := by rw [Lib.cell_of_heap h]; rfl
  clear h
  have hsub : (e : Int) - (r : Int) = ((e - r : Nat) : Int) := by omega
  go_enter Tryf.func25, Tryf.ntmps25
  go_wp2
  go_quiet (fail)
  go_wp2
  go_ret
  exact ⟨by go_num, Same.drewN _ _⟩

theorem readErr39 (p q g S r e : Nat) (err : Value) (lb lr : Int) (w : World) (h : RdCells p q g S r e err lb lr w) : Calls Tryf.prog 39 #[.pointer (some ⟨p, 0, none⟩)] w fun x w' => x = .returned err ∧ RdCells p q g S r e .nilIface lb lr w' ∧ Only (fun k => k = p) w w' := by
  have c4 : w.cell? ⟨p, 4, none⟩ = some err := by rw [Lib.cell_of_heap h]; rfl
  have f4 := Lib.frozen_of_heap h 4
  have H : Hid (RdCells p q g S r e .nilIface lb lr (w.setCell ⟨p, 4, none⟩ .nilIface)) := by
    show RdCells p q g S r e .nilIface lb lr (w.setCell ⟨p, 4, none⟩ .nilIface)
    unfold RdCells; rw [Lib.heap_setCell_same h]; rfl
  clear h
  go_enter Tryf.func39, Tryf.ntmps39
  go_wp2
  go_ret
  exact ⟨rfl, H.out, Only.setCell (S := fun k => k = p) (p := ⟨p, 4, none⟩) rfl _⟩

theorem method_read (a : Addr) (w : World) : (method 275 45 (.pointer (some a)) "Read").run Tryf.prog w = .ok (89, .pointer (some a)) w := by kernel_rfl

theorem RdCells.store3 {p q g S r e : Nat} {err : Value} {lb lr : Int} {w : World} (h : RdCells p q g S r e err lb lr w) (k : Nat) : RdCells p q g S r k err lb lr (w.setCell ⟨p, 3, none⟩ (.int .i64 (k : Int))) := by
  unfold RdCells; rw [Lib.heap_setCell_same h]; rfl
theorem RdCells.store4 {p q g S r e : Nat} {err : Value} {lb lr : Int} {w : World} (h : RdCells p q g S r e err lb lr w) (v : Value) : RdCells p q g S r e v lb lr (w.setCell ⟨p, 4, none⟩ v) := by
  unfold RdCells; rw [Lib.heap_setCell_same h]; rfl

set_option maxRecDepth 100000 in
set_option maxHeartbeats 1000000 in
/-- fill, where all that lay in the array has been handed out: the array is emptied, one read is done into it. -/
theorem fill38 (p q g d S r pos k : Nat) (er : Value) (buf D : List Value) (w : World) (h : SrcAt p q g d S r r pos buf D .nilIface w) (hk : k ≤ S) (hker : (1 ≤ k ∧ er = .nilIface) ∨ (k = 0 ∧ ∃ T v, er = .iface T v)) (Q : World → Prop)
    (hread : ∀ w1 lb lr, RdCells p q g S 0 0 .nilIface lb lr w1 → Only (fun i => i = p) w w1 → Calls Tryf.prog 89 #[.pointer (some ⟨q, 0, none⟩), .slice (some ⟨g, 0, none⟩) S S] w1 fun e w2 => e = .returned (.tuple #[.int .i64 (k : Int), er]) ∧ RdCells p q g S 0 0 .nilIface lb lr w2 ∧ Q w2) :
    Calls Tryf.prog 38 #[.pointer (some ⟨p, 0, none⟩)] w fun e w' => e = .returned (.tuple #[]) ∧ ∃ w2, Q w2 ∧ (∃ lb lr, RdCells p q g S 0 k er lb lr w') ∧ Only (fun i => i = p) w2 w' := by
  have HRD : Hid (∀ w1 lb lr, RdCells p q g S 0 0 .nilIface lb lr w1 → Only (fun i => i = p) w w1 → Calls Tryf.prog 89 #[.pointer (some ⟨q, 0, none⟩), .slice (some ⟨g, 0, none⟩) S S] w1 fun e w2 => e = .returned (.tuple #[.int .i64 (k : Int), er]) ∧ RdCells p q g S 0 0 .nilIface lb lr w2 ∧ Q w2) := hread
  have HKE : Hid ((1 ≤ k ∧ er = .nilIface) ∨ (k = 0 ∧ ∃ T v, er = .iface T v)) := hker
  clear hread hker
  obtain ⟨lb, lr, hp⟩ := h.hp
  have c0 : w.cell? ⟨p, 0, none⟩ = some (.slice (some ⟨g, 0, none⟩) S S) := by rw [Lib.cell_of_heap hp]; rfl
  have c2 : w.cell? ⟨p, 2, none⟩ = some (.int .i64 (r : Int)) := by rw [Lib.cell_of_heap hp]; rfl
  have c3 : w.cell? ⟨p, 3, none⟩ = some (.int .i64 (r : Int)) := by rw [Lib.cell_of_heap hp]; rfl
  have f2 := Lib.frozen_of_heap hp 2
  have f3 := Lib.frozen_of_heap hp 3
  have hrS := h.eS
  have hS1 := h.S1
  have H : Hid (SrcAt p q g d S r r pos buf D .nilIface w) := h
  have HP : Hid (RdCells p q g S r r .nilIface lb lr w) := hp
  clear h hp
  go_enter Tryf.func38, Tryf.ntmps38
  go_upto_if 9 with fail
  go_cut [] (fun wc => (∃ lb lr, RdCells p q g S 0 0 .nilIface lb lr wc) ∧ Only (fun k => k = p) w wc)
  case first =>
    by_cases h0 : r = 0
    · subst h0
      go_wp2
      go_meet
      exact ⟨⟨lb, lr, HP.out⟩, Only.refl _ _⟩
    · have h0' : (r : Int) > 0 := by omega
      have H1 : Hid (Row w.drew g buf) := H.out.hg
      have H5 : Hid (0 + 0 ≤ buf.length) := by show 0 + 0 ≤ buf.length; omega
      have hrow : w.drew.setRow g (splice buf 0 []).toArray = w.drew := by rw [splice_nil]; exact setRow_self w.drew g buf.toArray 5 (0, 0) H1.out
      go_upto_region 1 with fail
      go_cut [] (fun wc => Same w wc)
      case first =>
        by_cases hrr : S = r
        · go_region_law (refine step_copy_n rfl (.tmp 13) (.tmp 26) rfl (some ⟨g, 0, none⟩) (some ⟨g, 0, none⟩) r r 0 0 (by simp [Act.eval, Act.put]) (by simp [Act.eval, Act.put]) g 0 0 buf [] H1.out rfl (by simp) (fun h => absurd h (by omega)) H5.out (fun _ h => by cases h) ?_)
          all_goals go_wp2
          all_goals go_meet
          all_goals exact ⟨rfl, rfl, rfl, rfl⟩
        · go_region_law (refine step_copy_n rfl (.tmp 13) (.tmp 26) rfl (some ⟨g, 0, none⟩) (some ⟨g, r, none⟩) S S 0 (S - r) (by simp [Act.eval, Act.put]) (by simp [Act.eval, Act.put]) g 0 0 buf [] H1.out rfl (by simp) (fun h => absurd h (by omega)) H5.out (fun _ h => by cases h) ?_)
          all_goals go_wp2
          all_goals go_meet
          all_goals exact ⟨rfl, rfl, rfl, rfl⟩
      case rest =>
        have hP1 : RdCells p q g S r r .nilIface lb lr wc := hcut.at HP.out
        have HO : Hid (Only (fun k => k = p) w wc) := Only.of_same hcut
        clear c0 c2 c3 f2 f3 hrow H1 hcut
        have c2 : wc.cell? ⟨p, 2, none⟩ = some (.int .i64 (r : Int)) := by rw [Lib.cell_of_heap hP1]; rfl
        have c3 : wc.cell? ⟨p, 3, none⟩ = some (.int .i64 (r : Int)) := by rw [Lib.cell_of_heap hP1]; rfl
        have f3 := Lib.frozen_of_heap hP1 3
        have HP1 : Hid _ := hP1
        clear hP1
        have HP2 : Hid (RdCells p q g S r 0 .nilIface lb lr (wc.drew.setCell ⟨p, 3, none⟩ (.int .i64 0))) := by
          show RdCells p q g S r 0 .nilIface lb lr (wc.drew.setCell ⟨p, 3, none⟩ (.int .i64 0))
          unfold RdCells; rw [Lib.heap_setCell_same (w := wc.drew) HP1.out]; rfl
        have HO2 : Hid (Only (fun k => k = p) w (wc.drew.setCell ⟨p, 3, none⟩ (.int .i64 0))) := HO.out.trans ((Only.of_same (a := wc) (b := wc.drew) ⟨rfl, rfl, rfl, rfl⟩).trans (Only.setCell (S := fun k => k = p) (p := ⟨p, 3, none⟩) rfl _))
        go_upto_region 2 with fail
        go_cut [] (fun wd => RdCells p q g S r 0 .nilIface lb lr wd ∧ Only (fun k => k = p) w wd)
        case first =>
          go_region
          all_goals go_wp2
          all_goals go_meet
          all_goals exact ⟨HP2.out, HO2.out⟩
        case rest =>
          obtain ⟨hP3, hO3⟩ := hcut
          clear c2 c3 f3 HP2 HO2
          have c2 : wc.cell? ⟨p, 2, none⟩ = some (.int .i64 (r : Int)) := by rw [Lib.cell_of_heap hP3]; rfl
          have f2 := Lib.frozen_of_heap hP3 2
          have HP4 : Hid (RdCells p q g S 0 0 .nilIface lb lr (wc.setCell ⟨p, 2, none⟩ (.int .i64 0))) := by
            show RdCells p q g S 0 0 .nilIface lb lr (wc.setCell ⟨p, 2, none⟩ (.int .i64 0))
            unfold RdCells; rw [Lib.heap_setCell_same hP3]; rfl
          have HO4 : Hid (Only (fun k => k = p) w (wc.setCell ⟨p, 2, none⟩ (.int .i64 0))) := hO3.trans (Only.setCell (S := fun k => k = p) (p := ⟨p, 2, none⟩) rfl _)
          clear hP3 hO3
          go_wp2
          go_meet
          exact ⟨⟨lb, lr, HP4.out⟩, HO4.out⟩
  case rest =>
    clear c0 c2 c3 f2 f3
    obtain ⟨⟨lb, lr, hP⟩, hO⟩ := hcut
    have c0 : wc.cell? ⟨p, 0, none⟩ = some (.slice (some ⟨g, 0, none⟩) S S) := by rw [Lib.cell_of_heap hP]; rfl
    have c1 : wc.cell? ⟨p, 1, none⟩ = some (.iface 45 (.pointer (some ⟨q, 0, none⟩))) := by rw [Lib.cell_of_heap hP]; rfl
    have c2 : wc.cell? ⟨p, 2, none⟩ = some (.int .i64 0) := by rw [Lib.cell_of_heap hP]; rfl
    have c3 : wc.cell? ⟨p, 3, none⟩ = some (.int .i64 0) := by rw [Lib.cell_of_heap hP]; rfl
    have hS0 := H.out.S0
    have hge : ¬ ((0 : Int) ≥ (S : Int)) := by omega
    have HPc : Hid (RdCells p q g S 0 0 .nilIface lb lr wc) := hP
    have HOc : Hid (Only (fun k => k = p) w wc) := hO
    clear hP hO
    go_wp2
    go_quiet (fail)
    go_wp2_with fail
    have hsd : Same wc (wc.drewN nq) := Same.drewN _ _
    obtain ⟨w0, hw0⟩ : ∃ w0, w0 = wc.drewN nq := ⟨_, rfl⟩
    rw [← hw0] at hsd ⊢
    have HP0 : Hid (RdCells p q g S 0 0 .nilIface lb lr w0) := hsd.at HPc.out
    have HO0 : Hid (Only (fun k => k = p) w w0) := HOc.out.trans (Only.of_same hsd)
    clear hw0 hsd c0 c1 c2 c3
    go_loopg [2] 1 (fun gk i wr => i = .int .i64 100 ∧ wr = w0)
    case atStart => exact ⟨rfl, rfl⟩
    case round =>
      obtain ⟨rfl, rfl⟩ := hrel
      have c0 : wr.cell? ⟨p, 0, none⟩ = some (.slice (some ⟨g, 0, none⟩) S S) := by rw [Lib.cell_of_heap HP0.out]; rfl
      have c1 : wr.cell? ⟨p, 1, none⟩ = some (.iface 45 (.pointer (some ⟨q, 0, none⟩))) := by rw [Lib.cell_of_heap HP0.out]; rfl
      have c3 : wr.cell? ⟨p, 3, none⟩ = some (.int .i64 0) := by rw [Lib.cell_of_heap HP0.out]; rfl
      go_wp2_with fail
      have hmr := method_read ⟨q, 0, none⟩
      have hS0' : ¬ S = 0 := by omega
      go_region_held3 (fun w' => w'.cell? ⟨p, 0, none⟩ = some (.slice (some ⟨g, 0, none⟩) S S) ∧ w'.cell? ⟨p, 1, none⟩ = some (.iface 45 (.pointer (some ⟨q, 0, none⟩))) ∧ w'.cell? ⟨p, 3, none⟩ = some (.int .i64 0)) (simp [go_sem, *])
        ((go_at_call 89; refine Calls.mono (HRD.out wr.drew lb lr HP0.out (HO0.out.trans (Only.of_same ⟨rfl, rfl, rfl, rfl⟩))) ?_; rintro e w2 ⟨rfl, hp2, hQ2⟩; have d0 : w2.cell? ⟨p, 0, none⟩ = some (.slice (some ⟨g, 0, none⟩) S S) := (by rw [Lib.cell_of_heap hp2]; rfl); have d1 : w2.cell? ⟨p, 1, none⟩ = some (.iface 45 (.pointer (some ⟨q, 0, none⟩))) := (by rw [Lib.cell_of_heap hp2]; rfl); have d3 : w2.cell? ⟨p, 3, none⟩ = some (.int .i64 0) := (by rw [Lib.cell_of_heap hp2]; rfl); have HP2 : Hid (RdCells p q g S 0 0 .nilIface lb lr w2) := hp2; have HQ2 : Hid (Q w2) := hQ2; clear hp2 hQ2))
      clear c0 c1 c3
      have f3 := Lib.frozen_of_heap HP2.out 3
      have hP3 := HP2.out.store3 k
      have HO3 : Hid (Only (fun i => i = p) w2 (w2.setCell ⟨p, 3, none⟩ (.int .i64 (k : Int)))) := Only.setCell (S := fun i => i = p) (p := ⟨p, 3, none⟩) rfl _
      have HP3 : Hid (RdCells p q g S 0 k .nilIface lb lr (w2.setCell ⟨p, 3, none⟩ (.int .i64 (k : Int)))) := hP3
      clear hP3
      rcases HKE.out with ⟨hk1, rfl⟩ | ⟨rfl, T, v, rfl⟩
      · have hkg : (k : Int) > 0 := by omega
        have hkn : ¬ ((k : Int) < 0) := by omega
        go_wp2
        refine bodyPost_ret (results_none rfl _ _ _) rfl ?_
        exact ⟨rfl, w2, HQ2.out, ⟨lb, lr, HP3.out⟩, HO3.out⟩
      · have HP4 : Hid (RdCells p q g S 0 0 .nilIface lb lr (w2.setCell ⟨p, 3, none⟩ (.int .i64 0))) := HP3.out
        have f4 := Lib.frozen_of_heap HP4.out 4
        have e4 : (w2.setCell ⟨p, 3, none⟩ (.int .i64 0)).cell? ⟨p, 4, none⟩ = some .nilIface := by rw [Lib.cell_of_heap HP4.out]; rfl
        have HO4 : Hid (Only (fun i => i = p) w2 ((w2.setCell ⟨p, 3, none⟩ (.int .i64 0)).setCell ⟨p, 4, none⟩ (.iface T v))) := (Only.setCell (S := fun i => i = p) (p := ⟨p, 3, none⟩) rfl _).trans (Only.setCell (S := fun i => i = p) (p := ⟨p, 4, none⟩) rfl _)
        go_wp2
        refine bodyPost_ret (results_none rfl _ _ _) rfl ?_
        exact ⟨rfl, w2, HQ2.out, ⟨lb, lr, HP4.out.store4 _⟩, HO4.out⟩
end Go.Proofs.Qxb6612850aFmt
