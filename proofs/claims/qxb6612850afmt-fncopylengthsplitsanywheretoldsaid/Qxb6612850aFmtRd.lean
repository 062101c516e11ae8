/- bytes.Reader.Read. -/
import Derived.Test.Qxb6612850aFmtSrc
import Derived.Test.Qxb6612850aFmtWrite
namespace Go.Proofs.Qxb6612850aFmt
open Go.RowKit Go.Deep
set_option linter.unusedVariables false

theorem read89_eof (q i l : Nat) (ao : Option Addr) (pr : Int) (v E : Value) (w : World) (hq : w.heap[q]? = some (.cells #[.slice ao l l, .int .i64 (i : Int), .int .i64 pr] 82 (0, 0))) (hi : l ≤ i) (hl : i ≤ 1048576) (hE : w.cell? ⟨3, 0, none⟩ = some E) :
    Calls Tryf.prog 89 #[.pointer (some ⟨q, 0, none⟩), v] w fun e w' => e = .returned (.tuple #[.int .i64 0, E]) ∧ Same w w' := by
  have c0 : w.cell? ⟨q, 0, none⟩ = some (.slice ao l l) := by rw [Lib.cell_of_heap hq]; rfl
  have c1 : w.cell? ⟨q, 1, none⟩ = some (.int .i64 (i : Int)) := by rw [Lib.cell_of_heap hq]; rfl
  clear hq
  go_enter Tryf.func89, Tryf.ntmps89
  go_wp2
  go_quiet (fail)
  go_wp2
  go_quiet (fail)
  go_wp2
  go_ret2
  exact ⟨rfl, Same.drewN _ _⟩

/-- What one read leaves: the row x has taken the next r bytes of D, the reader has gone on by r. -/
structure ReadDone (q d x off i r : Nat) (D cur : List Value) (w w' : World) : Prop where
  hq : w'.heap[q]? = some (.cells #[.slice (some ⟨d, 0, none⟩) D.length D.length, .int .i64 ((i + r : Nat) : Int), .int .i64 (-1)] 82 (0, 0))
  hx : Row w' x (splice cur off ((D.drop i).take r))
  only : Only (fun k => k = x ∨ k = q) w w'

set_option maxRecDepth 100000 in
theorem read89_some (q d x off n cap i N r : Nat) (D cur : List Value) (pr : Int) (w : World) (hN : D.length = N) (hq : w.heap[q]? = some (.cells #[.slice (some ⟨d, 0, none⟩) N N, .int .i64 (i : Int), .int .i64 pr] 82 (0, 0))) (hi : i < N) (hl : N ≤ 1048576) (hd : Row w d D) (hDb : Byts D)
    (hx : Row w x cur) (hfit : off + n ≤ cur.length) (hr : r = Nat.min (N - i) n) (hxq : x ≠ q) (hxd : x ≠ d) (hdq : d ≠ q) (hn2 : n ≤ 9223372036854775807) :
    Calls Tryf.prog 89 #[.pointer (some ⟨q, 0, none⟩), .slice (some ⟨x, off, none⟩) n cap] w fun e w' => e = .returned (.tuple #[.int .i64 (r : Int), .nilIface]) ∧ ReadDone q d x off i r D cur w w' := by
  have c0 : w.cell? ⟨q, 0, none⟩ = some (.slice (some ⟨d, 0, none⟩) N N) := by rw [Lib.cell_of_heap hq]; rfl
  have c1 : w.cell? ⟨q, 1, none⟩ = some (.int .i64 (i : Int)) := by rw [Lib.cell_of_heap hq]; rfl
  have c2 : w.cell? ⟨q, 2, none⟩ = some (.int .i64 pr) := by rw [Lib.cell_of_heap hq]; rfl
  have f2 := Lib.frozen_of_heap hq 2
  have hrN : i + r ≤ N ∧ r ≤ n := by rw [hr]; simp only [Nat.min_def]; split <;> omega
  obtain ⟨cs, hcs⟩ : ∃ cs, cs = (D.drop i).take r := ⟨_, rfl⟩
  have hcl : cs.length = r := by rw [hcs, List.length_take, List.length_drop]; omega
  have hcb : Byts cs := by rw [hcs]; exact (hDb.drop i).take r
  have hNi : ¬ N = i := by omega
  have hiN : i ≤ N := by omega
  have HQ : Hid _ := hq
  have HX : Hid (Row w x cur) := hx
  have HDr : Hid (Row w d D) := hd
  have H2 : Hid (cs.length = r) := hcl
  have H3 : Hid (r = Nat.min (N - i) n) := hr
  have H5 : Hid (off + r ≤ cur.length) := by show off + r ≤ cur.length; omega
  have H6 : Hid _ := hcb.one
  have HCS : Hid _ := hcs
  have HN : Hid _ := hN
  clear hq hx hd hDb hfit hr hcs hcl hcb hN
  go_enter Tryf.func89, Tryf.ntmps89
  go_wp2
  go_quiet (fail)
  go_wp2_with fail
  obtain ⟨w1, hw1⟩ : ∃ w1, w1 = (w.drewN nq).setCell ⟨q, 2, none⟩ (.int .i64 (-1)) := ⟨_, rfl⟩
  rw [← hw1]
  have hq1 : w1.heap[q]? = some (.cells #[.slice (some ⟨d, 0, none⟩) N N, .int .i64 (i : Int), .int .i64 (-1)] 82 (0, 0)) := by rw [hw1, Lib.heap_setCell_same (w := w.drewN nq) HQ.out]; rfl
  have hx1 : Row w1 x cur := by unfold Row; rw [hw1, Below.heap_setCell _ _ _ _ (by show x ≠ q; exact hxq)]; exact HX.out
  have hd1 : Row w1 d D := by unfold Row; rw [hw1, Below.heap_setCell _ _ _ _ (by show d ≠ q; exact hdq)]; exact HDr.out
  have hrest1 : ∀ k, k ≠ q → w1.heap[k]? = w.heap[k]? := by intro k hk; rw [hw1, Below.heap_setCell _ _ _ _ (by show k ≠ q; exact hk)]; rfl
  have hsz1 : w1.heap.size = w.heap.size := by rw [hw1, World.size_setCell]; rfl
  have hK1 : ∀ M, Keeps M (fun k => k = x ∨ k = q) w w1 := by intro M; rw [hw1]; exact (Keeps.drewN _ _ _ _).trans (Keeps.setCell (S := fun k => k = x ∨ k = q) (p := ⟨q, 2, none⟩) (.inr (.inr rfl)) _)
  have H4 : Hid (∀ j v, cs[j]? = some v → w1.cell? ((⟨d, i, none⟩ : Addr).add j) = some v) := by
    intro j v hv
    rw [Go.WideShapes.add_plain, hd1.cell]
    rw [HCS.out, List.getElem?_take] at hv
    split at hv
    · rw [List.getElem?_drop] at hv; exact hv
    · cases hv
  clear c0 c1 c2 f2 hw1
  have c0 : w1.cell? ⟨q, 0, none⟩ = some (.slice (some ⟨d, 0, none⟩) N N) := by rw [Lib.cell_of_heap hq1]; rfl
  have c1 : w1.cell? ⟨q, 1, none⟩ = some (.int .i64 (i : Int)) := by rw [Lib.cell_of_heap hq1]; rfl
  have hq2 : (w1.drew.setRow x (splice cur off cs).toArray).heap[q]? = some (.cells #[.slice (some ⟨d, 0, none⟩) N N, .int .i64 (i : Int), .int .i64 (-1)] 82 (0, 0)) := by rw [setRow_other _ _ _ _ (fun e => hxq e.symm)]; exact hq1
  have d1 : (w1.drew.setRow x (splice cur off cs).toArray).cell? ⟨q, 1, none⟩ = some (.int .i64 (i : Int)) := by rw [Lib.cell_of_heap hq2]; rfl
  have e1 := Lib.frozen_of_heap hq2 1
  have HQ2 : Hid _ := hq2
  have H1 : Hid (Row w1.drew x cur) := hx1
  have HR1 : Hid _ := hrest1
  have HS1 : Hid _ := hsz1
  have HK1 : Hid _ := hK1
  clear hq2 hx1 hrest1 hsz1 hK1 hd1 hq1
  have HEND : Hid (ReadDone q d x off i r D cur w ((w1.drew.setRow x (splice cur off cs).toArray).setCell ⟨q, 1, none⟩ (.int .i64 ((i : Int) + (r : Int))))) := by
    refine ⟨?_, ?_, ?_, ?_⟩
    · rw [Lib.heap_setCell_same HQ2.out, HN.out]
      simp
    · unfold Row
      rw [Below.heap_setCell _ _ _ _ (by show x ≠ q; exact hxq), ← HCS.out]
      exact H1.out.splice off cs
    · rw [World.size_setCell]
      have : (w1.drew.setRow x (splice cur off cs).toArray).heap.size = w1.heap.size := by simp
      rw [this]; exact HS1.out
    · intro M
      exact (HK1.out M).trans ((Keeps.drew _ _ _).trans ((Keeps.setRow (S := fun k => k = x ∨ k = q) (.inr (.inl rfl)) _).trans (Keeps.setCell (S := fun k => k = x ∨ k = q) (p := ⟨q, 1, none⟩) (.inr (.inr rfl)) _)))
  go_region_law (refine step_copy_n rfl (.tmp 20) (.tmp 29) rfl (some ⟨x, off, none⟩) (some ⟨d, i, none⟩) n cap (N - i) (N - i) (by simp [Act.eval, Act.put]) (by simp [Act.eval, Act.put]) x off r cur cs H1.out H2.out H3.out (fun h => ⟨rfl, _, rfl, H4.out⟩) H5.out H6.out ?_)
  all_goals go_wp2
  all_goals go_ret2
  all_goals exact ⟨rfl, HEND.out⟩
end Go.Proofs.Qxb6612850aFmt
