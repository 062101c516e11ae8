/- bytes.Buffer: Len, grow, Write. -/
import Derived.Test.Qxb6612850aFmtSmall
import Derived.Test.Qxb6612850aFmtShelf
import Derived.Deep.RegionHeld3
import Derived.Deep.RegionLaw
import Derived.Deep.DeepFit
import Derived.Deep.DeepCutAuto
namespace Go.Proofs.Qxb6612850aFmt
open Go.RowKit Go.Deep
set_option linter.unusedVariables false

theorem len85 (b : Nat) (ao : Option Addr) (l cap : Nat) (w : World) (hl : l ≤ 9223372036854775807) (h0 : w.cell? ⟨b, 0, none⟩ = some (.slice ao l cap)) (h1 : w.cell? ⟨b, 1, none⟩ = some (.int .i64 0)) :
    Calls Tryf.prog 85 #[.pointer (some ⟨b, 0, none⟩)] w fun e w' => e = .returned (.int .i64 l) ∧ Same w w' := by
  go_enter Tryf.func85, Tryf.ntmps85
  go_wp2
  go_quiet (fail)
  go_wp2
  go_ret
  exact ⟨rfl, Same.drewN _ _⟩

/-- A bytes.Buffer in block b that has only been written and holds bs; its row, if it has one, lies from M on. -/
def IsBuf (M b : Nat) (bs : List Value) (w : World) : Prop :=
  b < M ∧ ∃ (v : Value) (lr : Int), w.heap[b]? = some (.cells #[v, .int .i64 0, .int .i8 lr] 50 (0, 0)) ∧
    ((v = .slice none 0 0 ∧ bs = []) ∨ ∃ (h cap : Nat) (cur : List Value), v = .slice (some ⟨h, 0, none⟩) bs.length cap ∧ M ≤ h ∧ Row w h cur ∧ cur.length = cap ∧ bs.length ≤ cap ∧ cap ≤ maxLen ∧ cur.take bs.length = bs ∧ 1 ≤ bs.length)

/-- What 'grow' leaves. -/
def Grew (b l n : Nat) (bs : List Value) (w w' : World) : Prop :=
  ∃ (h cap : Nat) (cur : List Value) (lr : Int), w'.heap[b]? = some (.cells #[.slice (some ⟨h, 0, none⟩) (l + n) cap, .int .i64 0, .int .i8 lr] 50 (0, 0)) ∧ w.heap.size ≤ h ∧ Row w' h cur ∧ cur.length = cap ∧ l + n ≤ cap ∧ cap ≤ maxLen ∧ cur.take l = bs ∧ Keeps w.heap.size (fun k => k = b) w w'

theorem run_makeN (n c : Nat) (hn : n ≤ c) (hc : c ≤ 281474976710656) (w : World) : (Instr.makeSlice 22 (.int .i64 (n : Int)) (.int .i64 (c : Int))).run Tryf.prog w = .ok (.slice (some ⟨w.heap.size, 0, none⟩) n c) (w.alloc (.cells (madeCells #[.int .u8 0] c) 5)) := by
  obtain ⟨i, hi, hz0, hz1, hz2⟩ := info_parts Tryf.info5
  have h := run_make (P := Tryf.prog) w 22 5 i (.int .u8 0) Tryf.underlying22 hi hz0 .i64 .i64 n c (by omega) (by omega) (by rw [hz2]; omega) (by omega)
  rw [hz1] at h
  simp at h
  exact h

set_option maxRecDepth 100000 in
set_option maxHeartbeats 1000000 in
/-- grow, nil, at most 64. -/
theorem grow_small (b n : Nat) (lr : Int) (w : World) (hb : w.heap[b]? = some (.cells #[.slice none 0 0, .int .i64 0, .int .i8 lr] 50 (0, 0))) (hn : 1 ≤ n) (hn2 : n ≤ 64) :
    Calls Tryf.prog 84 #[.pointer (some ⟨b, 0, none⟩), .int .i64 n] w fun e w' => e = .returned (.int .i64 0) ∧ Grew b 0 n [] w w' := by
  have c0 : w.cell? ⟨b, 0, none⟩ = some (.slice none 0 0) := by rw [Lib.cell_of_heap hb]; rfl
  have c1 : w.cell? ⟨b, 1, none⟩ = some (.int .i64 0) := by rw [Lib.cell_of_heap hb]; rfl
  have hmk : ∀ w : World, (Instr.makeSlice 22 (.int .i64 (n : Int)) (.int .i64 64)).run Tryf.prog w = _ := run_makeN n 64 (by omega) (by omega)
  have hnil := fun w => Lib.run_eql_slice_nil (P := Tryf.prog) w 22 5 none 0 0 0 0 Tryf.underlying22
  go_enter Tryf.func84, Tryf.ntmps84
  go_wp2_with fail
  refine (len85 b none 0 0 _ (by omega) c0 c1).mono ?_
  rintro e w1 ⟨rfl, hs⟩
  have hk : Keeps w.heap.size (fun k => k = b) w w1 := hs.keeps _ _
  have hz := hs.size
  have hb1 := hs.at hb
  clear c0 c1 hb hs
  have c0 : w1.cell? ⟨b, 0, none⟩ = some (.slice none 0 0) := by rw [Lib.cell_of_heap hb1]; rfl
  have c1 : w1.cell? ⟨b, 1, none⟩ = some (.int .i64 0) := by rw [Lib.cell_of_heap hb1]; rfl
  have f0 : w1.frozen? ⟨b, 0, none⟩ = false := Lib.frozen_of_heap hb1 0
  have hbl : b < w1.heap.size := (Array.getElem?_eq_some_iff.1 hb1).1
  have HB : Hid (w1.heap[b]? = some (.cells #[.slice none 0 0, .int .i64 0, .int .i8 lr] 50 (0, 0))) := hb1
  have HZ : Hid (w1.heap.size = w.heap.size) := hz
  have HK : Hid (Keeps w.heap.size (fun k => k = b) w w1) := hk
  clear hb1 hz hk
  go_wp2_with fail
  refine (Tryf.Buffer_tryGrow_none b none 0 0 n w1 c0 (by omega) (by unfold maxLen; omega) (by omega)).mono ?_
  rintro e w' ⟨rfl, hw⟩
  obtain rfl := hw.symm
  go_wp2
  go_ret
  refine ⟨rfl, w1.heap.size, 64, List.replicate 64 (.int .u8 0), lr, ?_, by rw [HZ.out]; exact Nat.le_refl _, ?_, by simp, by omega, by unfold maxLen; omega, rfl, ?_⟩
  · rw [Below.heap_alloc _ _ _ (by simpa using hbl), Lib.heap_setCell_same HB.out, Nat.zero_add]
    rfl
  · have h := Row.made (w1.setCell ⟨b, 0, none⟩ (.slice (some ⟨w1.heap.size, 0, none⟩) n 64)) 64
    rw [World.size_setCell] at h
    exact h
  · exact (HK.out.trans (Keeps.setCell (S := fun k => k = b) (p := ⟨b, 0, none⟩) (.inr rfl) _)).trans (Keeps.alloc (by rw [World.size_setCell, HZ.out]; exact Nat.le_refl _) _)

theorem grew_end {b l n cap2 : Nat} {lr : Int} {v0 : Value} {bs : List Value} {cells : Array Value} {w w1 w2 : World} (hz : w1.heap.size = w.heap.size) (hk : Keeps w.heap.size (fun k => k = b) w w1)
    (hb : w1.heap[b]? = some (.cells #[v0, .int .i64 0, .int .i8 lr] 50 (0, 0))) (hbl : b < w1.heap.size) (hbel : Below w1.heap.size w1.drew w2) (hN : w2.heap[w1.heap.size]? = some (.cells cells 5 (0, 0))) (hcs : cells.size = cap2) (hle : l + n ≤ cap2) (hcm : cap2 ≤ maxLen)
    (ht : cells.toList.take l = bs) (u : Value) :
    Grew b l n bs w (((w2.setCell ⟨b, 0, none⟩ u).setCell ⟨b, 1, none⟩ (.int .i64 0)).setCell ⟨b, 0, none⟩ (.slice (some ⟨w1.heap.size, 0, none⟩) (l + n) cap2)) := by
  have hb2 : w2.heap[b]? = some (.cells #[v0, .int .i64 0, .int .i8 lr] 50 (0, 0)) := (hbel.block b hbl).trans hb
  refine ⟨w1.heap.size, cap2, cells.toList, lr, ?_, by rw [hz]; exact Nat.le_refl _, ?_, by simpa using hcs, hle, hcm, ht, ?_⟩
  · rw [Lib.heap_setCell_same (Lib.heap_setCell_same (Lib.heap_setCell_same hb2 _) _)]
    rfl
  · unfold Row
    rw [Below.heap_setCell _ _ _ _ (by show _ ≠ b; omega), Below.heap_setCell _ _ _ _ (by show _ ≠ b; omega), Below.heap_setCell _ _ _ _ (by show _ ≠ b; omega), hN]
  · have k2 : Keeps w.heap.size (fun k => k = b) w w2 := hk.trans (Keeps.below (by rw [← hz]; exact ⟨hbel.os, hbel.tape, hbel.output, hbel.size, hbel.block⟩))
    exact ((k2.trans (Keeps.setCell (S := fun k => k = b) (p := ⟨b, 0, none⟩) (.inr rfl) _)).trans (Keeps.setCell (S := fun k => k = b) (p := ⟨b, 1, none⟩) (.inr rfl) _)).trans (Keeps.setCell (S := fun k => k = b) (p := ⟨b, 0, none⟩) (.inr rfl) _)

set_option maxRecDepth 100000 in
set_option maxHeartbeats 3000000 in
/-- grow, nil, more than 64. -/
theorem grow_big (b n : Nat) (lr : Int) (w : World) (hb : w.heap[b]? = some (.cells #[.slice none 0 0, .int .i64 0, .int .i8 lr] 50 (0, 0))) (hn : 64 < n) (hn2 : n ≤ 1099511627776) :
    Calls Tryf.prog 84 #[.pointer (some ⟨b, 0, none⟩), .int .i64 n] w fun e w' => e = .returned (.int .i64 0) ∧ Grew b 0 n [] w w' := by
  have c0 : w.cell? ⟨b, 0, none⟩ = some (.slice none 0 0) := by rw [Lib.cell_of_heap hb]; rfl
  have c1 : w.cell? ⟨b, 1, none⟩ = some (.int .i64 0) := by rw [Lib.cell_of_heap hb]; rfl
  have hnil := fun w => Lib.run_eql_slice_nil (P := Tryf.prog) w 22 5 none 0 0 0 0 Tryf.underlying22
  have hd : decide ((n : Int) ≤ 64) = false := decide_eq_false (by omega)
  go_enter Tryf.func84, Tryf.ntmps84
  go_wp2_with fail
  refine (len85 b none 0 0 _ (by omega) c0 c1).mono ?_
  rintro e w1 ⟨rfl, hs⟩
  have hk : Keeps w.heap.size (fun k => k = b) w w1 := hs.keeps _ _
  have hz := hs.size
  have hb1 := hs.at hb
  clear c0 c1 hb hs
  have c0 : w1.cell? ⟨b, 0, none⟩ = some (.slice none 0 0) := by rw [Lib.cell_of_heap hb1]; rfl
  have c1 : w1.cell? ⟨b, 1, none⟩ = some (.int .i64 0) := by rw [Lib.cell_of_heap hb1]; rfl
  have f0 : w1.frozen? ⟨b, 0, none⟩ = false := Lib.frozen_of_heap hb1 0
  have f1 : w1.frozen? ⟨b, 1, none⟩ = false := Lib.frozen_of_heap hb1 1
  have hbl : b < w1.heap.size := (Array.getElem?_eq_some_iff.1 hb1).1
  have HB : Hid (w1.heap[b]? = some (.cells #[.slice none 0 0, .int .i64 0, .int .i8 lr] 50 (0, 0))) := hb1
  have HZ : Hid (w1.heap.size = w.heap.size) := hz
  have HK : Hid (Keeps w.heap.size (fun k => k = b) w w1) := hk
  clear hb1 hz hk
  go_wp2_with fail
  refine (Tryf.Buffer_tryGrow_none b none 0 0 n w1 c0 (by omega) (by unfold maxLen; omega) (by omega)).mono ?_
  rintro e w' ⟨rfl, hw⟩
  obtain rfl := hw.symm
  go_wp2_with fail
  have hwn : IntKind.i64.wrap (n : Int) = n := by rw [IntKind.wrap_i64]; omega
  go_region_with (
      go_at_call 86
      refine (Tryf.bytes_growSlice_nil n _ (by omega) (by omega)).mono ?_
      rintro e w2 ⟨cap2, cells, rfl, hN, hcsz, hcap2, hcm2, hbel⟩
      have hbk2 : w2.heap[b]? = some (.cells #[.slice none 0 0, .int .i64 0, .int .i8 lr] 50 (0, 0)) := (hbel.block b hbl).trans HB.out
      have d0 : w2.cell? ⟨b, 0, none⟩ = some (.slice none 0 0) := by rw [Lib.cell_of_heap hbk2]; rfl
      have d1 : w2.cell? ⟨b, 1, none⟩ = some (.int .i64 0) := by rw [Lib.cell_of_heap hbk2]; rfl
      have e0 : w2.frozen? ⟨b, 0, none⟩ = false := Lib.frozen_of_heap hbk2 0
      have e1 : w2.frozen? ⟨b, 1, none⟩ = false := Lib.frozen_of_heap hbk2 1)
  all_goals
    go_wp2
    go_ret
    have hfin := grew_end (l := 0) (n := n) (v0 := .slice none 0 0) (bs := []) (cells := cells) HZ.out HK.out HB.out hbl hbel hN hcsz (by omega) hcm2 (by simp) (.slice (some ⟨w1.heap.size, 0, none⟩) 0 cap2)
    rw [Nat.zero_add] at hfin
    exact ⟨rfl, hfin⟩

end Go.Proofs.Qxb6612850aFmt
