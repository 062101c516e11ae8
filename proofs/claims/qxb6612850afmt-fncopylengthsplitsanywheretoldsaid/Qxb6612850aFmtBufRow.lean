/- bytes.Buffer: grow of a row, Write. -/
import Derived.Test.Qxb6612850aFmtBuf
namespace Go.Proofs.Qxb6612850aFmt
open Go.RowKit Go.Deep
set_option linter.unusedVariables false

set_option maxRecDepth 100000 in
set_option maxHeartbeats 3000000 in
/-- grow, where there is a row without room. -/
theorem grow_row (b g l cap n : Nat) (cur : List Value) (lr : Int) (w : World) (hb : w.heap[b]? = some (.cells #[.slice (some ⟨g, 0, none⟩) l cap, .int .i64 0, .int .i8 lr] 50 (0, 0))) (hg : Row w g cur) (hcl : cur.length = cap) (hlc : l ≤ cap) (h1 : Byts (cur.take l))
    (hl1 : 1 ≤ l) (hn : 1 ≤ n) (hroom : cap - l < n) (hlim : l + n ≤ 1099511627776) :
    Calls Tryf.prog 84 #[.pointer (some ⟨b, 0, none⟩), .int .i64 n] w fun e w' => e = .returned (.int .i64 l) ∧ Grew b l n (cur.take l) w w' := by
  have c0 : w.cell? ⟨b, 0, none⟩ = some (.slice (some ⟨g, 0, none⟩) l cap) := by rw [Lib.cell_of_heap hb]; rfl
  have c1 : w.cell? ⟨b, 1, none⟩ = some (.int .i64 0) := by rw [Lib.cell_of_heap hb]; rfl
  have hnil := fun w => Lib.run_eql_slice_nil (P := Tryf.prog) w 22 5 (some ⟨g, 0, none⟩) l cap 0 0 Tryf.underlying22
  have hd : decide ((n : Int) ≤ (cap : Int) / 2 - (l : Int)) = false := decide_eq_false (by omega)
  have hl0 : ((l : Int) == 0) = false := by simp; omega
  have H1 : Hid (Byts (cur.take l)) := h1
  have HL : Hid (cur.length = cap) := hcl
  clear h1 hcl
  go_enter Tryf.func84, Tryf.ntmps84
  go_wp2_with fail
  refine (len85 b _ l cap _ (by omega) c0 c1).mono ?_
  rintro e w1 ⟨rfl, hs⟩
  have hk : Keeps w.heap.size (fun k => k = b) w w1 := hs.keeps _ _
  have hz := hs.size
  have hb1 := hs.at hb
  have hg1 := hs.at hg
  clear c0 c1 hb hs hg
  have c0 : w1.cell? ⟨b, 0, none⟩ = some (.slice (some ⟨g, 0, none⟩) l cap) := by rw [Lib.cell_of_heap hb1]; rfl
  have c1 : w1.cell? ⟨b, 1, none⟩ = some (.int .i64 0) := by rw [Lib.cell_of_heap hb1]; rfl
  have f0 : w1.frozen? ⟨b, 0, none⟩ = false := Lib.frozen_of_heap hb1 0
  have f1 : w1.frozen? ⟨b, 1, none⟩ = false := Lib.frozen_of_heap hb1 1
  have hbl : b < w1.heap.size := (Array.getElem?_eq_some_iff.1 hb1).1
  have HB : Hid (w1.heap[b]? = some (.cells #[.slice (some ⟨g, 0, none⟩) l cap, .int .i64 0, .int .i8 lr] 50 (0, 0))) := hb1
  have HG : Hid (w1.heap[g]? = some (.cells cur.toArray 5 (0, 0))) := hg1
  have HZ : Hid (w1.heap.size = w.heap.size) := hz
  have HK : Hid (Keeps w.heap.size (fun k => k = b) w w1) := hk
  clear hb1 hz hk hg1
  go_wp2_with fail
  refine (Tryf.Buffer_tryGrow_none b _ l cap n w1 c0 (by omega) (by unfold maxLen; omega) (by omega)).mono ?_
  rintro e w' ⟨rfl, hw⟩
  obtain rfl := hw.symm
  go_wp2_with fail
  have hwn : IntKind.i64.wrap (n : Int) = n := by rw [IntKind.wrap_i64]; omega
  have hgb : g ≠ b := by intro e; have h1 := HG.out; rw [e, HB.out] at h1; cases h1
  go_region_with (
      go_at_call 86
      refine (Tryf.bytes_growSlice_row g l cap n cur.toArray w1.drew HG.out HL.out (by omega) (by omega) (by omega) (by omega) H1.out.one).mono ?_
      rintro e w2 ⟨cap2, cells, rfl, hN, hcsz, htk, hcap2, hcm2, hbel⟩
      have hbk2 : w2.heap[b]? = some (.cells #[.slice (some ⟨g, 0, none⟩) l cap, .int .i64 0, .int .i8 lr] 50 (0, 0)) := (hbel.block b hbl).trans HB.out
      have d0 : w2.cell? ⟨b, 0, none⟩ = some (.slice (some ⟨g, 0, none⟩) l cap) := by rw [Lib.cell_of_heap hbk2]; rfl
      have d1 : w2.cell? ⟨b, 1, none⟩ = some (.int .i64 0) := by rw [Lib.cell_of_heap hbk2]; rfl
      have e0 : w2.frozen? ⟨b, 0, none⟩ = false := Lib.frozen_of_heap hbk2 0
      have e1 : w2.frozen? ⟨b, 1, none⟩ = false := Lib.frozen_of_heap hbk2 1)
  all_goals
    go_wp2
    go_ret
    have hfin := grew_end (l := l) (n := n) (v0 := .slice (some ⟨g, 0, none⟩) l cap) (bs := cur.take l) (cells := cells) HZ.out HK.out HB.out hbl hbel hN hcsz (by omega) hcm2 (by simpa using htk) (.slice (some ⟨w1.heap.size, 0, none⟩) l cap2)
    exact ⟨rfl, hfin⟩
end Go.Proofs.Qxb6612850aFmt
