import Derived.Test.Qxb6612850aHas
import Derived.WalkSpells
import Derived.Deep.Light
import Derived.Deep.OwnRows
namespace Go.Proofs.Qxb6612850a
open Go.RowKit Go.Deep
set_option linter.unusedVariables false
theorem Try.info5 : (Try.prog.info? 5).map (fun i => (i.zero, i.size, i.bytes)) = some (some (.int .u8 0), 1, 1) := by kernel_rfl

/-- A row of bytes from offset 'off' of block g on. -/
def Byts (w : World) (g off m : Nat) (f : Nat → Int) : Prop := ∀ j, j < m → w.cell? ⟨g, off + j, none⟩ = some (.int .u8 (f j))

/-- A row of bytes of which nothing is frozen. -/
def Free (w : World) (g m : Nat) : Prop := ∀ j, j < m → (∃ v, w.cell? ⟨g, j, none⟩ = some (.int .u8 v)) ∧ w.frozen? ⟨g, j, none⟩ = false

theorem Free.set {w : World} {g m : Nat} (h : Free w g m) {j : Nat} {v : Int} : Free (w.setCell ⟨g, j, none⟩ (.int .u8 v)) g m := by
  intro i hi
  refine ⟨?_, by rw [World.frozen?_setCell]; exact (h i hi).2⟩
  obtain ⟨u, hu⟩ := (h i hi).1
  by_cases e : i = j
  · subst e
    exact ⟨v, World.cell?_setCell_same _ _ _ hu⟩
  · exact ⟨u, by rw [World.cell?_setCell_other w ⟨g, j, none⟩ ⟨g, i, none⟩ _ (fun h => e (by injection h with _ h2; exact h2.symm))]; exact hu⟩

theorem Free.made (w : World) (m : Nat) (t : TypeId) : Free (w.alloc (.cells (madeCells #[.int .u8 0] m) t)) w.heap.size m := by
  intro j hj
  refine ⟨⟨0, ?_⟩, by simp⟩
  rw [World.cell?_alloc_new]
  simp [madeCells, hj, Nat.mod_one]

theorem clone_nil (w : World) : Calls Try.prog 6 #[.slice none 0 0] w fun e w' => e = .returned (.slice none 0 0) ∧ w = w' := by
  have hnil := fun w => Lib.run_eql_slice_nil (P := Try.prog) w 22 5 none 0 0 0 0 Try.underlying22
  go_enter Try.func6, Try.ntmps6
  go_wp2
  go_ret
  exact ⟨rfl, rfl⟩

set_option maxHeartbeats 400000 in
theorem clone_some (b off n c : Nat) (f : Nat → Int) (w : World) (hb : 0 < n → b < w.heap.size) (hn : n ≤ 1048576) (hcell : Byts w b off n f) :
    Calls Try.prog 6 #[.slice (some ⟨b, off, none⟩) n c] w fun e w' => e = .returned (.slice (some ⟨w.heap.size, 0, none⟩) n n) ∧ Below w.heap.size w w' ∧ w'.heap.size = w.heap.size + 1 ∧ Byts w' w.heap.size 0 n f ∧ Free w' w.heap.size n := by
  have hmk := run_make_row' (P := Try.prog) 22 5 (.int .u8 0) 1 Try.underlying22 Try.info5 rfl .i64 .i64 n (by omega) (by omega)
  have hnil := fun w => Lib.run_eql_slice_nil (P := Try.prog) w 22 5 (some ⟨b, off, none⟩) n c 0 0 Try.underlying22
  go_enter Try.func6, Try.ntmps6
  go_wp2
  clear hmk hnil
  go_loopw [4] (fun i wr => ∃ k : Nat, k ≤ n ∧ i = .int .i64 k ∧ Below w.heap.size w wr ∧ wr.heap.size = w.heap.size + 1 ∧ Byts wr w.heap.size 0 k f ∧ Free wr w.heap.size n) (fun i _ => n - (intOf i).toNat)
  case atStart => exact ⟨0, Nat.zero_le _, rfl, (Below.refl _ _).alloc (Nat.le_refl _) _, by simp, fun j hj => absurd hj (Nat.not_lt_zero _), Free.made _ _ _⟩
  case round =>
    obtain ⟨k, hk, rfl, hB, hsz, hY, hF⟩ := hrel
    by_cases hlt : k < n
    · have hc := (hB.cell (p := ⟨b, off + k, none⟩) (hb (by omega))).trans (hcell k hlt)
      obtain ⟨⟨v, hv⟩, hfz⟩ := hF k hlt
      have HY : Hid (Byts (wr.setCell ⟨w.heap.size, k, none⟩ (.int .u8 (f k))) w.heap.size 0 (k + 1) f) := by
        intro j hj
        rw [Nat.zero_add]
        by_cases e : j = k
        · subst e
          exact World.cell?_setCell_same _ _ _ hv
        · rw [World.cell?_setCell_other wr ⟨w.heap.size, k, none⟩ ⟨w.heap.size, j, none⟩ _ (fun h => e (by injection h with _ h2; exact h2.symm))]
          have := hY j (by omega)
          rw [Nat.zero_add] at this
          exact this
      have HF : Hid (Free (wr.setCell ⟨w.heap.size, k, none⟩ (.int .u8 (f k))) w.heap.size n) := hF.set
      clear hY hF hcell
      go_wp2
      go_roundw
      case rel => go_light; exact ⟨k + 1, by omega, by go_num, hB.setCell (Nat.le_refl _) _, by simpa using hsz, HY.out, HF.out⟩
      case measure => go_light; simp [intOf]; omega
    · have hkn : k = n := by omega
      subst hkn
      go_wp2
      go_ret
      exact ⟨rfl, hB, hsz, hY, hF⟩
end Go.Proofs.Qxb6612850a
