import Derived.Test.Qxb6613222aRows
import Derived.Test.Qxb6613222aBitPlain
import Derived.WalkKit
import Derived.ProofKit
import Derived.Deep.Light
import Derived.Deep.OwnRows
namespace Go.Proofs.Qxb6613222a
open Go.RowKit Go.Proofs.Qxb6613222a.Bit

/-- 'ZZinObject': the bit of the innermost level. -/
theorem inObject_any (b g n c : Nat) (d : Nat) (x : Nat) (w : World) (h0 : w.cell? ⟨b, 0, none⟩ = some (.slice (some ⟨g, 0, none⟩) n c)) (h1 : w.cell? ⟨b, 1, none⟩ = some (.int .i64 ((d : Int) + 1)))
    (hd : d / 64 < n) (hd2 : d ≤ 9223372036854775806) (hx : w.cell? ⟨g, d / 64, none⟩ = some (.int .u64 (x : Int))) (hlt : x < 18446744073709551616) :
    Calls Try.prog 13 #[.pointer (some ⟨b, 0, none⟩)] w fun e w' => e = .returned (.bool (x.testBit (d % 64))) ∧ w' = w := by
  have hdi : (d : Int) / 64 < (n : Int) := by omega
  rw [← test_bit x (d % 64) hlt]
  go_enter Try.func13, Try.ntmps13
  go_wp2
  go_ret
  exact ⟨rfl, rfl⟩

/-- 'ZZnewNesting'. -/
theorem newNesting_any (v : Option Addr) (n c : Nat) (d : Int) (w : World) :
    Calls Try.prog 14 #[.slice v n c, .int .i64 d] w fun e w' => e = .returned (.pointer (some ⟨w.heap.size, 0, none⟩)) ∧ w' = w.alloc (.cells #[.slice v n c, .int .i64 d] 39) := by
  go_enter Try.func14, Try.ntmps14
  go_wp2
  go_ret
  exact ⟨rfl, rfl⟩

/-- A row of words at the head of block g. -/
def Words (w : World) (g m : Nat) (f : Nat → Nat) : Prop :=
  (∀ j, j < m → w.cell? ⟨g, j, none⟩ = some (.int .u64 (f j : Int))) ∧ ∀ j, j < m → w.frozen? ⟨g, j, none⟩ = false

theorem Words.set {w : World} {g m : Nat} {f : Nat → Nat} (h : Words w g m f) {j v : Nat} (hj : j < m) {f' : Nat → Nat} (hv : f' j = v) (ho : ∀ i, i ≠ j → f' i = f i) : Words (w.setCell ⟨g, j, none⟩ (.int .u64 (v : Int))) g m f' := by
  refine ⟨fun i hi => ?_, fun i hi => by rw [World.frozen?_setCell]; exact h.2 i hi⟩
  by_cases e : i = j
  · subst e
    rw [World.cell?_setCell_same _ _ _ (h.1 i hi), hv]
  · rw [World.cell?_setCell_other w ⟨g, j, none⟩ ⟨g, i, none⟩ _ (fun h => e (by injection h with _ h2; exact h2.symm)), h.1 i hi, ho i e]

theorem Words.keep {w w' : World} {g m : Nat} {f : Nat → Nat} (h : Words w g m f) (hc : ∀ j, w'.cell? ⟨g, j, none⟩ = w.cell? ⟨g, j, none⟩) (hf : ∀ j, w'.frozen? ⟨g, j, none⟩ = w.frozen? ⟨g, j, none⟩) : Words w' g m f :=
  ⟨fun j hj => by rw [hc, h.1 j hj], fun j hj => by rw [hf, h.2 j hj]⟩

theorem Words.made (w : World) (m : Nat) (t : TypeId) : Words (w.alloc (.cells (madeCells #[.int .u64 0] m) t)) w.heap.size m (fun _ => 0) := by
  refine ⟨fun j hj => ?_, fun j hj => by simp⟩
  rw [World.cell?_alloc_new]
  simp [madeCells, hj, Nat.mod_one]

end Go.Proofs.Qxb6613222a
