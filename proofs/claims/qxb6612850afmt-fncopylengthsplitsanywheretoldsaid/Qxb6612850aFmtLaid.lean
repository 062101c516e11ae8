/- What the two cards share: a start in which the seven listed variables hold what their initialisers lay; the sentinels off 'laid'; a slice of bytes that came in. -/
import Derived.Test.Qxb6612850aFmtExactBig
import Derived.Test.Qxb6612850aFmtCards
import Derived.Test.Qxb6612850aFmtTie
import Derived.ProofKit
import Derived.OpenShut
import Derived.ChangeOld
import Derived.Below
import Derived.Stop.JoinedAt
import Derived.Stop.JoinedTold
import Derived.Stop.LaidErr
import Derived.Deep.DeepWitnessRef
namespace Go.Proofs.Qxb6612850aFmt
open Go.ChangeShapes Go.WideShapes Go.ChangeAt Go.RowKit Go.Extern.Stop Go.Stop Go.Extern
set_option linter.unusedVariables false

theorem Tryf.own : ownKnob Tryf.prog.godebug = none := by kernel_rfl
theorem Tryf.laidOut : laidOutB Tryf.prog = true := by kernel_rfl
theorem Tryf.star : "*" ++ "errors.errorString" = "*errors.errorString" := by decide
theorem Tryf.row123 (u : TypeId) (h : Tryf.prog.typeName? 3 u = some "*errors.errorString") : u = 123 :=
  typeName_ptr_named (nm := "errors.errorString") (by rw [Tryf.star]; kernel_rfl) (by kernel_rfl) (by decide) u (by rw [Tryf.star]; exact h)

/-- The settled world with seven blocks more: the seven errors' structs. -/
noncomputable def laidWorld (os : Os) : World :=
  let N := (World.settled Tryf.prog os).heap.size
  let w0 := World.holding Tryf.prog os ⟨#[
    .cells #[.string ⟨#[115, 104, 111, 114, 116, 32, 119, 114, 105, 116, 101]⟩] 125,
    .cells #[.string ⟨#[69, 79, 70]⟩] 125,
    .cells #[.string ⟨#[117, 110, 101, 120, 112, 101, 99, 116, 101, 100, 32, 69, 79, 70]⟩] 125,
    .cells #[.string ⟨#[109, 117, 108, 116, 105, 112, 108, 101, 32, 82, 101, 97, 100, 32, 99, 97, 108, 108, 115, 32, 114, 101, 116, 117, 114, 110, 32, 110, 111, 32, 100, 97, 116, 97, 32, 111, 114, 32, 101, 114, 114, 111, 114]⟩] 125,
    .cells #[.string ⟨#[98, 117, 102, 105, 111, 58, 32, 98, 117, 102, 102, 101, 114, 32, 102, 117, 108, 108]⟩] 125,
    .cells #[.string ⟨#[98, 117, 102, 105, 111, 58, 32, 110, 101, 103, 97, 116, 105, 118, 101, 32, 99, 111, 117, 110, 116]⟩] 125,
    .cells #[.string ⟨#[98, 117, 102, 105, 111, 58, 32, 114, 101, 97, 100, 101, 114, 32, 114, 101, 116, 117, 114, 110, 101, 100, 32, 110, 101, 103, 97, 116, 105, 118, 101, 32, 99, 111, 117, 110, 116, 32, 102, 114, 111, 109, 32, 82, 101, 97, 100]⟩] 125], #[], []⟩
  let put (h : Array Obj) (g : Nat) (k : Nat) : Array Obj := h.modify g fun
    | .cells _ t frozen => .cells #[.iface 123 (.pointer (some ⟨N + k, 0, none⟩))] t frozen
    | o => o
  { w0 with heap := put (put (put (put (put (put (put w0.heap 0 0) 3 1) 4 2) 6 3) 2 4) 1 5) 5 6 }

noncomputable abbrev N0 : Nat := (World.settled Tryf.prog default).heap.size
set_option maxRecDepth 1000000 in
theorem laid_met (os : Os) (args : Array Value) : laidMet Tryf.prog Rows.fnCopyLengthCopiesExactlyRow.laid ((laidWorld os).forCall (fun _ _ => 0) ⟨#[], args, []⟩).memory :=
  laidMet_of_run (ps := [.cell 0 0, .cell (N0 + 0) 0, .cell 3 0, .cell (N0 + 1) 0, .cell 4 0, .cell (N0 + 2) 0, .cell 6 0, .cell (N0 + 3) 0, .cell 2 0, .cell (N0 + 4) 0, .cell 1 0, .cell (N0 + 5) 0, .cell 5 0, .cell (N0 + 6) 0]) 8 (by kernel_rfl) (by kernel_rfl) (by kernel_rfl)

theorem cell_of_var {n : String} {g : Nat} {v : Value} {w : World} (hg : Tryf.prog.globalNamed n = some g) (h : w.var? Tryf.prog n = some #[v]) : w.cell? ⟨g, 0, none⟩ = some v := by
  unfold World.var? at h
  rw [hg] at h
  simp only [Option.bind_some] at h
  split at h
  · rename_i cs t fz hc
    have e : cs = #[v] := by injection h
    subst e
    simp [World.cell?, hc]
  · cases h

/-- The two sentinels that the road reads. -/
theorem sent_of_laid {F : Interp} {W : World} (hF : F.answers W.tape) (hL : laidMet Tryf.prog Rows.fnCopyLengthCopiesExactlyRow.laid W) : ∃ a3 a4 s, Sent F a3 a4 s W ∧ 3 < W.heap.size ∧ 4 < W.heap.size ∧ a4.block < W.heap.size := by
  obtain ⟨a3, t3, hv3, hc3, _, _⟩ := laid_sentinel (g := 3) hL.tail (by kernel_rfl) (by kernel_rfl) Tryf.underlying32 Tryf.row123 Tryf.underlying123 Tryf.underlying125 rfl rfl Tryf.underlying9 (by kernel_rfl) (by kernel_rfl)
  obtain ⟨a4, t4, hv4, hc4, _, _⟩ := laid_sentinel (g := 4) hL.tail.tail (by kernel_rfl) (by kernel_rfl) Tryf.underlying32 Tryf.row123 Tryf.underlying123 Tryf.underlying125 rfl rfl Tryf.underlying9 (by kernel_rfl) (by kernel_rfl)
  have h3 := cell_of_var (g := 3) (by kernel_rfl) hv3
  have h4 := cell_of_var (g := 4) (by kernel_rfl) hv4
  exact ⟨a3, a4, t4, ⟨hF, h3, h4, hc4⟩, World.block_lt_of_cell? W _ h3, World.block_lt_of_cell? W _ h4, World.block_lt_of_cell? W _ hc4⟩

/-- A slice of bytes that came in. -/
theorem bytes_in {H : Type} {enc : TypeId × Value → H} {W : World} {a : Option Addr} {len cap : Nat} {d : DataW H} {p : List MemPlace} (h : DataW.Trod enc Tryf.prog W 0 (fun _ => true) true 22 (.slice a len cap) d p) : ∃ L, IsBytes W a len cap L := by
  obtain ⟨fuel, hf⟩ := h
  rcases open_ints Tryf.underlying22 Tryf.underlying5 (by kernel_rfl) hf with ⟨hcs, _⟩ | ⟨x, l, c, zs, hcs, _, hl, hm, hz, _, hcell, hwz⟩
  · simp [Value.cells] at hcs
    obtain ⟨rfl, rfl, rfl⟩ := hcs
    exact ⟨[], rfl, fun v hv => by simp at hv, .inl ⟨rfl, rfl⟩, fun _ => rfl, Nat.le_refl _, by omega⟩
  · simp [Value.cells] at hcs
    obtain ⟨rfl, rfl, rfl⟩ := hcs
    have hz' : zs.length = cap := by simpa using hz
    refine ⟨(zs.take len).map (Value.int .u8), ?_, ?_, ?_, (fun e => by cases e), hl, by unfold maxLen at hm; omega⟩
    · rw [List.length_map, List.length_take]; omega
    · intro v hv
      obtain ⟨n, _, rfl⟩ := List.mem_map.1 hv
      exact ⟨n, rfl⟩
    · refine .inr ⟨_, rfl, fun j v hv => ?_⟩
      rw [List.getElem?_map, List.getElem?_take] at hv
      split at hv
      · rename_i hj
        have hj2 : j < zs.length := by omega
        rw [hcell j hj2]
        rw [List.getElem?_eq_getElem hj2] at hv
        simp only [Option.map_some] at hv
        rw [← hv, List.getD_eq_getElem?_getD, List.getElem?_eq_getElem hj2]
        rfl
      · simp at hv
end Go.Proofs.Qxb6612850aFmt
