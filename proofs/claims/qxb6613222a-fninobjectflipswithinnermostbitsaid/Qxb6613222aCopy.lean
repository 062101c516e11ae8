import Derived.Test.Qxb6613222aNest
import Derived.Laws.IdiomCopy
import Derived.Laws.CopyOwn
import Derived.OwnWalk
namespace Go.Proofs.Qxb6613222a
open Go.RowKit Go.WideShapes
set_option linter.unusedVariables false

theorem setCells_size (b : Nat) : ∀ (vs : List Value) (o : Nat) (w : World), (w.setCells b o vs).heap.size = w.heap.size
  | [], _, _ => rfl
  | v :: r, o, w => by
    show ((w.setCell ⟨b, o, none⟩ v).setCells b (o + 1) r).heap.size = _
    rw [setCells_size b r, World.size_setCell]

theorem setCells_grown (b : Nat) : ∀ (vs : List Value) (o : Nat) (w : World), w.grownBy (w.setCells b o vs) (some b)
  | [], _, w => ⟨rfl, rfl, rfl, Nat.le_refl _, fun _ _ _ => rfl⟩
  | v :: r, o, w => by
    have h := setCells_grown b r (o + 1) (w.setCell ⟨b, o, none⟩ v)
    refine ⟨h.os, h.tape, h.output, by rw [setCells_size]; exact Nat.le_refl _, fun k hk hne => ?_⟩
    show ((w.setCell ⟨b, o, none⟩ v).setCells b (o + 1) r).heap[k]? = _
    rw [h.block k (by rw [World.size_setCell]; exact hk) hne, Below.heap_setCell _ _ _ _ (by intro e; exact hne (by rw [e]))]

/-- 'copy(dst, src)', dst a row of words that the call itself made, src as long. -/
theorem wpList_copy_words {w : World} {ops : Array Oper} {rest : List Oper} {o : Oper} {a : Act} {Q : Exit → Act → World → Prop} (hgd : o.guard = none) (d s : Operand)
    (ho : o.op = .call { callee := .builtin .copy, args := #[d, s], argTypes := #[28, 28] })
    (g n c b off sc : Nat) (hd : a.eval d = .slice (some ⟨g, 0, none⟩) n c) (hs : a.eval s = .slice (some ⟨b, off, none⟩) n sc) (f0 f : Nat → Nat) (hW : Words w g n f0)
    (hsrc : ∀ j, j < n → w.cell? ⟨b, off + j, none⟩ = some (.int .u64 (f j : Int)))
    (h : ∀ w', Words w' g n f → w.grownBy w' (some g) → w'.heap.size = w.heap.size → wpList Try.prog ops Q rest (a.put o.dst (goInt n)) w') : wpList Try.prog ops Q (o :: rest) a w := by
  refine wpList_plain hgd fun K hK => ?_
  have hlen : ((List.range n).map fun j => Value.int .u64 (f j : Int)).length = n := by simp
  have hin : ∀ j, j < n → (w.cell? ⟨g, 0 + j, none⟩).isSome = true := fun j hj => by rw [Nat.zero_add, hW.1 j hj]; rfl
  have hrun := run_copy_cells (P := Try.prog) w 28 28 o.type 29 g 0 n c ⟨b, off, none⟩ n sc ((List.range n).map fun j => Value.int .u64 (f j : Int)) Try.underlying28 (by kernel_rfl) (by simp)
    (fun j v hj => by
      rw [List.getElem?_map] at hj
      rcases Nat.lt_or_ge j n with hlt | hge
      · rw [List.getElem?_range hlt] at hj
        simp at hj
        rw [add_plain, hsrc j hlt, hj]
      · rw [List.getElem?_eq_none (by simpa using hge)] at hj
        simp at hj)
    (fun j hj => hin j (by simpa using hj))
    (fun j hj => by rw [Nat.zero_add]; exact hW.2 j (by simpa using hj))
    (fun v hv => by
      obtain ⟨j, _, rfl⟩ := List.mem_map.1 hv
      rfl)
  rw [hlen] at hrun
  unfold Oper.wp
  simp [execOp, ho, resolve, invoke, builtin, hd, hs, hrun, Result.andThen]
  refine hK _ _ (h _ ⟨fun j hj => ?_, fun j hj => ?_⟩ (setCells_grown _ _ _ _) (setCells_size _ _ _ _))
  · have e := World.cell?_setCells_in g ((List.range n).map fun j => Value.int .u64 (f j : Int)) 0 w (fun j hj => hin j (by simpa using hj)) j (by simpa using hj)
    rw [Nat.zero_add] at e
    rw [e]
    simp
  · rw [World.frozen?_setCells]
    exact hW.2 j hj

theorem Words.grown {w w' : World} {g h m : Nat} {f : Nat → Nat} (hW : Words w g m f) (hg : w.grownBy w' (some h)) (hlt : g < w.heap.size) (hne : g ≠ h) : Words w' g m f :=
  Words.keep hW (fun j => World.cell?_of_block (hg.block g hlt (by simpa using hne))) (fun j => World.frozen?_of_block (hg.block g hlt (by simpa using hne)))

theorem Words.alloc {w : World} {g m : Nat} {f : Nat → Nat} (hW : Words w g m f) (hlt : g < w.heap.size) (o : Obj) : Words (w.alloc o) g m f :=
  Words.keep hW (fun j => World.cell?_alloc_past _ _ _ hlt) (fun j => World.frozen?_alloc_past _ _ _ hlt)

theorem Words.other {w : World} {g m : Nat} {f : Nat → Nat} (hW : Words w g m f) {p : Addr} (hne : g ≠ p.block) (v : Value) : Words (w.setCell p v) g m f :=
  Words.keep hW (fun j => World.cell?_setCell_other _ _ _ _ (fun e => hne (by rw [e]))) (fun j => World.frozen?_setCell _ _ _ _)
end Go.Proofs.Qxb6613222a
