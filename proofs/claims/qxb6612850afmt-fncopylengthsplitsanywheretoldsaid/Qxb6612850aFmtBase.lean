/- The ground of the walks over bufio and bytes: frames, rows of bytes, clones. -/
import Derived.Test.Qxb6612850aFmtRows
import Derived.WalkKit
import Derived.ProofKit
import Derived.WalkSpells
import Derived.Deep.Light
import Derived.Deep.OwnRows
import Derived.Deep.QuietTactic
import Derived.BigQuiet
import Derived.Lib.Builder
import Derived.Lib.BufferMore
import Derived.Laws.CopyOwn
namespace Go.Proofs.Qxb6612850aFmt
open Go.RowKit Go.Deep
set_option linter.unusedVariables false
theorem Tryf.info5 : (Tryf.prog.info? 5).map (fun i => (i.zero, i.size, i.bytes)) = some (some (.int .u8 0), 1, 1) := by kernel_rfl

/-- Of the blocks below M all that S does not name are as they were; the streams are as they were; no block has gone. -/
structure Keeps (M : Nat) (S : Nat → Prop) (w w' : World) : Prop where
  os : w'.os = w.os
  tape : w'.tape = w.tape
  output : w'.output = w.output
  size : w.heap.size ≤ w'.heap.size
  block : ∀ k, k < M → ¬ S k → w'.heap[k]? = w.heap[k]?

theorem Keeps.refl (M : Nat) (S : Nat → Prop) (w : World) : Keeps M S w w := ⟨rfl, rfl, rfl, Nat.le_refl _, fun _ _ _ => rfl⟩
theorem Keeps.trans {M : Nat} {S : Nat → Prop} {a b c : World} (h : Keeps M S a b) (k : Keeps M S b c) : Keeps M S a c :=
  ⟨k.os.trans h.os, k.tape.trans h.tape, k.output.trans h.output, Nat.le_trans h.size k.size, fun i hi hs => (k.block i hi hs).trans (h.block i hi hs)⟩
theorem Keeps.mono {M M' : Nat} {S S' : Nat → Prop} {a b : World} (h : Keeps M S a b) (hM : M' ≤ M) (hS : ∀ k, k < M' → S k → S' k) : Keeps M' S' a b :=
  ⟨h.os, h.tape, h.output, h.size, fun i hi hs => h.block i (by omega) (fun e => hs (hS i hi e))⟩
theorem Keeps.drewN (M : Nat) (S : Nat → Prop) (w : World) (n : Nat) : Keeps M S w (w.drewN n) := ⟨rfl, rfl, rfl, Nat.le_refl _, fun _ _ _ => rfl⟩
theorem Keeps.drew (M : Nat) (S : Nat → Prop) (w : World) : Keeps M S w w.drew := ⟨rfl, rfl, rfl, Nat.le_refl _, fun _ _ _ => rfl⟩
theorem Keeps.alloc {M : Nat} {S : Nat → Prop} {w : World} (hM : M ≤ w.heap.size) (o : Obj) : Keeps M S w (w.alloc o) :=
  ⟨rfl, rfl, rfl, by simp, fun k hk _ => Below.heap_alloc _ _ _ (by omega)⟩
theorem Keeps.setCell {M : Nat} {S : Nat → Prop} {w : World} {p : Addr} (hp : M ≤ p.block ∨ S p.block) (v : Value) : Keeps M S w (w.setCell p v) :=
  ⟨rfl, rfl, rfl, by simp, fun k hk hs => Below.heap_setCell _ _ _ _ (fun e => hp.elim (fun h => by omega) (fun h => hs (e ▸ h)))⟩
theorem Keeps.setRow {M : Nat} {S : Nat → Prop} {w : World} {g : Nat} (hp : M ≤ g ∨ S g) (cs : Array Value) : Keeps M S w (w.setRow g cs) :=
  ⟨rfl, rfl, rfl, by simp, fun k hk hs => setRow_other _ _ _ _ (fun e => hp.elim (fun h => by omega) (fun h => hs (e ▸ h)))⟩
theorem Keeps.below {M : Nat} {S : Nat → Prop} {a b : World} (h : Below M a b) : Keeps M S a b := ⟨h.os, h.tape, h.output, h.size, fun k hk _ => h.block k hk⟩
theorem Keeps.toBelow {M : Nat} {S : Nat → Prop} {a b : World} (h : Keeps M S a b) (hS : ∀ k, k < M → ¬ S k) : Below M a b := ⟨h.os, h.tape, h.output, h.size, fun k hk => h.block k hk (hS k hk)⟩
theorem Keeps.at {M : Nat} {S : Nat → Prop} {a b : World} (h : Keeps M S a b) {k : Nat} {o : Obj} (ho : a.heap[k]? = some o) (hk : k < M) (hs : ¬ S k) : b.heap[k]? = some o := (h.block k hk hs).trans ho

/-- Only draws lie between. -/
def Same (w w' : World) : Prop := w'.heap = w.heap ∧ w'.os = w.os ∧ w'.tape = w.tape ∧ w'.output = w.output
theorem Same.refl (w : World) : Same w w := ⟨rfl, rfl, rfl, rfl⟩
theorem Same.drewN (w : World) (n : Nat) : Same w (w.drewN n) := ⟨rfl, rfl, rfl, rfl⟩
theorem Same.trans {a b c : World} (h : Same a b) (k : Same b c) : Same a c := ⟨k.1.trans h.1, k.2.1.trans h.2.1, k.2.2.1.trans h.2.2.1, k.2.2.2.trans h.2.2.2⟩
theorem Same.keeps {a b : World} (h : Same a b) (M : Nat) (S : Nat → Prop) : Keeps M S a b := ⟨h.2.1, h.2.2.1, h.2.2.2, by rw [h.1]; exact Nat.le_refl _, fun k _ _ => by rw [h.1]⟩
theorem Same.at {a b : World} (h : Same a b) {k : Nat} {o : Obj} (ho : a.heap[k]? = some o) : b.heap[k]? = some o := by rw [h.1]; exact ho
theorem Same.size {a b : World} (h : Same a b) : b.heap.size = a.heap.size := by rw [h.1]

/-- Block g is a row of bytes, none frozen, and holds 'cur'. -/
def Row (w : World) (g : Nat) (cur : List Value) : Prop := w.heap[g]? = some (.cells cur.toArray 5 (0, 0))

/-- All are bytes. -/
def Byts (l : List Value) : Prop := ∀ v ∈ l, ∃ n : Int, v = .int .u8 n

theorem Byts.one {l : List Value} (h : Byts l) : ∀ v ∈ l, v.oneCell' = true := fun v hv => by obtain ⟨n, rfl⟩ := h v hv; rfl
theorem Byts.take {l : List Value} (h : Byts l) (n : Nat) : Byts (l.take n) := fun v hv => h v (List.mem_of_mem_take hv)
theorem Byts.drop {l : List Value} (h : Byts l) (n : Nat) : Byts (l.drop n) := fun v hv => h v (List.mem_of_mem_drop hv)
theorem Byts.append {l m : List Value} (h : Byts l) (k : Byts m) : Byts (l ++ m) := fun v hv => by
  rcases List.mem_append.1 hv with e | e
  · exact h v e
  · exact k v e
theorem Byts.get {l : List Value} (h : Byts l) (i : Nat) (hi : i < l.length) : ∃ n : Int, l[i]? = some (.int .u8 n) := by
  obtain ⟨n, e⟩ := h l[i] (List.getElem_mem hi)
  exact ⟨n, by rw [List.getElem?_eq_getElem hi, e]⟩

theorem Row.lt {w : World} {g : Nat} {cur : List Value} (h : Row w g cur) : g < w.heap.size := (Array.getElem?_eq_some_iff.1 h).1
theorem Row.cell {w : World} {g : Nat} {cur : List Value} (h : Row w g cur) (j : Nat) : w.cell? ⟨g, j, none⟩ = cur[j]? := by
  rw [Lib.cell_of_heap h]; simp
theorem Row.frozen {w : World} {g : Nat} {cur : List Value} (h : Row w g cur) (j : Nat) : w.frozen? ⟨g, j, none⟩ = false := Lib.frozen_of_heap h j
theorem Row.set {w : World} {g : Nat} {cur : List Value} (h : Row w g cur) (j : Nat) (v : Value) : Row (w.setCell ⟨g, j, none⟩ v) g (cur.set j v) := by
  unfold Row
  rw [Lib.heap_setCell_same h]
  simp
theorem Row.keep {w w' : World} {g M : Nat} {S : Nat → Prop} {cur : List Value} (h : Row w g cur) (k : Keeps M S w w') (hg : g < M) (hs : ¬ S g) : Row w' g cur := k.at h hg hs
theorem Row.drewN {w : World} {g : Nat} {cur : List Value} (h : Row w g cur) (n : Nat) : Row (w.drewN n) g cur := h
theorem Row.made (w : World) (n : Nat) : Row (w.alloc (.cells (madeCells #[.int .u8 0] n) 5)) w.heap.size (List.replicate n (.int .u8 0)) := by
  unfold Row
  rw [heap_alloc_new]
  congr 2
  apply Array.ext
  · simp [madeCells]
  · intro i h1 h2
    simp [madeCells, Nat.mod_one]

/-- The bytes 'l' lie from the address a on (no address where there is none). -/
def Reads (w : World) (a : Option Addr) (l : List Value) : Prop := (a = none ∧ l = []) ∨ ∃ x, a = some x ∧ ∀ j v, l[j]? = some v → w.cell? (x.add j) = some v

theorem Reads.cell {w : World} {x : Addr} {l : List Value} (h : Reads w (some x) l) {j : Nat} {v : Value} (hv : l[j]? = some v) : w.cell? (x.add j) = some v := by
  rcases h with ⟨h, _⟩ | ⟨y, h, hc⟩
  · cases h
  · cases h; exact hc j v hv
theorem Reads.below {w w' : World} {a : Option Addr} {l : List Value} (h : Reads w a l) (hB : Below w.heap.size w w') : Reads w' a l := by
  rcases h with h | ⟨x, rfl, hc⟩
  · exact .inl h
  · refine .inr ⟨x, rfl, fun j v hv => ?_⟩
    rw [hB.cell (World.block_lt_of_cell? w _ (hc j v hv))]
    exact hc j v hv
theorem Reads.spot {w : World} {x : Addr} {l : List Value} (h : Reads w (some x) l) (hl : 0 < l.length) : x.spot = none ∧ x.block < w.heap.size := by
  have h0 := h.cell (j := 0) (List.getElem?_eq_getElem hl)
  refine ⟨by simpa [Addr.add] using World.cell?_spot h0, ?_⟩
  simpa [Addr.add] using World.block_lt_of_cell? w _ h0
theorem Row.reads {w : World} {g : Nat} {cur : List Value} (h : Row w g cur) : Reads w (some ⟨g, 0, none⟩) cur := .inr ⟨_, rfl, fun j v hv => by rw [Go.WideShapes.add_plain, Nat.zero_add, h.cell]; exact hv⟩
theorem Row.reads_at {w : World} {g : Nat} {cur : List Value} (h : Row w g cur) (o n : Nat) : Reads w (some ⟨g, o, none⟩) ((cur.drop o).take n) := .inr ⟨_, rfl, fun j v hv => by
  rw [Go.WideShapes.add_plain, h.cell]
  rw [List.getElem?_take] at hv
  split at hv
  · rw [List.getElem?_drop] at hv; exact hv
  · cases hv⟩

end Go.Proofs.Qxb6612850aFmt
