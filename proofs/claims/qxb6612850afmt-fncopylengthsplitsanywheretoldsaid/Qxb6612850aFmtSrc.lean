/- The source: bytes.NewReader, bufio.NewReaderSize, ZZNewSrc. -/
import Derived.Test.Qxb6612850aFmtCopyLaw
import Derived.Test.Qxb6612850aFmtBuf
namespace Go.Proofs.Qxb6612850aFmt
open Go.RowKit Go.Deep
set_option linter.unusedVariables false

/-- A bufio.Reader in block p over the bytes.Reader in block q, its own array block g of S bytes; the bytes.Reader reads D (block d); pos of them have been handed out; the array's bytes r .. e are the next ones. -/
structure SrcAt (p q g d S r e pos : Nat) (buf D : List Value) (err : Value) (w : World) : Prop where
  pq : p ≠ q
  pg : p ≠ g
  qg : q ≠ g
  hp : ∃ lb lr : Int, w.heap[p]? = some (.cells #[.slice (some ⟨g, 0, none⟩) S S, .iface 45 (.pointer (some ⟨q, 0, none⟩)), .int .i64 (r : Int), .int .i64 (e : Int), err, .int .i64 lb, .int .i64 lr] 79 (0, 0))
  hq : ∃ (ao : Option Addr) (pr : Int), w.heap[q]? = some (.cells #[.slice ao D.length D.length, .int .i64 ((pos + (e - r) : Nat) : Int), .int .i64 pr] 82 (0, 0)) ∧ ((ao = none ∧ D = []) ∨ (ao = some ⟨d, 0, none⟩ ∧ Row w d D ∧ d ≠ p ∧ d ≠ q ∧ d ≠ g))
  hg : Row w g buf
  len : buf.length = S
  re : r ≤ e
  eS : e ≤ S
  S0 : 16 ≤ S
  S1 : S ≤ 65536
  fit : pos + (e - r) ≤ D.length
  same : (buf.drop r).take (e - r) = (D.drop pos).take (e - r)
  hD : Byts D
  hbuf : Byts buf
  lim : D.length ≤ 1048576

/-- Only blocks that S names have changed. -/
structure Only (S : Nat → Prop) (w w' : World) : Prop where
  size : w'.heap.size = w.heap.size
  keeps : ∀ M, Keeps M S w w'

theorem Only.refl (S : Nat → Prop) (w : World) : Only S w w := ⟨rfl, fun _ => Keeps.refl _ _ _⟩
theorem Only.trans {S : Nat → Prop} {a b c : World} (h : Only S a b) (k : Only S b c) : Only S a c := ⟨k.size.trans h.size, fun M => (h.keeps M).trans (k.keeps M)⟩
theorem Only.at {S : Nat → Prop} {a b : World} (h : Only S a b) {k : Nat} (hs : ¬ S k) : b.heap[k]? = a.heap[k]? := (h.keeps (k + 1)).block k (by omega) hs
theorem Only.of_same {S : Nat → Prop} {a b : World} (h : Same a b) : Only S a b := ⟨h.size, fun M => h.keeps M S⟩
theorem Only.setCell {S : Nat → Prop} {w : World} {p : Addr} (hp : S p.block) (v : Value) : Only S w (w.setCell p v) := ⟨World.size_setCell _ _ _, fun M => Keeps.setCell (.inr hp) v⟩
theorem Only.mono {S S' : Nat → Prop} {a b : World} (h : Only S a b) (hS : ∀ k, S k → S' k) : Only S' a b := ⟨h.size, fun M => (h.keeps M).mono (Nat.le_refl _) (fun k _ => hS k)⟩
theorem Only.cell {S : Nat → Prop} {a b : World} (h : Only S a b) {x o : Nat} (hs : ¬ S x) : b.cell? ⟨x, o, none⟩ = a.cell? ⟨x, o, none⟩ := World.cell?_of_block (w := a) (a := ⟨x, o, none⟩) (h.at hs)

/-- A change elsewhere leaves a source as it was. -/
theorem SrcAt.keep {p q g d S r e pos : Nat} {buf D : List Value} {err : Value} {w w' : World} (h : SrcAt p q g d S r e pos buf D err w) (hp : w'.heap[p]? = w.heap[p]?) (hq : w'.heap[q]? = w.heap[q]?) (hg : w'.heap[g]? = w.heap[g]?) (hd : w'.heap[d]? = w.heap[d]?) : SrcAt p q g d S r e pos buf D err w' := by
  obtain ⟨lb, lr, a4⟩ := h.hp
  obtain ⟨ao, pr, a5, a6⟩ := h.hq
  refine ⟨h.pq, h.pg, h.qg, ⟨lb, lr, hp.trans a4⟩, ⟨ao, pr, hq.trans a5, ?_⟩, hg.trans h.hg, h.len, h.re, h.eS, h.S0, h.S1, h.fit, h.same, h.hD, h.hbuf, h.lim⟩
  rcases a6 with a6 | ⟨b1, b2, b3⟩
  · exact .inl a6
  · exact .inr ⟨b1, hd.trans b2, b3⟩

def rdSize (z : Int) : Nat := (max z 16).toNat
theorem rdSize_ge (z : Int) : 16 ≤ rdSize z := by unfold rdSize; omega
theorem rdSize_le (z : Int) (hz : z ≤ 65536) : rdSize z ≤ 65536 := by unfold rdSize; omega

theorem newReader22 (ao : Option Addr) (l c : Nat) (w : World) : Calls Tryf.prog 22 #[.slice ao l c] w fun e w' => e = .returned (.pointer (some ⟨w.heap.size, 0, none⟩)) ∧ w' = w.alloc (.cells #[.slice ao l c, .int .i64 0, .int .i64 (-1)] 82) := by
  go_enter Tryf.func22, Tryf.ntmps22
  go_wp2
  go_ret
  exact ⟨rfl, rfl⟩

theorem assert_src (a : Addr) (w : World) : (Instr.typeAssert (.iface 45 (.pointer (some a))) 76 24 true).run Tryf.prog w = .ok (.tuple #[.pointer none, .bool false]) w := by kernel_rfl

theorem reset35 (p g S : Nat) (q : Addr) (w : World) (hp : w.heap[p]? = some (.cells #[.slice none 0 0, .nilIface, .int .i64 0, .int .i64 0, .nilIface, .int .i64 0, .int .i64 0] 79 (0, 0))) :
    Calls Tryf.prog 35 #[.pointer (some ⟨p, 0, none⟩), .slice (some ⟨g, 0, none⟩) S S, .iface 45 (.pointer (some q))] w fun e w' => e = .returned (.tuple #[]) ∧ w'.heap[p]? = some (.cells #[.slice (some ⟨g, 0, none⟩) S S, .iface 45 (.pointer (some q)), .int .i64 0, .int .i64 0, .nilIface, .int .i64 (-1), .int .i64 (-1)] 79 (0, 0)) ∧ (∀ k, k ≠ p → w'.heap[k]? = w.heap[k]?) ∧ Keeps w.heap.size (fun k => k = p) w w' ∧ w'.heap.size = w.heap.size := by
  have c0 : w.cell? ⟨p, 0, none⟩ = some (.slice none 0 0) := by rw [Lib.cell_of_heap hp]; rfl
  have c1 : w.cell? ⟨p, 1, none⟩ = some (.nilIface) := by rw [Lib.cell_of_heap hp]; rfl
  have c2 : w.cell? ⟨p, 2, none⟩ = some (.int .i64 0) := by rw [Lib.cell_of_heap hp]; rfl
  have c3 : w.cell? ⟨p, 3, none⟩ = some (.int .i64 0) := by rw [Lib.cell_of_heap hp]; rfl
  have c4 : w.cell? ⟨p, 4, none⟩ = some (.nilIface) := by rw [Lib.cell_of_heap hp]; rfl
  have c5 : w.cell? ⟨p, 5, none⟩ = some (.int .i64 0) := by rw [Lib.cell_of_heap hp]; rfl
  have c6 : w.cell? ⟨p, 6, none⟩ = some (.int .i64 0) := by rw [Lib.cell_of_heap hp]; rfl
  have f0 := Lib.frozen_of_heap hp 0
  have f1 := Lib.frozen_of_heap hp 1
  have f2 := Lib.frozen_of_heap hp 2
  have f3 := Lib.frozen_of_heap hp 3
  have f4 := Lib.frozen_of_heap hp 4
  have f5 := Lib.frozen_of_heap hp 5
  have f6 := Lib.frozen_of_heap hp 6
  have HP : Hid _ := hp
  clear hp
  go_enter Tryf.func35, Tryf.ntmps35
  go_wp2
  go_end0
  refine ⟨rfl, ?_, ?_, ?_, by simp only [World.size_setCell]⟩
  · rw [Lib.heap_setCell_same (Lib.heap_setCell_same (Lib.heap_setCell_same (Lib.heap_setCell_same (Lib.heap_setCell_same (Lib.heap_setCell_same (Lib.heap_setCell_same HP.out _) _) _) _) _) _)]
    rfl
  · intro k hk
    simp only [Below.heap_setCell _ _ _ _ (show k ≠ Addr.block ⟨p, _, none⟩ from hk)]
  · have key : ∀ (w : World) (M j : Nat) (v : Value), Keeps M (fun k => k = p) w (w.setCell ⟨p, j, none⟩ v) := fun w M j v => Keeps.setCell (S := fun k => k = p) (p := ⟨p, j, none⟩) (.inr rfl) v
    exact (key _ _ _ _).trans ((key _ _ _ _).trans ((key _ _ _ _).trans ((key _ _ _ _).trans ((key _ _ _ _).trans ((key _ _ _ _).trans (key _ _ _ _))))))

set_option maxRecDepth 100000 in
theorem newReaderSize21 (q : Nat) (z : Int) (w : World) (hz : z ≤ 65536) (hz2 : -9223372036854775808 ≤ z) :
    Calls Tryf.prog 21 #[.iface 45 (.pointer (some ⟨q, 0, none⟩)), .int .i64 z] w fun e w' => e = .returned (.pointer (some ⟨w.heap.size, 0, none⟩)) ∧ Below w.heap.size w w' ∧ w'.heap.size = w.heap.size + 2 ∧ Row w' (w.heap.size + 1) (List.replicate (rdSize z) (.int .u8 0)) ∧
      w'.heap[w.heap.size]? = some (.cells #[.slice (some ⟨w.heap.size + 1, 0, none⟩) (rdSize z) (rdSize z), .iface 45 (.pointer (some ⟨q, 0, none⟩)), .int .i64 0, .int .i64 0, .nilIface, .int .i64 (-1), .int .i64 (-1)] 79 (0, 0)) := by
  have hta := assert_src ⟨q, 0, none⟩
  obtain ⟨S, hS⟩ : ∃ S : Nat, rdSize z = S := ⟨_, rfl⟩
  rw [hS]
  have hmax : max z 16 = (S : Int) := by unfold rdSize at hS; omega
  have hmk := run_makeN S S (by omega) (by omega)
  have HM : Hid (∀ w : World, Row (w.alloc (.cells (madeCells #[.int .u8 0] S) 5)) w.heap.size (List.replicate S (.int .u8 0))) := fun w => Row.made w S
  generalize madeCells #[.int .u8 0] S = cells at hmk HM
  generalize hR : List.replicate S (Value.int .u8 0) = L at *
  clear hR hS
  go_enter Tryf.func21, Tryf.ntmps21
  go_wp2_with fail
  obtain ⟨w0, hw0⟩ : ∃ w0, w0 = w.alloc (.cells #[.slice none 0 0, .nilIface, .int .i64 0, .int .i64 0, .nilIface, .int .i64 0, .int .i64 0] 79) := ⟨_, rfl⟩
  have hs0 : w0.heap.size = w.heap.size + 1 := by rw [hw0, World.size_alloc]
  have hb0 : w0.heap[w.heap.size]? = some (.cells #[.slice none 0 0, .nilIface, .int .i64 0, .int .i64 0, .nilIface, .int .i64 0, .int .i64 0] 79 (0, 0)) := by rw [hw0]; exact heap_alloc_new _ _
  have hB0 : Below w.heap.size w w0 := by rw [hw0]; exact (Below.refl _ w).alloc (Nat.le_refl _) _
  rw [← hw0]
  clear hw0
  obtain ⟨w1, hw1⟩ : ∃ w1, w1 = w0.alloc (.cells cells 5) := ⟨_, rfl⟩
  have hs1 : w1.heap.size = w.heap.size + 2 := by rw [hw1, World.size_alloc, hs0]
  have hb1 : w1.heap[w.heap.size]? = some (.cells #[.slice none 0 0, .nilIface, .int .i64 0, .int .i64 0, .nilIface, .int .i64 0, .int .i64 0] 79 (0, 0)) := by rw [hw1, Below.heap_alloc _ _ _ (by omega)]; exact hb0
  have hB1 : Below w.heap.size w w1 := by rw [hw1]; exact hB0.alloc (by omega) _
  have hr1 : Row w1 (w.heap.size + 1) L := by rw [hw1, ← hs0]; exact HM.out w0
  rw [← hw1]
  clear hw1
  first | rw [hs0] | skip
  refine (reset35 w.heap.size (w.heap.size + 1) S ⟨q, 0, none⟩ w1 hb1).mono ?_
  rintro e w2 ⟨rfl, hp2, hk2, hK2, hs2⟩
  have HA : Hid (Below w.heap.size w w2) := hB1.trans ((hK2.mono (M' := w.heap.size) (S' := fun _ => False) (by omega) (fun k hk h => by omega)).toBelow (fun _ _ h => h))
  have HS2 : Hid (w2.heap.size = w.heap.size + 2) := hs2.trans hs1
  have HR2 : Hid (Row w2 (w.heap.size + 1) L) := by
    show Row w2 (w.heap.size + 1) L
    unfold Row
    rw [hk2 _ (by omega)]
    exact hr1
  have HP2 : Hid _ := hp2
  clear hp2 hk2 hK2 hs2 hr1 hB1 hb1 hs1 hB0 hb0 hs0 hmk
  go_wp2
  go_ret
  exact ⟨rfl, HA.out, HS2.out, HR2.out, HP2.out⟩

/-- ZZNewSrc over a clone of the data: nothing handed out yet. -/
theorem newSrc7 (d c : Nat) (D : List Value) (ao : Option Addr) (z : Int) (w : World) (hz : z ≤ 65536) (hz2 : -9223372036854775808 ≤ z) (hD : Byts D) (hl : D.length ≤ 1048576)
    (ha : (ao = none ∧ D = []) ∨ (ao = some ⟨d, 0, none⟩ ∧ Row w d D)) :
    Calls Tryf.prog 7 #[.slice ao D.length D.length, .int .i64 z] w fun e w' => e = .returned (.pointer (some ⟨w.heap.size + 1, 0, none⟩)) ∧ Below w.heap.size w w' ∧ w'.heap.size = w.heap.size + 3 ∧
      SrcAt (w.heap.size + 1) w.heap.size (w.heap.size + 2) d (rdSize z) 0 0 0 (List.replicate (rdSize z) (.int .u8 0)) D .nilIface w' := by
  have HA : Hid ((ao = none ∧ D = []) ∨ (ao = some ⟨d, 0, none⟩ ∧ Row w d D)) := ha
  have HD : Hid (Byts D) := hD
  clear ha hD
  generalize hN : D.length = N at *
  have HN : Hid (D.length = N) := hN
  clear hN
  go_enter Tryf.func7, Tryf.ntmps7
  go_wp2_with fail
  refine (newReader22 ao N N w).mono ?_
  rintro e w1 ⟨rfl, hw1⟩
  have hs1 : w1.heap.size = w.heap.size + 1 := by rw [hw1, World.size_alloc]
  have hb1 : w1.heap[w.heap.size]? = some (.cells #[.slice ao N N, .int .i64 0, .int .i64 (-1)] 82 (0, 0)) := by rw [hw1]; exact heap_alloc_new _ _
  have hB1 : Below w.heap.size w w1 := by rw [hw1]; exact (Below.refl _ w).alloc (Nat.le_refl _) _
  clear hw1
  go_wp2_with fail
  refine (newReaderSize21 w.heap.size z w1 hz hz2).mono ?_
  rintro e w2 ⟨rfl, hB2, hs2, hr2, hp2⟩
  rw [hs1] at hB2 hs2 hr2 hp2
  have HB : Hid (Below w.heap.size w w2) := hB1.trans (hB2.mono (by omega))
  have HS : Hid (w2.heap.size = w.heap.size + 3) := hs2
  have HSrc : Hid (SrcAt (w.heap.size + 1) w.heap.size (w.heap.size + 2) d (rdSize z) 0 0 0 (List.replicate (rdSize z) (.int .u8 0)) D .nilIface w2) := by
    refine ⟨by omega, by omega, by omega, ⟨_, _, hp2⟩, ⟨ao, -1, ?_, ?_⟩, hr2, by simp, Nat.le_refl _, Nat.zero_le _, rdSize_ge z, rdSize_le z hz, Nat.zero_le _, by simp, HD.out, fun v hv => ⟨0, (List.mem_replicate.1 hv).2⟩, by rw [HN.out]; exact hl⟩
    · rw [hB2.block _ (by omega), hb1, HN.out]; rfl
    · rcases HA.out with h | ⟨h1, h2⟩
      · exact .inl h
      · have := h2.lt
        exact .inr ⟨h1, by unfold Row; rw [HB.out.block _ this]; exact h2, by omega, by omega, by omega⟩
  clear hB2 hs2 hr2 hp2 hb1 hB1
  have hs1' := hs1
  rw [hs1']
  clear hs1 hs1'
  go_wp2
  go_ret
  exact ⟨rfl, HB.out, HS.out, HSrc.out⟩
end Go.Proofs.Qxb6612850aFmt
