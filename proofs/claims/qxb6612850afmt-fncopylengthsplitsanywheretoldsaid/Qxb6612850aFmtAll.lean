/- io.ReadAll: what its loop keeps. -/
import Derived.Test.Qxb6612850aFmtRead
namespace Go.Proofs.Qxb6612850aFmt
open Go.RowKit Go.Deep
set_option linter.unusedVariables false

/-- A slice that lies at the head of a row of bytes of its own, from block B on, but not block x. -/
def Chunk (w : World) (B x : Nat) (v : Value) (data : List Value) : Prop :=
  ∃ g cap cur, v = .slice (some ⟨g, 0, none⟩) data.length cap ∧ B ≤ g ∧ g ≠ x ∧ Row w g cur ∧ cur.length = cap ∧ data.length ≤ cap ∧ cur.take data.length = data ∧ Byts cur

/-- The chunks put aside. -/
def Chunks (w : World) (B x : Nat) : List Value → List (List Value) → Prop
  | [], [] => True
  | v :: vs, d :: ds => Chunk w B x v d ∧ Chunks w B x vs ds
  | _, _ => False

theorem Chunk.mono {w w' : World} {B x y : Nat} {v : Value} {data : List Value} (h : Chunk w B x v data) (hk : ∀ k cur, B ≤ k → k ≠ x → Row w k cur → Row w' k cur) (hy : ∀ k cur, B ≤ k → k ≠ x → Row w k cur → k ≠ y) : Chunk w' B y v data := by
  obtain ⟨g, cap, cur, h1, h2, h3, h4, h5⟩ := h
  exact ⟨g, cap, cur, h1, h2, hy _ _ h2 h3 h4, hk _ _ h2 h3 h4, h5⟩

theorem Chunks.mono {w w' : World} {B x y : Nat} : ∀ {vs : List Value} {ds : List (List Value)}, Chunks w B x vs ds → (∀ k cur, B ≤ k → k ≠ x → Row w k cur → Row w' k cur) → (∀ k cur, B ≤ k → k ≠ x → Row w k cur → k ≠ y) → Chunks w' B y vs ds
  | [], [], _, _, _ => trivial
  | _ :: _, _ :: _, h, hk, hy => ⟨h.1.mono hk hy, h.2.mono hk hy⟩
  | [], _ :: _, h, _, _ => h.elim
  | _ :: _, [], h, _, _ => h.elim

theorem Chunks.length {w : World} {B x : Nat} : ∀ {vs : List Value} {ds : List (List Value)}, Chunks w B x vs ds → vs.length = ds.length
  | [], [], _ => rfl
  | _ :: _, _ :: _, h => by simp [h.2.length]
  | [], _ :: _, h => h.elim
  | _ :: _, [], h => h.elim

theorem Chunks.get {w : World} {B x : Nat} : ∀ {vs : List Value} {ds : List (List Value)}, Chunks w B x vs ds → ∀ (i : Nat) (v : Value), vs[i]? = some v → ∃ d, ds[i]? = some d ∧ Chunk w B x v d
  | [], [], _, i, v, hv => by simp at hv
  | a :: vs, d :: ds, h, 0, v, hv => by simp at hv; exact ⟨d, rfl, hv ▸ h.1⟩
  | a :: vs, d :: ds, h, (i + 1), v, hv => by
    obtain ⟨e, h1, h2⟩ := h.2.get i v (by simpa using hv)
    exact ⟨e, by simpa using h1, h2⟩
  | [], _ :: _, h, _, _, _ => h.elim
  | _ :: _, [], h, _, _, _ => h.elim

theorem Chunks.snoc {w : World} {B x : Nat} {v : Value} {d : List Value} (hd : Chunk w B x v d) : ∀ {vs : List Value} {ds : List (List Value)}, Chunks w B x vs ds → Chunks w B x (vs ++ [v]) (ds ++ [d])
  | [], [], _ => ⟨hd, trivial⟩
  | _ :: _, _ :: _, h => ⟨h.1, Chunks.snoc hd h.2⟩
  | [], _ :: _, h => h.elim
  | _ :: _, [], h => h.elim

theorem ownsRow_keep {w w' : World} {base : Nat} {e : TypeId} {size : Nat} {v : Value} {n : Nat} {xs : List Value} (h : w.ownsRow base e size v n xs) (hk : ∀ g, v.ownBlock = some g → w'.heap[g]? = w.heap[g]?) : w'.ownsRow base e size v n xs := by
  refine ⟨h.1, ?_⟩
  rcases h.2 with hn | ⟨g, cap, cur, hv, hb, hg, rest⟩
  · exact .inl hn
  · exact .inr ⟨g, cap, cur, hv, hb, (hk g (by rw [hv]; rfl)).trans hg, rest⟩

theorem own22_ne {w : World} {B x : Nat} {v : Value} {n : Nat} {xs cur : List Value} (h : w.ownsRow B 22 1 v n xs) (hr : Row w x cur) : ∀ g, v.ownBlock = some g → g ≠ x := by
  intro g hg e
  subst e
  rcases h.2 with ⟨hn, _⟩ | ⟨g', cap, cur', hv, hb, hg', rest⟩
  · rw [hn] at hg; cases hg
  · rw [hv] at hg
    have e : g' = g := by injection hg
    subst e
    unfold Row at hr
    rw [hr] at hg'
    injection hg' with h1
    injection h1 with _ h2
    exact absurd h2 (by decide)

/-- What ReadAll's loop keeps. B: the blocks from there on are its own; D.drop pos is to come in all, t of it has been read. -/
structure AllAt (sp sq sg sd SS pos B t : Nat) (D : List Value) (w : World) (bb l cap m nx : Nat) (v6 : Value) (vs : List Value) (ds : List (List Value)) (cur : List Value) (wr : World) : Prop where
  lts : sp < B ∧ sq < B ∧ sg < B ∧ sd < B ∧ 3 < B
  hB : B ≤ bb
  row : Row wr bb cur
  clen : cur.length = cap
  byts : Byts cur
  room : l ≤ cap
  capm : cap ≤ 9223372036854775807
  own : wr.ownsRow B 22 1 v6 vs.length vs
  chunks : Chunks wr B bb vs ds
  data : ds.flatten ++ cur.take l = (D.drop pos).take t
  src : SrcHas sp sq sg sd SS (pos + t) D wr
  fit : pos + t ≤ D.length
  m1 : m ≤ cap
  m2 : nx ≤ 2 * m
  m3 : 256 ≤ nx ∧ 256 ≤ m
  keeps : Keeps B (fun i => i = sp ∨ i = sq ∨ i = sg) w wr
  size : B ≤ wr.heap.size
  cnt : vs.length ≤ ds.flatten.length

section
variable {sp sq sg sd SS pos B t : Nat} {D : List Value} {w : World} {bb l cap m nx : Nat} {v6 : Value} {vs : List Value} {ds : List (List Value)} {cur : List Value} {wr : World}

theorem SrcHas.limit (h : SrcHas sp sq sg sd SS pos D w) : D.length ≤ 1048576 := by
  obtain ⟨r, e, buf, h⟩ := h
  exact h.lim

theorem SrcHas.bytes (h : SrcHas sp sq sg sd SS pos D w) : Byts D := by
  obtain ⟨r, e, buf, h⟩ := h
  exact h.hD

theorem SrcHas.keep' {w' : World} (h : SrcHas sp sq sg sd SS pos D w) (hp : w'.heap[sp]? = w.heap[sp]?) (hq : w'.heap[sq]? = w.heap[sq]?) (hg : w'.heap[sg]? = w.heap[sg]?) (hd : w'.heap[sd]? = w.heap[sd]?) : SrcHas sp sq sg sd SS pos D w' := by
  obtain ⟨r, e, buf, h⟩ := h
  exact ⟨r, e, buf, h.keep hp hq hg hd⟩

theorem AllAt.sum (h : AllAt sp sq sg sd SS pos B t D w bb l cap m nx v6 vs ds cur wr) : ds.flatten.length + l = t ∧ t ≤ 1048576 := by
  have h1 := congrArg List.length h.data
  have h2 := h.fit
  have h3 := h.src.limit
  have h4 := h.room
  rw [List.length_append, List.length_take, List.length_take, List.length_drop, h.clen] at h1
  omega

theorem AllAt.eof {v : Value} (h : AllAt sp sq sg sd SS pos B t D w bb l cap m nx v6 vs ds cur wr) (hE : w.cell? ⟨3, 0, none⟩ = some v) (h3 : sp ≠ 3 ∧ sq ≠ 3 ∧ sg ≠ 3) : wr.cell? ⟨3, 0, none⟩ = some v := by
  rw [← hE]
  exact World.cell?_of_block (w := w) (a := ⟨3, 0, none⟩) (h.keeps.block 3 h.lts.2.2.2.2 (fun e => by omega))

/-- Growth elsewhere. -/
theorem AllAt.grow {w' : World} (h : AllAt sp sq sg sd SS pos B t D w bb l cap m nx v6 vs ds cur wr) (k : Keeps wr.heap.size (fun _ => False) wr w') : AllAt sp sq sg sd SS pos B t D w bb l cap m nx v6 vs ds cur w' := by
  obtain ⟨a1, a2, a3, a4, a5⟩ := h.lts
  have hs := h.size
  have hk : ∀ i, i < wr.heap.size → w'.heap[i]? = wr.heap[i]? := fun i hi => k.block i hi (fun e => e)
  refine { h with row := ?_, own := ?_, chunks := ?_, src := ?_, keeps := ?_, size := ?_ }
  · exact (hk bb h.row.lt).trans h.row
  · exact ownsRow_keep h.own (fun g hg => hk g (h.own.lt g hg).2)
  · exact h.chunks.mono (fun i c _ _ hr => (hk i hr.lt).trans hr) (fun _ _ _ h _ => h)
  · exact h.src.keep' (hk _ (by omega)) (hk _ (by omega)) (hk _ (by omega)) (hk _ (by omega))
  · exact h.keeps.trans (k.mono hs (fun _ _ e => e.elim))
  · exact Nat.le_trans hs k.size

/-- One Read that gave k bytes. -/
theorem AllAt.read {k : Nat} {w' : World} (h : AllAt sp sq sg sd SS pos B t D w bb l cap m nx v6 vs ds cur wr) (hk : k ≤ cap - l) (hfit : pos + t + k ≤ D.length) (hS : SrcHas sp sq sg sd SS (pos + t + k) D w') (hO : Only (fun i => i = sp ∨ i = sq ∨ i = sg ∨ i = bb) wr w') (hX : Row w' bb (splice cur l ((D.drop (pos + t)).take k))) :
    AllAt sp sq sg sd SS pos B (t + k) D w bb (l + k) cap m nx v6 vs ds (splice cur l ((D.drop (pos + t)).take k)) w' := by
  obtain ⟨a1, a2, a3, a4, a5⟩ := h.lts
  have hs := h.size
  have hB := h.hB
  have hrm := h.room
  have hsz := hO.size
  have hcs : ((D.drop (pos + t)).take k).length = k := by rw [List.length_take, List.length_drop]; omega
  have hcl := h.clen
  have hsum := h.sum
  refine { h with row := hX, clen := ?_, byts := ?_, room := by omega, own := ?_, chunks := ?_, data := ?_, src := by rw [← Nat.add_assoc]; exact hS, fit := by omega, keeps := ?_, size := by omega }
  · rw [splice_length _ _ _ (by rw [hcs]; omega)]; exact hcl
  · exact h.byts.splice ((h.src.bytes.drop (pos + t)).take k) l
  · refine ownsRow_keep h.own (fun g hg => hO.at (fun e => ?_))
    have e1 := (h.own.lt g hg).1
    have e2 := own22_ne h.own h.row g hg
    omega
  · exact h.chunks.mono (fun i c hi hx hr => (hO.at (fun e => by omega)).trans hr) (fun _ _ _ h _ => h)
  · have e1 : (splice cur l ((D.drop (pos + t)).take k)).take (l + k) = cur.take l ++ (D.drop (pos + t)).take k := by
      unfold splice
      rw [← List.append_assoc, List.take_append_of_le_length (by rw [List.length_append, List.length_take, hcs]; omega), List.take_of_length_le (by rw [List.length_append, List.length_take, hcs]; omega)]
    rw [e1, ← List.append_assoc, h.data]
    rw [List.take_add, List.drop_drop]
  · exact h.keeps.trans ((hO.keeps B).mono (Nat.le_refl _) (fun i hi e => by omega))

/-- Nothing came: the end. -/
theorem AllAt.nothing {w' : World} (h : AllAt sp sq sg sd SS pos B t D w bb l cap m nx v6 vs ds cur wr) (hS : SrcHas sp sq sg sd SS (pos + t) D w') (hO : Only (fun i => i = sp ∨ i = sq ∨ i = sg ∨ i = bb) wr w') (hX : Row w' bb cur) :
    AllAt sp sq sg sd SS pos B t D w bb l cap m nx v6 vs ds cur w' := by
  obtain ⟨a1, a2, a3, a4, a5⟩ := h.lts
  have hs := h.size
  have hB := h.hB
  have hsz := hO.size
  refine { h with row := hX, own := ?_, chunks := ?_, src := hS, keeps := ?_, size := by omega }
  · refine ownsRow_keep h.own (fun g hg => hO.at (fun e => ?_))
    have e1 := (h.own.lt g hg).1
    have e2 := own22_ne h.own h.row g hg
    omega
  · exact h.chunks.mono (fun i c hi hx hr => (hO.at (fun e => by omega)).trans hr) (fun _ _ _ h _ => h)
  · exact h.keeps.trans ((hO.keeps B).mono (Nat.le_refl _) (fun i hi e => by omega))

/-- The chunk is put aside, and a new row is made. -/
theorem AllAt.aside {v6' : Value} {w3 w4 : World} {cap' : Nat} (h : AllAt sp sq sg sd SS pos B t D w bb l cap m nx v6 vs ds cur wr) (ho : w3.ownsRow B 22 1 v6' (vs.length + 1) (vs ++ [.slice (some ⟨bb, 0, none⟩) l cap])) (hg : wr.grownBy w3 v6.ownBlock)
    (k : Keeps w3.heap.size (fun _ => False) w3 w4) (hr : Row w4 w3.heap.size (List.replicate cap' (.int .u8 0))) (hc : nx ≤ cap') (hc2 : cap' ≤ 9223372036854775807) (hl0 : 0 < l) :
    AllAt sp sq sg sd SS pos B t D w w3.heap.size 0 cap' nx (nx + nx / 2) v6' (vs ++ [.slice (some ⟨bb, 0, none⟩) l cap]) (ds ++ [cur.take l]) (List.replicate cap' (.int .u8 0)) w4 := by
  obtain ⟨a1, a2, a3, a4, a5⟩ := h.lts
  have hs := h.size
  have hB := h.hB
  have hrm := h.room
  have hcl := h.clen
  have hsz := hg.size
  have hm := h.m3
  have hne : ∀ x c, Row wr x c → ∀ g, v6.ownBlock = some g → g ≠ x := fun x c hr => own22_ne h.own hr
  have hk1 : ∀ i, i < wr.heap.size → some i ≠ v6.ownBlock → w4.heap[i]? = wr.heap[i]? := fun i hi hn => (k.block i (by omega) (fun e => e)).trans (hg.block i hi hn)
  have hlow : ∀ i, i < B → w4.heap[i]? = wr.heap[i]? := fun i hi => hk1 i (by omega) (fun e => by have := (h.own.lt i e.symm).1; omega)
  have hrows : ∀ i c, Row wr i c → Row w4 i c := fun i c hr => (hk1 i hr.lt (fun e => hne i c hr i e.symm rfl)).trans hr
  refine { h with hB := by omega, row := hr, clen := by simp, byts := ?_, room := by omega, capm := hc2, own := ?_, chunks := ?_, data := ?_, src := ?_, m1 := hc, m2 := by omega, m3 := by omega, keeps := ?_, size := by have := k.size; omega, cnt := ?_ }
  · intro v hv
    exact ⟨0, List.eq_of_mem_replicate hv⟩
  · rw [List.length_append, List.length_singleton]
    exact ownsRow_keep ho (fun g hg' => k.block g (ho.lt g hg').2 (fun e => e))
  · have h1 := h.chunks.mono (w' := w4) (y := w3.heap.size) (fun i c _ _ hr => hrows i c hr) (fun i c _ _ hr => by have := hr.lt; omega)
    refine Chunks.snoc ⟨bb, cap, cur, ?_, hB, by have := h.row.lt; omega, hrows _ _ h.row, hcl, ?_, ?_, h.byts⟩ h1
    · rw [List.length_take, hcl, Nat.min_eq_left hrm]
    · rw [List.length_take, hcl]; omega
    · rw [List.length_take, hcl, Nat.min_eq_left hrm]
  · rw [List.flatten_append, List.take_zero, List.append_nil]
    simpa using h.data
  · exact h.src.keep' (hlow _ (by omega)) (hlow _ (by omega)) (hlow _ (by omega)) (hlow _ (by omega))
  · refine h.keeps.trans ⟨k.os.trans hg.os, k.tape.trans hg.tape, k.output.trans hg.output, Nat.le_trans hsz k.size, fun i hi _ => hlow i hi⟩
  · have := h.cnt
    rw [List.flatten_append, List.length_append, List.length_append]
    simp only [List.flatten_cons, List.flatten_nil, List.append_nil, List.length_take, List.length_singleton]
    omega

/-- At the end all is there. -/
theorem AllAt.whole (h : AllAt sp sq sg sd SS pos B t D w bb l cap m nx v6 vs ds cur wr) (hend : pos + t = D.length) : ds.flatten ++ cur.take l = D.drop pos := by
  rw [h.data, List.take_of_length_le (by rw [List.length_drop]; omega)]

theorem AllAt.alone (h : AllAt sp sq sg sd SS pos B t D w bb l cap m nx v6 [] ds cur wr) (hend : pos + t = D.length) : (D.drop pos).length = l ∧ Reads wr (some ⟨bb, 0, none⟩) (D.drop pos) := by
  have hds : ds = [] := List.eq_nil_of_length_eq_zero h.chunks.length.symm
  subst hds
  have h1 := h.whole hend
  rw [List.flatten_nil, List.nil_append] at h1
  have h2 := h.row.reads_at 0 l
  rw [List.drop_zero, h1] at h2
  refine ⟨?_, h2⟩
  rw [← h1, List.length_take, h.clen]
  exact Nat.min_eq_left h.room

theorem flatten_take_le {α : Type} (ds : List (List α)) (k : Nat) : (ds.take k).flatten.length ≤ ds.flatten.length := by
  have h := congrArg List.length (congrArg List.flatten (List.take_append_drop k ds))
  rw [List.flatten_append, List.length_append] at h
  omega

/-- An own row of bytes, read. -/
theorem own_reads {w : World} {base : Nat} {v : Value} {n : Nat} {xs : List Value} (h : w.ownsRow base 5 1 v n xs) : ∃ ao c, v = .slice ao n c ∧ Reads w ao xs := by
  obtain ⟨hl, hown⟩ := h
  rcases hown with ⟨rfl, h0⟩ | ⟨g, cap, cur, rfl, hg, hh, _, _, _, ht⟩
  · exact ⟨none, 0, by rw [h0], .inl ⟨rfl, List.eq_nil_of_length_eq_zero (by omega)⟩⟩
  · refine ⟨some ⟨g, 0, none⟩, cap, rfl, .inr ⟨_, rfl, fun j v hv => ?_⟩⟩
    rw [Go.WideShapes.add_plain, Nat.zero_add, Lib.cell_of_heap hh]
    rw [← ht, List.getElem?_take] at hv
    split at hv
    · simpa using hv
    · cases hv

/-- The k-th chunk, and where its slice lies. -/
theorem AllAt.chunk {k nv : Nat} {a6 : Option Addr} {c6 : Nat} (hnv : vs.length = nv) (h : AllAt sp sq sg sd SS pos B t D w bb l cap m nx (.slice a6 nv c6) vs ds cur wr) (hk : k < nv) :
    ∃ g6 g cp crow d, a6 = some ⟨g6, 0, none⟩ ∧ g6 < wr.heap.size ∧ wr.cell? ⟨g6, k, none⟩ = some (.slice (some ⟨g, 0, none⟩) d.length cp) ∧ Row wr g crow ∧ crow.take d.length = d ∧ Byts d ∧ (ds.take (k + 1)).flatten = (ds.take k).flatten ++ d := by
  subst hnv
  obtain ⟨d, hd, g, cp, crow, e, h1, h2, h3, h4, h5, h6, h7⟩ := h.chunks.get k vs[k] (List.getElem?_eq_getElem hk)
  obtain ⟨hl, hown⟩ := h.own
  rcases hown with ⟨_, h0⟩ | ⟨g6, c, crow6, e6, hg6, hr6, _, _, hcs, ht⟩
  · omega
  · have e1 : a6 = some ⟨g6, 0, none⟩ := by injection e6
    have hr6' := hr6
    refine ⟨g6, g, cp, crow, d, e1, (Array.getElem?_eq_some_iff.1 hr6).1, ?_, h3, h6, ?_, ?_⟩
    · rw [Lib.cell_of_heap hr6, ← e]
      have hj : vs[k]? = some vs[k] := List.getElem?_eq_getElem hk
      generalize vs[k] = vk at hj ⊢
      rw [← ht, List.getElem?_take] at hj
      split at hj
      · simpa using hj
      · cases hj
    · rw [← h6]; exact h7.take _
    · rw [List.take_add_one, hd, Option.toList_some, List.flatten_append]
      simp
end
end Go.Proofs.Qxb6612850aFmt
