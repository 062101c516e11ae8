/- The laws' steps: a source, a destination, a copy, what was written. -/
import Derived.Test.Qxb6612850aFmtCopyW
import Derived.Test.Qxb6612850aFmtSum
namespace Go.Proofs.Qxb6612850aFmt
open Go.RowKit Go.Deep Go.Extern.Stop Go.Stop Go.Extern
set_option linter.unusedVariables false

/-- A clone's slice. -/
def ClonedAt (d : Nat) (D : List Value) (ao : Option Addr) (w : World) : Prop := (ao = none ∧ D = []) ∨ (ao = some ⟨d, 0, none⟩ ∧ Row w d D)

theorem ClonedAt.below {d N : Nat} {D : List Value} {ao : Option Addr} {w w' : World} (h : ClonedAt d D ao w) (hB : Below N w w') (hd : d < N) : ClonedAt d D ao w' := by
  rcases h with h | ⟨h1, h2⟩
  · exact .inl h
  · exact .inr ⟨h1, (hB.block d hd).trans h2⟩

theorem clone_any (a : Option Addr) (c : Nat) (D : List Value) (w : World) (hn : D.length ≤ 1048576) (hb : Byts D) (hr : Reads w a D) (hc : a = none → c = 0) :
    Calls Tryf.prog 8 #[.slice a D.length c] w fun e w' => ∃ ao, e = .returned (.slice ao D.length D.length) ∧ ClonedAt w.heap.size D ao w' ∧ Below w.heap.size w w' := by
  rcases a with _ | x
  · have e : D = [] := by
      rcases hr with ⟨_, h⟩ | ⟨x, h, _⟩
      · exact h
      · cases h
    subst e
    rw [hc rfl]
    refine (clone_nil w).mono ?_
    rintro e w' ⟨rfl, rfl⟩
    exact ⟨none, rfl, .inl ⟨rfl, rfl⟩, Below.refl _ _⟩
  · refine (clone_some x c D w hn hb hr).mono ?_
    rintro e w' ⟨rfl, h1, h2, h3⟩
    exact ⟨_, rfl, .inr ⟨rfl, h3⟩, h1⟩

/-- A source over D. -/
theorem src_new (N d : Nat) (D : List Value) (ao : Option Addr) (z : Int) (w : World) (hz : z ≤ 65536) (hz2 : -9223372036854775808 ≤ z) (hD : Byts D) (hl : D.length ≤ 1048576) (hd : N ≤ d) (hN : N ≤ w.heap.size) (ha : ClonedAt d D ao w) :
    Calls Tryf.prog 7 #[.slice ao D.length D.length, .int .i64 z] w fun e w' => ∃ sp sq sg sd SS, e = .returned (.pointer (some ⟨sp, 0, none⟩)) ∧ SrcHas sp sq sg sd SS 0 D w' ∧ (N ≤ sp ∧ N ≤ sq ∧ N ≤ sg ∧ N ≤ sd) ∧ (sp < w'.heap.size ∧ sq < w'.heap.size ∧ sg < w'.heap.size ∧ sd < w'.heap.size) ∧ Below w.heap.size w w' := by
  rcases ha with ⟨rfl, rfl⟩ | ⟨rfl, hR⟩
  · refine (newSrc7 w.heap.size 0 [] none z w hz hz2 hD hl (.inl ⟨rfl, rfl⟩)).mono ?_
    rintro e w' ⟨rfl, h1, h2, h3⟩
    exact ⟨_, _, _, _, _, rfl, ⟨_, _, _, h3⟩, by omega, by omega, h1⟩
  · have := hR.lt
    refine (newSrc7 d D.length D (some ⟨d, 0, none⟩) z w hz hz2 hD hl (.inr ⟨rfl, hR⟩)).mono ?_
    rintro e w' ⟨rfl, h1, h2, h3⟩
    exact ⟨_, _, _, _, _, rfl, ⟨_, _, _, h3⟩, by omega, by omega, h1⟩

/-- A destination that holds P. -/
theorem dst_new (d : Nat) (P : List Value) (ao : Option Addr) (z : Int) (w : World) (hz : z ≤ 65536) (hz2 : -9223372036854775808 ≤ z) (hP : Byts P) (hl : P.length ≤ 1048576) (ha : ClonedAt d P ao w) :
    Calls Tryf.prog 9 #[.slice ao P.length P.length, .int .i64 z] w fun e w' => ∃ M p b g S, e = .returned (.tuple #[.pointer (some ⟨p, 0, none⟩), .pointer (some ⟨b, 0, none⟩)]) ∧ DstHas M p b g S P w' ∧ (w.heap.size ≤ p ∧ w.heap.size ≤ b ∧ w.heap.size ≤ g) ∧ (p < M ∧ b < M ∧ g < M) ∧ Below w.heap.size w w' := by
  refine (newDst9 P.length P.length d 0 P ao z w hz hz2 rfl hP hl (Nat.le_refl _) ?_ ?_).mono ?_
  · intro h0
    rcases ha with ⟨_, rfl⟩ | ⟨h1, _⟩
    · simp at h0
    · exact h1
  · intro j v hv
    rcases ha with ⟨_, rfl⟩ | ⟨_, h2⟩
    · simp at hv
    · rw [h2.cell, Nat.zero_add]; exact hv
  · rintro e w' ⟨rfl, ⟨n, bs, buf, h1, h2⟩, h3⟩
    exact ⟨_, _, _, _, _, rfl, ⟨n, bs, buf, h1, h2⟩, by omega, by omega, h3⟩

/-- A source and a destination, made from block N on. -/
structure Pair (N M p b g S sp sq sg sd SS pos : Nat) (D out : List Value) (w : World) : Prop where
  dst : DstHas M p b g S out w
  src : SrcHas sp sq sg sd SS pos D w
  low : N ≤ sp ∧ N ≤ sq ∧ N ≤ sg ∧ N ≤ sd
  mid : ∃ K, (sp < K ∧ sq < K ∧ sg < K ∧ sd < K) ∧ (K ≤ p ∧ K ≤ b ∧ K ≤ g)
  top : p < M ∧ b < M ∧ g < M

section
variable {N M p b g S sp sq sg sd SS pos : Nat} {D out : List Value} {w w' : World}
theorem Pair.apart (h : Pair N M p b g S sp sq sg sd SS pos D out w) {a4 : Addr} (hN : 3 < N ∧ 4 < N ∧ a4.block < N) : Apart M p b g sp sq sg sd a4 := by
  obtain ⟨K, h1, h2⟩ := h.mid
  have h3 := h.low
  have h4 := h.top
  refine ⟨fun k hk => ?_, ?_, ?_, fun k hk => ?_⟩ <;> omega

theorem Pair.size (h : Pair N M p b g S sp sq sg sd SS pos D out w) : M ≤ w.heap.size := by
  obtain ⟨n, bs, buf, h1, _⟩ := h.dst
  exact h1.hM

theorem Sent.below {F : Interp} {a3 a4 : Addr} {s : ByteArray} (h : Sent F a3 a4 s w) (hN : 3 < N ∧ 4 < N ∧ a4.block < N) (hB : Below N w w') : Sent F a3 a4 s w' :=
  h.keep (S := fun _ => False) (Keeps.below hB) ⟨hN.1, fun e => e⟩ ⟨hN.2.1, fun e => e⟩ ⟨hN.2.2, fun e => e⟩

theorem Pair.new {K : Nat} (hs : SrcHas sp sq sg sd SS pos D w) (hd : DstHas M p b g S out w') (hB : Below K w w') (low : N ≤ sp ∧ N ≤ sq ∧ N ≤ sg ∧ N ≤ sd) (h1 : sp < K ∧ sq < K ∧ sg < K ∧ sd < K) (h2 : K ≤ p ∧ K ≤ b ∧ K ≤ g) (top : p < M ∧ b < M ∧ g < M) : Pair N M p b g S sp sq sg sd SS pos D out w' := by
  obtain ⟨r, e, buf, h⟩ := hs
  exact ⟨hd, ⟨r, e, buf, h.keep (hB.block _ h1.1) (hB.block _ h1.2.1) (hB.block _ h1.2.2.1) (hB.block _ h1.2.2.2)⟩, low, ⟨K, h1, h2⟩, top⟩

/-- CopyLength between the two. -/
theorem copy_any (F : Interp) (a3 a4 : Addr) (s : ByteArray) (n : Int) (hn1 : -9223372036854775808 ≤ n) (hn2 : n ≤ 9223372036854775807) (hN : 3 < N ∧ 4 < N ∧ a4.block < N) (hS : Sent F a3 a4 s w)
    (hlim : out.length + D.length ≤ 1099500000000) (hl2 : D.length ≤ 1048576) (hpos : pos ≤ D.length) (h : Pair N M p b g S sp sq sg sd SS pos D out w) :
    Calls Tryf.prog 10 #[.pointer (some ⟨p, 0, none⟩), .pointer (some ⟨sp, 0, none⟩), .int .i64 n] w fun x w' => Pair N M p b g S sp sq sg sd SS (pos + copyCount n (D.length - pos)) D (out ++ (D.drop pos).take (copyCount n (D.length - pos))) w' ∧ Below N w w' ∧
      ((n ≤ ((D.length - pos : Nat) : Int) ∧ x = .returned .nilIface) ∨ (((D.length - pos : Nat) : Int) < n ∧ ∃ N, x = .returned (.iface 105 (.pointer (some N))))) := by
  have hap := h.apart hN
  have h3 := h.low
  obtain ⟨K, h1, h2⟩ := h.mid
  have h4 := h.top
  refine (copy10 F a3 a4 s M p b g S sp sq sg sd SS pos n D out w hn1 hn2 hap hlim hl2 hpos ⟨?_, h.src, hS, Keeps.refl _ _ _⟩).mono ?_
  · rw [List.take_zero, List.append_nil]; exact h.dst
  · rintro x w' ⟨hc, hx⟩
    exact ⟨⟨hc.dst, hc.src, h.low, h.mid, h.top⟩, (hc.keeps.mono (M' := N) (S' := fun _ => False) (by omega) (fun k hk e => by omega)).toBelow (fun _ _ e => e), hx⟩

/-- What was written. -/
theorem written_any (hl : out.length ≤ 1099511627776) (h : Pair N M p b g S sp sq sg sd SS pos D out w) :
    Calls Tryf.prog 11 #[.pointer (some ⟨p, 0, none⟩), .pointer (some ⟨b, 0, none⟩)] w fun x w' => ∃ ao c, x = .returned (.slice ao out.length c) ∧ Reads w' ao out ∧ (∀ y, ao = some y → M ≤ y.block) ∧ SrcHas sp sq sg sd SS pos D w' ∧ Below N w w' := by
  have h3 := h.low
  obtain ⟨K, h1, h2⟩ := h.mid
  have h4 := h.top
  obtain ⟨n, bs, buf, hd, ho⟩ := h.dst
  obtain ⟨r, e, bf, hs⟩ := h.src
  refine (written11 M p b g S n bs buf out w hd ho hl).mono ?_
  rintro x w' ⟨ao, c, rfl, hR, hK, hf⟩
  refine ⟨ao, c, rfl, hR, hf, ⟨r, e, bf, hs.keepM hK ⟨by omega, fun e => by omega⟩ ⟨by omega, fun e => by omega⟩ ⟨by omega, fun e => by omega⟩ ⟨by omega, fun e => by omega⟩⟩, ?_⟩
  exact (hK.mono (M' := N) (S' := fun _ => False) (by omega) (fun k hk e => by omega)).toBelow (fun _ _ e => e)

theorem Reads.keeps {ao : Option Addr} {l : List Value} {T : Nat → Prop} (h : Reads w ao l) (k : Keeps w.heap.size T w w') (hT : ∀ y, ao = some y → ¬ T y.block) : Reads w' ao l := by
  rcases h with h | ⟨x, rfl, hc⟩
  · exact .inl h
  · refine .inr ⟨x, rfl, fun j v hv => ?_⟩
    have h1 := World.block_lt_of_cell? w _ (hc j v hv)
    rw [World.cell?_of_block (w := w) (a := x.add j) (k.block _ h1 (by
      have h2 := hT x rfl
      simp only [Addr.add]
      split <;> exact h2))]
    exact hc j v hv

theorem Reads.take {ao : Option Addr} {l : List Value} (h : Reads w ao l) (n : Nat) : Reads w ao (l.take n) := by
  rcases h with ⟨h1, h2⟩ | ⟨x, rfl, hc⟩
  · exact .inl ⟨h1, by rw [h2, List.take_nil]⟩
  · refine .inr ⟨x, rfl, fun j v hv => hc j v ?_⟩
    rw [List.getElem?_take] at hv
    split at hv
    · exact hv
    · cases hv
end
end Go.Proofs.Qxb6612850aFmt
