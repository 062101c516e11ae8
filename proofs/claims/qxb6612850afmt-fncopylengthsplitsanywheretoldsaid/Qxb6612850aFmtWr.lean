/- bufio.Writer: Available, Buffered, Flush. -/
import Derived.Test.Qxb6612850aFmtBufWrite
namespace Go.Proofs.Qxb6612850aFmt
open Go.RowKit Go.Deep
set_option linter.unusedVariables false

/-- A bufio.Writer in block p over the bytes.Buffer in block b, its own array block g of S bytes; what has been written to it in all: 'out'. -/
structure DstAt (M p b g S n : Nat) (bs buf : List Value) (w : World) : Prop where
  pM : p < M
  gM : g < M
  pb : p ≠ b
  gb : g ≠ b
  pg : p ≠ g
  hM : M ≤ w.heap.size
  hp : w.heap[p]? = some (.cells #[.nilIface, .slice (some ⟨g, 0, none⟩) S S, .int .i64 (n : Int), .iface 28 (.pointer (some ⟨b, 0, none⟩))] 87 (0, 0))
  hg : Row w g buf
  len : buf.length = S
  nS : n ≤ S
  S0 : 0 < S
  S1 : S ≤ 1048576
  hI : IsBuf M b bs w
  hbs : Byts bs
  hbuf : Byts buf

theorem DstAt.same {M p b g S n : Nat} {bs buf : List Value} {w w' : World} (h : DstAt M p b g S n bs buf w) (s : Same w w') : DstAt M p b g S n bs buf w' := by
  obtain ⟨a1, a2, a3, a4, a5, a6, a7, a8, a9, a10, a11, a12, ⟨i1, v, lr, i2, i3⟩, a14, a15⟩ := h
  refine ⟨a1, a2, a3, a4, a5, by rw [s.size]; exact a6, s.at a7, s.at a8, a9, a10, a11, a12, ⟨i1, v, lr, s.at i2, ?_⟩, a14, a15⟩
  rcases i3 with i3 | ⟨h, cap, cur, e1, e2, e3, e4⟩
  · exact .inl i3
  · exact .inr ⟨h, cap, cur, e1, e2, s.at e3, e4⟩

theorem avail36 (M p b g S n : Nat) (bs buf : List Value) (w : World) (h : DstAt M p b g S n bs buf w) :
    Calls Tryf.prog 36 #[.pointer (some ⟨p, 0, none⟩)] w fun e w' => e = .returned (.int .i64 ((S : Int) - (n : Int))) ∧ Same w w' := by
  have hS := h.S1
  have hn := h.nS
  have c1 : w.cell? ⟨p, 1, none⟩ = some (.slice (some ⟨g, 0, none⟩) S S) := by rw [Lib.cell_of_heap h.hp]; rfl
  have c2 : w.cell? ⟨p, 2, none⟩ = some (.int .i64 (n : Int)) := by rw [Lib.cell_of_heap h.hp]; rfl
  clear h
  go_enter Tryf.func36, Tryf.ntmps36
  go_wp2
  go_quiet (fail)
  go_wp2
  go_ret
  exact ⟨rfl, Same.drewN _ _⟩

theorem buffered37 (M p b g S n : Nat) (bs buf : List Value) (w : World) (h : DstAt M p b g S n bs buf w) :
    Calls Tryf.prog 37 #[.pointer (some ⟨p, 0, none⟩)] w fun e w' => e = .returned (.int .i64 (n : Int)) ∧ w = w' := by
  have c2 : w.cell? ⟨p, 2, none⟩ = some (.int .i64 (n : Int)) := by rw [Lib.cell_of_heap h.hp]; rfl
  clear h
  go_enter Tryf.func37, Tryf.ntmps37
  go_wp2
  go_ret
  exact ⟨rfl, rfl⟩

theorem flush_zero (M p b g S : Nat) (bs buf : List Value) (w : World) (h : DstAt M p b g S 0 bs buf w) :
    Calls Tryf.prog 26 #[.pointer (some ⟨p, 0, none⟩)] w fun e w' => e = .returned .nilIface ∧ w = w' := by
  have c0 : w.cell? ⟨p, 0, none⟩ = some .nilIface := by rw [Lib.cell_of_heap h.hp]; rfl
  have c2 : w.cell? ⟨p, 2, none⟩ = some (.int .i64 0) := by rw [Lib.cell_of_heap h.hp]; rfl
  clear h
  go_enter Tryf.func26, Tryf.ntmps26
  go_wp2
  go_ret
  exact ⟨rfl, rfl⟩

theorem method_write (a : Addr) (w : World) : (method 275 28 (.pointer (some a)) "Write").run Tryf.prog w = .ok (81, .pointer (some a)) w := by kernel_rfl

theorem bufWrite_n (n : Nat) (M b : Nat) (bs cs : List Value) (x : Addr) (c : Nat) (w : World) (hn : cs.length = n) (hI : IsBuf M b bs w) (hM : M ≤ w.heap.size) (hbs : Byts bs) (hcs : Byts cs) (hsrc : Reads w (some x) cs) (hxM : x.block < M) (h1 : 1 ≤ n) (hlim : bs.length + n ≤ 1099511627776) :
    Calls Tryf.prog 81 #[.pointer (some ⟨b, 0, none⟩), .slice (some x) n c] w fun e w' => e = .returned (.tuple #[.int .i64 n, .nilIface]) ∧ IsBuf M b (bs ++ cs) w' ∧ Keeps M (fun k => k = b) w w' := by
  subst hn
  exact bufWrite M b bs cs x c w hI hM hbs hcs hsrc hxM h1 hlim

theorem IsBuf.same {M b : Nat} {bs : List Value} {w w' : World} (h : IsBuf M b bs w) (s : Same w w') : IsBuf M b bs w' := by
  obtain ⟨i1, v, lr, i2, i3⟩ := h
  refine ⟨i1, v, lr, s.at i2, ?_⟩
  rcases i3 with i3 | ⟨h, cap, cur, e1, e2, e3, e4⟩
  · exact .inl i3
  · exact .inr ⟨h, cap, cur, e1, e2, s.at e3, e4⟩

/-- A store into another block below M. -/
theorem IsBuf.other {M b : Nat} {bs : List Value} {w : World} (h : IsBuf M b bs w) {p : Addr} (hpM : p.block < M) (hpb : p.block ≠ b) (u : Value) : IsBuf M b bs (w.setCell p u) := by
  obtain ⟨i1, v, lr, i2, i3⟩ := h
  refine ⟨i1, v, lr, by rw [Below.heap_setCell _ _ _ _ (fun e => hpb e.symm)]; exact i2, ?_⟩
  rcases i3 with i3 | ⟨h, cap, cur, e1, e2, e3, e4⟩
  · exact .inl i3
  · exact .inr ⟨h, cap, cur, e1, e2, by unfold Row; rw [Below.heap_setCell _ _ _ _ (by omega)]; exact e3, e4⟩

theorem flush_end {M p b g S n : Nat} {bs buf : List Value} {w w2 : World} (h : DstAt M p b g S n bs buf w) (hI : IsBuf M b (bs ++ buf.take n) w2) (hK : Keeps M (fun k => k = b) w.drew w2) :
    DstAt M p b g S 0 (bs ++ buf.take n) buf (w2.setCell ⟨p, 2, none⟩ (.int .i64 0)) ∧ Keeps M (fun k => k = p ∨ k = b) w (w2.setCell ⟨p, 2, none⟩ (.int .i64 0)) := by
  have hK' : Keeps M (fun k => k = b) w w2 := ⟨hK.os, hK.tape, hK.output, hK.size, hK.block⟩
  refine ⟨⟨h.pM, h.gM, h.pb, h.gb, h.pg, ?_, ?_, ?_, h.len, Nat.zero_le _, h.S0, h.S1, ?_, ?_, h.hbuf⟩, ?_⟩
  · rw [World.size_setCell]; exact Nat.le_trans h.hM hK'.size
  · rw [Lib.heap_setCell_same (hK'.at h.hp h.pM h.pb)]
    rfl
  · unfold Row
    rw [Below.heap_setCell _ _ _ _ (by show g ≠ p; exact fun e => h.pg e.symm)]
    exact hK'.at h.hg h.gM h.gb
  · exact hI.other h.pM h.pb _
  · exact h.hbs.append (h.hbuf.take n)
  · exact (hK'.mono (Nat.le_refl _) (fun _ _ e => .inr e)).trans (Keeps.setCell (S := fun k => k = p ∨ k = b) (p := ⟨p, 2, none⟩) (.inr (.inl rfl)) _)

set_option maxRecDepth 100000 in
set_option maxHeartbeats 1000000 in
theorem flush_some (M p b g S n : Nat) (bs buf : List Value) (w : World) (h : DstAt M p b g S n bs buf w) (hn : 1 ≤ n) (hlim : bs.length + n ≤ 1099511627776) :
    Calls Tryf.prog 26 #[.pointer (some ⟨p, 0, none⟩)] w fun e w' => e = .returned .nilIface ∧ DstAt M p b g S 0 (bs ++ buf.take n) buf w' ∧ Keeps M (fun k => k = p ∨ k = b) w w' := by
  have hS := h.S1
  have hnS := h.nS
  have c0 : w.cell? ⟨p, 0, none⟩ = some .nilIface := by rw [Lib.cell_of_heap h.hp]; rfl
  have c1 : w.cell? ⟨p, 1, none⟩ = some (.slice (some ⟨g, 0, none⟩) S S) := by rw [Lib.cell_of_heap h.hp]; rfl
  have c2 : w.cell? ⟨p, 2, none⟩ = some (.int .i64 (n : Int)) := by rw [Lib.cell_of_heap h.hp]; rfl
  have c3 : w.cell? ⟨p, 3, none⟩ = some (.iface 28 (.pointer (some ⟨b, 0, none⟩))) := by rw [Lib.cell_of_heap h.hp]; rfl
  have hn0 : ((n : Int) == 0) = false := by simp; omega
  have H : Hid (DstAt M p b g S n bs buf w) := h
  clear h
  go_enter Tryf.func26, Tryf.ntmps26
  go_wp2
  have hlt : (buf.take n).length = n := by rw [List.length_take, H.out.len]; omega
  have hmw := method_write ⟨b, 0, none⟩
  have hsd : Same w w.drew := ⟨rfl, rfl, rfl, rfl⟩
  have HD : Hid (DstAt M p b g S n bs buf w.drew) := H.out.same hsd
  have HRd : Hid (Reads w.drew (some ⟨g, 0, none⟩) (buf.take n)) := by
    have h0 := HD.out.hg.reads_at 0 n
    rw [List.drop_zero] at h0
    exact h0
  go_region_held3 (fun w' => w'.cell? ⟨p, 1, none⟩ = some (.slice (some ⟨g, 0, none⟩) S S) ∧ w'.cell? ⟨p, 2, none⟩ = some (.int .i64 (n : Int)) ∧ w'.cell? ⟨p, 3, none⟩ = some (.iface 28 (.pointer (some ⟨b, 0, none⟩)))) (simp [go_sem, *])
    ((go_at_call 81; refine (bufWrite_n n M b bs (buf.take n) ⟨g, 0, none⟩ S w.drew hlt HD.out.hI HD.out.hM HD.out.hbs (HD.out.hbuf.take n) HRd.out HD.out.gM hn hlim).mono ?_; rintro e w2 ⟨rfl, hI2, hK2⟩; have hp2 := hK2.at HD.out.hp HD.out.pM HD.out.pb; have d1 : w2.cell? ⟨p, 1, none⟩ = some (.slice (some ⟨g, 0, none⟩) S S) := (by rw [Lib.cell_of_heap hp2]; rfl); have d2 : w2.cell? ⟨p, 2, none⟩ = some (.int .i64 (n : Int)) := (by rw [Lib.cell_of_heap hp2]; rfl); have d3 : w2.cell? ⟨p, 3, none⟩ = some (.iface 28 (.pointer (some ⟨b, 0, none⟩))) := (by rw [Lib.cell_of_heap hp2]; rfl); have f2 := Lib.frozen_of_heap hp2 2; have HP2 : Hid _ := hp2; have HI2 : Hid _ := hI2; have HK2 : Hid _ := hK2; clear hp2 hI2 hK2))
  clear c0 c1 c2 c3
  go_wp2
  go_ret
  exact ⟨rfl, flush_end H.out HI2.out HK2.out⟩
end Go.Proofs.Qxb6612850aFmt
