/- bytes.Buffer: Write. -/
import Derived.Test.Qxb6612850aFmtBufRow
import Derived.Lib.BufferSrc
namespace Go.Proofs.Qxb6612850aFmt
open Go.RowKit Go.Deep
set_option linter.unusedVariables false

/-- The buffer in block b has been resliced to hold n bytes more. -/
def Ready (M b l n : Nat) (bs : List Value) (w w' : World) : Prop :=
  ∃ (h cap : Nat) (cur : List Value) (lr : Int), w'.heap[b]? = some (.cells #[.slice (some ⟨h, 0, none⟩) (l + n) cap, .int .i64 0, .int .i8 lr] 50 (0, 0)) ∧ M ≤ h ∧ Row w' h cur ∧ cur.length = cap ∧ l + n ≤ cap ∧ cap ≤ maxLen ∧ cur.take l = bs ∧ Keeps M (fun k => k = b) w w'

theorem Grew.ready {M b l n : Nat} {bs : List Value} {w w' : World} (h : Grew b l n bs w w') (hM : M ≤ w.heap.size) : Ready M b l n bs w w' := by
  obtain ⟨h, cap, cur, lr, h1, h2, h3, h4, h5, h6, h7, h8⟩ := h
  exact ⟨h, cap, cur, lr, h1, by omega, h3, h4, h5, h6, h7, h8.mono hM (fun _ _ e => e)⟩

/-- The buffer's cells, whatever it holds. -/
theorem grow_any (M b n : Nat) (bs : List Value) (v : Value) (lr : Int) (w : World) (hM : M ≤ w.heap.size) (hbs : Byts bs) (hb : w.heap[b]? = some (.cells #[v, .int .i64 0, .int .i8 lr] 50 (0, 0)))
    (hv : (v = .slice none 0 0 ∧ bs = []) ∨ ∃ (h cap : Nat) (cur : List Value), v = .slice (some ⟨h, 0, none⟩) bs.length cap ∧ M ≤ h ∧ Row w h cur ∧ cur.length = cap ∧ bs.length ≤ cap ∧ cap ≤ maxLen ∧ cur.take bs.length = bs ∧ 1 ≤ bs.length ∧ cap - bs.length < n)
    (hn : 1 ≤ n) (hlim : bs.length + n ≤ 1099511627776) :
    Calls Tryf.prog 84 #[.pointer (some ⟨b, 0, none⟩), .int .i64 n] w fun e w' => e = .returned (.int .i64 bs.length) ∧ Ready M b bs.length n bs w w' := by
  rcases hv with ⟨rfl, rfl⟩ | ⟨h, cap, cur, rfl, hMh, hR, hcl, hle, hcm, htk, h1, hroom⟩
  · by_cases h64 : n ≤ 64
    · refine (grow_small b n lr w hb hn h64).mono ?_
      rintro e w' ⟨rfl, hg⟩
      exact ⟨rfl, hg.ready hM⟩
    · refine (grow_big b n lr w hb (by omega) (by simp at hlim; omega)).mono ?_
      rintro e w' ⟨rfl, hg⟩
      exact ⟨rfl, hg.ready hM⟩
  · refine (grow_row b h bs.length cap n cur lr w hb hR hcl hle (by rw [htk]; exact hbs) h1 hn hroom hlim).mono ?_
    rintro e w' ⟨rfl, hg⟩
    rw [htk] at hg
    exact ⟨rfl, hg.ready hM⟩

theorem splice_take (cur bs cs : List Value) (l : Nat) (hl : bs.length = l) (ht : cur.take l = bs) (hle : l + cs.length ≤ cur.length) : (splice cur l cs).take (l + cs.length) = bs ++ cs := by
  unfold splice
  rw [ht, ← List.append_assoc, List.take_append_of_le_length (by simp; omega), List.take_of_length_le (by simp; omega)]

theorem write_end {M b l cap h : Nat} {lr : Int} {bs cs cur : List Value} {w w1 : World} (hbM : b < M) (hl : bs.length = l) (hb : w1.heap[b]? = some (.cells #[.slice (some ⟨h, 0, none⟩) (l + cs.length) cap, .int .i64 0, .int .i8 lr] 50 (0, 0))) (hMh : M ≤ h) (hR : Row w1 h cur)
    (hcl : cur.length = cap) (hle : l + cs.length ≤ cap) (hcm : cap ≤ maxLen) (ht : cur.take l = bs) (hk : Keeps M (fun k => k = b) w w1) (h1 : 1 ≤ cs.length) :
    IsBuf M b (bs ++ cs) (w1.setRow h (splice cur l cs).toArray) ∧ Keeps M (fun k => k = b) w (w1.setRow h (splice cur l cs).toArray) := by
  refine ⟨⟨hbM, .slice (some ⟨h, 0, none⟩) (l + cs.length) cap, lr, ?_, .inr ⟨h, cap, splice cur l cs, ?_, hMh, ?_, ?_, ?_, hcm, ?_, ?_⟩⟩, hk.trans (Keeps.setRow (.inl hMh) _)⟩
  · rw [setRow_other _ _ _ _ (by omega)]; exact hb
  · rw [List.length_append, hl]
  · exact setRow_heap _ _ _ _ _ _ hR
  · rw [length_splice _ _ _ (by omega), hcl]
  · rw [List.length_append, hl]; exact hle
  · rw [List.length_append, hl]; exact splice_take cur bs cs l hl ht (by omega)
  · rw [List.length_append]; omega

theorem reads_ne {w : World} {x : Addr} {b : Nat} {cs : List Value} {v : Value} {lr : Int} (h : Reads w (some x) cs) (hcs : Byts cs) (h1 : 1 ≤ cs.length) (hb : w.heap[b]? = some (.cells #[v, .int .i64 0, .int .i8 lr] 50 (0, 0))) (hv : ∀ n, v ≠ .int .u8 n) : x.block ≠ b := by
  intro e
  obtain ⟨n, hn⟩ := hcs.get 0 (by omega)
  have hc := h.cell hn
  have hs := (h.spot (by omega)).1
  obtain ⟨xb, xo, xs⟩ := x
  simp only at e hs
  subst e; subst hs
  rw [Go.WideShapes.add_plain, Lib.cell_of_heap hb] at hc
  match xo, hc with
  | 0, hc => simp at hc; exact hv _ hc
  | 1, hc => simp at hc
  | 2, hc => simp at hc
  | (k + 3), hc => simp at hc

set_option maxRecDepth 100000 in
set_option maxHeartbeats 1000000 in
theorem bufWrite (M b : Nat) (bs cs : List Value) (x : Addr) (c : Nat) (w : World) (hI : IsBuf M b bs w) (hM : M ≤ w.heap.size) (hbs : Byts bs) (hcs : Byts cs) (hsrc : Reads w (some x) cs) (hxM : x.block < M) (h1 : 1 ≤ cs.length) (hlim : bs.length + cs.length ≤ 1099511627776) :
    Calls Tryf.prog 81 #[.pointer (some ⟨b, 0, none⟩), .slice (some x) cs.length c] w fun e w' => e = .returned (.tuple #[.int .i64 cs.length, .nilIface]) ∧ IsBuf M b (bs ++ cs) w' ∧ Keeps M (fun k => k = b) w w' := by
  obtain ⟨hbM, v, lr, hb, hv⟩ := hI
  have c2 : w.cell? ⟨b, 2, none⟩ = some (.int .i8 lr) := by rw [Lib.cell_of_heap hb]; rfl
  have f2 : w.frozen? ⟨b, 2, none⟩ = false := Lib.frozen_of_heap hb 2
  have hxb : x.block ≠ b := reads_ne hsrc hcs h1 hb (by rcases hv with ⟨rfl, _⟩ | ⟨_, _, _, rfl, _⟩ <;> simp)
  -- behind 'b.lastRead = opInvalid'
  obtain ⟨w0, hw0⟩ : ∃ w0, w0 = w.setCell ⟨b, 2, none⟩ (.int .i8 0) := ⟨_, rfl⟩
  have hb0 : w0.heap[b]? = some (.cells #[v, .int .i64 0, .int .i8 0] 50 (0, 0)) := by rw [hw0, Lib.heap_setCell_same hb]; rfl
  have hk0 : Keeps M (fun k => k = b) w w0 := by rw [hw0]; exact Keeps.setCell (S := fun k => k = b) (p := ⟨b, 2, none⟩) (.inr rfl) _
  have hz0 : w0.heap.size = w.heap.size := by rw [hw0, World.size_setCell]
  have hs0 : ∀ j u, cs[j]? = some u → w0.cell? (x.add j) = some u := by
    intro j u hj
    rw [hw0, World.cell?_setCell_other _ _ _ _ (by intro e; have e2 := congrArg Addr.block e; rw [Lib.block_add] at e2; exact hxb e2.symm)]
    exact hsrc.cell hj
  have hinfo : (Tryf.prog.info? 5).map (·.size) = some 1 := by kernel_rfl
  -- the end, from whatever world the reslicing left
  have hk0' : Hid (Keeps M (fun k => k = b) w w0) := hk0
  have HS : Hid (∀ j u, cs[j]? = some u → w0.cell? (x.add j) = some u) := hs0
  have HB0 : Hid (w0.heap[b]? = some (.cells #[v, .int .i64 0, .int .i8 0] 50 (0, 0))) := hb0
  have HV : Hid ((v = .slice none 0 0 ∧ bs = []) ∨ ∃ (h cap : Nat) (cur : List Value), v = .slice (some ⟨h, 0, none⟩) bs.length cap ∧ M ≤ h ∧ Row w h cur ∧ cur.length = cap ∧ bs.length ≤ cap ∧ cap ≤ maxLen ∧ cur.take bs.length = bs ∧ 1 ≤ bs.length) := hv
  have HW0 : Hid (w0 = w.setCell ⟨b, 2, none⟩ (.int .i8 0)) := hw0
  have HCS : Hid (Byts cs) := hcs
  have HBS : Hid (Byts bs) := hbs
  clear hk0 hs0 hb0 hv hb hw0 hcs hbs hsrc
  generalize hN : cs.length = n at *
  have HN : Hid (cs.length = n) := hN
  clear hN
  go_enter Tryf.func81, Tryf.ntmps81
  go_wp2_with fail
  rw [← HW0.out]
  -- what the reslicing leaves
  have key : Hid (∀ (w1 : World), Ready M b bs.length n bs w0 w1 → ∃ (h cap : Nat) (lr : Int) (cur : List Value), w1.cell? ⟨b, 0, none⟩ = some (.slice (some ⟨h, 0, none⟩) (bs.length + n) cap) ∧ bs.length + n ≤ cap ∧ cap ≤ 9223372036854775807 ∧
      (Builtin.copy_ #[22, 22] 3 #[.slice (some ⟨h, bs.length, none⟩) n (cap - bs.length), .slice (some x) n c]).run Tryf.prog w1 = .ok (.int .i64 n) (w1.setRow h (splice cur bs.length cs).toArray) ∧
      IsBuf M b (bs ++ cs) (w1.setRow h (splice cur bs.length cs).toArray) ∧ Keeps M (fun k => k = b) w (w1.setRow h (splice cur bs.length cs).toArray)) := by
    rintro w1 ⟨h, cap, cur, lr1, hb1, hMh, hR, hcl, hle, hcm, ht, hk⟩
    have hsr : ∀ j u, cs[j]? = some u → w1.cell? (x.add j) = some u := by
      intro j u hj
      have h0 := HS.out j u hj
      rw [World.cell?_of_block (w := w0) (a := x.add j) (by rw [Lib.block_add]; exact hk.block _ hxM hxb)]
      exact h0
    have hcp := run_copy_row (P := Tryf.prog) w1 22 22 3 5 h bs.length n (cap - bs.length) x n c cur.toArray 5 cs Tryf.underlying22 hinfo hR (by rw [HN.out]; exact (Nat.min_self n).symm) hsr (by rw [HN.out]; simpa [hcl] using hle) HCS.out.one
    have hfin := write_end (l := bs.length) (cs := cs) hbM rfl (by rw [HN.out]; exact hb1) hMh hR hcl (by rw [HN.out]; exact hle) hcm ht (hk0'.out.trans hk) (by rw [HN.out]; exact h1)
    unfold maxLen at hcm
    refine ⟨h, cap, lr1, cur, by rw [Lib.cell_of_heap hb1]; rfl, hle, by omega, ?_, hfin.1, hfin.2⟩
    rw [hcp]
    unfold splice
    rw [HN.out, List.append_assoc]
    rfl
  by_cases hroom : ∃ h cap cur, v = .slice (some ⟨h, 0, none⟩) bs.length cap ∧ M ≤ h ∧ Row w h cur ∧ cur.length = cap ∧ cap ≤ maxLen ∧ cur.take bs.length = bs ∧ bs.length + n ≤ cap
  · obtain ⟨h, cap, cur, rfl, hMh, hR, hcl, hcm, ht, hle⟩ := hroom
    have c0 : w0.cell? ⟨b, 0, none⟩ = some (.slice (some ⟨h, 0, none⟩) bs.length cap) := by rw [Lib.cell_of_heap HB0.out]; rfl
    refine (Tryf.Buffer_tryGrow_room b _ bs.length cap n w0 c0 (Lib.frozen_of_heap HB0.out 0) (by omega) hcm (by omega)).mono ?_
    rintro e w1 ⟨rfl, hw1⟩
    have hrd : Ready M b bs.length n bs w0 w1 := by
      refine ⟨h, cap, cur, 0, ?_, hMh, ?_, hcl, hle, hcm, ht, ?_⟩
      · rw [hw1, Lib.heap_setCell_same HB0.out]; rfl
      · unfold Row
        rw [hw1, Below.heap_setCell _ _ _ _ (by show _ ≠ b; omega), HW0.out, Below.heap_setCell _ _ _ _ (by show _ ≠ b; omega)]
        exact hR
      · rw [hw1]; exact Keeps.setCell (S := fun k => k = b) (p := ⟨b, 0, none⟩) (.inr rfl) _
    obtain ⟨h', cap', lr', cur', d0, q1, q2, hcp, q3, q4⟩ := key.out w1 hrd
    have Q3 : Hid _ := q3
    have Q4 : Hid _ := q4
    clear hrd hw1 q3 q4 c0 hR ht hcl hle key HS HV
    have hne : ¬ cap' = bs.length := by omega
    go_wp2
    go_ret2
    exact ⟨rfl, Q3.out, Q4.out⟩
  · obtain ⟨ao, l', cap, hvv, hl', hlc, hcm, hno, hg⟩ : ∃ ao l' cap, v = .slice ao l' cap ∧ l' = bs.length ∧ l' ≤ cap ∧ cap ≤ maxLen ∧ cap - l' < n ∧ ((v = .slice none 0 0 ∧ bs = []) ∨ ∃ (h cap : Nat) (cur : List Value), v = .slice (some ⟨h, 0, none⟩) bs.length cap ∧ M ≤ h ∧ Row w0 h cur ∧ cur.length = cap ∧ bs.length ≤ cap ∧ cap ≤ maxLen ∧ cur.take bs.length = bs ∧ 1 ≤ bs.length ∧ cap - bs.length < n) := by
      rcases HV.out with ⟨e1, e2⟩ | ⟨h, cap, cur, e1, hMh, hR, hcl, hle, hcm, ht, h1b⟩
      · exact ⟨none, 0, 0, e1, by rw [e2]; rfl, Nat.le_refl _, Nat.zero_le _, by omega, .inl ⟨e1, e2⟩⟩
      · have hlt : cap - bs.length < n := by
          rcases Nat.lt_or_ge (cap - bs.length) n with h' | h'
          · exact h'
          · exact absurd ⟨h, cap, cur, e1, hMh, hR, hcl, hcm, ht, by omega⟩ hroom
        have hR0 : Row w0 h cur := by
          unfold Row
          rw [HW0.out, Below.heap_setCell _ _ _ _ (by show _ ≠ b; omega)]
          exact hR
        exact ⟨_, _, _, e1, rfl, hle, hcm, hlt, .inr ⟨h, cap, cur, e1, hMh, hR0, hcl, hle, hcm, ht, h1b, hlt⟩⟩
    have c0 : w0.cell? ⟨b, 0, none⟩ = some (.slice ao l' cap) := by rw [Lib.cell_of_heap HB0.out, hvv]; rfl
    refine (Tryf.Buffer_tryGrow_none b ao l' cap n w0 c0 hlc hcm hno).mono ?_
    rintro e w0' ⟨rfl, hw⟩
    obtain rfl := hw.symm
    have HG : Hid _ := hg
    clear hg hroom c0 hno hlc hcm hl' hvv hw
    go_wp2_with fail
    refine (grow_any M b n bs v 0 w0 (by omega) HBS.out HB0.out HG.out h1 hlim).mono ?_
    rintro e w1 ⟨rfl, hrd⟩
    obtain ⟨h', cap', lr', cur', d0, q1, q2, hcp, q3, q4⟩ := key.out w1 hrd
    have Q3 : Hid _ := q3
    have Q4 : Hid _ := q4
    clear hrd q3 q4 key HS HV
    have hne : ¬ cap' = bs.length := by omega
    go_wp2
    go_ret2
    exact ⟨rfl, Q3.out, Q4.out⟩
end Go.Proofs.Qxb6612850aFmt
