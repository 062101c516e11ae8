/- The destination: NewWriterSize, ZZNewDst, Bytes, bytes.Clone, ZZWritten. -/
import Derived.Test.Qxb6612850aFmtWriteW
namespace Go.Proofs.Qxb6612850aFmt
open Go.RowKit Go.Deep
set_option linter.unusedVariables false

theorem bytes31 (M b : Nat) (bs : List Value) (w : World) (h : IsBuf M b bs w) : Calls Tryf.prog 31 #[.pointer (some ⟨b, 0, none⟩)] w fun e w' => ∃ ao c, e = .returned (.slice ao bs.length c) ∧ Same w w' ∧ Reads w' ao bs ∧ (ao = none → c = 0) := by
  obtain ⟨hbM, v, lr, hb, hv⟩ := h
  have c0 : w.cell? ⟨b, 0, none⟩ = some v := by rw [Lib.cell_of_heap hb]; rfl
  have c1 : w.cell? ⟨b, 1, none⟩ = some (.int .i64 0) := by rw [Lib.cell_of_heap hb]; rfl
  clear hb
  rcases hv with ⟨rfl, rfl⟩ | ⟨h, cap, cur, rfl, hMh, hR, hcl, hle, hcm, ht, h1⟩
  · go_enter Tryf.func31, Tryf.ntmps31
    go_wp2
    go_quiet (fail)
    go_wp2
    go_ret
    exact ⟨none, 0, rfl, Same.drewN _ _, .inl ⟨rfl, rfl⟩, fun _ => rfl⟩
  · have HT : Hid (cur.take bs.length = bs) := ht
    have HR : Hid (Row w h cur) := hR
    clear hR ht hcl
    unfold maxLen at hcm
    have hcap : ¬ cap = 0 := by omega
    generalize hN : bs.length = n at *
    have HN : Hid (bs.length = n) := hN
    clear hN
    go_enter Tryf.func31, Tryf.ntmps31
    go_wp2
    go_quiet (fail)
    go_wp2
    go_ret
    refine ⟨some ⟨h, 0, none⟩, cap, rfl, Same.drewN _ _, ?_, fun e => by cases e⟩
    have h0 := (HR.out.drewN 1).reads_at 0 n
    rw [List.drop_zero, HT.out] at h0
    exact h0

set_option maxRecDepth 100000 in
set_option maxHeartbeats 1000000 in
theorem clone30 (ao : Option Addr) (c : Nat) (D : List Value) (w : World) (hD : Byts D) (hl : D.length ≤ 140737488355328) (hr : Reads w ao D) (hc : ao = none → c = 0) :
    Calls Tryf.prog 30 #[.slice ao D.length c] w fun e w' => ∃ ao' c', e = .returned (.slice ao' D.length c') ∧ Below w.heap.size w w' ∧ Reads w' ao' D ∧ ∀ x, ao' = some x → w.heap.size ≤ x.block := by
  obtain ⟨i0, hi, hz0, hz1, hz2⟩ := info_parts Tryf.info5
  rcases hr with ⟨rfl, rfl⟩ | ⟨x, rfl, hcell⟩
  · obtain rfl := hc rfl
    have hnil := fun w => Lib.run_eql_slice_nil (P := Tryf.prog) w 22 5 none 0 0 0 0 Tryf.underlying22
    rw [List.length_nil]
    go_enter Tryf.func30, Tryf.ntmps30
    go_wp2
    go_ret
    exact ⟨none, ⟨0, rfl⟩, Below.refl _ _, .inl ⟨rfl, rfl⟩, fun x e => by cases e⟩
  · have HD : Hid (Byts D) := hD
    have HC : Hid (∀ j v, D[j]? = some v → w.cell? (x.add j) = some v) := hcell
    clear hD hcell hc
    generalize hN : D.length = n at *
    have HN : Hid (D.length = n) := hN
    clear hN
    have hnil := fun w => Lib.run_eql_slice_nil (P := Tryf.prog) w 22 5 (some x) n c 0 0 Tryf.underlying22
    have u22 : ∀ w, Sem.run Tryf.prog (underlying 22) w = .ok (TypeDesc.slice 5) w := run_underlying Tryf.underlying22
    have z5 : ∀ w, Sem.run Tryf.prog (Go.sizeOf 5) w = .ok 1 w := fun w => by simp [Go.sizeOf, typeInfo, hi, hz1]
    go_enter Tryf.func30, Tryf.ntmps30
    go_wp2_with (at_builtin; refine wpList_append_own _ rfl _ _ 22 rfl w.heap.size 5 i0 (.int .u8 0) 1 1 Tryf.underlying22 hi hz0 hz1 hz2 rfl (by decide) _ _ _ rfl (World.ownsRow_made w #[] 0 (Nat.le_refl _) (Nat.zero_le _) rfl) x n c D rfl ?qc1 ?qc2 ?qc3 ?qc4 ?qc5 ?qc6 ?_)
    case qc1 => rw [HN.out]; omega
    case qc2 =>
      intro j u hj
      exact Lib.cell?_alloc_some _ (HC.out j u hj)
    case qc3 => exact HD.out.one
    case qc4 => unfold maxLen; omega
    case qc5 => omega
    case qc6 => simp
    intro v' w1 hown hgrow hnil2
    have HB : Hid (Below w.heap.size w w1) := ((Below.refl _ w).alloc (Nat.le_refl _) _).grown hgrow (by simp) (by intro k hk; simp [Value.ownBlock] at hk; omega)
    obtain ⟨hl1, hown⟩ := hown
    have HO : Hid (∃ ao' c', v' = .slice ao' n c' ∧ Reads w1 ao' D ∧ ∀ x, ao' = some x → w.heap.size ≤ x.block) := by
      rcases hown with ⟨rfl, h0⟩ | ⟨g, cap, cur, rfl, hg, hh, _, _, _, ht⟩
      · have h0' : n = 0 := by omega
        subst h0'
        exact ⟨none, 0, rfl, .inl ⟨rfl, List.eq_nil_of_length_eq_zero HN.out⟩, fun x e => by cases e⟩
      · refine ⟨some ⟨g, 0, none⟩, cap, by simp, .inr ⟨_, rfl, fun j v hv => ?_⟩, fun x e => by cases e; exact hg⟩
        rw [Go.WideShapes.add_plain, Nat.zero_add, Lib.cell_of_heap hh]
        have hj := (List.getElem?_eq_some_iff.1 hv).1
        rw [HN.out] at hj
        rw [← ht, List.getElem?_take] at hv
        split at hv
        · simpa using hv
        · cases hv
    clear hown hgrow hnil2 hl1
    go_wp2
    go_ret
    obtain ⟨ao', c', e, hR⟩ := HO.out
    subst e
    exact ⟨ao', c', rfl, HB.out, hR⟩

/-- All that has been written: what the buffer holds and what still lies in the writer's array. -/
theorem written11 (M p b g S n : Nat) (bs buf out : List Value) (w : World) (h : DstAt M p b g S n bs buf w) (ho : bs ++ buf.take n = out) (hl : out.length ≤ 1099511627776) :
    Calls Tryf.prog 11 #[.pointer (some ⟨p, 0, none⟩), .pointer (some ⟨b, 0, none⟩)] w fun e w' => ∃ ao c, e = .returned (.slice ao out.length c) ∧ Reads w' ao out ∧ Keeps M (fun k => k = p ∨ k = b) w w' ∧ ∀ x, ao = some x → M ≤ x.block := by
  have key : ∀ w1, IsBuf M b out w1 → Keeps M (fun k => k = p ∨ k = b) w w1 → M ≤ w1.heap.size → Calls Tryf.prog 31 #[.pointer (some ⟨b, 0, none⟩)] w1 fun e w2 => ∃ ao c, e = .returned (.slice ao out.length c) ∧ Keeps M (fun k => k = p ∨ k = b) w w2 ∧ M ≤ w2.heap.size ∧ Reads w2 ao out ∧ (ao = none → c = 0) := by
    intro w1 hI hK hM
    refine (bytes31 M b out w1 hI).mono ?_
    rintro e w2 ⟨ao, c, rfl, hs, hR, hc⟩
    exact ⟨ao, c, rfl, hK.trans (hs.keeps _ _), by rw [hs.size]; exact hM, hR, hc⟩
  have hob : Byts out := by rw [← ho]; exact h.hbs.append (h.hbuf.take n)
  have hfl : Calls Tryf.prog 26 #[.pointer (some ⟨p, 0, none⟩)] w fun e w' => e = .returned .nilIface ∧ IsBuf M b out w' ∧ Keeps M (fun k => k = p ∨ k = b) w w' ∧ M ≤ w'.heap.size := by
    by_cases hn : n = 0
    · subst hn
      rw [List.take_zero, List.append_nil] at ho
      subst ho
      refine (flush_zero M p b g S bs buf w h).mono ?_
      rintro e w1 ⟨rfl, rfl⟩
      exact ⟨rfl, h.hI, Keeps.refl _ _ _, h.hM⟩
    · refine (flush_some M p b g S n bs buf w h (by omega) ?_).mono ?_
      · rw [← ho, List.length_append, List.length_take, h.len] at hl
        have := h.nS
        omega
      · rintro e w1 ⟨rfl, hD, hK⟩
        rw [ho] at hD
        exact ⟨rfl, hD.hI, hK, hD.hM⟩
  have KEY : Hid _ := key
  have HF : Hid _ := hfl
  have HO : Hid (Byts out) := hob
  clear key hfl hob ho h
  generalize hN : out.length = N at *
  have HN : Hid (out.length = N) := hN
  clear hN
  go_enter Tryf.func11, Tryf.ntmps11
  go_wp2_with fail
  refine Calls.mono HF.out ?_
  rintro e w1 ⟨rfl, hI, hK, hM⟩
  go_wp2_with fail
  refine Calls.mono (KEY.out w1 hI hK hM) ?_
  rintro e w2 ⟨ao, c, rfl, hK2, hM2, hR, hc⟩
  go_wp2_with fail
  refine (Calls.mono (by have := clone30 ao c out w2 HO.out (by rw [HN.out]; omega) hR hc; rw [HN.out] at this; exact this) ?_)
  rintro e w3 ⟨ao', c', rfl, hB, hR3, hfr⟩
  clear hI hK hM hR hc
  have HK3 : Hid (Keeps M (fun k => k = p ∨ k = b) w w3) := hK2.trans (Keeps.below (hB.mono hM2))
  have HR3 : Hid (Reads w3 ao' out ∧ ∀ x, ao' = some x → M ≤ x.block) := ⟨hR3, fun x e => Nat.le_trans hM2 (hfr x e)⟩
  clear hR3 hB hK2 hfr
  go_wp2
  go_ret
  exact ⟨ao', c', rfl, HR3.out.1, HK3.out, HR3.out.2⟩

theorem assert_dst (a : Addr) (w : World) : (Instr.typeAssert (.iface 28 (.pointer (some a))) 84 27 true).run Tryf.prog w = .ok (.tuple #[.pointer none, .bool false]) w := by kernel_rfl

def bufSize (z : Int) : Nat := if z ≤ 0 then 4096 else z.toNat

set_option maxRecDepth 100000 in
theorem newWriter23 (b : Nat) (z : Int) (w : World) (hz : z ≤ 65536) (hz2 : -9223372036854775808 ≤ z) :
    Calls Tryf.prog 23 #[.iface 28 (.pointer (some ⟨b, 0, none⟩)), .int .i64 z] w fun e w' => e = .returned (.pointer (some ⟨w.heap.size + 1, 0, none⟩)) ∧ Below w.heap.size w w' ∧ w'.heap.size = w.heap.size + 2 ∧ Row w' w.heap.size (List.replicate (bufSize z) (.int .u8 0)) ∧
      w'.heap[w.heap.size + 1]? = some (.cells #[.nilIface, .slice (some ⟨w.heap.size, 0, none⟩) (bufSize z) (bufSize z), .int .i64 0, .iface 28 (.pointer (some ⟨b, 0, none⟩))] 87 (0, 0)) := by
  have hta := assert_dst ⟨b, 0, none⟩
  by_cases h0 : z ≤ 0
  · have e : bufSize z = 4096 := by simp [bufSize, h0]
    rw [e]
    have hmk : ∀ w, (Instr.makeSlice 22 (.int .i64 4096) (.int .i64 4096)).run Tryf.prog w = .ok (.slice (some ⟨w.heap.size, 0, none⟩) 4096 4096) (w.alloc (.cells (madeCells #[.int .u8 0] 4096) 5)) := run_makeN 4096 4096 (by omega) (by omega)
    have HM : Hid (∀ w : World, Row (w.alloc (.cells (madeCells #[.int .u8 0] 4096) 5)) w.heap.size (List.replicate 4096 (.int .u8 0))) := fun w => Row.made w 4096
    generalize madeCells #[.int .u8 0] 4096 = cells at hmk HM
    generalize hR : List.replicate 4096 (Value.int .u8 0) = L at *
    clear hR e
    go_enter Tryf.func23, Tryf.ntmps23
    go_wp2
    go_ret
    refine ⟨rfl, ((Below.refl _ w).alloc (Nat.le_refl _) _).alloc (by simp) _, by simp, ?_, ?_⟩
    · unfold Row
      rw [Below.heap_alloc _ _ _ (by simp)]
      exact HM.out w
    · have h1 := heap_alloc_new (w.alloc (.cells cells 5)) (.cells #[.nilIface, .slice (some ⟨w.heap.size, 0, none⟩) 4096 4096, .int .i64 0, .iface 28 (.pointer (some ⟨b, 0, none⟩))] 87)
      rw [World.size_alloc] at h1
      exact h1
  · obtain ⟨S, rfl⟩ : ∃ S : Nat, z = (S : Int) := ⟨z.toNat, by omega⟩
    have e : bufSize (S : Int) = S := by simp [bufSize]; omega
    rw [e]
    have hmk := run_makeN S S (by omega) (by omega)
    have HM : Hid (∀ w : World, Row (w.alloc (.cells (madeCells #[.int .u8 0] S) 5)) w.heap.size (List.replicate S (.int .u8 0))) := fun w => Row.made w S
    generalize madeCells #[.int .u8 0] S = cells at hmk HM
    generalize hR : List.replicate S (Value.int .u8 0) = L at *
    clear hR e
    have h0' : ((S : Int) ≤ 0) = False := by simp; omega
    go_enter Tryf.func23, Tryf.ntmps23
    go_wp2
    go_ret
    refine ⟨rfl, ((Below.refl _ w).alloc (Nat.le_refl _) _).alloc (by simp) _, by simp, ?_, ?_⟩
    · unfold Row
      rw [Below.heap_alloc _ _ _ (by simp)]
      exact HM.out w
    · have h1 := heap_alloc_new (w.alloc (.cells cells 5)) (.cells #[.nilIface, .slice (some ⟨w.heap.size, 0, none⟩) S S, .int .i64 0, .iface 28 (.pointer (some ⟨b, 0, none⟩))] 87)
      rw [World.size_alloc] at h1
      exact h1

theorem bufSize_pos (z : Int) : 0 < bufSize z := by unfold bufSize; split <;> omega
theorem bufSize_le (z : Int) (hz : z ≤ 65536) : bufSize z ≤ 65536 := by unfold bufSize; split <;> omega

theorem newDst9 (m c xb xo : Nat) (P : List Value) (ap : Option Addr) (z : Int) (w : World) (hz : z ≤ 65536) (hz2 : -9223372036854775808 ≤ z) (hP : P.length = m) (hPb : Byts P) (hm : m ≤ 1048576) (hmc : m ≤ c)
    (hap : 0 < m → ap = some ⟨xb, xo, none⟩) (hr : ∀ j v, P[j]? = some v → w.cell? ⟨xb, xo + j, none⟩ = some v) :
    Calls Tryf.prog 9 #[.slice ap m c, .int .i64 z] w fun e w' => e = .returned (.tuple #[.pointer (some ⟨w.heap.size + 2, 0, none⟩), .pointer (some ⟨w.heap.size, 0, none⟩)]) ∧
      (∃ n bs buf, DstAt (w.heap.size + 3) (w.heap.size + 2) w.heap.size (w.heap.size + 1) (bufSize z) n bs buf w' ∧ bs ++ buf.take n = P) ∧ Below w.heap.size w w' := by
  have hxb : 0 < m → xb < w.heap.size := by
    intro h
    have h0 := hr 0 _ (List.getElem?_eq_getElem (by omega))
    exact World.block_lt_of_cell? w _ h0
  have HXB : Hid (0 < m → xb < w.heap.size) := hxb
  have HR : Hid (∀ j v, P[j]? = some v → w.cell? ⟨xb, xo + j, none⟩ = some v) := hr
  have HAP : Hid (0 < m → ap = some ⟨xb, xo, none⟩) := hap
  have HP : Hid (P.length = m) := hP
  have HPb : Hid (Byts P) := hPb
  clear hxb hr hap hP hPb
  go_enter Tryf.func9, Tryf.ntmps9
  go_wp2_with fail
  obtain ⟨w0, hw0⟩ : ∃ w0, w0 = w.alloc (.cells #[.slice none 0 0, .int .i64 0, .int .i8 0] 50) := ⟨_, rfl⟩
  have hs0 : w0.heap.size = w.heap.size + 1 := by rw [hw0, World.size_alloc]
  have hb0 : w0.heap[w.heap.size]? = some (.cells #[.slice none 0 0, .int .i64 0, .int .i8 0] 50 (0, 0)) := by rw [hw0]; exact heap_alloc_new _ _
  have hB0 : Below w.heap.size w w0 := by rw [hw0]; exact (Below.refl _ w).alloc (Nat.le_refl _) _
  rw [← hw0]
  clear hw0
  refine (newWriter23 w.heap.size z w0 hz hz2).mono ?_
  rintro e w1 ⟨rfl, hB1, hs1, hrow, hp⟩
  rw [hs0] at hs1 hrow hp hB1
  have hB : Below w.heap.size w w1 := hB0.trans (hB1.mono (by omega))
  have hD : DstAt (w.heap.size + 3) (w.heap.size + 2) w.heap.size (w.heap.size + 1) (bufSize z) 0 [] (List.replicate (bufSize z) (.int .u8 0)) w1 := by
    refine ⟨by omega, by omega, by omega, by omega, by omega, by omega, hp, hrow, by simp, Nat.zero_le _, bufSize_pos z, Nat.le_trans (bufSize_le z hz) (by omega), ⟨by omega, _, 0, ?_, .inl ⟨rfl, rfl⟩⟩, fun v hv => (by cases hv), fun v hv => ⟨0, (List.mem_replicate.1 hv).2⟩⟩
    rw [hB1.block _ (by omega)]
    exact hb0
  have HD : Hid _ := hD
  have HB : Hid (Below w.heap.size w w1) := hB
  have hsz : w0.heap.size = w.heap.size + 1 := hs0
  clear hD hB hB0 hB1 hrow hp hs1 hb0
  rw [hsz, Nat.add_assoc]
  clear hsz hs0
  go_wp2_with fail
  refine Calls.mono (write24 (w.heap.size + 3) (w.heap.size + 2) w.heap.size (w.heap.size + 1) (bufSize z) 0 m c xb xo [] (List.replicate (bufSize z) (.int .u8 0)) P ap w1 HD.out HP.out HPb.out hm hmc HAP.out (fun h => by have := HXB.out h; omega) ?_ (by simp; omega)) ?_
  · intro j v hv
    rw [HB.out.cell (by have := (List.getElem?_eq_some_iff.1 hv).1; rw [HP.out] at this; exact HXB.out (by omega))]
    exact HR.out j v hv
  · rintro e w2 ⟨rfl, n', bs', buf', hD2, hj, hK⟩
    have HD2 : Hid _ := hD2
    have HJ : Hid (bs' ++ buf'.take n' = P) := by
      show bs' ++ buf'.take n' = P
      rw [hj]; simp
    have HK : Hid (Below w.heap.size w w2) := HB.out.trans ((hK.mono (M' := w.heap.size) (S' := fun _ => False) (by omega) (fun k hk h => by rcases h with h | h | h <;> omega)).toBelow (fun _ _ h => h))
    clear hD2 hj hK
    go_wp2
    go_ret2
    exact ⟨rfl, ⟨_, _, _, HD2.out, HJ.out⟩, HK.out⟩
end Go.Proofs.Qxb6612850aFmt
