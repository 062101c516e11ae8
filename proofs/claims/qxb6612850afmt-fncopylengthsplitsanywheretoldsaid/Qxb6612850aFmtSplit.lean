/- FnCopyLengthSplitsAnywhere: the walk. -/
import Derived.Test.Qxb6612850aFmtExact
namespace Go.Proofs.Qxb6612850aFmt
open Go.RowKit Go.Deep Go.Extern.Stop Go.Stop Go.Extern
set_option linter.unusedVariables false

theorem copyCount_le (n : Int) (A : Nat) : copyCount n A ≤ A := by unfold copyCount; split <;> omega
theorem copyCount_add (x y : Int) (L : Nat) (hx : 0 ≤ x) (hy : 0 ≤ y) : copyCount x L + copyCount y (L - copyCount x L) = copyCount (x + y) L := by
  unfold copyCount
  split <;> split <;> split <;> omega

theorem Reads.nilList {w : World} {a : Option Addr} {l : List Value} (h : Reads w a l) (ha : a = none) : l = [] := by
  rcases h with ⟨_, h⟩ | ⟨x, h, _⟩
  · exact h
  · rw [ha] at h; cases h

set_option maxRecDepth 100000 in
set_option maxHeartbeats 40000000 in
theorem split_small (F : Interp) (a3 a4 : Addr) (s : ByteArray) (a b : Option Addr) (ca cb k k1 : Nat) (A D : List Value) (x y r z : Int) (w : World) (hA : Byts A) (hD : Byts D) (ha : Reads w a A) (hb : Reads w b D) (hca : a = none → ca = 0) (hcb : b = none → cb = 0)
    (hla : A.length ≤ ca ∧ ca ≤ 9223372036854775807) (hlb : D.length ≤ cb ∧ cb ≤ 9223372036854775807) (hS : Sent F a3 a4 s w) (hN : 3 < w.heap.size ∧ 4 < w.heap.size ∧ a4.block < w.heap.size)
    (hx : 0 ≤ x ∧ x < 4611686018427387904) (hy : 0 ≤ y ∧ y < 4611686018427387904) (hr : -9223372036854775808 ≤ r ∧ r ≤ 65536) (hz : -9223372036854775808 ≤ z ∧ z ≤ 65536) (h1 : A.length ≤ 524288) (h2 : D.length ≤ 524288) (hk : k = copyCount (x + y) D.length) (hk1 : k1 = copyCount x D.length) :
    Calls Tryf.prog 4 #[.slice a A.length ca, .slice b D.length cb, .int .i64 x, .int .i64 y, .int .i64 r, .int .i64 z] w fun e w' => e = .returned (.bool true) ∧ Below w.heap.size w w' := by
  have HB6 : Hid (Calls Tryf.prog 15 #[.slice a A.length ca, .slice b D.length cb, .int .i64 x, .int .i64 y, .int .i64 r, .int .i64 z] w fun e w' => e = .returned (.bool true) ∧ w = w') := by
    have h := bytes15 a b A.length ca D.length cb (.int .i64 x) (.int .i64 y) (.int .i64 r) (.int .i64 z) w (by omega) (by omega)
    rw [decide_eq_true (show A.length + D.length ≤ 1048576 by omega)] at h
    exact h
  have HC1 : Hid (Calls Tryf.prog 8 #[.slice b D.length cb] w fun e w' => ∃ ao, e = .returned (.slice ao D.length D.length) ∧ ClonedAt w.heap.size D ao w' ∧ Below w.heap.size w w') := clone_any b cb D w (by omega) hD hb hcb
  have hkD : k ≤ D.length := by rw [hk]; exact copyCount_le _ _
  have hk1D : k1 ≤ D.length := by rw [hk1]; exact copyCount_le _ _
  have HKK : Hid (k1 + copyCount y (D.length - k1) = k) := by rw [hk, hk1]; exact copyCount_add x y _ hx.1 hy.1
  have HTK : Hid ((A ++ D.take k1) ++ (D.drop k1).take (copyCount y (D.length - k1)) = A ++ D.take k) := by
    show _ = _
    rw [List.append_assoc, ← HKK.out, List.take_add]
  have HA : Hid (Byts A) := hA
  have HD : Hid (Byts D) := hD
  have RA : Hid (Reads w a A) := ha
  have RB : Hid (Reads w b D) := hb
  have HCA : Hid (a = none → ca = 0) := hca
  have HCB : Hid (b = none → cb = 0) := hcb
  have HS : Hid (Sent F a3 a4 s w) := hS
  have HN : Hid (3 < w.heap.size ∧ 4 < w.heap.size ∧ a4.block < w.heap.size) := hN
  have HK : Hid (k = copyCount (x + y) D.length) := hk
  have HK1 : Hid (k1 = copyCount x D.length) := hk1
  have hlo : (A ++ D.take k).length = A.length + k := by rw [List.length_append, List.length_take, Nat.min_eq_left hkD]
  have hlt : (D.take k).length = k := by rw [List.length_take, Nat.min_eq_left hkD]
  have hlr : (D.drop k).length = D.length - k := List.length_drop
  have HLO : Hid ((A ++ D.take k).length = A.length + k) := hlo
  have HLT : Hid ((D.take k).length = k) := hlt
  have HLR : Hid ((D.drop k).length = D.length - k) := hlr
  clear hA hD ha hb hca hcb hS hN hk hk1 hlo hlt hlr
  go_enter Tryf.func4, Tryf.ntmps4
  go_wp2_with fail
  refine Calls.mono HB6.out ?_
  rintro e w' ⟨rfl, hw⟩
  subst hw
  go_upto_if 73 with fail
  go_cut [14] (fun v14 wc => v14 = .int .i64 (k : Int) ∧ w = wc)
  case first =>
    have hk := HK.out
    unfold copyCount at hk
    by_cases c2 : x + y ≤ (D.length : Int)
    · rw [if_pos c2] at hk
      go_wp2
      go_meet
      exact ⟨by go_num, rfl⟩
    · rw [if_neg c2] at hk
      go_wp2
      go_meet
      exact ⟨by rw [hk], rfl⟩
  case rest =>
    obtain ⟨rfl, hwc⟩ := hcut
    subst hwc
    clear HB6
    go_wp2_with fail
    refine Calls.mono HC1.out ?_
    rintro e w1 ⟨ao1, rfl, hcl1, hB1⟩
    have HQ1 : Hid (ClonedAt w.heap.size D ao1 w1 ∧ Below w.heap.size w w1) := ⟨hcl1, hB1⟩
    clear hcl1 hB1 HC1
    go_wp2_with fail
    refine Calls.mono (src_new w.heap.size w.heap.size D ao1 r w1 hr.2 hr.1 HD.out (by omega) (Nat.le_refl _) HQ1.out.2.size HQ1.out.1) ?_
    rintro e w2 ⟨sp, sq, sg, sd, SS, rfl, hs2, hlow, hmid, hB2⟩
    have HQ2 : Hid (SrcHas sp sq sg sd SS 0 D w2 ∧ (w.heap.size ≤ sp ∧ w.heap.size ≤ sq ∧ w.heap.size ≤ sg ∧ w.heap.size ≤ sd) ∧ (sp < w2.heap.size ∧ sq < w2.heap.size ∧ sg < w2.heap.size ∧ sd < w2.heap.size) ∧ Below w.heap.size w w2) := ⟨hs2, hlow, hmid, HQ1.out.2.trans (hB2.mono HQ1.out.2.size)⟩
    clear hs2 hlow hmid hB2 HQ1
    go_wp2_with fail
    refine Calls.mono (clone_any a ca A w2 (by omega) HA.out (RA.out.below HQ2.out.2.2.2) HCA.out) ?_
    rintro e w3 ⟨ao3, rfl, hcl3, hB3⟩
    have HQ3 : Hid (ClonedAt w2.heap.size A ao3 w3 ∧ Below w2.heap.size w2 w3) := ⟨hcl3, hB3⟩
    clear hcl3 hB3
    go_wp2_with fail
    refine Calls.mono (dst_new w2.heap.size A ao3 z w3 hz.2 hz.1 HA.out (by omega) HQ3.out.1) ?_
    rintro e w4 ⟨M, p, b', g, S, rfl, hd4, hge, htop, hB4⟩
    have HP4 : Hid (Pair w.heap.size M p b' g S sp sq sg sd SS 0 D A w4 ∧ Below w.heap.size w w4) := by
      obtain ⟨q1, q2, q3, q4⟩ := HQ2.out
      have q5 := HQ3.out.2.size
      have q6 := q4.size
      have hB24 : Below w2.heap.size w2 w4 := HQ3.out.2.trans (hB4.mono q5)
      exact ⟨Pair.new q1 hd4 hB24 q2 q3 ⟨by omega, by omega, by omega⟩ htop, q4.trans (hB24.mono q6)⟩
    clear hd4 hge htop hB4 HQ2 HQ3
    go_wp2_with fail
    have hCP := copy_any F a3 a4 s x (by omega) (by omega) HN.out (HS.out.below HN.out HP4.out.2) (by omega) (by omega) (Nat.zero_le _) HP4.out.1
    rw [Nat.zero_add, Nat.sub_zero, List.drop_zero, ← HK1.out] at hCP
    refine Calls.mono hCP ?_
    clear hCP
    rintro ev w5 ⟨hP5, hB5, hev⟩
    have HP5 : Hid (Pair w.heap.size M p b' g S sp sq sg sd SS k1 D (A ++ D.take k1) w5 ∧ Below w.heap.size w w5) := ⟨hP5, HP4.out.2.trans hB5⟩
    obtain ⟨ev1, rfl, hev'⟩ : ∃ ev' : Value, ev = .returned ev' ∧ ((x ≤ (D.length : Int) ∧ ev' = .nilIface) ∨ ((D.length : Int) < x ∧ ∃ N, ev' = .iface 105 (.pointer (some N)))) := by
      rcases hev with ⟨e1, e2⟩ | ⟨e1, N, e2⟩
      · exact ⟨_, e2, .inl ⟨e1, rfl⟩⟩
      · exact ⟨_, e2, .inr ⟨e1, N, rfl⟩⟩
    have HEV1 : Hid ((x ≤ (D.length : Int) ∧ ev1 = .nilIface) ∨ ((D.length : Int) < x ∧ ∃ N, ev1 = .iface 105 (.pointer (some N)))) := hev'
    clear hP5 hB5 hev hev' HP4
    go_wp2_with fail
    have hl5 : (A ++ D.take k1).length = A.length + k1 := by rw [List.length_append, List.length_take, Nat.min_eq_left hk1D]
    have hCP := copy_any F a3 a4 s y (by omega) (by omega) HN.out (HS.out.below HN.out HP5.out.2) (by rw [hl5]; omega) (by omega) hk1D HP5.out.1
    rw [HTK.out, HKK.out] at hCP
    refine Calls.mono hCP ?_
    clear hCP hl5
    rintro ev w6 ⟨hP6, hB6, hev⟩
    have HP6 : Hid (Pair w.heap.size M p b' g S sp sq sg sd SS k D (A ++ D.take k) w6 ∧ Below w.heap.size w w6) := ⟨hP6, HP5.out.2.trans hB6⟩
    obtain ⟨ev2, rfl, hev'⟩ : ∃ ev' : Value, ev = .returned ev' ∧ ((y ≤ ((D.length - k1 : Nat) : Int) ∧ ev' = .nilIface) ∨ (((D.length - k1 : Nat) : Int) < y ∧ ∃ N, ev' = .iface 105 (.pointer (some N)))) := by
      rcases hev with ⟨e1, e2⟩ | ⟨e1, N, e2⟩
      · exact ⟨_, e2, .inl ⟨e1, rfl⟩⟩
      · exact ⟨_, e2, .inr ⟨e1, N, rfl⟩⟩
    have HEV2 : Hid ((y ≤ ((D.length - k1 : Nat) : Int) ∧ ev2 = .nilIface) ∨ (((D.length - k1 : Nat) : Int) < y ∧ ∃ N, ev2 = .iface 105 (.pointer (some N)))) := hev'
    clear hP6 hB6 hev hev' HP5
    go_wp2_with fail
    have hWR := written_any (by rw [HLO.out]; omega) HP6.out.1
    rw [HLO.out] at hWR
    refine Calls.mono hWR ?_
    clear hWR
    rintro e w7 ⟨ao6, c6, rfl, hR6, hf6, hs6, hB6⟩
    have HQ6 : Hid (Reads w7 ao6 (A ++ D.take k) ∧ (∀ y, ao6 = some y → M ≤ y.block) ∧ SrcHas sp sq sg sd SS k D w7 ∧ Below w.heap.size w w7) := ⟨hR6, hf6, hs6, HP6.out.2.trans hB6⟩
    have HL6 : Hid ((sp < M ∧ sq < M ∧ sg < M ∧ sd < M) ∧ (w.heap.size ≤ sp ∧ w.heap.size ≤ sq ∧ w.heap.size ≤ sg ∧ w.heap.size ≤ sd) ∧ M ≤ w7.heap.size) := by
      obtain ⟨K, e1, e2⟩ := HP6.out.1.mid
      have e3 := HP6.out.1.top
      have e4 := HP6.out.1.size
      have e5 := hB6.size
      exact ⟨⟨by omega, by omega, by omega, by omega⟩, HP6.out.1.low, by omega⟩
    clear hR6 hf6 hs6 hB6 HP6
    go_wp2_with fail
    have hRS := rest12 sp sq sg sd SS k D a3 w7 HQ6.out.2.2.1 (HS.out.below HN.out HQ6.out.2.2.2).h3 (by have := HL6.out; have := HN.out; omega) (by have := HL6.out; have := HN.out; omega) hkD
    rw [HLR.out] at hRS
    refine Calls.mono hRS ?_
    clear hRS
    rintro e wA ⟨ao7, c7, rfl, hR7, hK7⟩
    have HQ7 : Hid (Reads wA ao6 (A ++ D.take k) ∧ Reads wA ao7 (D.drop k) ∧ Below w.heap.size w wA) := by
      have e1 := HL6.out
      refine ⟨HQ6.out.1.keeps hK7 (fun y hy e => by have := HQ6.out.2.1 y hy; omega), hR7, HQ6.out.2.2.2.trans ?_⟩
      exact (hK7.mono (M' := w.heap.size) (S' := fun _ => False) (by omega) (fun k hk e => by omega)).toBelow (fun _ _ e => e)
    have HNA : Hid (3 < wA.heap.size ∧ 4 < wA.heap.size ∧ a4.block < wA.heap.size) := by
      have e1 := HQ7.out.2.2.size
      have e2 := HN.out
      exact ⟨by omega, by omega, by omega⟩
    have HSA : Hid (Sent F a3 a4 s wA) := HS.out.below HN.out HQ7.out.2.2
    clear hR7 hK7 HQ6 HL6
    -- the second pair
    go_wp2_with fail
    refine Calls.mono (clone_any b cb D wA (by omega) HD.out (RB.out.below HQ7.out.2.2) HCB.out) ?_
    rintro e w1 ⟨ao1', rfl, hcl1, hB1⟩
    have HQ1 : Hid (ClonedAt wA.heap.size D ao1' w1 ∧ Below wA.heap.size wA w1) := ⟨hcl1, hB1⟩
    clear hcl1 hB1
    go_wp2_with fail
    refine Calls.mono (src_new wA.heap.size wA.heap.size D ao1' r w1 hr.2 hr.1 HD.out (by omega) (Nat.le_refl _) HQ1.out.2.size HQ1.out.1) ?_
    rintro e w2 ⟨sp', sq', sg', sd', SS', rfl, hs2, hlow, hmid, hB2⟩
    have HQ2 : Hid (SrcHas sp' sq' sg' sd' SS' 0 D w2 ∧ (wA.heap.size ≤ sp' ∧ wA.heap.size ≤ sq' ∧ wA.heap.size ≤ sg' ∧ wA.heap.size ≤ sd') ∧ (sp' < w2.heap.size ∧ sq' < w2.heap.size ∧ sg' < w2.heap.size ∧ sd' < w2.heap.size) ∧ Below wA.heap.size wA w2) := ⟨hs2, hlow, hmid, HQ1.out.2.trans (hB2.mono HQ1.out.2.size)⟩
    clear hs2 hlow hmid hB2 HQ1
    go_wp2_with fail
    refine Calls.mono (clone_any a ca A w2 (by omega) HA.out ((RA.out.below HQ7.out.2.2).below HQ2.out.2.2.2) HCA.out) ?_
    rintro e w3 ⟨ao3', rfl, hcl3, hB3⟩
    have HQ3 : Hid (ClonedAt w2.heap.size A ao3' w3 ∧ Below w2.heap.size w2 w3) := ⟨hcl3, hB3⟩
    clear hcl3 hB3
    go_wp2_with fail
    refine Calls.mono (dst_new w2.heap.size A ao3' z w3 hz.2 hz.1 HA.out (by omega) HQ3.out.1) ?_
    rintro e w4 ⟨M', p', b2, g', S', rfl, hd4, hge, htop, hB4⟩
    have HP4 : Hid (Pair wA.heap.size M' p' b2 g' S' sp' sq' sg' sd' SS' 0 D A w4 ∧ Below wA.heap.size wA w4) := by
      obtain ⟨q1, q2, q3, q4⟩ := HQ2.out
      have q5 := HQ3.out.2.size
      have q6 := q4.size
      have hB24 : Below w2.heap.size w2 w4 := HQ3.out.2.trans (hB4.mono q5)
      exact ⟨Pair.new q1 hd4 hB24 q2 q3 ⟨by omega, by omega, by omega⟩ htop, q4.trans (hB24.mono q6)⟩
    clear hd4 hge htop hB4 HQ2 HQ3
    go_wp2_with fail
    have hCP := copy_any F a3 a4 s (x + y) (by omega) (by omega) HNA.out (HSA.out.below HNA.out HP4.out.2) (by omega) (by omega) (Nat.zero_le _) HP4.out.1
    rw [Nat.zero_add, Nat.sub_zero, List.drop_zero, ← HK.out] at hCP
    refine Calls.mono hCP ?_
    clear hCP
    rintro ev w5 ⟨hP5, hB5, hev⟩
    have HP5 : Hid (Pair wA.heap.size M' p' b2 g' S' sp' sq' sg' sd' SS' k D (A ++ D.take k) w5 ∧ Below wA.heap.size wA w5) := ⟨hP5, HP4.out.2.trans hB5⟩
    obtain ⟨ev3, rfl, hev'⟩ : ∃ ev' : Value, ev = .returned ev' ∧ ((x + y ≤ (D.length : Int) ∧ ev' = .nilIface) ∨ ((D.length : Int) < x + y ∧ ∃ N, ev' = .iface 105 (.pointer (some N)))) := by
      rcases hev with ⟨e1, e2⟩ | ⟨e1, N, e2⟩
      · exact ⟨_, e2, .inl ⟨e1, rfl⟩⟩
      · exact ⟨_, e2, .inr ⟨e1, N, rfl⟩⟩
    have HEV3 : Hid ((x + y ≤ (D.length : Int) ∧ ev3 = .nilIface) ∨ ((D.length : Int) < x + y ∧ ∃ N, ev3 = .iface 105 (.pointer (some N)))) := hev'
    clear hP5 hB5 hev hev' HP4
    go_wp2_with fail
    have hWR := written_any (by rw [HLO.out]; omega) HP5.out.1
    rw [HLO.out] at hWR
    refine Calls.mono hWR ?_
    clear hWR
    rintro e w7 ⟨ao8, c8, rfl, hR6, hf6, hs6, hB6⟩
    have HQ8 : Hid (Reads w7 ao8 (A ++ D.take k) ∧ (∀ y, ao8 = some y → M' ≤ y.block) ∧ SrcHas sp' sq' sg' sd' SS' k D w7 ∧ Below wA.heap.size wA w7) := ⟨hR6, hf6, hs6, HP5.out.2.trans hB6⟩
    have HL8 : Hid ((sp' < M' ∧ sq' < M' ∧ sg' < M' ∧ sd' < M') ∧ (wA.heap.size ≤ sp' ∧ wA.heap.size ≤ sq' ∧ wA.heap.size ≤ sg' ∧ wA.heap.size ≤ sd') ∧ M' ≤ w7.heap.size) := by
      obtain ⟨K, e1, e2⟩ := HP5.out.1.mid
      have e3 := HP5.out.1.top
      have e4 := HP5.out.1.size
      have e5 := hB6.size
      exact ⟨⟨by omega, by omega, by omega, by omega⟩, HP5.out.1.low, by omega⟩
    clear hR6 hf6 hs6 hB6 HP5
    go_wp2_with fail
    have hRS := rest12 sp' sq' sg' sd' SS' k D a3 w7 HQ8.out.2.2.1 (HSA.out.below HNA.out HQ8.out.2.2.2).h3 (by have := HL8.out; have := HNA.out; omega) (by have := HL8.out; have := HNA.out; omega) hkD
    rw [HLR.out] at hRS
    refine Calls.mono hRS ?_
    clear hRS
    rintro e wB ⟨ao9, c9, rfl, hR7, hK7⟩
    have HQ9 : Hid (Reads wB ao6 (A ++ D.take k) ∧ Reads wB ao7 (D.drop k) ∧ Reads wB ao8 (A ++ D.take k) ∧ Reads wB ao9 (D.drop k) ∧ Below w.heap.size w wB) := by
      have e1 := HL8.out
      have e2 : Below wA.heap.size wA wB := HQ8.out.2.2.2.trans ((hK7.mono (M' := wA.heap.size) (S' := fun _ => False) (by omega) (fun k hk e => by omega)).toBelow (fun _ _ e => e))
      exact ⟨HQ7.out.1.below e2, HQ7.out.2.1.below e2, HQ8.out.1.keeps hK7 (fun y hy e => by have := HQ8.out.2.1 y hy; omega), hR7, HQ7.out.2.2.trans (e2.mono HQ7.out.2.2.size)⟩
    clear hR7 hK7 HQ8 HL8 HQ7 HNA HSA
    go_wp2_with fail
    have hCT := cat_any a b ca cb A (D.take k) wB (by rw [HLT.out]; omega) HA.out (HD.out.take k) (RA.out.below HQ9.out.2.2.2.2) ((RB.out.take k).below HQ9.out.2.2.2.2)
    rw [HLT.out] at hCT
    refine Calls.mono hCT ?_
    clear hCT
    rintro e wC ⟨rfl, hB8, hR8⟩
    have hB9 : ∀ n, Below wB.heap.size wB (wC.drewN n) := fun n => hB8.trans ((Keeps.drewN wB.heap.size (fun _ => False) wC n).toBelow (fun _ _ e => e))
    have HQC : Hid (Below w.heap.size w wC) := HQ9.out.2.2.2.2.trans (hB8.mono HQ9.out.2.2.2.2.size)
    -- the four comparisons
    have HE1 : Hid (∀ n, Calls Tryf.prog 13 #[.slice ao6 (A.length + k) c6, .slice ao8 (A.length + k) c8] (wC.drewN n) fun e w' => e = .returned (.bool true) ∧ ∃ m, w' = (wC.drewN n).drewN m) := by
      intro n
      have h := equal_same ao6 ao8 c6 c8 (A ++ D.take k) (wC.drewN n) (by rw [HLO.out]; omega) (HA.out.append (HD.out.take k)) (HQ9.out.1.below (hB9 n)) (HQ9.out.2.2.1.below (hB9 n))
      rw [HLO.out] at h
      exact h
    have HE2 : Hid (∀ n, Calls Tryf.prog 13 #[.slice ao7 (D.length - k) c7, .slice ao9 (D.length - k) c9] (wC.drewN n) fun e w' => e = .returned (.bool true) ∧ ∃ m, w' = (wC.drewN n).drewN m) := by
      intro n
      have h := equal_same ao7 ao9 c7 c9 (D.drop k) (wC.drewN n) (by rw [HLR.out]; omega) (HD.out.drop k) (HQ9.out.2.1.below (hB9 n)) (HQ9.out.2.2.2.1.below (hB9 n))
      rw [HLR.out] at h
      exact h
    have HE3 : Hid (∀ n, Calls Tryf.prog 13 #[.slice ao8 (A.length + k) c8, .slice (some ⟨wB.heap.size, 0, none⟩) (A.length + k) (A.length + k)] (wC.drewN n) fun e w' => e = .returned (.bool true) ∧ ∃ m, w' = (wC.drewN n).drewN m) := by
      intro n
      have h := equal_same ao8 (some ⟨wB.heap.size, 0, none⟩) c8 (A.length + k) (A ++ D.take k) (wC.drewN n) (by rw [HLO.out]; omega) (HA.out.append (HD.out.take k)) (HQ9.out.2.2.1.below (hB9 n)) hR8
      rw [HLO.out] at h
      exact h
    have HE4 : Hid (∀ bo c, Reads wC bo (D.drop k) → ∀ n, Calls Tryf.prog 13 #[.slice ao9 (D.length - k) c9, .slice bo (D.length - k) c] (wC.drewN n) fun e w' => e = .returned (.bool true) ∧ ∃ m, w' = (wC.drewN n).drewN m) := by
      intro bo c hbo n
      have h := equal_same ao9 bo c9 c (D.drop k) (wC.drewN n) (by rw [HLR.out]; omega) (HD.out.drop k) (HQ9.out.2.2.2.1.below (hB9 n)) hbo
      rw [HLR.out] at h
      exact h
    have HRB : Hid (Reads wC b D) := RB.out.below HQC.out
    clear hB8 hB9 hR8 HQ9 RA RB
    go_upto_region 25 with fail
    have HFIN : Hid (∀ n, Below w.heap.size w (wC.drewN n)) := fun n => HQC.out.trans ((Keeps.drewN w.heap.size (fun _ => False) wC n).toBelow (fun _ _ e => e))
    clear HQC
    have hk1' := HK1.out
    unfold copyCount at hk1'
    rcases HEV1.out with ⟨c1, rfl⟩ | ⟨c1, N1, rfl⟩
    · rw [if_pos c1] at hk1'
      rcases HEV3.out with ⟨c3, rfl⟩ | ⟨c3, N3, rfl⟩
      · obtain rfl : ev2 = .nilIface := by
          rcases HEV2.out with ⟨c2, e⟩ | ⟨c2, _⟩
          · exact e
          · omega
        clear hk1'
        rcases b with _ | q
        · have hD0 : D = [] := HRB.out.nilList rfl
          have hk0 : k = 0 := by rw [hD0] at hkD; simpa using hkD
          have hl0 : D.length = 0 := by rw [hD0]; rfl
          have hcb0 : cb = 0 := HCB.out rfl
          have hd1 : decide ((0 : Int) < x) = false := decide_eq_false (by omega)
          have hd3 : decide ((0 : Int) < x + y) = false := decide_eq_false (by omega)
          have HX4 : Hid (∀ n, Calls Tryf.prog 13 #[.slice ao9 (D.length - k) c9, .slice none (D.length - k) 0] (wC.drewN n) fun e w' => e = .returned (.bool true) ∧ ∃ m, w' = (wC.drewN n).drewN m) := HE4.out none 0 (.inl ⟨rfl, by rw [hD0]; simp⟩)
          clear HE4 hD0 hkD hk1D HKK HTK HK HK1 HEV1 HEV2 HEV3 HLO HLT HLR HRB HCB
          subst hk0
          subst hcb0
          rw [hl0] at *
          go_quiet (first | (go_at_call_of 13 (Value.slice ao6 (A.length) c6); exact Calls.quiet_of (HE1.out _)) | (go_at_call_of 13 (Value.slice ao7 (0) c7); exact Calls.quiet_of (HE2.out _)) | (go_at_call_of 13 (Value.slice ao8 (A.length) c8); exact Calls.quiet_of (HE3.out _)) | (go_at_call_of 13 (Value.slice ao9 (0) c9); exact Calls.quiet_of (HX4.out _)))
          go_wp2
          go_ret
          exact ⟨rfl, HFIN.out _⟩
        · have hd1 : decide ((D.length : Int) < x) = false := decide_eq_false (by omega)
          have hd3 : decide ((D.length : Int) < x + y) = false := decide_eq_false (by omega)
          by_cases hck : cb = k
          · have HX4 : Hid (∀ n, Calls Tryf.prog 13 #[.slice ao9 (D.length - k) c9, .slice (some q) (D.length - k) 0] (wC.drewN n) fun e w' => e = .returned (.bool true) ∧ ∃ m, w' = (wC.drewN n).drewN m) := HE4.out (some q) 0 (.inr ⟨q, rfl, fun j v hv => by rw [List.drop_of_length_le (by omega)] at hv; simp at hv⟩)
            clear HE4 HKK HTK HK HK1 HEV1 HEV2 HEV3 HLO HLT HLR HRB HCB
            go_quiet (first | (go_at_call_of 13 (Value.slice ao6 (A.length + k) c6); exact Calls.quiet_of (HE1.out _)) | (go_at_call_of 13 (Value.slice ao7 (D.length - k) c7); exact Calls.quiet_of (HE2.out _)) | (go_at_call_of 13 (Value.slice ao8 (A.length + k) c8); exact Calls.quiet_of (HE3.out _)) | (go_at_call_of 13 (Value.slice ao9 (D.length - k) c9); exact Calls.quiet_of (HX4.out _)))
            go_wp2
            go_ret
            exact ⟨rfl, HFIN.out _⟩
          · have HX4 : Hid (∀ n, Calls Tryf.prog 13 #[.slice ao9 (D.length - k) c9, .slice (some (q.add k)) (D.length - k) (cb - k)] (wC.drewN n) fun e w' => e = .returned (.bool true) ∧ ∃ m, w' = (wC.drewN n).drewN m) := HE4.out (some (q.add k)) (cb - k) (HRB.out.drop k)
            clear HE4 HKK HTK HK HK1 HEV1 HEV2 HEV3 HLO HLT HLR HRB HCB
            go_quiet (first | (go_at_call_of 13 (Value.slice ao6 (A.length + k) c6); exact Calls.quiet_of (HE1.out _)) | (go_at_call_of 13 (Value.slice ao7 (D.length - k) c7); exact Calls.quiet_of (HE2.out _)) | (go_at_call_of 13 (Value.slice ao8 (A.length + k) c8); exact Calls.quiet_of (HE3.out _)) | (go_at_call_of 13 (Value.slice ao9 (D.length - k) c9); exact Calls.quiet_of (HX4.out _)))
            go_wp2
            go_ret
            exact ⟨rfl, HFIN.out _⟩
      · obtain ⟨N2, rfl⟩ : ∃ N, ev2 = .iface 105 (.pointer (some N)) := by
          rcases HEV2.out with ⟨c2, e⟩ | ⟨c2, e⟩
          · omega
          · exact e
        clear hk1'
        rcases b with _ | q
        · have hD0 : D = [] := HRB.out.nilList rfl
          have hk0 : k = 0 := by rw [hD0] at hkD; simpa using hkD
          have hl0 : D.length = 0 := by rw [hD0]; rfl
          have hcb0 : cb = 0 := HCB.out rfl
          have hd1 : decide ((0 : Int) < x) = false := decide_eq_false (by omega)
          have hd3 : decide ((0 : Int) < x + y) = true := decide_eq_true (by omega)
          have HX4 : Hid (∀ n, Calls Tryf.prog 13 #[.slice ao9 (D.length - k) c9, .slice none (D.length - k) 0] (wC.drewN n) fun e w' => e = .returned (.bool true) ∧ ∃ m, w' = (wC.drewN n).drewN m) := HE4.out none 0 (.inl ⟨rfl, by rw [hD0]; simp⟩)
          clear HE4 hD0 hkD hk1D HKK HTK HK HK1 HEV1 HEV2 HEV3 HLO HLT HLR HRB HCB
          subst hk0
          subst hcb0
          rw [hl0] at *
          go_quiet (first | (go_at_call_of 13 (Value.slice ao6 (A.length) c6); exact Calls.quiet_of (HE1.out _)) | (go_at_call_of 13 (Value.slice ao7 (0) c7); exact Calls.quiet_of (HE2.out _)) | (go_at_call_of 13 (Value.slice ao8 (A.length) c8); exact Calls.quiet_of (HE3.out _)) | (go_at_call_of 13 (Value.slice ao9 (0) c9); exact Calls.quiet_of (HX4.out _)))
          go_wp2
          go_ret
          exact ⟨rfl, HFIN.out _⟩
        · have hd1 : decide ((D.length : Int) < x) = false := decide_eq_false (by omega)
          have hd3 : decide ((D.length : Int) < x + y) = true := decide_eq_true (by omega)
          by_cases hck : cb = k
          · have HX4 : Hid (∀ n, Calls Tryf.prog 13 #[.slice ao9 (D.length - k) c9, .slice (some q) (D.length - k) 0] (wC.drewN n) fun e w' => e = .returned (.bool true) ∧ ∃ m, w' = (wC.drewN n).drewN m) := HE4.out (some q) 0 (.inr ⟨q, rfl, fun j v hv => by rw [List.drop_of_length_le (by omega)] at hv; simp at hv⟩)
            clear HE4 HKK HTK HK HK1 HEV1 HEV2 HEV3 HLO HLT HLR HRB HCB
            go_quiet (first | (go_at_call_of 13 (Value.slice ao6 (A.length + k) c6); exact Calls.quiet_of (HE1.out _)) | (go_at_call_of 13 (Value.slice ao7 (D.length - k) c7); exact Calls.quiet_of (HE2.out _)) | (go_at_call_of 13 (Value.slice ao8 (A.length + k) c8); exact Calls.quiet_of (HE3.out _)) | (go_at_call_of 13 (Value.slice ao9 (D.length - k) c9); exact Calls.quiet_of (HX4.out _)))
            go_wp2
            go_ret
            exact ⟨rfl, HFIN.out _⟩
          · have HX4 : Hid (∀ n, Calls Tryf.prog 13 #[.slice ao9 (D.length - k) c9, .slice (some (q.add k)) (D.length - k) (cb - k)] (wC.drewN n) fun e w' => e = .returned (.bool true) ∧ ∃ m, w' = (wC.drewN n).drewN m) := HE4.out (some (q.add k)) (cb - k) (HRB.out.drop k)
            clear HE4 HKK HTK HK HK1 HEV1 HEV2 HEV3 HLO HLT HLR HRB HCB
            go_quiet (first | (go_at_call_of 13 (Value.slice ao6 (A.length + k) c6); exact Calls.quiet_of (HE1.out _)) | (go_at_call_of 13 (Value.slice ao7 (D.length - k) c7); exact Calls.quiet_of (HE2.out _)) | (go_at_call_of 13 (Value.slice ao8 (A.length + k) c8); exact Calls.quiet_of (HE3.out _)) | (go_at_call_of 13 (Value.slice ao9 (D.length - k) c9); exact Calls.quiet_of (HX4.out _)))
            go_wp2
            go_ret
            exact ⟨rfl, HFIN.out _⟩
    · obtain ⟨N3, rfl⟩ : ∃ N, ev3 = .iface 105 (.pointer (some N)) := by
        rcases HEV3.out with ⟨c3, e⟩ | ⟨c3, e⟩
        · omega
        · exact e
      clear hk1'
      rcases b with _ | q
      · have hD0 : D = [] := HRB.out.nilList rfl
        have hk0 : k = 0 := by rw [hD0] at hkD; simpa using hkD
        have hl0 : D.length = 0 := by rw [hD0]; rfl
        have hcb0 : cb = 0 := HCB.out rfl
        have hd1 : decide ((0 : Int) < x) = true := decide_eq_true (by omega)
        have hd3 : decide ((0 : Int) < x + y) = true := decide_eq_true (by omega)
        have HX4 : Hid (∀ n, Calls Tryf.prog 13 #[.slice ao9 (D.length - k) c9, .slice none (D.length - k) 0] (wC.drewN n) fun e w' => e = .returned (.bool true) ∧ ∃ m, w' = (wC.drewN n).drewN m) := HE4.out none 0 (.inl ⟨rfl, by rw [hD0]; simp⟩)
        clear HE4 hD0 hkD hk1D HKK HTK HK HK1 HEV1 HEV2 HEV3 HLO HLT HLR HRB HCB
        subst hk0
        subst hcb0
        rw [hl0] at *
        go_quiet (first | (go_at_call_of 13 (Value.slice ao6 (A.length) c6); exact Calls.quiet_of (HE1.out _)) | (go_at_call_of 13 (Value.slice ao7 (0) c7); exact Calls.quiet_of (HE2.out _)) | (go_at_call_of 13 (Value.slice ao8 (A.length) c8); exact Calls.quiet_of (HE3.out _)) | (go_at_call_of 13 (Value.slice ao9 (0) c9); exact Calls.quiet_of (HX4.out _)))
        go_wp2
        go_ret
        exact ⟨rfl, HFIN.out _⟩
      · have hd1 : decide ((D.length : Int) < x) = true := decide_eq_true (by omega)
        have hd3 : decide ((D.length : Int) < x + y) = true := decide_eq_true (by omega)
        by_cases hck : cb = k
        · have HX4 : Hid (∀ n, Calls Tryf.prog 13 #[.slice ao9 (D.length - k) c9, .slice (some q) (D.length - k) 0] (wC.drewN n) fun e w' => e = .returned (.bool true) ∧ ∃ m, w' = (wC.drewN n).drewN m) := HE4.out (some q) 0 (.inr ⟨q, rfl, fun j v hv => by rw [List.drop_of_length_le (by omega)] at hv; simp at hv⟩)
          clear HE4 HKK HTK HK HK1 HEV1 HEV2 HEV3 HLO HLT HLR HRB HCB
          go_quiet (first | (go_at_call_of 13 (Value.slice ao6 (A.length + k) c6); exact Calls.quiet_of (HE1.out _)) | (go_at_call_of 13 (Value.slice ao7 (D.length - k) c7); exact Calls.quiet_of (HE2.out _)) | (go_at_call_of 13 (Value.slice ao8 (A.length + k) c8); exact Calls.quiet_of (HE3.out _)) | (go_at_call_of 13 (Value.slice ao9 (D.length - k) c9); exact Calls.quiet_of (HX4.out _)))
          go_wp2
          go_ret
          exact ⟨rfl, HFIN.out _⟩
        · have HX4 : Hid (∀ n, Calls Tryf.prog 13 #[.slice ao9 (D.length - k) c9, .slice (some (q.add k)) (D.length - k) (cb - k)] (wC.drewN n) fun e w' => e = .returned (.bool true) ∧ ∃ m, w' = (wC.drewN n).drewN m) := HE4.out (some (q.add k)) (cb - k) (HRB.out.drop k)
          clear HE4 HKK HTK HK HK1 HEV1 HEV2 HEV3 HLO HLT HLR HRB HCB
          go_quiet (first | (go_at_call_of 13 (Value.slice ao6 (A.length + k) c6); exact Calls.quiet_of (HE1.out _)) | (go_at_call_of 13 (Value.slice ao7 (D.length - k) c7); exact Calls.quiet_of (HE2.out _)) | (go_at_call_of 13 (Value.slice ao8 (A.length + k) c8); exact Calls.quiet_of (HE3.out _)) | (go_at_call_of 13 (Value.slice ao9 (D.length - k) c9); exact Calls.quiet_of (HX4.out _)))
          go_wp2
          go_ret
          exact ⟨rfl, HFIN.out _⟩
end Go.Proofs.Qxb6612850aFmt
