/- FnCopyLengthCopiesExactly: the walk. -/
import Derived.Test.Qxb6612850aFmtPk
import Derived.Test.Qxb6612850aFmtRest
namespace Go.Proofs.Qxb6612850aFmt
open Go.RowKit Go.Deep Go.Extern.Stop Go.Stop Go.Extern
set_option linter.unusedVariables false

theorem below_lt {N : Nat} {w w' : World} (h : Below N w w') : w.heap.size ≤ w'.heap.size := h.size

/-- A row of bytes that came in, from k on. -/
theorem Reads.drop {w : World} {x : Addr} {l : List Value} (h : Reads w (some x) l) (k : Nat) : Reads w (some (x.add k)) (l.drop k) := by
  refine .inr ⟨_, rfl, fun j v hv => ?_⟩
  rw [List.getElem?_drop] at hv
  have := h.cell hv
  rw [show (x.add k).add j = x.add (k + j) by simp only [Addr.add]; split <;> split <;> simp_all <;> omega]
  exact this

set_option maxRecDepth 100000 in
set_option maxHeartbeats 2000000 in
theorem exact_small (F : Interp) (a3 a4 : Addr) (s : ByteArray) (a b : Option Addr) (ca cb k : Nat) (A D : List Value) (n r z : Int) (w : World) (hA : Byts A) (hD : Byts D) (ha : Reads w a A) (hb : Reads w b D) (hca : a = none → ca = 0) (hcb : b = none → cb = 0)
    (hla : A.length ≤ ca ∧ ca ≤ 9223372036854775807) (hlb : D.length ≤ cb ∧ cb ≤ 9223372036854775807) (hS : Sent F a3 a4 s w) (hN : 3 < w.heap.size ∧ 4 < w.heap.size ∧ a4.block < w.heap.size)
    (hn : -9223372036854775808 ≤ n ∧ n ≤ 9223372036854775807) (hr : -9223372036854775808 ≤ r ∧ r ≤ 65536) (hz : -9223372036854775808 ≤ z ∧ z ≤ 65536) (h1 : A.length ≤ 524288) (h2 : D.length ≤ 524288) (hk : k = copyCount n D.length) :
    Calls Tryf.prog 3 #[.slice a A.length ca, .slice b D.length cb, .int .i64 n, .int .i64 r, .int .i64 z] w fun e w' => e = .returned (.bool true) ∧ Below w.heap.size w w' := by
  have hdec : decide (A.length + D.length ≤ 1048576) = true := decide_eq_true (by omega)
  have HB6 : Hid (Calls Tryf.prog 6 #[.slice a A.length ca, .slice b D.length cb, .int .i64 n, .int .i64 r, .int .i64 z] w fun e w' => e = .returned (.bool true) ∧ w = w') := by
    have h := bytes6 a b A.length ca D.length cb (.int .i64 n) (.int .i64 r) (.int .i64 z) w (by omega) (by omega)
    rw [hdec] at h
    exact h
  have HC1 : Hid (Calls Tryf.prog 8 #[.slice b D.length cb] w fun e w' => ∃ ao, e = .returned (.slice ao D.length D.length) ∧ ClonedAt w.heap.size D ao w' ∧ Below w.heap.size w w') := clone_any b cb D w (by omega) hD hb hcb
  have hkD : k ≤ D.length := by rw [hk]; unfold copyCount; split <;> omega
  have HA : Hid (Byts A) := hA
  have HD : Hid (Byts D) := hD
  have RA : Hid (Reads w a A) := ha
  have RB : Hid (Reads w b D) := hb
  have HCA : Hid (a = none → ca = 0) := hca
  have HCB : Hid (b = none → cb = 0) := hcb
  have HS : Hid (Sent F a3 a4 s w) := hS
  have HN : Hid (3 < w.heap.size ∧ 4 < w.heap.size ∧ a4.block < w.heap.size) := hN
  have HK : Hid (k = copyCount n D.length) := hk
  obtain ⟨we, hwe⟩ : ∃ we : Bool, we = decide ((D.length : Int) < n) := ⟨_, rfl⟩
  have HWE : Hid (we = decide ((D.length : Int) < n)) := hwe
  clear hA hD ha hb hca hcb hS hN hk hdec
  go_enter Tryf.func3, Tryf.ntmps3
  go_wp2_with fail
  refine Calls.mono HB6.out ?_
  rintro e w' ⟨rfl, hw⟩
  subst hw
  go_upto_if 41 with fail
  go_cut [11, 12] (fun v11 v12 wc => v11 = .int .i64 (k : Int) ∧ v12 = .bool we ∧ w = wc)
  case first =>
    have hk := HK.out
    unfold copyCount at hk
    by_cases c1 : 0 < n
    · by_cases c2 : n ≤ (D.length : Int)
      · rw [if_pos c2] at hk
        go_wp2
        go_meet
        exact ⟨by go_num, by rw [hwe, decide_eq_false (by omega)], rfl⟩
      · rw [if_neg c2] at hk
        go_wp2
        go_meet
        exact ⟨by rw [hk], by rw [hwe, decide_eq_true (by omega)], rfl⟩
    · rw [if_pos (by omega)] at hk
      go_wp2
      go_meet
      exact ⟨by go_num, by rw [hwe, decide_eq_false (by omega)], rfl⟩
  case rest =>
    obtain ⟨rfl, rfl, hwc⟩ := hcut
    subst hwc
    clear hwe HB6
    go_wp2_with fail
    refine Calls.mono HC1.out ?_
    rintro e w1 ⟨ao1, rfl, hcl1, hB1⟩
    have HQ1 : Hid (ClonedAt w.heap.size D ao1 w1 ∧ Below w.heap.size w w1) := ⟨hcl1, hB1⟩
    clear hcl1 hB1 HC1
    go_wp2_with fail
    refine Calls.mono (src_new w.heap.size w.heap.size D ao1 r w1 hr.2 hr.1 HD.out (by omega) (Nat.le_refl _) HQ1.out.2.size HQ1.out.1) ?_
    rintro e w2 ⟨sp, sq, sg, sd, SS, rfl, hs2, hlow, hmid, hB2⟩
    have HQ2 : Hid (SrcHas sp sq sg sd SS 0 D w2 ∧ (w.heap.size ≤ sp ∧ w.heap.size ≤ sq ∧ w.heap.size ≤ sg ∧ w.heap.size ≤ sd) ∧ (sp < w2.heap.size ∧ sq < w2.heap.size ∧ sg < w2.heap.size ∧ sd < w2.heap.size) ∧ Below w.heap.size w w2) := ⟨hs2, hlow, hmid, HQ1.out.2.trans (hB2.mono HQ1.out.2.size)⟩
    clear hs2 hlow hmid hB2 HQ1
    go_wp2_with fail
    refine Calls.mono (clone_any a ca A w2 (by omega) HA.out (RA.out.below HQ2.out.2.2.2) HCA.out) ?_
    rintro e w3 ⟨ao3, rfl, hcl3, hB3⟩
    have HQ3 : Hid (ClonedAt w2.heap.size A ao3 w3 ∧ Below w2.heap.size w2 w3) := ⟨hcl3, hB3⟩
    clear hcl3 hB3
    go_wp2_with fail
    refine Calls.mono (dst_new w2.heap.size A ao3 z w3 hz.2 hz.1 HA.out (by omega) HQ3.out.1) ?_
    rintro e w4 ⟨M, p, b', g, S, rfl, hd4, hge, htop, hB4⟩
    have HP4 : Hid (Pair w.heap.size M p b' g S sp sq sg sd SS 0 D A w4 ∧ Below w.heap.size w w4) := by
      obtain ⟨q1, q2, q3, q4⟩ := HQ2.out
      have q5 := HQ3.out.2.size
      have q6 := q4.size
      have hB24 : Below w2.heap.size w2 w4 := HQ3.out.2.trans (hB4.mono q5)
      exact ⟨Pair.new q1 hd4 hB24 q2 q3 ⟨by omega, by omega, by omega⟩ htop, q4.trans (hB24.mono q6)⟩
    clear hd4 hge htop hB4 HQ2 HQ3
    go_wp2_with fail
    have hCP := copy_any F a3 a4 s n hn.1 hn.2 HN.out (HS.out.below HN.out HP4.out.2) (by omega) (by omega) (Nat.zero_le _) HP4.out.1
    rw [Nat.zero_add, Nat.sub_zero, List.drop_zero, ← HK.out] at hCP
    refine Calls.mono hCP ?_
    clear hCP
    rintro ev w5 ⟨hP5, hB5, hev⟩
    have HP5 : Hid (Pair w.heap.size M p b' g S sp sq sg sd SS k D (A ++ D.take k) w5 ∧ Below w.heap.size w w5) := ⟨hP5, HP4.out.2.trans hB5⟩
    obtain ⟨ev', rfl, hev'⟩ : ∃ ev' : Value, ev = .returned ev' ∧ ((ev' = .nilIface ∧ we = false) ∨ ∃ N, ev' = .iface 105 (.pointer (some N)) ∧ we = true) := by
      rcases hev with ⟨e1, e2⟩ | ⟨e1, N, e2⟩
      · exact ⟨_, e2, .inl ⟨rfl, by rw [HWE.out]; exact decide_eq_false (by omega)⟩⟩
      · exact ⟨_, e2, .inr ⟨N, rfl, by rw [HWE.out]; exact decide_eq_true (by omega)⟩⟩
    have HEV : Hid ((ev' = .nilIface ∧ we = false) ∨ ∃ N, ev' = .iface 105 (.pointer (some N)) ∧ we = true) := hev'
    clear hP5 hB5 hev hev' HP4
    go_wp2_with fail
    have hlo : (A ++ D.take k).length = A.length + k := by rw [List.length_append, List.length_take, Nat.min_eq_left hkD]
    have hWR := written_any (by rw [hlo]; omega) HP5.out.1
    rw [hlo] at hWR
    refine Calls.mono hWR ?_
    clear hWR
    rintro e w6 ⟨ao6, c6, rfl, hR6, hf6, hs6, hB6⟩
    have HQ6 : Hid (Reads w6 ao6 (A ++ D.take k) ∧ (∀ y, ao6 = some y → M ≤ y.block) ∧ SrcHas sp sq sg sd SS k D w6 ∧ Below w.heap.size w w6) := ⟨hR6, hf6, hs6, HP5.out.2.trans hB6⟩
    have HL6 : Hid ((sp < M ∧ sq < M ∧ sg < M ∧ sd < M) ∧ (w.heap.size ≤ sp ∧ w.heap.size ≤ sq ∧ w.heap.size ≤ sg ∧ w.heap.size ≤ sd) ∧ M ≤ w6.heap.size) := by
      obtain ⟨K, e1, e2⟩ := HP5.out.1.mid
      have e3 := HP5.out.1.top
      have e4 := HP5.out.1.size
      have e5 := hB6.size
      exact ⟨⟨by omega, by omega, by omega, by omega⟩, HP5.out.1.low, by omega⟩
    clear hR6 hf6 hs6 hB6 HP5
    go_wp2_with fail
    have hRS := rest12 sp sq sg sd SS k D a3 w6 HQ6.out.2.2.1 (HS.out.below HN.out HQ6.out.2.2.2).h3 (by have := HL6.out; have := HN.out; omega) (by have := HL6.out; have := HN.out; omega) hkD
    have hlr : (D.drop k).length = D.length - k := List.length_drop
    rw [hlr] at hRS
    refine Calls.mono hRS ?_
    clear hRS
    rintro e w7 ⟨ao7, c7, rfl, hR7, hK7⟩
    have HQ7 : Hid (Reads w7 ao6 (A ++ D.take k) ∧ Reads w7 ao7 (D.drop k) ∧ Below w.heap.size w w7) := by
      have e1 := HL6.out
      refine ⟨HQ6.out.1.keeps hK7 (fun y hy e => by have := HQ6.out.2.1 y hy; omega), hR7, HQ6.out.2.2.2.trans ?_⟩
      exact (hK7.mono (M' := w.heap.size) (S' := fun _ => False) (by omega) (fun k hk e => by omega)).toBelow (fun _ _ e => e)
    clear hR7 hK7 HQ6 HL6
    go_wp2_with fail
    have hlt : (D.take k).length = k := by rw [List.length_take, Nat.min_eq_left hkD]
    have hCT := cat_any a b ca cb A (D.take k) w7 (by rw [hlt]; omega) HA.out (HD.out.take k) (RA.out.below HQ7.out.2.2) ((RB.out.take k).below HQ7.out.2.2)
    rw [hlt] at hCT
    refine Calls.mono hCT ?_
    clear hCT
    rintro e w8 ⟨rfl, hB8, hR8⟩
    have HQ8 : Hid (Reads w8 ao6 (A ++ D.take k) ∧ Reads w8 (some ⟨w7.heap.size, 0, none⟩) (A ++ D.take k) ∧ Reads w8 ao7 (D.drop k) ∧ Below w.heap.size w w8) := ⟨HQ7.out.1.below hB8, hR8, HQ7.out.2.1.below hB8, HQ7.out.2.2.trans (hB8.mono HQ7.out.2.2.size)⟩
    clear hB8 hR8 HQ7
    go_wp2_with fail
    have hEQ := equal_same ao6 (some ⟨w7.heap.size, 0, none⟩) c6 (A.length + k) (A ++ D.take k) w8 (by rw [hlo]; omega) (HA.out.append (HD.out.take k)) HQ8.out.1 HQ8.out.2.1
    rw [hlo] at hEQ
    refine Calls.mono hEQ ?_
    clear hEQ
    rintro e w9 ⟨rfl, n9, hw9⟩
    have HQ9 : Hid (Reads w9 ao7 (D.drop k) ∧ Reads w9 b D ∧ Below w.heap.size w w9) := by
      have hs : Below w8.heap.size w8 w9 := by rw [hw9]; exact (Keeps.drewN w8.heap.size (fun _ => False) w8 n9).toBelow (fun _ _ e => e)
      have h9 : Below w.heap.size w w9 := HQ8.out.2.2.2.trans (hs.mono HQ8.out.2.2.2.size)
      exact ⟨HQ8.out.2.2.1.below hs, RB.out.below h9, h9⟩
    clear HQ8 hw9
    have HEQ : Hid (∀ bo c, Reads w9 bo (D.drop k) → Calls Tryf.prog 13 #[.slice ao7 (D.length - k) c7, .slice bo (D.length - k) c] w9 fun e w' => e = .returned (.bool true) ∧ Below w.heap.size w w') := by
      intro bo c hbo
      have h := equal_same ao7 bo c7 c (D.drop k) w9 (by rw [hlr]; omega) (HD.out.drop k) HQ9.out.1 hbo
      rw [hlr] at h
      refine Calls.mono h ?_
      rintro e w' ⟨h1, n', rfl⟩
      exact ⟨h1, HQ9.out.2.2.trans ((Keeps.drewN w.heap.size (fun _ => False) w9 n').toBelow (fun _ _ e => e))⟩
    rcases b with _ | x
    · have hD0 : D = [] := by
        rcases RB.out with ⟨_, h⟩ | ⟨x, h, _⟩
        · exact h
        · cases h
      have hk0 : k = 0 := by rw [hD0] at hkD; simpa using hkD
      have hl0 : D.length = 0 := by rw [hD0]; rfl
      have hcb0 : cb = 0 := HCB.out rfl
      subst hk0
      subst hcb0
      have HE2 : Hid (Calls Tryf.prog 13 #[.slice ao7 (D.length - 0) c7, .slice none (D.length - 0) 0] w9 fun e w' => e = .returned (.bool true) ∧ Below w.heap.size w w') := HEQ.out none 0 (.inl ⟨rfl, by rw [hD0]; rfl⟩)
      rw [hl0] at *
      clear hD0
      go_wp2_with fail
      refine Calls.mono HE2.out ?_
      rintro e w' ⟨rfl, hB⟩
      have HB : Hid (Below w.heap.size w w') := hB
      clear hB HE2 HEQ
      rcases HEV.out with ⟨rfl, rfl⟩ | ⟨N, rfl, rfl⟩
      · go_wp2
        go_ret
        exact ⟨rfl, HB.out⟩
      · go_wp2
        go_ret
        exact ⟨rfl, HB.out⟩
    · by_cases hck : cb = k
      · go_wp2_with fail
        refine Calls.mono (HEQ.out (some x) 0 (.inr ⟨x, rfl, fun j v hv => ?_⟩)) ?_
        · rw [List.drop_of_length_le (by omega)] at hv
          simp at hv
        rintro e w' ⟨rfl, hB⟩
        have HB : Hid (Below w.heap.size w w') := hB
        clear hB HEQ
        rcases HEV.out with ⟨rfl, rfl⟩ | ⟨N, rfl, rfl⟩
        · go_wp2
          go_ret
          exact ⟨rfl, HB.out⟩
        · go_wp2
          go_ret
          exact ⟨rfl, HB.out⟩
      · go_wp2_with fail
        refine Calls.mono (HEQ.out (some (x.add k)) (cb - k) (HQ9.out.2.1.drop k)) ?_
        rintro e w' ⟨rfl, hB⟩
        have HB : Hid (Below w.heap.size w w') := hB
        clear hB HEQ
        rcases HEV.out with ⟨rfl, rfl⟩ | ⟨N, rfl, rfl⟩
        · go_wp2
          go_ret
          exact ⟨rfl, HB.out⟩
        · go_wp2
          go_ret
          exact ⟨rfl, HB.out⟩
end Go.Proofs.Qxb6612850aFmt
