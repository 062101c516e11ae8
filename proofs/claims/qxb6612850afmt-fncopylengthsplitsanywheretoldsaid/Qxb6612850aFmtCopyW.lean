/- CopyLength: the walk. -/
import Derived.Test.Qxb6612850aFmtCopyLen
namespace Go.Proofs.Qxb6612850aFmt
open Go.RowKit Go.Deep Go.Extern.Stop Go.Stop Go.Extern
set_option linter.unusedVariables false

/-- The end: what was copied, and whether it is an error. -/
def CopyEnd (F : Interp) (a3 a4 : Addr) (s : ByteArray) (M p b g S sp sq sg sd SS pos : Nat) (n : Int) (D out : List Value) (w : World) (x : Ending) (w' : World) : Prop :=
  Copied F a3 a4 s M p b g S sp sq sg sd SS pos (copyCount n (D.length - pos)) D out w w' ∧ ((n ≤ ((D.length - pos : Nat) : Int) ∧ x = .returned .nilIface) ∨ (((D.length - pos : Nat) : Int) < n ∧ ∃ N, x = .returned (.iface 105 (.pointer (some N)))))

section
variable {F : Interp} {a3 a4 : Addr} {s : ByteArray} {M p b g S sp sq sg sd SS pos k : Nat} {D out : List Value} {w wr w' : World}
/-- The source alone has changed. -/
theorem Copied.src1 (ap : Apart M p b g sp sq sg sd a4) (h : Copied F a3 a4 s M p b g S sp sq sg sd SS pos k D out w wr) (o : Only (fun i => i = sp ∨ i = sq ∨ i = sg) wr w') (hs : SrcHas sp sq sg sd SS (pos + k) D w') : Copied F a3 a4 s M p b g S sp sq sg sd SS pos k D out w w' :=
  ⟨ap.dstOnly h.dst o, hs, ap.sentS h.sent (Apart.srcKeeps (k := o.keeps M)), h.keeps.trans (Apart.srcKeeps (k := o.keeps M))⟩
/-- The destination alone has changed, what was written not. -/
theorem Copied.dst1 (ap : Apart M p b g sp sq sg sd a4) (h : Copied F a3 a4 s M p b g S sp sq sg sd SS pos k D out w wr) (k1 : Keeps M (fun i => i = p ∨ i = b ∨ i = g) wr w') (hd : DstHas M p b g S (out ++ (D.drop pos).take k) w') : Copied F a3 a4 s M p b g S sp sq sg sd SS pos k D out w w' := by
  obtain ⟨r, e, buf, hS⟩ := h.src
  exact ⟨hd, ⟨r, e, buf, ap.srcKeep hS k1⟩, ap.sentS h.sent (Apart.dstKeeps (k := k1)), h.keeps.trans (Apart.dstKeeps (k := k1))⟩
theorem SrcAt.same1 {r e : Nat} {buf : List Value} (h : SrcAt sp sq sg sd SS r e pos buf D .nilIface wr) (hs : Same wr w') : SrcAt sp sq sg sd SS r e pos buf D .nilIface w' :=
  h.keep (by rw [hs.1]) (by rw [hs.1]) (by rw [hs.1]) (by rw [hs.1])
theorem DstAt.below {n : Nat} {bs buf : List Value} (h : DstAt M p b g S n bs buf wr) (hB : Below wr.heap.size wr w') : DstAt M p b g S n bs buf w' := by
  obtain ⟨i1, v, lr, i2, i3⟩ := h.hI
  have hM := h.hM
  have h1 := h.pM
  have h2 := h.gM
  refine ⟨h.pM, h.gM, h.pb, h.gb, h.pg, Nat.le_trans hM hB.size, (hB.block _ (by omega)).trans h.hp, (hB.block _ (by omega)).trans h.hg, h.len, h.nS, h.S0, h.S1, ⟨i1, v, lr, (hB.block _ (by omega)).trans i2, ?_⟩, h.hbs, h.hbuf⟩
  rcases i3 with i3 | ⟨x, cap, cur, e1, e2, e3, e4⟩
  · exact .inl i3
  · exact .inr ⟨x, cap, cur, e1, e2, (hB.block _ e3.lt).trans e3, e4⟩
theorem DstHas.size (h : DstHas M p b g S out wr) : M ≤ wr.heap.size := by
  obtain ⟨_, _, _, hD, _⟩ := h
  exact hD.hM
/-- Only new blocks. -/
theorem Copied.below (ap : Apart M p b g sp sq sg sd a4) (h : Copied F a3 a4 s M p b g S sp sq sg sd SS pos k D out w wr) (hB : Below wr.heap.size wr w') : Copied F a3 a4 s M p b g S sp sq sg sd SS pos k D out w w' := by
  obtain ⟨r, e, buf, hS⟩ := h.src
  have hM := h.dst.size
  have hK : Keeps M (fun _ => False) wr w' := Keeps.below (hB.mono hM)
  obtain ⟨n, bs, bb, hD, ho⟩ := h.dst
  refine ⟨⟨n, bs, bb, hD.below hB, ho⟩, ⟨r, e, buf, hS.keepM hK ⟨ap.sM.1, fun h => h⟩ ⟨ap.sM.2.1, fun h => h⟩ ⟨ap.sM.2.2.1, fun h => h⟩ ⟨ap.sM.2.2.2, fun h => h⟩⟩, h.sent.keep hK ⟨ap.m3.1, fun h => h⟩ ⟨ap.m3.2.1, fun h => h⟩ ⟨ap.m3.2.2, fun h => h⟩, h.keeps.trans (hK.mono (Nat.le_refl _) (fun _ _ e => e.elim))⟩
end

set_option maxRecDepth 100000 in
set_option maxHeartbeats 2000000 in
theorem copy10 (F : Interp) (a3 a4 : Addr) (s : ByteArray) (M p b g S sp sq sg sd SS pos : Nat) (n : Int) (D out : List Value) (w : World) (hn1 : -9223372036854775808 ≤ n) (hn2 : n ≤ 9223372036854775807) (ap : Apart M p b g sp sq sg sd a4)
    (hlim : out.length + D.length ≤ 1099500000000) (hl2 : D.length ≤ 1048576) (hpos : pos ≤ D.length) (hc : Copied F a3 a4 s M p b g S sp sq sg sd SS pos 0 D out w w) :
    Calls Tryf.prog 10 #[.pointer (some ⟨p, 0, none⟩), .pointer (some ⟨sp, 0, none⟩), .int .i64 n] w fun x w' => CopyEnd F a3 a4 s M p b g S sp sq sg sd SS pos n D out w x w' := by
  have AP : Hid (Apart M p b g sp sq sg sd a4) := ap
  have HC : Hid (Copied F a3 a4 s M p b g S sp sq sg sd SS pos 0 D out w w) := hc
  generalize hN : D.length = N at *
  have HN : Hid (D.length = N) := hN
  clear hN ap hc
  go_enter Tryf.func10, Tryf.ntmps10
  go_wp2_with fail
  go_loopg [2] n.toNat (fun gk nv wr => ∃ k : Nat, nv = .int .i64 (n - (k : Int)) ∧ (k : Int) ≤ max n 0 ∧ pos + k ≤ N ∧ (n - (k : Int)).toNat ≤ gk ∧ Copied F a3 a4 s M p b g S sp sq sg sd SS pos k D out w wr)
  case atStart => exact ⟨0, by simp, by omega, by omega, by omega, HC.out⟩
  case round =>
    clear HC
    obtain ⟨k, rfl, hk1, hk2, hgk, hC⟩ := hrel
    have HC : Hid (Copied F a3 a4 s M p b g S sp sq sg sd SS pos k D out w wr) := hC
    clear hC
    obtain ⟨m, hm⟩ : ∃ m : Int, m = n - (k : Int) := ⟨_, rfl⟩
    have HM : Hid (m = n - (k : Int)) := hm
    have hm1 : -9223372036854775808 ≤ m := by omega
    have hm2 : m ≤ 9223372036854775807 := by omega
    rw [← hm]
    clear hm
    by_cases hle : m ≤ 0
    · have hle' : ¬ (m > 0) := by omega
      go_wp2
      go_ret
      have hcc : copyCount n (N - pos) = k := by
        have h1 := HM.out
        unfold copyCount
        split <;> omega
      have h2 := HM.out
      unfold CopyEnd
      rw [HN.out, hcc]
      exact ⟨HC.out, .inl ⟨by omega, rfl⟩⟩
    · have hgt : m > 0 := by omega
      obtain ⟨r, e, buf, hS⟩ := HC.out.src
      obtain ⟨lb, lr, hp⟩ := hS.rd
      have hre := hS.re
      have heS := hS.eS
      have hS1 := hS.S1
      go_wp2_with fail
      refine (buffered25 sp sq sg SS r e .nilIface lb lr wr hp hre (by omega)).mono ?_
      rintro x w1 ⟨rfl, hs1⟩
      have hS1' := hS.same1 hs1
      have HS1 : Hid (SrcAt sp sq sg sd SS r e (pos + k) buf D .nilIface w1) := hS1'
      have HC1 : Hid (Copied F a3 a4 s M p b g S sp sq sg sd SS pos k D out w w1) := HC.out.src1 AP.out (Only.of_same hs1) ⟨r, e, buf, hS1'⟩
      clear hS1' hs1 hp hS HC
      obtain ⟨z, hz⟩ : ∃ z, z = e - r := ⟨_, rfl⟩
      rw [← hz]
      have HZ : Hid (z = e - r) := hz
      clear hz
      have hlk : (out ++ (D.drop pos).take k).length ≤ out.length + N := by
        rw [List.length_append, List.length_take, List.length_drop, HN.out]; omega
      go_upto_if 16 with fail
      go_cut [7] (fun v7 wc => ∃ r e buf, r < e ∧ SrcAt sp sq sg sd SS r e (pos + k) buf D .nilIface wc ∧ Copied F a3 a4 s M p b g S sp sq sg sd SS pos k D out w wc)
      case first =>
        by_cases hz0 : z = 0
        · subst hz0
          have hre' : e = r := by have := HZ.out; omega
          subst hre'
          go_wp2_with fail
          refine (flush_any M p b g S (out ++ (D.drop pos).take k) w1 HC1.out.dst (by omega)).mono ?_
          rintro x w2 ⟨rfl, hd2, hK2⟩
          have hC2 := HC1.out.dst1 AP.out hK2 hd2
          have HS2 : Hid (SrcAt sp sq sg sd SS e e (pos + k) buf D .nilIface w2) := AP.out.srcKeep HS1.out hK2
          have HC2 : Hid (Copied F a3 a4 s M p b g S sp sq sg sd SS pos k D out w w2) := hC2
          clear hd2 hK2 hC2
          go_wp2_with fail
          by_cases hav : pos + k < N
          · refine (peek_some sp sq sg sd SS e (pos + k) (Nat.min (D.length - (pos + k)) SS) buf D w2 HS2.out (by rw [HN.out]; exact hav) rfl).mono ?_
            rintro x w3 ⟨⟨v, rfl⟩, ⟨buf', hS3⟩, hO3⟩
            have HC3 : Hid (Copied F a3 a4 s M p b g S sp sq sg sd SS pos k D out w w3) := HC2.out.src1 AP.out hO3 ⟨_, _, _, hS3⟩
            have HS3 : Hid _ := hS3
            clear hS3 hO3
            go_wp2
            go_meet
            refine ⟨0, _, buf', ?_, HS3.out, HC3.out⟩
            have h0 := HS2.out.S0
            rw [HN.out]
            simp only [Nat.min_def]
            split <;> omega
          · refine (peek_eof sp sq sg sd SS e (pos + k) buf D 123 (.pointer (some a3)) w2 HS2.out (by rw [HN.out]; omega) HC2.out.sent.h3 (AP.out.p3 sp (by simp)).1).mono ?_
            rintro x w3 ⟨⟨v, rfl⟩, hS3, hO3⟩
            have HC3 : Hid (Copied F a3 a4 s M p b g S sp sq sg sd SS pos k D out w w3) := HC2.out.src1 AP.out (hO3.mono (fun _ e => .inl e)) ⟨_, _, _, hS3⟩
            clear hS3 hO3
            go_wp2_with fail
            refine (reading28 F a3 a4 s w3 HC3.out.sent.hF HC3.out.sent.h3 HC3.out.sent.h4 HC3.out.sent.hs).mono ?_
            rintro x w4 ⟨⟨Nn, rfl⟩, hB4⟩
            have HC4 : Hid (Copied F a3 a4 s M p b g S sp sq sg sd SS pos k D out w w4) := HC3.out.below AP.out hB4
            clear hB4
            go_wp2
            go_ret
            have hcc : copyCount n (N - pos) = k := by
              have h1 := HM.out
              unfold copyCount
              split <;> omega
            have h2 := HM.out
            unfold CopyEnd
            rw [HN.out, hcc]
            exact ⟨HC4.out, .inr ⟨by omega, _, rfl⟩⟩
        · have hz0' : ((z : Int) == 0) = false := by simp; omega
          go_wp2
          go_meet
          exact ⟨r, e, buf, by have := HZ.out; omega, HS1.out, HC1.out⟩
      case rest =>
        clear HS1 HC1 HZ hre heS
        obtain ⟨r, e, buf, hlt, hS, hC⟩ := hcut
        obtain ⟨lb, lr, hp⟩ := hS.rd
        have hre := hS.re
        have heS := hS.eS
        have hfit := hS.fit
        rw [HN.out] at hfit
        have HS : Hid (SrcAt sp sq sg sd SS r e (pos + k) buf D .nilIface wc) := hS
        have HC : Hid (Copied F a3 a4 s M p b g S sp sq sg sd SS pos k D out w wc) := hC
        have HP : Hid (RdCells sp sq sg SS r e .nilIface lb lr wc) := hp
        clear hS hC hp
        go_wp2_with fail
        refine (buffered25 sp sq sg SS r e .nilIface lb lr wc HP.out hre (by omega)).mono ?_
        rintro x w1 ⟨rfl, hs1⟩
        have hS1' := HS.out.same1 hs1
        have HS1 : Hid (SrcAt sp sq sg sd SS r e (pos + k) buf D .nilIface w1) := hS1'
        have HC1 : Hid (Copied F a3 a4 s M p b g S sp sq sg sd SS pos k D out w w1) := HC.out.src1 AP.out (Only.of_same hs1) ⟨r, e, buf, hS1'⟩
        clear hS1' hs1 HC HS HP
        obtain ⟨q, hq⟩ : ∃ q : Nat, q = min m.toNat (e - r) := ⟨_, rfl⟩
        have hmin : min m ((e - r : Nat) : Int) = (q : Int) := by omega
        have hq1 : 1 ≤ q := by omega
        have hq2 : q ≤ e - r := by omega
        have hq3 : (q : Int) ≤ m := by omega
        clear hq
        go_wp2_with fail
        refine (peek_have sp sq sg sd SS r e (pos + k) q buf D w1 HS1.out hq1 hq2).mono ?_
        rintro x w2 ⟨rfl, hS2, hO2⟩
        have HS2 : Hid (SrcAt sp sq sg sd SS r e (pos + k) buf D .nilIface w2) := hS2
        have HC2 : Hid (Copied F a3 a4 s M p b g S sp sq sg sd SS pos k D out w w2) := HC1.out.src1 AP.out (hO2.mono (fun _ e => .inl e)) ⟨r, e, buf, hS2⟩
        clear hS2 hO2 HS1 HC1
        go_wp2_with fail
        have hbl := HS2.out.len
        have hsm := HS2.out.same
        have hP : (buf.drop r).take q = (D.drop (pos + k)).take q := by
          have h1 := congrArg (List.take q) hsm
          rw [List.take_take, List.take_take, Nat.min_eq_left hq2] at h1
          exact h1
        have hPl : ((buf.drop r).take q).length = q := by rw [List.length_take, List.length_drop, hbl]; omega
        have hrow := HS2.out.hg
        have hw24 := write_any M p b g S q (SS - r) sg r ((buf.drop r).take q) (out ++ (D.drop pos).take k) w2 HC2.out.dst hPl ((HS2.out.hbuf.drop r).take q) (by omega) (by omega) ⟨AP.out.sM.2.2.1, AP.out.ne sg (by simp)⟩ (by
          intro j v hv
          rw [hrow.cell]
          rw [List.getElem?_take] at hv
          split at hv
          · rw [List.getElem?_drop] at hv; exact hv
          · cases hv) (by omega)
        refine hw24.mono ?_
        rintro x w3 ⟨rfl, hd3, hK3⟩
        have HS3 : Hid (SrcAt sp sq sg sd SS r e (pos + k) buf D .nilIface w3) := AP.out.srcKeep HS2.out hK3
        have HD3 : Hid (DstHas M p b g S (out ++ (D.drop pos).take (k + q)) w3) := by
          rw [hP, List.append_assoc, ← List.drop_drop, ← List.take_add] at hd3
          exact hd3
        have HT3 : Hid (Sent F a3 a4 s w3) := AP.out.sentS HC2.out.sent (Apart.dstKeeps (k := hK3))
        have HK3 : Hid (Keeps M (fun i => i = p ∨ i = b ∨ i = g ∨ i = sp ∨ i = sq ∨ i = sg) w w3) := HC2.out.keeps.trans (Apart.dstKeeps (k := hK3))
        clear hw24 hd3 hK3 hP hPl hrow hsm hbl HC2 HS2
        go_wp2_with fail
        refine (discard29 sp sq sg sd SS r e (pos + k) q buf D w3 HS3.out hq1 hq2).mono ?_
        rintro x w4 ⟨⟨v, rfl⟩, hS4, hO4⟩
        have HC4 : Hid (Copied F a3 a4 s M p b g S sp sq sg sd SS pos (k + q) D out w w4) := by
          have ho := hO4.mono (S' := fun i => i = sp ∨ i = sq ∨ i = sg) (fun _ e => .inl e)
          exact ⟨AP.out.dstOnly HD3.out ho, ⟨r + q, e, buf, by rw [← Nat.add_assoc]; exact hS4⟩, AP.out.sentS HT3.out (Apart.srcKeeps (k := ho.keeps M)), HK3.out.trans (Apart.srcKeeps (k := ho.keeps M))⟩
        clear hS4 hO4 HS3 HD3 HT3 HK3 hmin
        go_wp2
        go_roundg ((m - (q : Int)).toNat)
        case measure => go_light; have := HM.out; omega
        case rel =>
          go_light
          have h1 := HM.out
          exact ⟨k + q, by go_num, by omega, by omega, by omega, HC4.out⟩
end Go.Proofs.Qxb6612850aFmt
