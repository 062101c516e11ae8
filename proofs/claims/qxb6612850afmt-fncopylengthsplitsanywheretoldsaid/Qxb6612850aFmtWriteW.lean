/- bufio.Writer.Write: the walk. -/
import Derived.Test.Qxb6612850aFmtWrite
namespace Go.Proofs.Qxb6612850aFmt
open Go.RowKit Go.Deep
set_option linter.unusedVariables false

set_option maxRecDepth 100000 in
set_option maxHeartbeats 2000000 in
theorem write24 (M p b g S n m c xb xo : Nat) (bs buf P : List Value) (ap : Option Addr) (w : World) (h : DstAt M p b g S n bs buf w) (hP : P.length = m) (hPb : Byts P) (hm : m ≤ 1048576) (hmc : m ≤ c)
    (hap : 0 < m → ap = some ⟨xb, xo, none⟩) (hx : 0 < m → xb < M ∧ xb ≠ p ∧ xb ≠ b ∧ xb ≠ g) (hr : ∀ j v, P[j]? = some v → w.cell? ⟨xb, xo + j, none⟩ = some v) (hlim : bs.length + n + m ≤ 1099510000000) :
    Calls Tryf.prog 24 #[.pointer (some ⟨p, 0, none⟩), .slice ap m c] w fun e w' => e = .returned (.tuple #[.int .i64 m, .nilIface]) ∧ ∃ n' bs' buf', DstAt M p b g S n' bs' buf' w' ∧ bs' ++ buf'.take n' = bs ++ buf.take n ++ P ∧ Keeps M (fun i => i = p ∨ i = b ∨ i = g) w w' := by
  have HP : Hid (P.length = m) := hP
  have HPb : Hid (Byts P) := hPb
  have HX : Hid (0 < m → xb < M ∧ xb ≠ p ∧ xb ≠ b ∧ xb ≠ g) := hx
  have HR : Hid (∀ j v, P[j]? = some v → w.cell? ⟨xb, xo + j, none⟩ = some v) := hr
  have HAP : Hid (0 < m → ap = some ⟨xb, xo, none⟩) := hap
  obtain ⟨out, hout⟩ : ∃ out, out = bs ++ buf.take n := ⟨_, rfl⟩
  have HL : Hid (out.length + m ≤ 1099510000000) := by
    show out.length + m ≤ 1099510000000
    rw [hout, List.length_append, List.length_take, h.len]
    have := h.nS
    omega
  have HW : Hid (Wrote M p b g S m xb xo P out w 0 n bs buf ap c w) := ⟨Nat.zero_le _, fun hk => ⟨hap hk, hmc⟩, h, by rw [hout]; simp, Keeps.refl _ _ _⟩
  rw [← hout]
  clear hP hPb hx hr hap hout h hlim
  go_enter Tryf.func24, Tryf.ntmps24
  go_wp2_with fail
  go_loopg [1, 4] (2 * m + 2) (fun gk v nn wr => ∃ k n bs buf a c, 2 * (m - k) + min n 1 ≤ gk ∧ v = .slice a (m - k) c ∧ nn = .int .i64 (k : Int) ∧ Wrote M p b g S m xb xo P out w k n bs buf a c wr)
  case atStart => exact ⟨0, n, bs, buf, ap, c, by omega, by simp, rfl, HW.out⟩
  case round =>
    clear HW HAP
    obtain ⟨k, n, bs, buf, a, c, hgk, rfl, rfl, hkm, ha, hD, hj, hK⟩ := hrel
    have hnS := hD.nS
    have hS1 := hD.S1
    have hS0 := hD.S0
    have HD : Hid (DstAt M p b g S n bs buf wr) := hD
    have HJ : Hid (bs ++ buf.take n = out ++ P.take k) := hj
    have HK : Hid (Keeps M (fun i => i = p ∨ i = b ∨ i = g) w wr) := hK
    have HA : Hid (k < m → a = some ⟨xb, xo + k, none⟩ ∧ m - k ≤ c) := ha
    clear hD hj hK ha
    generalize hq : m - k = q at *
    have HQ : Hid (m - k = q) := hq
    clear hq
    go_wp2_with fail
    refine (avail36 M p b g S n bs buf wr HD.out).mono ?_
    rintro e w1 ⟨rfl, hs1⟩
    have hD1 := HD.out.same hs1
    have c0 : w1.cell? ⟨p, 0, none⟩ = some .nilIface := by rw [Lib.cell_of_heap hD1.hp]; rfl
    have c1 : w1.cell? ⟨p, 1, none⟩ = some (.slice (some ⟨g, 0, none⟩) S S) := by rw [Lib.cell_of_heap hD1.hp]; rfl
    have c2 : w1.cell? ⟨p, 2, none⟩ = some (.int .i64 (n : Int)) := by rw [Lib.cell_of_heap hD1.hp]; rfl
    have c3 : w1.cell? ⟨p, 3, none⟩ = some (.iface 28 (.pointer (some ⟨b, 0, none⟩))) := by rw [Lib.cell_of_heap hD1.hp]; rfl
    have f0 := Lib.frozen_of_heap hD1.hp 0
    have f2 := Lib.frozen_of_heap hD1.hp 2
    have HK1 : Hid (Keeps M (fun i => i = p ∨ i = b ∨ i = g) w w1) := HK.out.trans (hs1.keeps _ _)
    have HD1 : Hid (DstAt M p b g S n bs buf w1) := hD1
    clear hs1 hD1 HK HD
    by_cases hfit : q ≤ S - n
    · have hcmp : ((q : Int) > (S : Int) - (n : Int)) = False := by simp; omega
      go_wp2_with fail
      have hlen : (P.drop k).length = q := by rw [List.length_drop, HP.out]; exact HQ.out
      have hsrc : 0 < (P.drop k).length → ∃ ad, a = some ad ∧ ∀ j v, (P.drop k)[j]? = some v → w1.cell? (ad.add j) = some v := by
        intro hpos
        have hkm' : k < m := by have := HQ.out; omega
        obtain ⟨h1, h2, h3, h4⟩ := HX.out (by omega)
        refine ⟨_, (HA.out hkm').1, fun j v hv => ?_⟩
        rw [Go.WideShapes.add_plain]
        rw [List.getElem?_drop] at hv
        have := HR.out (k + j) v hv
        rw [← Nat.add_assoc] at this
        exact HK1.out.cell this h1 (by simp [h2, h3, h4])
      have hbyt : Byts (P.drop k) := HPb.out.drop k
      have hDd : DstAt M p b g S n bs buf w1.drew := HD1.out.same ⟨rfl, rfl, rfl, rfl⟩
      have hrow := hDd.hg
      have hbl := hDd.len
      obtain ⟨hD2, hK2⟩ := dst_put (cs := P.drop k) hDd hbyt hlen (by omega)
      have d2 : (w1.drew.setRow g (splice buf n (P.drop k)).toArray).cell? ⟨p, 2, none⟩ = some (.int .i64 (n : Int)) := by
        rw [Lib.cell_of_heap (by rw [setRow_other _ _ _ _ hDd.pg]; exact hDd.hp)]; rfl
      have e2 : (w1.drew.setRow g (splice buf n (P.drop k)).toArray).frozen? ⟨p, 2, none⟩ = false := Lib.frozen_of_heap (by rw [setRow_other _ _ _ _ hDd.pg]; exact hDd.hp) 2
      have hq1 : q = Nat.min q (S - n) := by simp only [Nat.min_def]; split <;> omega
      have hfit' : n + q ≤ buf.length := by omega
      have hsrc' : 0 < q → ∃ ad, a = some ad ∧ ∀ j v, (P.drop k)[j]? = some v → w1.cell? (ad.add j) = some v := fun h => hsrc (by omega)
      have HF : Hid (bs ++ (splice buf n (P.drop k)).take (n + q) = out ++ P) := by
        have h1 := splice_grow buf (P.drop k) n (by omega)
        rw [hlen] at h1
        show bs ++ (splice buf n (P.drop k)).take (n + q) = out ++ P
        rw [h1, ← List.append_assoc, HJ.out, List.append_assoc, List.take_append_drop]
      have HD2 : Hid _ := hD2
      have HK2 : Hid _ := hK2
      have H1 : Hid _ := hrow
      have H2 : Hid _ := hlen
      have H3 : Hid _ := hq1
      have H4 : Hid _ := hsrc'
      have H5 : Hid _ := hfit'
      have H6 : Hid _ := hbyt.one
      clear hD2 hK2 hrow hlen hq1 hsrc hsrc' hfit' hbl hbyt hDd
      have hkq : (k : Int) + (q : Int) = (m : Int) := by have := HQ.out; omega
      by_cases hnS' : n = S
      · subst hnS'
        have hq0 : q = 0 := by omega
        subst hq0
        have hkm2 : k = m := by have := HQ.out; omega
        subst hkm2
        clear hkq
        go_region_law (refine step_copy_n rfl (.tmp 80) (.tmp 81) rfl (some ⟨g, 0, none⟩) a 0 0 0 c (by simp [Act.eval, Act.put]) (by simp [Act.eval, Act.put]) g n 0 buf (P.drop k) H1.out H2.out (by simp) (fun h => absurd h (by omega)) H5.out H6.out ?_)
        all_goals go_wp2
        all_goals go_ret2
        all_goals exact ⟨by go_num, _, _, _, HD2.out, HF.out, HK1.out.trans ((Keeps.drew _ _ _).trans HK2.out)⟩
      · have hne : ¬ S = n := fun e => hnS' e.symm
        go_region_law (refine step_copy_n rfl (.tmp 80) (.tmp 81) rfl (some ⟨g, n, none⟩) a (S - n) (S - n) q c (by simp [Act.eval, Act.put]) (by simp [Act.eval, Act.put]) g n q buf (P.drop k) H1.out H2.out H3.out (fun h => ⟨rfl, H4.out h⟩) H5.out H6.out ?_)
        all_goals go_wp2
        all_goals go_ret2
        all_goals exact ⟨by go_num, _, _, _, HD2.out, HF.out, HK1.out.trans ((Keeps.drew _ _ _).trans HK2.out)⟩
    · have hcmp : ((q : Int) > (S : Int) - (n : Int)) = True := by simp; omega
      have hkm' : k < m := by have := HQ.out; omega
      obtain ⟨ha, hqc⟩ := HA.out hkm'
      subst ha
      obtain ⟨x1, x2, x3, x4⟩ := HX.out (by omega)
      have hlen : (P.drop k).length = q := by rw [List.length_drop, HP.out]; exact HQ.out
      have hRd : ∀ w' : World, Keeps M (fun i => i = p ∨ i = b ∨ i = g) w w' → ∀ j v, (P.drop k)[j]? = some v → w'.cell? ((⟨xb, xo + k, none⟩ : Addr).add j) = some v := by
        intro w' hK' j v hv
        rw [Go.WideShapes.add_plain]
        rw [List.getElem?_drop] at hv
        have := HR.out (k + j) v hv
        rw [← Nat.add_assoc] at this
        exact hK'.cell this x1 (by simp [x2, x3, x4])
      have HRd : Hid _ := hRd
      have HLn : Hid ((P.drop k).length = q) := hlen
      have HBP : Hid (Byts (P.drop k)) := HPb.out.drop k
      have hbsl : bs.length + q ≤ 1099510000000 := by
        have h1 := congrArg List.length HJ.out
        rw [List.length_append, List.length_append, List.length_take, List.length_take, HD1.out.len, HP.out] at h1
        have h2 := HL.out
        have h3 := HQ.out
        omega
      clear hRd hlen
      go_wp2_with fail
      refine (buffered37 M p b g S n bs buf w1 HD1.out).mono ?_
      rintro e w' ⟨rfl, hw⟩
      subst hw
      by_cases hn0 : n = 0
      · subst hn0
        have hmw := method_write ⟨b, 0, none⟩
        go_wp2_with fail
        refine (bufWrite_n q M b bs (P.drop k) ⟨xb, xo + k, none⟩ c w1 HLn.out HD1.out.hI HD1.out.hM HD1.out.hbs HBP.out (.inr ⟨_, rfl, HRd.out _ HK1.out⟩) x1 (by omega) (by omega)).mono ?_
        rintro e w2 ⟨rfl, hI2, hK2⟩
        have hp2 := hK2.at HD1.out.hp HD1.out.pM HD1.out.pb
        have f20 := Lib.frozen_of_heap hp2 0
        have d20 : w2.cell? ⟨p, 0, none⟩ = some .nilIface := by rw [Lib.cell_of_heap hp2]; rfl
        have hend := dst_direct HD1.out HBP.out hI2 hK2
        have HE : Hid _ := hend
        clear hp2 hI2 hK2 hend c0 c1 c2 c3 f0 f2
        have HJ2 : Hid ((bs ++ P.drop k) ++ buf.take 0 = out ++ P.take m) := by
          have h1 := HJ.out
          have h2 : P.take m = P := List.take_of_length_le (by rw [HP.out]; exact Nat.le_refl _)
          show (bs ++ P.drop k) ++ buf.take 0 = out ++ P.take m
          rw [List.take_zero, List.append_nil] at h1 ⊢
          rw [h2, h1, List.append_assoc, List.take_append_drop]
        have hkq : (k : Int) + (q : Int) = (m : Int) := by have := HQ.out; omega
        by_cases hcq : c = q
        · subst hcq
          go_wp2
          go_roundg 0
          case measure => go_light; omega
          case rel => 
            go_light
            exact ⟨m, 0, _, _, _, _, by omega, by rw [Nat.sub_self], by go_num, by omega, fun h => absurd h (by omega), HE.out.1, HJ2.out, HK1.out.trans HE.out.2⟩
        · go_wp2
          go_roundg 0
          case measure => go_light; omega
          case rel => 
            go_light
            exact ⟨m, 0, _, _, _, _, by omega, by rw [Nat.sub_self], by go_num, by omega, fun h => absurd h (by omega), HE.out.1, HJ2.out, HK1.out.trans HE.out.2⟩
      · have hn0' : ((n : Int) == 0) = false := by simp; omega
        go_wp2_with fail
        obtain ⟨r, hr⟩ : ∃ r, r = S - n := ⟨_, rfl⟩
        obtain ⟨cs, hcs⟩ : ∃ cs, cs = (P.drop k).take r := ⟨_, rfl⟩
        have hcl : cs.length = r := by rw [hcs, List.length_take, HLn.out]; omega
        have hcb : Byts cs := by rw [hcs]; exact HBP.out.take r
        have hDd : DstAt M p b g S n bs buf w1.drew := HD1.out.same ⟨rfl, rfl, rfl, rfl⟩
        have hbl := hDd.len
        obtain ⟨hD2, hK2⟩ := dst_put (cs := cs) hDd hcb hcl (by omega)
        have d2 : (w1.drew.setRow g (splice buf n cs).toArray).cell? ⟨p, 2, none⟩ = some (.int .i64 (n : Int)) := by
          rw [Lib.cell_of_heap (by rw [setRow_other _ _ _ _ hDd.pg]; exact hDd.hp)]; rfl
        have e2 : (w1.drew.setRow g (splice buf n cs).toArray).frozen? ⟨p, 2, none⟩ = false := Lib.frozen_of_heap (by rw [setRow_other _ _ _ _ hDd.pg]; exact hDd.hp) 2
        have hj2 : bs ++ (splice buf n cs).take (n + r) = out ++ P.take (k + r) := by
          have h1 := splice_grow buf cs n (by omega)
          rw [hcl] at h1
          rw [h1, ← List.append_assoc, HJ.out, List.append_assoc, hcs, take_more]
        have hsrc : ∀ j v, cs[j]? = some v → w1.cell? ((⟨xb, xo + k, none⟩ : Addr).add j) = some v := by
          intro j v hv
          rw [hcs, List.getElem?_take] at hv
          split at hv
          · exact HRd.out _ HK1.out j v hv
          · cases hv
        have HD2 : Hid (DstAt M p b g S (n + r) bs (splice buf n cs) ((w1.drew.setRow g (splice buf n cs).toArray).setCell ⟨p, 2, none⟩ (.int .i64 ((n : Int) + (r : Int))))) := hD2
        have HK2 : Hid (Keeps M (fun i => i = p ∨ i = b ∨ i = g) w1.drew ((w1.drew.setRow g (splice buf n cs).toArray).setCell ⟨p, 2, none⟩ (.int .i64 ((n : Int) + (r : Int))))) := hK2
        have HJ2 : Hid (bs ++ (splice buf n cs).take (n + r) = out ++ P.take (k + r)) := hj2
        have H1 : Hid (Row w1.drew g buf) := hDd.hg
        have H2 : Hid _ := hcl
        have H3 : Hid (r = Nat.min q (S - n)) := by show r = Nat.min q (S - n); simp only [Nat.min_def]; split <;> omega
        have H4 : Hid _ := hsrc
        have H5 : Hid (n + r ≤ buf.length) := by show n + r ≤ buf.length; omega
        have H6 : Hid _ := hcb.one
        have hrq : r < q := by omega
        have hr1 : r ≤ 1048576 := by omega
        have hcr : ¬ c = r := by omega
        have hrc : r ≤ c := by omega
        have HRR : Hid (r = S - n) := hr
        clear hD2 hK2 hj2 hcl hsrc hbl hcb hDd hr hcs HP
        by_cases hnS' : n = S
        · subst hnS'
          have hr0 : r = 0 := by have := HRR.out; omega
          subst hr0
          have hz : ((n : Int) + ((0 : Nat) : Int)) = (n : Int) := by omega
          have HD2' : Hid (DstAt M p b g n n bs (splice buf n cs) ((w1.drew.setRow g (splice buf n cs).toArray).setCell ⟨p, 2, none⟩ (.int .i64 (n : Int)))) := by have h := HD2.out; rw [hz] at h; exact h
          have HK2' : Hid (Keeps M (fun i => i = p ∨ i = b ∨ i = g) w1.drew ((w1.drew.setRow g (splice buf n cs).toArray).setCell ⟨p, 2, none⟩ (.int .i64 (n : Int)))) := by have h := HK2.out; rw [hz] at h; exact h
          clear hz
          go_region_law (refine step_copy_n rfl (.tmp 43) (.tmp 44) rfl (some ⟨g, 0, none⟩) (some ⟨xb, xo + k, none⟩) 0 0 q c (by simp [Act.eval, Act.put]) (by simp [Act.eval, Act.put]) g n 0 buf cs H1.out H2.out (by simp) (fun h => absurd h (by omega)) H5.out H6.out ?_)
          all_goals go_wp2_with fail
          all_goals (refine (flush_some M p b g n n bs (splice buf n cs) _ HD2'.out (by omega) (by omega)).mono ?_; rintro e w3 ⟨rfl, hD3, hK3⟩; have HD3 : Hid _ := hD3; have HK3 : Hid _ := hK3; clear hD3 hK3 c0 c1 c2 c3 f0 f2 d2 e2)
          all_goals go_wp2
          all_goals go_roundg (2 * q)
          all_goals go_light
          all_goals first
            | omega
            | exact ⟨k, 0, _, _, _, _, by have := HQ.out; omega, by rw [HQ.out], by go_num, by omega, fun h => ⟨rfl, by have := HQ.out; omega⟩, HD3.out, by rw [List.take_zero, List.append_nil]; exact HJ2.out, HK1.out.trans ((Keeps.drew _ _ _).trans (HK2'.out.trans (HK3.out.mono (Nat.le_refl _) (fun _ _ e => e.elim .inl (fun e => .inr (.inl e))))))⟩
        · have hne : ¬ S = n := fun e => hnS' e.symm
          go_region_law (refine step_copy_n rfl (.tmp 43) (.tmp 44) rfl (some ⟨g, n, none⟩) (some ⟨xb, xo + k, none⟩) (S - n) (S - n) q c (by simp [Act.eval, Act.put]) (by simp [Act.eval, Act.put]) g n r buf cs H1.out H2.out H3.out (fun h => ⟨rfl, _, rfl, H4.out⟩) H5.out H6.out ?_)
          all_goals go_wp2_with fail
          all_goals (refine (flush_some M p b g S (n + r) bs (splice buf n cs) _ HD2.out (by omega) (by have := HD2.out.nS; omega)).mono ?_; rintro e w3 ⟨rfl, hD3, hK3⟩; have HD3 : Hid _ := hD3; have HK3 : Hid _ := hK3; clear hD3 hK3 c0 c1 c2 c3 f0 f2 d2 e2)
          all_goals go_wp2
          all_goals go_roundg (2 * (q - r))
          all_goals go_light
          all_goals first
            | omega
            | exact ⟨k + r, 0, _, _, _, _, by have := HQ.out; omega, by rw [show m - (k + r) = q - r from by have := HQ.out; omega], by go_num, by have := HQ.out; omega, fun h => ⟨by rw [Nat.add_assoc], by have := HQ.out; omega⟩, HD3.out, by rw [List.take_zero, List.append_nil]; exact HJ2.out, HK1.out.trans ((Keeps.drew _ _ _).trans (HK2.out.trans (HK3.out.mono (Nat.le_refl _) (fun _ _ e => e.elim .inl (fun e => .inr (.inl e))))))⟩
end Go.Proofs.Qxb6612850aFmt
