import Derived.Test.Qxb6613222aRows
import Derived.Test.Qxb6613222aGramPlain
import Derived.WalkKit
import Derived.ProofKit
import Derived.Deep.Light
import Derived.Deep.DeepCutAuto
namespace Go.Proofs.Qxb6613222a
open Go.RowKit Go.Proofs.Qxb6613222a.Num
set_option linter.unusedVariables false

theorem isDigit_any (c : Int) (w : World) : Calls Try.prog 17 #[.int .u8 c] w fun e w' => e = .returned (.bool (digB c)) ∧ w = w' := by
  unfold digB
  by_cases h1 : 48 ≤ c
  · by_cases h2 : c ≤ 57
    · go_enter Try.func17, Try.ntmps17
      go_wp2
      go_ret
      exact ⟨by simp [h1, h2], rfl⟩
    · have h3 : decide (c ≤ 57) = false := decide_eq_false h2
      go_enter Try.func17, Try.ntmps17
      go_wp2
      go_ret
      exact ⟨by simp, rfl⟩
  · have h3 : decide (48 ≤ c) = false := decide_eq_false h1
    go_enter Try.func17, Try.ntmps17
    go_wp2
    go_ret
    exact ⟨by simp, rfl⟩

set_option maxRecDepth 100000 in
set_option maxHeartbeats 1000000 in
theorem gram_walk (s : ByteArray) (tr : Nat → Int) (w : World) (hp : 0 < s.size) (hs : s.size ≤ 65536) (ht : Num.Trace s tr) :
    Calls Try.prog 10 #[.string s] w fun e w' => e = .returned (.bool (compB (tr s.size))) ∧ w = w' := by
  have HT : Hid (Num.Trace s tr) := ht
  clear ht
  go_enter Try.func10, Try.ntmps10
  go_upto_if 17 with fail
  go_cut [4] (fun v w' => w = w' ∧ ∃ i : Nat, v = .int .i64 i ∧ AtSign s tr i)
  case first =>
    go_wp2
    · have h : (((s[0]'hp).toNat : Int) == 45) = true := by assumption
      go_meet
      exact ⟨rfl, 1, rfl, sign_yes HT.out hp (by rw [ch_of s 0 hp]; exact beq_iff_eq.1 h)⟩
    · have h : (((s[0]'hp).toNat : Int) == 45) = false := by assumption
      go_meet
      exact ⟨rfl, 0, rfl, sign_no HT.out (by rw [ch_of s 0 hp]; exact beq_eq_false_iff_ne.1 h)⟩
  case rest =>
    obtain ⟨rfl, i, rfl, hA⟩ := hcut
    have hi1 := hA.1
    have HA : Hid (AtSign s tr i) := hA
    clear hA
    by_cases hi : i < s.size
    · have hdi : decide (s.size ≤ i) = false := decide_eq_false (by omega)
      go_upto_if 26 with fail
      go_cut [4] (fun v w' => w = w' ∧ ∃ i : Nat, v = .int .i64 i ∧ AtInt s tr i)
      case first =>
        by_cases g0 : ((s[i]'hi).toNat : Int) = 48
        · have h : (((s[i]'hi).toNat : Int) == 48) = true := beq_iff_eq.2 g0
          clear g0
          go_wp2
          go_meet
          exact ⟨rfl, i + 1, by go_num, int_zero HT.out HA.out hi (by rw [ch_of s i hi]; exact beq_iff_eq.1 h)⟩
        have h : (((s[i]'hi).toNat : Int) == 48) = false := beq_eq_false_iff_ne.2 g0
        have hne : ch s i ≠ 48 := by rw [ch_of s i hi]; exact g0
        have HN : Hid (ch s i ≠ 48) := hne
        clear g0 hne
        by_cases g1 : 49 ≤ ((s[i]'hi).toNat : Int)
        · by_cases g2 : ((s[i]'hi).toNat : Int) ≤ 57
          · have HI : Hid (InInt s tr i) := int_start HA.out (by rw [ch_of s i hi]; exact g1) (by rw [ch_of s i hi]; exact g2)
            go_wp2
            clear h
            generalize (((s[i]'hi).toNat : Int) == 48) = b26
            go_loop [4] (fun v => ∃ k : Nat, v = .int .i64 k ∧ InInt s tr k) (fun v => s.size - (intOf v).toNat)
            case atStart => exact ⟨i, rfl, HI.out⟩
            case round =>
              obtain ⟨k, rfl, hK⟩ := hrel
              have HK : Hid (InInt s tr k) := hK
              clear hK
              by_cases hk : k < s.size
              · go_wp2_with (go_at_call 17; refine (isDigit_any _ _).mono ?_; rintro e w' ⟨rfl, rfl⟩)
                · have hd : digB ((s[k]'hk).toNat : Int) = true := by assumption
                  have hr := int_step HT.out HK.out hk (dig_of s k hk hd).1 (dig_of s k hk hd).2
                  go_round
                  case rel => exact ⟨k + 1, by go_num, hr⟩
                  case measure => go_light; simp [intOf]; omega
                · have hd : digB ((s[k]'hk).toNat : Int) = false := by assumption
                  go_meet
                  exact ⟨rfl, k, rfl, int_stop HK.out (nodig_of s k hk hd)⟩
              · go_wp2
                go_meet
                exact ⟨rfl, k, rfl, int_stop HK.out (nodig_end s k hk)⟩
          · exact (int_bad HT.out HA.out hi HN.out (by rw [ch_of s i hi]; omega)).elim
        · exact (int_bad HT.out HA.out hi HN.out (by rw [ch_of s i hi]; omega)).elim
      case rest =>
        clear HA
        obtain ⟨rfl, i, rfl, hA⟩ := hcut
        have hil := hA.1
        have HA : Hid (AtInt s tr i) := hA
        clear hA
        by_cases hi : i < s.size
        · go_upto_if 58 with fail
          go_cut [4] (fun v w' => w = w' ∧ ∃ i : Nat, v = .int .i64 i ∧ AtFrac s tr i)
          case first =>
            by_cases g0 : ((s[i]'hi).toNat : Int) = 46
            · have h : (((s[i]'hi).toNat : Int) == 46) = true := beq_iff_eq.2 g0
              have HI : Hid (InFrac s tr (i + 1) (i + 1)) := frac_start HT.out HA.out hi (by rw [ch_of s i hi]; exact g0)
              clear g0
              go_wp2
              clear h
              generalize (((s[i]'hi).toNat : Int) == 46) = b57
              go_loop [4] (fun v => ∃ k : Nat, v = .int .i64 k ∧ InFrac s tr (i + 1) k) (fun v => s.size - (intOf v).toNat)
              case atStart => exact ⟨i + 1, by go_num, HI.out⟩
              case round =>
                obtain ⟨k, rfl, hK⟩ := hrel
                have HK : Hid (InFrac s tr (i + 1) k) := hK
                clear hK
                by_cases hk : k < s.size
                · cases hd : digB ((s[k]'hk).toNat : Int)
                  · have HND : Hid (NoDig s k) := nodig_of s k hk hd
                    by_cases hki : k = i + 1
                    · have HF : Hid (compB (tr s.size) = false) := frac_none HT.out HK.out HND.out hki
                      have hkb : ((k : Int) == (i : Int) + 1) = true := by simp; omega
                      clear hki
                      go_wp2_with (go_at_call 17; refine (isDigit_any _ _).mono ?_; rintro e w' ⟨rfl, rfl⟩)
                      go_ret
                      exact ⟨by rw [HF.out]; rfl, rfl⟩
                    · have HR : Hid (AtFrac s tr k) := frac_stop HK.out HND.out hki
                      have hkb : ((k : Int) == (i : Int) + 1) = false := by simp; omega
                      clear hki
                      go_wp2_with (go_at_call 17; refine (isDigit_any _ _).mono ?_; rintro e w' ⟨rfl, rfl⟩)
                      go_meet
                      exact ⟨rfl, k, rfl, HR.out⟩
                  · have hr := frac_step HT.out HK.out hk (dig_of s k hk hd).1 (dig_of s k hk hd).2
                    have HR : Hid (InFrac s tr (i + 1) (k + 1)) := hr
                    clear hr
                    go_wp2_with (go_at_call 17; refine (isDigit_any _ _).mono ?_; rintro e w' ⟨rfl, rfl⟩)
                    go_round
                    case rel => exact ⟨k + 1, by go_num, HR.out⟩
                    case measure => go_light; simp [intOf]; omega
                · have HND : Hid (NoDig s k) := nodig_end s k hk
                  by_cases hki : k = i + 1
                  · have HF : Hid (compB (tr s.size) = false) := frac_none HT.out HK.out HND.out hki
                    have hkb : ((k : Int) == (i : Int) + 1) = true := by simp; omega
                    clear hki
                    go_wp2
                    go_ret
                    exact ⟨by rw [HF.out]; rfl, rfl⟩
                  · have HR : Hid (AtFrac s tr k) := frac_stop HK.out HND.out hki
                    have hkb : ((k : Int) == (i : Int) + 1) = false := by simp; omega
                    clear hki
                    go_wp2
                    go_meet
                    exact ⟨rfl, k, rfl, HR.out⟩
            · have h : (((s[i]'hi).toNat : Int) == 46) = false := beq_eq_false_iff_ne.2 g0
              have HR : Hid (AtFrac s tr i) := frac_no HA.out (by rw [ch_of s i hi]; exact g0)
              clear g0
              go_wp2
              go_meet
              exact ⟨rfl, i, rfl, HR.out⟩
          case rest =>
            clear HA
            obtain ⟨rfl, i, rfl, hA⟩ := hcut
            have hil := hA.1
            have HA : Hid (AtFrac s tr i) := hA
            clear hA
            go_upto_region 20 with fail
            go_cut [90] (fun b w' => w = w' ∧ b = .bool (eB (ch s i)))
            case first =>
              by_cases hi : i < s.size
              · have HC : Hid (ch s i = ((s[i]'hi).toNat : Int)) := ch_of s i hi
                by_cases g1 : ((s[i]'hi).toNat : Int) = 101
                · have HE : Hid (eB (ch s i) = true) := by show eB (ch s i) = true; rw [HC.out]; simp [eB, g1]
                  have h1 : (((s[i]'hi).toNat : Int) == 101) = true := beq_iff_eq.2 g1
                  clear g1
                  go_wp2
                  go_meet
                  exact ⟨rfl, by rw [HE.out]⟩
                · have h1 : (((s[i]'hi).toNat : Int) == 101) = false := beq_eq_false_iff_ne.2 g1
                  by_cases g2 : ((s[i]'hi).toNat : Int) = 69
                  · have HE : Hid (eB (ch s i) = true) := by show eB (ch s i) = true; rw [HC.out]; simp [eB, g2]
                    have h2 : (((s[i]'hi).toNat : Int) == 69) = true := beq_iff_eq.2 g2
                    clear g1 g2
                    go_wp2
                    go_meet
                    exact ⟨rfl, by rw [HE.out]⟩
                  · have HE : Hid (eB (ch s i) = false) := by show eB (ch s i) = false; rw [HC.out]; simp [eB, g1, g2]
                    have h2 : (((s[i]'hi).toNat : Int) == 69) = false := beq_eq_false_iff_ne.2 g2
                    clear g1 g2
                    go_wp2
                    go_meet
                    exact ⟨rfl, by rw [HE.out]⟩
              · have HE : Hid (eB (ch s i) = false) := by show eB (ch s i) = false; rw [ch_end s i hi]; rfl
                go_wp2
                go_meet
                exact ⟨rfl, by rw [HE.out]⟩
            case rest =>
              obtain ⟨rfl, rfl⟩ := hcut
              cases hE : eB (ch s i)
              · have HE : Hid (AtEnd s tr i) := exp_no HT.out HA.out (eB_false hE).1 (eB_false hE).2
                have hie : ((i : Int) == (s.size : Int)) = true := by have := HE.out.1; simp; omega
                clear hE
                go_wp2
                go_ret
                exact ⟨by rw [HE.out.2]; rfl, rfl⟩
              · have hi : i < s.size := by
                  by_cases hi : i < s.size
                  · exact hi
                  · rw [ch_end s i hi] at hE; cases hE
                have H17 : Hid (tr (i + 1) = 17) := exp_e HT.out HA.out hi (eB_true hE)
                clear hE
                go_upto_region 22 with fail
                go_cut [107] (fun b w' => w = w' ∧ b = .bool (sgB (ch s (i + 1))))
                case first =>
                  by_cases hi' : i + 1 < s.size
                  · have HC : Hid (ch s (i + 1) = ((s[i + 1]'hi').toNat : Int)) := ch_of s (i + 1) hi'
                    by_cases g1 : ((s[i + 1]'hi').toNat : Int) = 43
                    · have HE : Hid (sgB (ch s (i + 1)) = true) := by show sgB (ch s (i + 1)) = true; rw [HC.out]; simp [sgB, g1]
                      have h1 : (((s[i + 1]'hi').toNat : Int) == 43) = true := beq_iff_eq.2 g1
                      clear g1
                      go_wp2
                      go_meet
                      exact ⟨rfl, by rw [HE.out]⟩
                    · have h1 : (((s[i + 1]'hi').toNat : Int) == 43) = false := beq_eq_false_iff_ne.2 g1
                      by_cases g2 : ((s[i + 1]'hi').toNat : Int) = 45
                      · have HE : Hid (sgB (ch s (i + 1)) = true) := by show sgB (ch s (i + 1)) = true; rw [HC.out]; simp [sgB, g2]
                        have h2 : (((s[i + 1]'hi').toNat : Int) == 45) = true := beq_iff_eq.2 g2
                        clear g1 g2
                        go_wp2
                        go_meet
                        exact ⟨rfl, by rw [HE.out]⟩
                      · have HE : Hid (sgB (ch s (i + 1)) = false) := by show sgB (ch s (i + 1)) = false; rw [HC.out]; simp [sgB, g1, g2]
                        have h2 : (((s[i + 1]'hi').toNat : Int) == 45) = false := beq_eq_false_iff_ne.2 g2
                        clear g1 g2
                        go_wp2
                        go_meet
                        exact ⟨rfl, by rw [HE.out]⟩
                  · have HE : Hid (sgB (ch s (i + 1)) = false) := by show sgB (ch s (i + 1)) = false; rw [ch_end s (i + 1) hi']; rfl
                    go_wp2
                    go_meet
                    exact ⟨rfl, by rw [HE.out]⟩
                case rest =>
                  obtain ⟨rfl, rfl⟩ := hcut
                  go_upto_if 107 with fail
                  go_cut [4] (fun v w' => w = w' ∧ ∃ j : Nat, v = .int .i64 j ∧ AtExp s tr j)
                  case first =>
                    cases hS : sgB (ch s (i + 1))
                    · have HR : Hid (AtExp s tr (i + 1)) := exp_nosign H17.out (by omega) (sgB_false hS).1 (sgB_false hS).2
                      go_wp2
                      go_meet
                      exact ⟨rfl, i + 1, by go_num, HR.out⟩
                    · have hi' : i + 1 < s.size := by
                        by_cases hi' : i + 1 < s.size
                        · exact hi'
                        · rw [ch_end s (i + 1) hi'] at hS; cases hS
                      have HR : Hid (AtExp s tr (i + 1 + 1)) := exp_sign HT.out H17.out hi' (sgB_true hS)
                      go_wp2
                      go_meet
                      exact ⟨rfl, i + 1 + 1, by go_num, HR.out⟩
                  case rest =>
                    obtain ⟨rfl, j, rfl, hA⟩ := hcut
                    have hjl := hA.1
                    have HJ : Hid (AtExp s tr j) := hA
                    clear hA
                    go_wp2
                    go_loop [4] (fun v => ∃ k : Nat, v = .int .i64 k ∧ InExp s tr j k) (fun v => s.size - (intOf v).toNat)
                    case atStart => exact ⟨j, rfl, exp_start HJ.out⟩
                    case round =>
                      obtain ⟨k, rfl, hK⟩ := hrel
                      have HK : Hid (InExp s tr j k) := hK
                      have hkl := hK.1
                      clear hK
                      by_cases hk : k < s.size
                      · cases hd : digB ((s[k]'hk).toNat : Int)
                        · have HND : Hid (NoDig s k) := nodig_of s k hk hd
                          by_cases hki : k = j
                          · have HF : Hid (compB (tr s.size) = false) := exp_none HT.out HK.out HND.out hki
                            have hkb : ((k : Int) == (j : Int)) = true := by simp; omega
                            clear hki
                            go_wp2_with (go_at_call 17; refine (isDigit_any _ _).mono ?_; rintro e w' ⟨rfl, rfl⟩)
                            go_ret
                            exact ⟨by rw [HF.out]; rfl, rfl⟩
                          · have HR : Hid (AtEnd s tr k) := exp_stop HT.out HK.out HND.out hki
                            exact absurd HR.out.1 (by omega)
                        · have hr := exp_step HT.out HK.out hk (dig_of s k hk hd).1 (dig_of s k hk hd).2
                          have HR : Hid (InExp s tr j (k + 1)) := hr
                          clear hr
                          go_wp2_with (go_at_call 17; refine (isDigit_any _ _).mono ?_; rintro e w' ⟨rfl, rfl⟩)
                          go_round
                          case rel => exact ⟨k + 1, by go_num, HR.out⟩
                          case measure => go_light; simp [intOf]; omega
                      · have HND : Hid (NoDig s k) := nodig_end s k hk
                        by_cases hki : k = j
                        · have HF : Hid (compB (tr s.size) = false) := exp_none HT.out HK.out HND.out hki
                          have hkb : ((k : Int) == (j : Int)) = true := by simp; omega
                          clear hki
                          go_wp2
                          go_ret
                          exact ⟨by rw [HF.out]; rfl, rfl⟩
                        · have HR : Hid (AtEnd s tr k) := exp_stop HT.out HK.out HND.out hki
                          have hkb : ((k : Int) == (j : Int)) = false := by simp; omega
                          have hke : ((k : Int) == (s.size : Int)) = true := by have := HR.out.1; simp; omega
                          clear hki
                          go_wp2
                          go_ret
                          exact ⟨by rw [HR.out.2]; rfl, rfl⟩
        · have HE : Hid (AtEnd s tr i) := exp_no HT.out (frac_no HA.out (by rw [ch_end s i hi]; decide)) (by rw [ch_end s i hi]; decide) (by rw [ch_end s i hi]; decide)
          have hie : ((i : Int) == (s.size : Int)) = true := by have := HE.out.1; simp; omega
          go_wp2
          go_ret
          exact ⟨by rw [HE.out.2]; rfl, rfl⟩
    · have HF : Hid (compB (tr s.size) = false) := sign_end HA.out hp hi
      go_wp2
      go_ret
      exact ⟨by rw [HF.out]; rfl, rfl⟩
end Go.Proofs.Qxb6613222a
