import Derived.Test.Qxb6613222aRows
import Derived.Test.Qxb6613222aNumPlain
import Derived.WalkKit
import Derived.ProofKit
import Derived.Deep.Light
namespace Go.Proofs.Qxb6613222a
open Go.RowKit Go.Proofs.Qxb6613222a.Num

set_option maxHeartbeats 1600000 in
/-- 'zzNumState': it says no, or it says the state to which the whole text leads. -/
theorem numState_any (s : ByteArray) (w : World) (hs : s.size ≤ maxLen) :
    Calls Try.prog 8 #[.string s] w fun e w' => w' = w ∧ ((e = .returned (.tuple #[.int .u8 0, .bool false])) ∨ ∃ st : Int, e = .returned (.tuple #[.int .u8 st, .bool true]) ∧ 0 < s.size ∧ Run s.data.toList st) := by
  unfold maxLen at hs
  by_cases h0 : s.size = 0
  · have h0' : ((s.size : Int) == 0) = true := by simp [h0]
    go_enter Try.func8, Try.ntmps8
    go_wp2
    go_ret2
    exact ⟨rfl, .inl rfl⟩
  have h0' : ((s.size : Int) == 0) = false := by simp [h0]
  go_enter Try.func8, Try.ntmps8
  go_wp2
  go_loop [4, 5] (fun st i => ∃ (k : Nat) (q : Int), k ≤ s.size ∧ i = .int .i64 k ∧ st = .int .u8 q ∧ Run (s.data.toList.take k) q ∧ (k = 0 → q = 0) ∧ (0 < k → 12 ≤ q ∧ q ≤ 19)) (fun _ i => s.size - (intOf i).toNat)
  case atStart => exact ⟨0, 0, Nat.zero_le _, rfl, rfl, by simpa using run_nil, fun _ => rfl, fun h => absurd h (by omega)⟩
  case round =>
    obtain ⟨k, q, hk, rfl, rfl, hrun, hq0, hq1⟩ := hrel
    have HR : Hid (Run (s.data.toList.take k) q) := hrun
    clear hrun
    by_cases hlt : k < s.size
    · have HT : Hid (∀ s', Step q (s[k].toNat : Int) s' → Run (s.data.toList.take (k + 1)) s') := by
        intro s' h; rw [take_snoc s k hlt]; exact run_snoc HR.out h
      by_cases hk0 : k = 0
      · have := hq0 hk0
        subst this
        have hkb : ((k : Int) == 0) = true := by simp [hk0]
        clear hq0 hq1
        have HK : Hid (k = 0) := hk0
        clear hk0
        go_wp2
        case roundEnd =>
          go_round
          case rel => go_light; refine ⟨k + 1, _, by omega, by go_num, rfl, HT.out _ ?_, by omega, by omega⟩; simp only [beq_iff_eq, beq_eq_false_iff_ne, ne_eq] at *; simp [Step]; try omega
          case measure => go_light; simp [intOf]; omega
        case roundEnd =>
          go_round
          case rel => go_light; refine ⟨k + 1, _, by omega, by go_num, rfl, HT.out _ ?_, by omega, by omega⟩; simp only [beq_iff_eq, beq_eq_false_iff_ne, ne_eq] at *; simp [Step]; try omega
          case measure => go_light; simp [intOf]; omega
        case roundEnd =>
          go_round
          case rel => go_light; refine ⟨k + 1, _, by omega, by go_num, rfl, HT.out _ ?_, by omega, by omega⟩; simp only [beq_iff_eq, beq_eq_false_iff_ne, ne_eq] at *; simp [Step]; try omega
          case measure => go_light; simp [intOf]; omega
        all_goals (go_ret2; exact ⟨rfl, .inl rfl⟩)
      · have hkb : ((k : Int) == 0) = false := by simp [hk0]
        have hq : q = 12 ∨ q = 13 ∨ q = 14 ∨ q = 15 ∨ q = 16 ∨ q = 17 ∨ q = 18 ∨ q = 19 := by have := hq1 (by omega); omega
        clear hq0 hq1
        have HK : Hid (¬ k = 0) := hk0
        clear hk0
        rcases hq with rfl | rfl | rfl | rfl | rfl | rfl | rfl | rfl
        all_goals
          go_wp2
          all_goals first
            | (go_round
               case rel => go_light; refine ⟨k + 1, _, by omega, by go_num, rfl, HT.out _ ?_, by omega, by omega⟩; (try simp only [beq_iff_eq, beq_eq_false_iff_ne, ne_eq] at *); simp [Step]; try omega
               case measure => go_light; simp [intOf]; omega)
            | (go_ret2; exact ⟨rfl, .inl rfl⟩)
    · have hke : k = s.size := by omega
      have HF : Hid (Run s.data.toList q) := by have h := HR.out; rw [hke, take_all] at h; exact h
      clear hke
      go_wp2
      go_ret2
      exact ⟨rfl, .inr ⟨q, rfl, by omega, HF.out⟩⟩

/-- 'ZZnumberComplete'. -/
theorem complete_any (q : Int) (w : World) : Calls Try.prog 9 #[.int .u8 q] w fun e w' => e = .returned (.bool (compB q)) ∧ w' = w := by
  unfold compB
  by_cases h1 : q = 13
  · subst h1
    go_enter Try.func9, Try.ntmps9
    go_wp2
    go_ret
    exact ⟨rfl, rfl⟩
  by_cases h2 : q = 14
  · subst h2
    go_enter Try.func9, Try.ntmps9
    go_wp2
    go_ret
    exact ⟨rfl, rfl⟩
  by_cases h3 : q = 16
  · subst h3
    go_enter Try.func9, Try.ntmps9
    go_wp2
    go_ret
    exact ⟨rfl, rfl⟩
  by_cases h4 : q = 19
  · subst h4
    go_enter Try.func9, Try.ntmps9
    go_wp2
    go_ret
    exact ⟨rfl, rfl⟩
  have g1 : (q == 13) = false := by simp [h1]
  have g2 : (q == 14) = false := by simp [h2]
  have g3 : (q == 16) = false := by simp [h3]
  have g4 : (q == 19) = false := by simp [h4]
  go_enter Try.func9, Try.ntmps9
  go_wp2
  go_ret
  exact ⟨by simp [h1, h2, h3, h4], rfl⟩
end Go.Proofs.Qxb6613222a
