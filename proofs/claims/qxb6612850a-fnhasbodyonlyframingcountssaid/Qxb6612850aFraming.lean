import Derived.Test.Qxb6612850aClone
import Derived.Deep.DeepCutAuto
namespace Go.Proofs.Qxb6612850a
open Go.RowKit Go.Deep Go.WideShapes
set_option linter.unusedVariables false

/-- A slice of bytes that came in. -/
def InRow (w : World) (a : Option Addr) (len cap : Nat) : Prop :=
  (a = none ∧ len = 0 ∧ cap = 0) ∨ ∃ x, a = some x ∧ ∃ f : Nat → Int, ∀ i, i < len → w.cell? (x.add i) = some (.int .u8 (f i))

theorem clone_empty (x : Addr) (c : Nat) (w : World) :
    Calls Try.prog 6 #[.slice (some x) 0 c] w fun e w' => (∃ a n c', e = .returned (.slice a n c')) ∧ Below w.heap.size w w' := by
  have hmk : ∀ w : World, (Instr.makeSlice 22 (.int .i64 0) (.int .i64 0)).run Try.prog w = .ok (.slice (some ⟨w.heap.size, 0, none⟩) 0 0) (w.alloc (.cells (madeCells #[.int .u8 0] 0) 5)) :=
    run_make_row' (P := Try.prog) 22 5 (.int .u8 0) 1 Try.underlying22 Try.info5 rfl .i64 .i64 0 (by omega) (by omega)
  have hnil := fun w => Lib.run_eql_slice_nil (P := Try.prog) w 22 5 (some x) 0 c 0 0 Try.underlying22
  go_enter Try.func6, Try.ntmps6
  go_wp2
  clear hmk hnil
  go_loop [4] (fun i => i = .int .i64 0) (fun _ => 0)
  case atStart => rfl
  case round =>
    subst hrel
    go_wp2
    go_ret
    exact ⟨⟨_, _, _, rfl⟩, (Below.refl _ _).alloc (Nat.le_refl _) _⟩

theorem clone_any (a : Option Addr) (len cap : Nat) (w : World) (hn : len ≤ 1048576) (h : InRow w a len cap) :
    Calls Try.prog 6 #[.slice a len cap] w fun e w' => (∃ a n c', e = .returned (.slice a n c')) ∧ Below w.heap.size w w' := by
  rcases h with ⟨rfl, rfl, rfl⟩ | ⟨x, rfl, f, hc⟩
  · refine (clone_nil w).mono ?_
    rintro e w' ⟨rfl, rfl⟩
    exact ⟨⟨_, _, _, rfl⟩, Below.refl _ _⟩
  · by_cases h0 : len = 0
    · subst h0
      exact clone_empty x cap w
    · obtain ⟨b, off, spot⟩ := x
      have h00 := hc 0 (by omega)
      have hspot : spot = none := by simpa [Addr.add] using World.cell?_spot h00
      subst hspot
      have hc' : Byts w b off len f := fun j hj => by rw [← add_plain]; exact hc j hj
      refine (clone_some b off len cap f w (fun h => World.block_lt_of_cell? w _ (hc' 0 h)) hn hc').mono ?_
      rintro e w' ⟨rfl, hB, _⟩
      exact ⟨⟨_, _, _, rfl⟩, hB⟩

theorem bytes5_any (a0 : Option Addr) (l0 c0 : Nat) (a1 : Option Addr) (l1 c1 : Nat) (a2 : Option Addr) (l2 c2 : Nat) (a3 a4 a5 : Int) (a6 a7 a8 a9 : Bool) (w : World) (h0 : l0 ≤ maxLen) (h1 : l1 ≤ maxLen) (h2 : l2 ≤ maxLen) :
    Calls Try.prog 5 #[.slice a0 l0 c0, .slice a1 l1 c1, .slice a2 l2 c2, .int .i64 a3, .int .i64 a4, .int .i64 a5, .bool a6, .bool a7, .bool a8, .bool a9] w fun e w' => (∃ B, e = .returned (.bool B)) ∧ w = w' := by
  unfold maxLen at h0 h1 h2
  go_enter Try.func5, Try.ntmps5
  go_wp2
  all_goals
    go_ret
    exact ⟨⟨_, rfl⟩, rfl⟩

theorem bytes5_yes (a0 : Option Addr) (l0 c0 : Nat) (a1 : Option Addr) (l1 c1 : Nat) (a2 : Option Addr) (l2 c2 : Nat) (a3 a4 a5 : Int) (a6 a7 a8 a9 : Bool) (w : World) (h0 : l0 ≤ 262144) (h1 : l1 ≤ 262144) (h2 : l2 ≤ 262144) :
    Calls Try.prog 5 #[.slice a0 l0 c0, .slice a1 l1 c1, .slice a2 l2 c2, .int .i64 a3, .int .i64 a4, .int .i64 a5, .bool a6, .bool a7, .bool a8, .bool a9] w fun e w' => e = .returned (.bool true) ∧ w = w' := by
  go_enter Try.func5, Try.ntmps5
  go_wp2
  go_ret
  exact ⟨rfl, rfl⟩

theorem InRow.below {w w' : World} {a : Option Addr} {len cap : Nat} (h : InRow w a len cap) (hB : Below w.heap.size w w') : InRow w' a len cap := by
  rcases h with h | ⟨x, rfl, f, hc⟩
  · exact .inl h
  · refine .inr ⟨x, rfl, f, fun i hi => ?_⟩
    have := hc i hi
    rw [hB.cell (World.block_lt_of_cell? w _ this)]
    exact this

set_option maxRecDepth 100000 in
set_option maxHeartbeats 4000000 in
theorem framing_big (a0 : Option Addr) (l0 c0 : Nat) (a1 : Option Addr) (l1 c1 : Nat) (a2 : Option Addr) (l2 c2 : Nat) (a3 a4 a5 : Int) (a6 a7 a8 a9 : Bool) (w : World) (h0 : l0 ≤ maxLen) (h1 : l1 ≤ maxLen) (h2 : l2 ≤ maxLen)
    (hbig : ¬ (l0 ≤ 262144 ∧ l1 ≤ 262144 ∧ l2 ≤ 262144)) :
    Calls Try.prog 3 #[.slice a0 l0 c0, .slice a1 l1 c1, .slice a2 l2 c2, .int .i64 a3, .int .i64 a4, .int .i64 a5, .bool a6, .bool a7, .bool a8, .bool a9] w fun e w' => e = .returned (.bool true) ∧ Below w.heap.size w w' := by
  by_cases g0 : (262144 : Int) < (l0 : Int)
  · clear hbig
    have d0 : decide ((262144 : Int) < (l0 : Int)) = true := decide_eq_true g0
    go_enter Try.func3, Try.ntmps3
    go_wp2_with fail
    refine (bytes5_any _ _ _ _ _ _ _ _ _ _ _ _ _ _ _ _ _ h0 h1 h2).mono ?_
    rintro e w' ⟨⟨B, rfl⟩, rfl⟩
    cases B
    all_goals
      go_wp2
      go_ret
      exact ⟨rfl, Below.refl _ _⟩
  have d0 : decide ((262144 : Int) < (l0 : Int)) = false := decide_eq_false g0
  by_cases g1 : (262144 : Int) < (l1 : Int)
  · clear hbig
    have d1 : decide ((262144 : Int) < (l1 : Int)) = true := decide_eq_true g1
    go_enter Try.func3, Try.ntmps3
    go_wp2_with fail
    refine (bytes5_any _ _ _ _ _ _ _ _ _ _ _ _ _ _ _ _ _ h0 h1 h2).mono ?_
    rintro e w' ⟨⟨B, rfl⟩, rfl⟩
    cases B
    all_goals
      go_wp2
      go_ret
      exact ⟨rfl, Below.refl _ _⟩
  have d1 : decide ((262144 : Int) < (l1 : Int)) = false := decide_eq_false g1
  have g2 : (262144 : Int) < (l2 : Int) := by omega
  clear hbig
  have d2 : decide ((262144 : Int) < (l2 : Int)) = true := decide_eq_true g2
  go_enter Try.func3, Try.ntmps3
  go_wp2_with fail
  refine (bytes5_any _ _ _ _ _ _ _ _ _ _ _ _ _ _ _ _ _ h0 h1 h2).mono ?_
  rintro e w' ⟨⟨B, rfl⟩, rfl⟩
  cases B
  all_goals
    go_wp2
    go_ret
    exact ⟨rfl, Below.refl _ _⟩

set_option maxRecDepth 100000 in
set_option maxHeartbeats 4000000 in
theorem framing_small (a0 : Option Addr) (l0 c0 : Nat) (a1 : Option Addr) (l1 c1 : Nat) (a2 : Option Addr) (l2 c2 : Nat) (a3 a4 a5 : Int) (a6 a7 a8 a9 : Bool) (w : World) (h0 : l0 ≤ 262144) (h1 : l1 ≤ 262144) (h2 : l2 ≤ 262144)
    (r0 : InRow w a0 l0 c0) (r1 : InRow w a1 l1 c1) (r2 : InRow w a2 l2 c2) (b1 : -9223372036854775808 ≤ a4) (b2 : a4 ≤ 9223372036854775807) :
    Calls Try.prog 3 #[.slice a0 l0 c0, .slice a1 l1 c1, .slice a2 l2 c2, .int .i64 a3, .int .i64 a4, .int .i64 a5, .bool a6, .bool a7, .bool a8, .bool a9] w fun e w' => e = .returned (.bool true) ∧ Below w.heap.size w w' := by
  have R0 : Hid (InRow w a0 l0 c0) := r0
  have R1 : Hid (InRow w a1 l1 c1) := r1
  have R2 : Hid (InRow w a2 l2 c2) := r2
  clear r0 r1 r2
  have d0 : decide ((262144 : Int) < (l0 : Int)) = false := decide_eq_false (by omega)
  have d1 : decide ((262144 : Int) < (l1 : Int)) = false := decide_eq_false (by omega)
  have d2 : decide ((262144 : Int) < (l2 : Int)) = false := decide_eq_false (by omega)
  go_enter Try.func3, Try.ntmps3
  go_wp2_with fail
  refine (bytes5_yes _ _ _ _ _ _ _ _ _ _ _ _ _ _ _ _ _ h0 h1 h2).mono ?_
  rintro e w' ⟨rfl, rfl⟩
  go_wp2_with fail
  refine (clone_any _ _ _ _ (by omega) R0.out).mono ?_
  rintro e w1 ⟨⟨p0, n0, q0, rfl⟩, hB1⟩
  have R1' : Hid (InRow w1 a1 l1 c1) := R1.out.below hB1
  have R2' : Hid (InRow w1 a2 l2 c2) := R2.out.below hB1
  go_wp2_with fail
  refine (clone_any _ _ _ _ (by omega) R1'.out).mono ?_
  rintro e w2 ⟨⟨p1, n1, q1, rfl⟩, hB2⟩
  have R2'' : Hid (InRow w2 a2 l2 c2) := R2'.out.below hB2
  go_wp2_with fail
  refine (clone_any _ _ _ _ (by omega) R2''.out).mono ?_
  rintro e w3 ⟨⟨p2, n2, q2, rfl⟩, hB3⟩
  have hB : Below w.heap.size w w3 := (hB1.trans (hB2.mono hB1.size)).trans (hB3.mono (Nat.le_trans hB1.size hB2.size))
  clear R0 R1 R2 R1' R2' R2'' hB1 hB2 hB3
  go_upto_if 64 with fail
  go_cut [21, 22] (fun lo hi w' => w3 = w' ∧ ∃ x y : Int, lo = .int .i64 x ∧ hi = .int .i64 y ∧ (hasB x a6 = true → hasB y a6 = true))
  case first =>
    have HM : Hid (∀ x y : Int, x ≤ y → hasB x a6 = true → hasB y a6 = true) := by
      intro x y hxy h
      unfold hasB at *
      cases a6
      · simp at *; omega
      · rfl
    by_cases hsw : a5 < a4
    · go_wp2
      go_meet
      exact ⟨rfl, _, _, rfl, rfl, HM.out _ _ (by omega)⟩
    · go_wp2
      go_meet
      exact ⟨rfl, _, _, rfl, rfl, HM.out _ _ (by omega)⟩
  case rest =>
    obtain ⟨rfl, x, y, rfl, rfl, hM⟩ := hcut
    have HM : Hid (hasB x a6 = true → hasB y a6 = true) := hM
    clear hM
    go_wp2_with fail
    refine (hasBody_any _ a6 a4 _ ?_ ?_).mono ?_
    · simp [go_sem]
    · simp [go_sem]
    rintro e w' ⟨rfl, rfl⟩
    go_wp2_with fail
    refine (hasBody_any _ a6 a4 _ ?_ ?_).mono ?_
    · simp [go_sem]
    · simp [go_sem]
    rintro e w' ⟨rfl, rfl⟩
    go_wp2_with fail
    refine (hasBody_any _ a6 x _ ?_ ?_).mono ?_
    · simp [go_sem]
    · simp [go_sem]
    rintro e w' ⟨rfl, rfl⟩
    cases hX : hasB x a6
    · clear HM
      by_cases k1 : 0 ≤ a4
      · by_cases k2 : a4 < 9223372036854775807
        · have HN : Hid (hasB (a4 + 1) a6 = true) := by show hasB (a4 + 1) a6 = true; unfold hasB; cases a6 <;> simp; omega
          have e1 : decide (0 ≤ a4) = true := decide_eq_true k1
          have e2 : decide (a4 < 9223372036854775807) = true := decide_eq_true k2
          go_wp2_with fail
          refine (hasBody_any _ a6 (a4 + 1) _ ?_ ?_).mono ?_
          · simp [go_sem]
          · simp [go_sem]
          rintro e w' ⟨rfl, rfl⟩
          have hN := HN.out
          go_wp2
          go_ret
          exact ⟨rfl, ((((hB.alloc hB.size _).alloc (by simp; have := hB.size; omega) _).alloc (by simp; have := hB.size; omega) _).alloc (by simp; have := hB.size; omega) _).alloc (by simp; have := hB.size; omega) _⟩
        · have e1 : decide (0 ≤ a4) = true := decide_eq_true k1
          have e2 : decide (a4 < 9223372036854775807) = false := decide_eq_false k2
          go_wp2
          go_ret
          exact ⟨rfl, (((hB.alloc hB.size _).alloc (by simp; have := hB.size; omega) _).alloc (by simp; have := hB.size; omega) _).alloc (by simp; have := hB.size; omega) _⟩
      · have e1 : decide (0 ≤ a4) = false := decide_eq_false k1
        go_wp2
        go_ret
        exact ⟨rfl, (((hB.alloc hB.size _).alloc (by simp; have := hB.size; omega) _).alloc (by simp; have := hB.size; omega) _).alloc (by simp; have := hB.size; omega) _⟩
    · have hY := HM.out hX
      clear HM
      go_wp2_with fail
      refine (hasBody_any _ a6 y _ ?_ ?_).mono ?_
      · simp [go_sem]
      · simp [go_sem]
      rintro e w' ⟨rfl, rfl⟩
      by_cases k1 : 0 ≤ a4
      · by_cases k2 : a4 < 9223372036854775807
        · have HN : Hid (hasB (a4 + 1) a6 = true) := by show hasB (a4 + 1) a6 = true; unfold hasB; cases a6 <;> simp; omega
          have e1 : decide (0 ≤ a4) = true := decide_eq_true k1
          have e2 : decide (a4 < 9223372036854775807) = true := decide_eq_true k2
          go_wp2_with fail
          refine (hasBody_any _ a6 (a4 + 1) _ ?_ ?_).mono ?_
          · simp [go_sem]
          · simp [go_sem]
          rintro e w' ⟨rfl, rfl⟩
          have hN := HN.out
          go_wp2
          go_ret
          exact ⟨rfl, ((((hB.alloc hB.size _).alloc (by simp; have := hB.size; omega) _).alloc (by simp; have := hB.size; omega) _).alloc (by simp; have := hB.size; omega) _).alloc (by simp; have := hB.size; omega) _⟩
        · have e1 : decide (0 ≤ a4) = true := decide_eq_true k1
          have e2 : decide (a4 < 9223372036854775807) = false := decide_eq_false k2
          go_wp2
          go_ret
          exact ⟨rfl, (((hB.alloc hB.size _).alloc (by simp; have := hB.size; omega) _).alloc (by simp; have := hB.size; omega) _).alloc (by simp; have := hB.size; omega) _⟩
      · have e1 : decide (0 ≤ a4) = false := decide_eq_false k1
        go_wp2
        go_ret
        exact ⟨rfl, (((hB.alloc hB.size _).alloc (by simp; have := hB.size; omega) _).alloc (by simp; have := hB.size; omega) _).alloc (by simp; have := hB.size; omega) _⟩
end Go.Proofs.Qxb6612850a
