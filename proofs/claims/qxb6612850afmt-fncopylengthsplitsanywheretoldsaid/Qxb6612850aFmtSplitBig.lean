/- FnCopyLengthSplitsAnywhere: the inputs that its guards turn away; all inputs. -/
import Derived.Test.Qxb6612850aFmtSplit
import Derived.Test.Qxb6612850aFmtExactBig
namespace Go.Proofs.Qxb6612850aFmt
open Go.RowKit Go.Deep Go.Extern.Stop Go.Stop Go.Extern
set_option linter.unusedVariables false

set_option maxRecDepth 100000 in
set_option maxHeartbeats 4000000 in
theorem split_big (a b : Option Addr) (la ca lb cb : Nat) (x y r z : Int) (w : World) (ha : la ≤ 9223372036854775807) (hb : lb ≤ 9223372036854775807)
    (h : ¬ (la ≤ 524288 ∧ lb ≤ 524288 ∧ r ≤ 65536 ∧ z ≤ 65536 ∧ 0 ≤ x ∧ 0 ≤ y ∧ x < 4611686018427387904 ∧ y < 4611686018427387904)) :
    Calls Tryf.prog 4 #[.slice a la ca, .slice b lb cb, .int .i64 x, .int .i64 y, .int .i64 r, .int .i64 z] w fun e w' => e = .returned (.bool true) ∧ Below w.heap.size w w' := by
  by_cases h0 : la + lb ≤ 1048576
  · have HB6 : Hid (Calls Tryf.prog 15 #[.slice a la ca, .slice b lb cb, .int .i64 x, .int .i64 y, .int .i64 r, .int .i64 z] w fun e w' => e = .returned (.bool true) ∧ w = w') := by
      have h := bytes15 a b la ca lb cb (.int .i64 x) (.int .i64 y) (.int .i64 r) (.int .i64 z) w ha hb
      rw [decide_eq_true h0] at h
      exact h
    by_cases g0 : la ≤ 524288
    · by_cases g1 : lb ≤ 524288
      · by_cases g2 : r ≤ 65536
        · by_cases g3 : z ≤ 65536
          · by_cases g4 : 0 ≤ x
            · by_cases g5 : 0 ≤ y
              · by_cases g6 : x < 4611686018427387904
                · have g7 : ¬ y < 4611686018427387904 := by omega
                  clear h
                  go_enter Tryf.func4, Tryf.ntmps4
                  go_wp2_with fail
                  refine Calls.mono HB6.out ?_
                  rintro e w' ⟨rfl, hw⟩
                  subst hw
                  go_wp2
                  go_ret
                  exact ⟨rfl, Below.refl _ _⟩
                · skip
                  clear h
                  go_enter Tryf.func4, Tryf.ntmps4
                  go_wp2_with fail
                  refine Calls.mono HB6.out ?_
                  rintro e w' ⟨rfl, hw⟩
                  subst hw
                  go_wp2
                  go_ret
                  exact ⟨rfl, Below.refl _ _⟩
              · skip
                clear h
                go_enter Tryf.func4, Tryf.ntmps4
                go_wp2_with fail
                refine Calls.mono HB6.out ?_
                rintro e w' ⟨rfl, hw⟩
                subst hw
                go_wp2
                go_ret
                exact ⟨rfl, Below.refl _ _⟩
            · skip
              clear h
              go_enter Tryf.func4, Tryf.ntmps4
              go_wp2_with fail
              refine Calls.mono HB6.out ?_
              rintro e w' ⟨rfl, hw⟩
              subst hw
              go_wp2
              go_ret
              exact ⟨rfl, Below.refl _ _⟩
          · skip
            clear h
            go_enter Tryf.func4, Tryf.ntmps4
            go_wp2_with fail
            refine Calls.mono HB6.out ?_
            rintro e w' ⟨rfl, hw⟩
            subst hw
            go_wp2
            go_ret
            exact ⟨rfl, Below.refl _ _⟩
        · skip
          clear h
          go_enter Tryf.func4, Tryf.ntmps4
          go_wp2_with fail
          refine Calls.mono HB6.out ?_
          rintro e w' ⟨rfl, hw⟩
          subst hw
          go_wp2
          go_ret
          exact ⟨rfl, Below.refl _ _⟩
      · skip
        clear h
        go_enter Tryf.func4, Tryf.ntmps4
        go_wp2_with fail
        refine Calls.mono HB6.out ?_
        rintro e w' ⟨rfl, hw⟩
        subst hw
        go_wp2
        go_ret
        exact ⟨rfl, Below.refl _ _⟩
    · skip
      clear h
      go_enter Tryf.func4, Tryf.ntmps4
      go_wp2_with fail
      refine Calls.mono HB6.out ?_
      rintro e w' ⟨rfl, hw⟩
      subst hw
      go_wp2
      go_ret
      exact ⟨rfl, Below.refl _ _⟩
  · have HB6 : Hid (Calls Tryf.prog 15 #[.slice a la ca, .slice b lb cb, .int .i64 x, .int .i64 y, .int .i64 r, .int .i64 z] w fun e w' => e = .returned (.bool false) ∧ w = w') := by
      have h := bytes15 a b la ca lb cb (.int .i64 x) (.int .i64 y) (.int .i64 r) (.int .i64 z) w ha hb
      rw [decide_eq_false h0] at h
      exact h
    clear h
    go_enter Tryf.func4, Tryf.ntmps4
    go_wp2_with fail
    refine Calls.mono HB6.out ?_
    rintro e w' ⟨rfl, hw⟩
    subst hw
    go_wp2
    go_ret
    exact ⟨rfl, Below.refl _ _⟩

/-- FnCopyLengthSplitsAnywhere: every input. -/
theorem split_all (F : Interp) (a3 a4 : Addr) (s : ByteArray) (a b : Option Addr) (la ca lb cb : Nat) (A D : List Value) (x y r z : Int) (w : World) (hA : IsBytes w a la ca A) (hD : IsBytes w b lb cb D) (hS : Sent F a3 a4 s w) (hN : 3 < w.heap.size ∧ 4 < w.heap.size ∧ a4.block < w.heap.size)
    (hr : -9223372036854775808 ≤ r ∧ r ≤ 9223372036854775807) (hz : -9223372036854775808 ≤ z ∧ z ≤ 9223372036854775807) :
    Calls Tryf.prog 4 #[.slice a la ca, .slice b lb cb, .int .i64 x, .int .i64 y, .int .i64 r, .int .i64 z] w fun e w' => e = .returned (.bool true) ∧ Below w.heap.size w w' := by
  have e1 := hA.hlen
  have e2 := hD.hlen
  have e3 := hA.lc
  have e4 := hD.lc
  have e5 := hA.cm
  have e6 := hD.cm
  subst e1
  subst e2
  by_cases h : A.length ≤ 524288 ∧ D.length ≤ 524288 ∧ r ≤ 65536 ∧ z ≤ 65536 ∧ 0 ≤ x ∧ 0 ≤ y ∧ x < 4611686018427387904 ∧ y < 4611686018427387904
  · obtain ⟨h1, h2, h3, h4, h5, h6, h7, h8⟩ := h
    exact split_small F a3 a4 s a b ca cb _ _ A D x y r z w hA.byts hD.byts hA.reads hD.reads hA.nil hD.nil ⟨e3, e5⟩ ⟨e4, e6⟩ hS hN ⟨h5, h7⟩ ⟨h6, h8⟩ ⟨hr.1, h3⟩ ⟨hz.1, h4⟩ h1 h2 rfl rfl
  · exact split_big a b A.length ca D.length cb x y r z w (by omega) (by omega) h
end Go.Proofs.Qxb6612850aFmt
