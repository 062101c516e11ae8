/- FnCopyLengthCopiesExactly: the inputs that its guards turn away; all inputs. -/
import Derived.Test.Qxb6612850aFmtExact
namespace Go.Proofs.Qxb6612850aFmt
open Go.RowKit Go.Deep Go.Extern.Stop Go.Stop Go.Extern
set_option linter.unusedVariables false

set_option maxRecDepth 100000 in
theorem exact_big (a b : Option Addr) (la ca lb cb : Nat) (n r z : Int) (w : World) (ha : la ≤ 9223372036854775807) (hb : lb ≤ 9223372036854775807)
    (h : ¬ (la ≤ 524288 ∧ lb ≤ 524288 ∧ r ≤ 65536 ∧ z ≤ 65536)) :
    Calls Tryf.prog 3 #[.slice a la ca, .slice b lb cb, .int .i64 n, .int .i64 r, .int .i64 z] w fun e w' => e = .returned (.bool true) ∧ Below w.heap.size w w' := by
  by_cases h0 : la + lb ≤ 1048576
  · have HB6 : Hid (Calls Tryf.prog 6 #[.slice a la ca, .slice b lb cb, .int .i64 n, .int .i64 r, .int .i64 z] w fun e w' => e = .returned (.bool true) ∧ w = w') := by
      have h := bytes6 a b la ca lb cb (.int .i64 n) (.int .i64 r) (.int .i64 z) w ha hb
      rw [decide_eq_true h0] at h
      exact h
    by_cases h1 : la ≤ 524288
    · by_cases h2 : lb ≤ 524288
      · by_cases h3 : r ≤ 65536
        · have h4 : ¬ z ≤ 65536 := by omega
          clear h
          go_enter Tryf.func3, Tryf.ntmps3
          go_wp2_with fail
          refine Calls.mono HB6.out ?_
          rintro e w' ⟨rfl, hw⟩
          subst hw
          go_wp2
          go_ret
          exact ⟨rfl, Below.refl _ _⟩
        · clear h
          go_enter Tryf.func3, Tryf.ntmps3
          go_wp2_with fail
          refine Calls.mono HB6.out ?_
          rintro e w' ⟨rfl, hw⟩
          subst hw
          go_wp2
          go_ret
          exact ⟨rfl, Below.refl _ _⟩
      · clear h
        go_enter Tryf.func3, Tryf.ntmps3
        go_wp2_with fail
        refine Calls.mono HB6.out ?_
        rintro e w' ⟨rfl, hw⟩
        subst hw
        go_wp2
        go_ret
        exact ⟨rfl, Below.refl _ _⟩
    · clear h
      go_enter Tryf.func3, Tryf.ntmps3
      go_wp2_with fail
      refine Calls.mono HB6.out ?_
      rintro e w' ⟨rfl, hw⟩
      subst hw
      go_wp2
      go_ret
      exact ⟨rfl, Below.refl _ _⟩
  · have HB6 : Hid (Calls Tryf.prog 6 #[.slice a la ca, .slice b lb cb, .int .i64 n, .int .i64 r, .int .i64 z] w fun e w' => e = .returned (.bool false) ∧ w = w') := by
      have h := bytes6 a b la ca lb cb (.int .i64 n) (.int .i64 r) (.int .i64 z) w ha hb
      rw [decide_eq_false h0] at h
      exact h
    clear h
    go_enter Tryf.func3, Tryf.ntmps3
    go_wp2_with fail
    refine Calls.mono HB6.out ?_
    rintro e w' ⟨rfl, hw⟩
    subst hw
    go_wp2
    go_ret
    exact ⟨rfl, Below.refl _ _⟩

/-- What a law is told of a slice of bytes. -/
structure IsBytes (w : World) (a : Option Addr) (len cap : Nat) (L : List Value) : Prop where
  hlen : L.length = len
  byts : Byts L
  reads : Reads w a L
  nil : a = none → cap = 0
  lc : len ≤ cap
  cm : cap ≤ 9223372036854775807

/-- FnCopyLengthCopiesExactly: every input. -/
theorem exact_all (F : Interp) (a3 a4 : Addr) (s : ByteArray) (a b : Option Addr) (la ca lb cb : Nat) (A D : List Value) (n r z : Int) (w : World) (hA : IsBytes w a la ca A) (hD : IsBytes w b lb cb D) (hS : Sent F a3 a4 s w) (hN : 3 < w.heap.size ∧ 4 < w.heap.size ∧ a4.block < w.heap.size)
    (hn : -9223372036854775808 ≤ n ∧ n ≤ 9223372036854775807) (hr : -9223372036854775808 ≤ r ∧ r ≤ 9223372036854775807) (hz : -9223372036854775808 ≤ z ∧ z ≤ 9223372036854775807) :
    Calls Tryf.prog 3 #[.slice a la ca, .slice b lb cb, .int .i64 n, .int .i64 r, .int .i64 z] w fun e w' => e = .returned (.bool true) ∧ Below w.heap.size w w' := by
  have e1 := hA.hlen
  have e2 := hD.hlen
  have e3 := hA.lc
  have e4 := hD.lc
  have e5 := hA.cm
  have e6 := hD.cm
  subst e1
  subst e2
  by_cases h : A.length ≤ 524288 ∧ D.length ≤ 524288 ∧ r ≤ 65536 ∧ z ≤ 65536
  · exact exact_small F a3 a4 s a b ca cb _ A D n r z w hA.byts hD.byts hA.reads hD.reads hA.nil hD.nil ⟨e3, e5⟩ ⟨e4, e6⟩ hS hN hn ⟨hr.1, h.2.2.1⟩ ⟨hz.1, h.2.2.2⟩ h.1 h.2.1 rfl
  · exact exact_big a b A.length ca D.length cb n r z w (by omega) (by omega) h
end Go.Proofs.Qxb6612850aFmt
