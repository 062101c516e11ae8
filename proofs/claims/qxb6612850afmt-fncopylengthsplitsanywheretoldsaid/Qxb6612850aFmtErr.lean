/- fmt.Errorf("reading a body: %w", a sentinel), ReadingBody: only that the result is not nil is kept. -/
import Derived.Test.Qxb6612850aFmtIs
import Derived.Test.Qxb6612850aFmtBase
import Derived.Stop.CallBack
import Derived.Stop.IfaceNil
import GoSem.ClaimData
import Derived.BigCall
namespace Go.Proofs.Qxb6612850aFmt
open Go.RowKit Go.Extern.Stop Go.Stop Go.Extern
set_option linter.unusedVariables false

theorem Tryf.call50 (args : Array Value) (w : World) : (callFunc 50 args).run Tryf.prog w = (FmtCalls.errorf #[9, 103] #[32] args).run Tryf.prog w :=
  run_callFunc_next Tryf.func50 (by kernel_rfl) (by kernel_rfl) (by kernel_rfl) args w
theorem Tryf.fguard (name : String) (w : World) : (FmtStop.guard name).run Tryf.prog w = .ok () w := by kernel_rfl
theorem Tryf.nextTurns : Extern.next FmtCalls.turnsRow = some (FmtCalls.begun #[] #[]) := by kernel_rfl
theorem Tryf.nextReturned : Extern.next FmtCalls.returnedRow = some (FmtCalls.returned #[] #[]) := by kernel_rfl
theorem Tryf.fmt0r (w : World) : (FmtDoors.printed ⟨#[114, 101, 97, 100, 105, 110, 103, 32, 97, 32, 98, 111, 100, 121, 58, 32, 37, 119]⟩ 1).run Tryf.prog w = .ok [(0, 119, false)] w := by kernel_rfl
theorem Tryf.fmt0 : FmtStop.printed? ⟨#[114, 101, 97, 100, 105, 110, 103, 32, 97, 32, 98, 111, 100, 121, 58, 32, 37, 119]⟩ 1 = some [(0, 119, false)] := by kernel_rfl
theorem Tryf.act123 (name : String) (x : Value) (w : World) : (FmtCalls.act name true 119 false (.iface 123 x)).run Tryf.prog w = .ok (.closed true) w := by kernel_rfl
theorem Tryf.isError123 (w : World) : (FmtDoors.textMethod 123 "Error").run Tryf.prog w = .ok true w := by kernel_rfl
theorem Tryf.ptr105 (w : World) : (FmtStop.ptrTo "fmt.wrapError").run Tryf.prog w = .ok 105 w := by kernel_rfl
theorem Tryf.elem105 (w : World) : (elemOf 105).run Tryf.prog w = .ok 160 w := by kernel_rfl
theorem Tryf.isError105 (w : World) : (FmtDoors.textMethod 105 "Error").run Tryf.prog w = .ok true w := by kernel_rfl
def Tryf.plain123 : List UInt8 := 14 :: FmtStop.pack "*errors.errorString".toUTF8.data.toList
theorem Tryf.opPlain123 (name : String) (a : Addr) (s : ByteArray) (w : World) (hc : w.cell? a = some (.string s)) :
    (FmtStop.operand name true 119 false (.iface 123 (.pointer (some a)))).run Tryf.prog w = .ok (Tryf.plain123, s.data.toList) w := by
  have h1 : (typeStr 123).run Tryf.prog w = .ok "*errors.errorString" w := by kernel_rfl
  have d2 : Tryf.t123.desc = .pointer 125 := rfl
  have d3 : Tryf.t125.desc = .named "errors.errorString" 124 := rfl
  simp [FmtStop.operand, h1, d2, d3, run_load, hc, Tryf.plain123]

set_option maxHeartbeats 1600000 in
theorem errorf41 (F : Interp) (v : Nat) (a : Addr) (s : ByteArray) (w : World) (hF : F.answers w.tape) (hv : w.cell? ⟨v, 0, none⟩ = some (.iface 123 (.pointer (some a)))) (hs : w.cell? a = some (.string s)) :
    Calls Tryf.prog 41 #[.string ⟨#[114, 101, 97, 100, 105, 110, 103, 32, 97, 32, 98, 111, 100, 121, 58, 32, 37, 119]⟩, .slice (some ⟨v, 0, none⟩) 1 1] w fun e w' => (∃ N, e = .returned (.iface 105 (.pointer (some N)))) ∧ Below w.heap.size w w' := by
  have hF' := answers_open hF
  have hop := Tryf.opPlain123 "fmt.errorf" a s w hs
  have a1 := Tryf.call50
  have a2 := Tryf.fguard
  have a3 := Tryf.fmt0r
  have a3' := Tryf.fmt0
  have a4 := Tryf.act123
  have a5 := Tryf.isError123
  have a6 := Tryf.ptr105
  have a7 := Tryf.elem105
  have a8 := Tryf.isError105
  go_enter Tryf.func41, Tryf.ntmps41
  go_wp2
  apply rows_value Tryf.nextTurns
  case hr =>
    go_simp
    exact ⟨rfl, rfl⟩
  case h =>
    go_wp2
    go_ret
    exact ⟨⟨_, rfl⟩, ((Below.refl _ w).alloc (Nat.le_refl _) _).drew⟩

set_option maxHeartbeats 800000 in
/-- ReadingBody(io.EOF): an error that is not nil. -/
theorem reading28 (F : Interp) (a3 a4 : Addr) (s : ByteArray) (w : World) (hF : F.answers w.tape) (h3 : w.cell? ⟨3, 0, none⟩ = some (.iface 123 (.pointer (some a3)))) (h4 : w.cell? ⟨4, 0, none⟩ = some (.iface 123 (.pointer (some a4)))) (hs : w.cell? a4 = some (.string s)) :
    Calls Tryf.prog 28 #[.iface 123 (.pointer (some a3))] w fun e w' => (∃ N, e = .returned (.iface 105 (.pointer (some N)))) ∧ Below w.heap.size w w' := by
  go_enter Tryf.func28, Tryf.ntmps28
  go_wp2_with fail
  refine (is_same a3 w).mono ?_
  rintro e w1 ⟨rfl, hw⟩
  subst hw
  go_wp2_with fail
  refine (errorf41 F w1.heap.size a4 s (w1.alloc (.cells #[.iface 123 (.pointer (some a4))] 20)) hF ?_ ?_).mono ?_
  · rw [Lib.cell_of_heap (heap_alloc_new _ _)]; rfl
  · exact Lib.cell?_alloc_some _ hs
  · rintro e w2 ⟨⟨N, rfl⟩, hB⟩
    have HB : Hid (Below w1.heap.size w1 w2) := ((Below.refl _ w1).alloc (Nat.le_refl _) _).trans (hB.mono (by simp))
    clear hB
    go_wp2
    go_ret
    exact ⟨⟨_, rfl⟩, HB.out⟩
end Go.Proofs.Qxb6612850aFmt
