/- ZZRest. -/
import Derived.Test.Qxb6612850aFmtAllW
namespace Go.Proofs.Qxb6612850aFmt
open Go.RowKit Go.Deep
set_option linter.unusedVariables false

set_option maxRecDepth 100000 in
theorem rest12 (sp sq sg sd SS pos : Nat) (D : List Value) (a : Addr) (w : World) (h : SrcHas sp sq sg sd SS pos D w) (hE : w.cell? ⟨3, 0, none⟩ = some (.iface 123 (.pointer (some a)))) (h3 : sp ≠ 3 ∧ sq ≠ 3 ∧ sg ≠ 3) (hd : sp < w.heap.size ∧ sq < w.heap.size ∧ sg < w.heap.size ∧ sd < w.heap.size ∧ 3 < w.heap.size) (hpos : pos ≤ D.length) :
    Calls Tryf.prog 12 #[.pointer (some ⟨sp, 0, none⟩)] w fun x w' => ∃ ao c, x = .returned (.slice ao (D.drop pos).length c) ∧ Reads w' ao (D.drop pos) ∧ Keeps w.heap.size (fun i => i = sp ∨ i = sq ∨ i = sg) w w' := by
  have HR : Hid (Calls Tryf.prog 32 #[.iface 24 (.pointer (some ⟨sp, 0, none⟩))] w fun x w' => ∃ ao c, x = .returned (.tuple #[.slice ao (D.drop pos).length c, .nilIface]) ∧ Reads w' ao (D.drop pos) ∧ Keeps w.heap.size (fun i => i = sp ∨ i = sq ∨ i = sg) w w') := readAll32 sp sq sg sd SS pos D a w h hE h3 hd hpos
  clear h hE h3 hd hpos
  generalize (D.drop pos).length = N at *
  generalize D.drop pos = R at *
  go_enter Tryf.func12, Tryf.ntmps12
  go_wp2_with fail
  refine Calls.mono HR.out ?_
  rintro x w' ⟨ao, c, rfl, hR, hK⟩
  have HQ : Hid (Reads w' ao R ∧ Keeps w.heap.size (fun i => i = sp ∨ i = sq ∨ i = sg) w w') := ⟨hR, hK⟩
  clear hR hK HR
  go_wp2
  go_ret
  exact ⟨ao, c, rfl, HQ.out.1, HQ.out.2⟩
end Go.Proofs.Qxb6612850aFmt
