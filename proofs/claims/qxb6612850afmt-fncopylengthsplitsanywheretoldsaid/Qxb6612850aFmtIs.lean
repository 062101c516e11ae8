/- errors.Is of a sentinel and itself (after the kit's worked SentryIs, turned to this program's numbers). -/
import Derived.Test.Qxb6612850aFmtRows
import Derived.WalkKit
import Derived.LaidEql
import Derived.Stop.Asserts
import Derived.RowKitTokens
namespace Go.Proofs.Qxb6612850aFmt
open Go.RowKit Go.Extern.Stop Go.Stop Go.Extern

theorem Tryf.isTypeOf (v : Value) (w : World) : (Extern.ReflectliteType.typeOf #[.iface 123 v]).run Tryf.prog w = .ok (.iface 114 (.agg #[.pointer (some ⟨11, 123, none⟩)])) w := by kernel_rfl
theorem Tryf.isComparable (w : World) : ((Extern.ReflectliteType.method fun t => do Go.Extern.Rtype.noPackHeld "Comparable" t; (fun a => Value.bool a.comparable) <$> typeInfo t) #[.agg #[.pointer (some ⟨11, 123, none⟩)]]).run Tryf.prog w = .ok (.bool true) w := by kernel_rfl
theorem Tryf.isMethodComparable (v : Value) (w : World) : (Go.method 275 114 v "Comparable").run Tryf.prog w = .ok (97, v) w := by kernel_rfl
theorem Tryf.isComp : (Tryf.prog.info? 123).map (·.comparable) = some true := by kernel_rfl
theorem Tryf.isSize : (Tryf.prog.info? 125).map (·.size) = some 1 := by kernel_rfl

set_option maxRecDepth 100000 in
/-- errors.Is(x, x), x a pointer to an errors.errorString. -/
theorem is_same (a : Addr) (w : World) :
    Calls Tryf.prog 40 #[.iface 123 (.pointer (some a)), .iface 123 (.pointer (some a))] w fun e w' => e = .returned (.bool true) ∧ w' = w := by
  obtain ⟨i, hi, hcmp⟩ := Option.map_eq_some_iff.1 Tryf.isComp
  obtain ⟨j, hj, hjs⟩ := Option.map_eq_some_iff.1 Tryf.isSize
  have h8 := @run_callFunc_extern Tryf.prog 48 _ Extern.ReflectliteType.typeOf Tryf.func48 (by kernel_rfl) (by kernel_rfl) (by kernel_rfl) (by kernel_rfl)
  have h32 := @run_callFunc_extern Tryf.prog 97 _ (Extern.ReflectliteType.method fun t => do Go.Extern.Rtype.noPackHeld "Comparable" t; pure (.bool (← typeInfo t).comparable)) Tryf.func97 (by kernel_rfl) (by kernel_rfl) (by kernel_rfl) (by kernel_rfl)
  have tT := Tryf.isTypeOf
  have cT := Tryf.isComparable
  have mR := Tryf.isMethodComparable
  have heq := run_eql_iface_ptr_same (P := Tryf.prog) w a Tryf.underlying32 Tryf.underlying123 hi hcmp hj
  go_enter Tryf.func40, Tryf.ntmps40
  go_wp2
  refine wp_loop_rounds 1 ?_
  rw [rounds_succ]
  go_wp2
  go_ret
  exact ⟨rfl, rfl⟩
end Go.Proofs.Qxb6612850aFmt
