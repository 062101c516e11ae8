/- The built-in copy into a row of bytes, as one step of a region that draws its order: the world behind it written out. -/
import Derived.Test.Qxb6612850aFmtBase
import Derived.Deep.RegionLaw
namespace Go.Proofs.Qxb6612850aFmt
open Go.RowKit Go.Deep
set_option linter.unusedVariables false

theorem splice_nil (cur : List Value) (off : Nat) : splice cur off [] = cur := by simp [splice]

theorem info5size : (Tryf.prog.info? 5).map (·.size) = some 1 := by kernel_rfl

theorem step_copy_exact {ops : Array Oper} {o : Oper} {a : Act} {w : World} {K : Act → World → Prop} {Q : Exit → Act → World → Prop} {E : Prop} (hgd : o.guard = none) (d s : Operand)
    (ho : o.op = .call { callee := .builtin .copy, args := #[d, s], argTypes := #[22, 22] })
    (dp sp : Option Addr) (dLen dCap sLen sCap : Nat) (hd : a.eval d = .slice dp dLen dCap) (hs : a.eval s = .slice sp sLen sCap)
    (g off : Nat) (cur cs : List Value) (hg : Row w g cur) (hn : cs.length = Nat.min sLen dLen)
    (hpos : 0 < cs.length → dp = some ⟨g, off, none⟩ ∧ ∃ ad, sp = some ad ∧ ∀ j v, cs[j]? = some v → w.cell? (ad.add j) = some v)
    (hfit : off + cs.length ≤ cur.length) (h1 : ∀ v ∈ cs, v.oneCell' = true)
    (h : K (a.put o.dst (.int .i64 (cs.length : Int))) (w.setRow g (splice cur off cs).toArray)) :
    if Region.wanted o (yielded ops a.tmps) = true then Oper.wp Tryf.prog o a w K Q else E := by
  have hw : Region.wanted o (yielded ops a.tmps) = true := by simp [Region.wanted, hgd]
  rw [if_pos hw]
  by_cases h0 : cs.length = 0
  · obtain rfl : cs = [] := List.eq_nil_of_length_eq_zero h0
    have hrun := run_copy_none (P := Tryf.prog) w 22 22 o.type 5 dp sp dLen dCap sLen sCap Tryf.underlying22 info5size (by simpa using hn.symm)
    rw [splice_nil, setRow_self w g cur.toArray 5 (0, 0) hg] at h
    unfold Oper.wp
    simp [execOp, ho, resolve, invoke, builtin, hd, hs, hrun, Result.andThen]
    exact h
  · obtain ⟨rfl, ad, rfl, hsrc⟩ := hpos (by omega)
    have hrun := run_copy_row (P := Tryf.prog) w 22 22 o.type 5 g off dLen dCap ad sLen sCap cur.toArray 5 cs Tryf.underlying22 info5size hg hn hsrc hfit h1
    unfold Oper.wp
    simp [execOp, ho, resolve, invoke, builtin, hd, hs, hrun, Result.andThen]
    unfold splice at h
    exact h

theorem step_copy_n {ops : Array Oper} {o : Oper} {a : Act} {w : World} {K : Act → World → Prop} {Q : Exit → Act → World → Prop} {E : Prop} (hgd : o.guard = none) (d s : Operand)
    (ho : o.op = .call { callee := .builtin .copy, args := #[d, s], argTypes := #[22, 22] })
    (dp sp : Option Addr) (dLen dCap sLen sCap : Nat) (hd : a.eval d = .slice dp dLen dCap) (hs : a.eval s = .slice sp sLen sCap)
    (g off r : Nat) (cur cs : List Value) (hg : Row w g cur) (hr : cs.length = r) (hn : r = Nat.min sLen dLen)
    (hpos : 0 < r → dp = some ⟨g, off, none⟩ ∧ ∃ ad, sp = some ad ∧ ∀ j v, cs[j]? = some v → w.cell? (ad.add j) = some v)
    (hfit : off + r ≤ cur.length) (h1 : ∀ v ∈ cs, v.oneCell' = true)
    (h : K (a.put o.dst (.int .i64 (r : Int))) (w.setRow g (splice cur off cs).toArray)) :
    if Region.wanted o (yielded ops a.tmps) = true then Oper.wp Tryf.prog o a w K Q else E := by
  subst hr
  exact step_copy_exact hgd d s ho dp sp dLen dCap sLen sCap hd hs g off cur cs hg hn hpos hfit h1 h

theorem Row.splice {w : World} {g : Nat} {cur : List Value} (h : Row w g cur) (off : Nat) (cs : List Value) : Row (w.setRow g (splice cur off cs).toArray) g (splice cur off cs) := setRow_heap _ _ _ _ _ _ h
theorem Row.spliced {w : World} {g k : Nat} {cur l : List Value} (h : Row w k cur) (hne : k ≠ g) : Row (w.setRow g l.toArray) k cur := by
  unfold Row; rw [setRow_other _ _ _ _ hne]; exact h
theorem Byts.splice {cur cs : List Value} (h : Byts cur) (k : Byts cs) (off : Nat) : Byts (splice cur off cs) := (h.take off).append (k.append (h.drop _))
theorem splice_grow (cur cs : List Value) (off : Nat) (hfit : off + cs.length ≤ cur.length) : (splice cur off cs).take (off + cs.length) = cur.take off ++ cs := by
  unfold splice
  rw [← List.append_assoc, List.take_append_of_le_length (by simp; omega), List.take_of_length_le (by simp; omega)]
end Go.Proofs.Qxb6612850aFmt
