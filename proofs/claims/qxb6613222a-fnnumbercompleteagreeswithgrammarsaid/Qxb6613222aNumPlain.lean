/- PLAIN: the automaton over the states 12 .. 19 that 'zzNumState' runs, as a relation that linear arithmetic decides. No Go in sight. -/
namespace Go.Proofs.Qxb6613222a.Num

/-- One step of the automaton: state 's' reads the byte 'c' and comes to 's''. State 0: nothing read yet. -/
def Step (s c s' : Int) : Prop :=
  (s = 0 ∧ c = 45 ∧ s' = 12) ∨ (s = 0 ∧ c = 48 ∧ s' = 13) ∨ (s = 0 ∧ 49 ≤ c ∧ c ≤ 57 ∧ s' = 14) ∨
  (s = 12 ∧ c = 48 ∧ s' = 13) ∨ (s = 12 ∧ 49 ≤ c ∧ c ≤ 57 ∧ s' = 14) ∨
  (s = 13 ∧ c = 46 ∧ s' = 15) ∨ (s = 13 ∧ (c = 101 ∨ c = 69) ∧ s' = 17) ∨
  (s = 14 ∧ 48 ≤ c ∧ c ≤ 57 ∧ s' = 14) ∨ (s = 14 ∧ c = 46 ∧ s' = 15) ∨ (s = 14 ∧ (c = 101 ∨ c = 69) ∧ s' = 17) ∨
  (s = 15 ∧ 48 ≤ c ∧ c ≤ 57 ∧ s' = 16) ∨
  (s = 16 ∧ 48 ≤ c ∧ c ≤ 57 ∧ s' = 16) ∨ (s = 16 ∧ (c = 101 ∨ c = 69) ∧ s' = 17) ∨
  (s = 17 ∧ (c = 43 ∨ c = 45) ∧ s' = 18) ∨ (s = 17 ∧ 48 ≤ c ∧ c ≤ 57 ∧ s' = 19) ∨
  (s = 18 ∧ 48 ≤ c ∧ c ≤ 57 ∧ s' = 19) ∨
  (s = 19 ∧ 48 ≤ c ∧ c ≤ 57 ∧ s' = 19)

/-- From the states of which 'P' speaks the bytes 'l' lead to the state 's'. -/
def RunFrom (P : Int → Prop) (l : List UInt8) : Int → Prop :=
  l.foldl (fun (Q : Int → Prop) c => fun s' => ∃ s, Q s ∧ Step s (c.toNat : Int) s') P

/-- The bytes 'l' lead from the start to the state 's'. -/
def Run (l : List UInt8) (s : Int) : Prop := RunFrom (fun s => s = 0) l s

theorem run_nil : Run [] 0 := rfl

theorem run_snoc {l : List UInt8} {c : UInt8} {s s' : Int} (h : Run l s) (hs : Step s (c.toNat : Int) s') : Run (l ++ [c]) s' := by
  unfold Run RunFrom at *
  rw [List.foldl_append]
  exact ⟨s, h, hs⟩

theorem run_last {l : List UInt8} {c : UInt8} {s' : Int} (h : Run (l ++ [c]) s') : ∃ s, Run l s ∧ Step s (c.toNat : Int) s' := by
  unfold Run RunFrom at *
  rw [List.foldl_append] at h
  exact h

/-- The states that are complete. -/
def compB (s : Int) : Bool := decide (s = 13) || (decide (s = 14) || (decide (s = 16) || decide (s = 19)))

theorem compB_iff (s : Int) : compB s = true ↔ (s = 13 ∨ s = 14 ∨ s = 16 ∨ s = 19) := by
  unfold compB; simp

/-- A byte is a digit. -/
def digB (c : Int) : Bool := decide (48 ≤ c) && decide (c ≤ 57)

theorem comp_last {l : List UInt8} {c : UInt8} {s : Int} (h : Run (l ++ [c]) s) : compB s = digB (c.toNat : Int) := by
  obtain ⟨t, _, hs⟩ := run_last h
  rw [Bool.eq_iff_iff, compB_iff]
  unfold digB
  unfold Step at hs
  simp
  omega

theorem take_snoc (s : ByteArray) (k : Nat) (h : k < s.size) : s.data.toList.take (k + 1) = s.data.toList.take k ++ [s[k]] := by
  rw [List.take_succ_eq_append_getElem (by simpa using h)]; rfl

theorem take_all (s : ByteArray) : s.data.toList.take s.size = s.data.toList := by
  rw [List.take_of_length_le]; simp

theorem comp_of_run (s : ByteArray) (st : Int) (hpos : 0 < s.size) (h : Run s.data.toList st) : compB st = digB ((s[s.size - 1]'(by omega)).toNat : Int) := by
  have e := take_snoc s (s.size - 1) (by omega)
  rw [show s.size - 1 + 1 = s.size by omega, take_all] at e
  rw [e] at h
  exact comp_last h

end Go.Proofs.Qxb6613222a.Num
