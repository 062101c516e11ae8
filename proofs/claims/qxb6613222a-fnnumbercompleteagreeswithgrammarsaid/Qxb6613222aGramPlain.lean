/- PLAIN: the states of a run as a function of the place. No Go in sight. -/
import Derived.Test.Qxb6613222aNumPlain
namespace Go.Proofs.Qxb6613222a.Num

/-- The byte at place i, -1 behind the end. -/
def ch (s : ByteArray) (i : Nat) : Int := if h : i < s.size then ((s[i]).toNat : Int) else -1

theorem ch_of (s : ByteArray) (i : Nat) (h : i < s.size) : ch s i = ((s[i]).toNat : Int) := by simp [ch, h]
theorem ch_end (s : ByteArray) (i : Nat) (h : ¬ i < s.size) : ch s i = -1 := by simp [ch, h]

/-- 'tr' tells the state ahead of each place of the text. -/
def Trace (s : ByteArray) (tr : Nat → Int) : Prop := tr 0 = 0 ∧ ∀ j, j < s.size → Step (tr j) (ch s j) (tr (j + 1))

theorem trace_take (s : ByteArray) : ∀ k, k ≤ s.size → ∀ st, Run (s.data.toList.take k) st → ∃ tr : Nat → Int, tr 0 = 0 ∧ tr k = st ∧ ∀ j, j < k → Step (tr j) (ch s j) (tr (j + 1)) := by
  intro k
  induction k with
  | zero =>
    intro _ st h
    have h0 : st = 0 := by simpa [Run, RunFrom] using h
    exact ⟨fun _ => 0, rfl, h0.symm, fun j hj => absurd hj (Nat.not_lt_zero _)⟩
  | succ k ih =>
    intro hk st h
    rw [take_snoc s k (by omega)] at h
    obtain ⟨q, hq, hs⟩ := run_last h
    obtain ⟨tr, t0, t1, t2⟩ := ih (by omega) q hq
    refine ⟨fun j => if j ≤ k then tr j else st, by simpa using t0, by simp only []; rw [if_neg (by omega)], fun j hj => ?_⟩
    by_cases e : j = k
    · subst e
      simp only [Nat.le_refl, if_true]
      rw [if_neg (by omega), t1, ch_of s j (by omega)]
      exact hs
    · simp only []
      rw [if_pos (by omega), if_pos (by omega)]
      exact t2 j (by omega)

theorem trace_of_run (s : ByteArray) (st : Int) (h : Run s.data.toList st) : ∃ tr : Nat → Int, tr s.size = st ∧ Trace s tr := by
  rw [← take_all s] at h
  obtain ⟨tr, t0, t1, t2⟩ := trace_take s s.size (Nat.le_refl _) st h
  exact ⟨tr, t1, t0, t2⟩

/-- No digit stands at place i. -/
def NoDig (s : ByteArray) (i : Nat) : Prop := ¬ (48 ≤ ch s i ∧ ch s i ≤ 57)

/-- What is known behind the integer part. -/
def AtInt (s : ByteArray) (tr : Nat → Int) (i : Nat) : Prop := i ≤ s.size ∧ (tr i = 13 ∨ (tr i = 14 ∧ NoDig s i))
/-- What is known behind the fraction. -/
def AtFrac (s : ByteArray) (tr : Nat → Int) (i : Nat) : Prop := i ≤ s.size ∧ ((tr i = 13 ∧ ch s i ≠ 46) ∨ (tr i = 14 ∧ NoDig s i ∧ ch s i ≠ 46) ∨ (tr i = 16 ∧ NoDig s i))
/-- What is known at the end. -/
def AtEnd (s : ByteArray) (tr : Nat → Int) (i : Nat) : Prop := i = s.size ∧ compB (tr s.size) = true
/-- What is known behind the sign. -/
def AtSign (s : ByteArray) (tr : Nat → Int) (i : Nat) : Prop := i ≤ 1 ∧ i ≤ s.size ∧ ((i = 0 ∧ tr i = 0 ∧ ch s 0 ≠ 45) ∨ tr i = 12)

theorem nodig_of (s : ByteArray) (i : Nat) (h : i < s.size) (hd : digB ((s[i]).toNat : Int) = false) : NoDig s i := by
  unfold NoDig
  rw [ch_of s i h]
  unfold digB at hd
  intro g
  simp [g.1, g.2] at hd
theorem nodig_end (s : ByteArray) (i : Nat) (h : ¬ i < s.size) : NoDig s i := by
  unfold NoDig
  rw [ch_end s i h]
  omega
theorem dig_of (s : ByteArray) (i : Nat) (h : i < s.size) (hd : digB ((s[i]).toNat : Int) = true) : 48 ≤ ch s i ∧ ch s i ≤ 57 := by
  rw [ch_of s i h]
  unfold digB at hd
  simpa using hd

def eB (c : Int) : Bool := decide (c = 101) || decide (c = 69)
def sgB (c : Int) : Bool := decide (c = 43) || decide (c = 45)
theorem eB_true {c : Int} (h : eB c = true) : c = 101 ∨ c = 69 := by simpa [eB] using h
theorem eB_false {c : Int} (h : eB c = false) : c ≠ 101 ∧ c ≠ 69 := by simpa [eB] using h
theorem sgB_true {c : Int} (h : sgB c = true) : c = 43 ∨ c = 45 := by simpa [sgB] using h
theorem sgB_false {c : Int} (h : sgB c = false) : c ≠ 43 ∧ c ≠ 45 := by simpa [sgB] using h

variable {s : ByteArray} {tr : Nat → Int} {i j : Nat}

theorem sign_no (ht : Trace s tr) (h : ch s 0 ≠ 45) : AtSign s tr 0 := ⟨by omega, by omega, .inl ⟨rfl, ht.1, h⟩⟩
theorem sign_yes (ht : Trace s tr) (hp : 0 < s.size) (h : ch s 0 = 45) : AtSign s tr 1 := by
  have := ht.2 0 hp
  rw [ht.1, h] at this
  simp [Step] at this
  exact ⟨by omega, by omega, .inr this⟩
theorem sign_end (ha : AtSign s tr i) (hp : 0 < s.size) (h : ¬ i < s.size) : compB (tr s.size) = false := by
  have : i = s.size := by have := ha.2.1; omega
  subst this
  rcases ha.2.2 with h | h
  · omega
  · rw [h]; rfl
theorem int_zero (ht : Trace s tr) (ha : AtSign s tr i) (hi : i < s.size) (h : ch s i = 48) : AtInt s tr (i + 1) := by
  have hs := ht.2 i hi
  rcases ha.2.2 with g | g
  · rw [g.2.1, h] at hs
    simp [Step] at hs
    exact ⟨by omega, .inl hs⟩
  · rw [g, h] at hs
    simp [Step] at hs
    exact ⟨by omega, .inl hs⟩
/-- In the loop over the integer part's digits. -/
def InInt (s : ByteArray) (tr : Nat → Int) (i : Nat) : Prop := i ≤ s.size ∧ ((AtSign s tr i ∧ 49 ≤ ch s i ∧ ch s i ≤ 57) ∨ tr i = 14)
theorem int_start (ha : AtSign s tr i) (h1 : 49 ≤ ch s i) (h2 : ch s i ≤ 57) : InInt s tr i := ⟨ha.2.1, .inl ⟨ha, h1, h2⟩⟩
theorem int_step (ht : Trace s tr) (ha : InInt s tr i) (hi : i < s.size) (h1 : 48 ≤ ch s i) (h2 : ch s i ≤ 57) : InInt s tr (i + 1) := by
  have hs := ht.2 i hi
  refine ⟨by omega, .inr ?_⟩
  rcases ha.2 with ⟨g, g1, g2⟩ | g
  · rcases g.2.2 with g | g
    · rw [g.2.1] at hs
      simp [Step] at hs
      omega
    · rw [g] at hs
      simp [Step] at hs
      omega
  · rw [g] at hs
    simp [Step] at hs
    omega
theorem int_stop (ha : InInt s tr i) (h : NoDig s i) : AtInt s tr i := by
  unfold NoDig at h
  rcases ha.2 with ⟨g, g1, g2⟩ | g
  · omega
  · exact ⟨ha.1, .inr ⟨g, h⟩⟩
theorem int_bad (ht : Trace s tr) (ha : AtSign s tr i) (hi : i < s.size) (h0 : ch s i ≠ 48) (h : ¬ (49 ≤ ch s i ∧ ch s i ≤ 57)) : False := by
  have hs := ht.2 i hi
  rcases ha.2.2 with g | g
  · have e : ch s i = ch s 0 := by rw [g.1]
    rw [g.2.1] at hs
    simp [Step] at hs
    omega
  · rw [g] at hs
    simp [Step] at hs
    omega
theorem frac_no (ha : AtInt s tr i) (h : ch s i ≠ 46) : AtFrac s tr i := by
  rcases ha.2 with g | g
  · exact ⟨ha.1, .inl ⟨g, h⟩⟩
  · exact ⟨ha.1, .inr (.inl ⟨g.1, g.2, h⟩)⟩
/-- In the loop over the fraction's digits, which begin at j. -/
def InFrac (s : ByteArray) (tr : Nat → Int) (j i : Nat) : Prop := i ≤ s.size ∧ ((i = j ∧ tr i = 15) ∨ (j < i ∧ tr i = 16))
theorem frac_start (ht : Trace s tr) (ha : AtInt s tr i) (hi : i < s.size) (h : ch s i = 46) : InFrac s tr (i + 1) (i + 1) := by
  have hs := ht.2 i hi
  refine ⟨by omega, .inl ⟨rfl, ?_⟩⟩
  rcases ha.2 with g | g
  · rw [g, h] at hs
    simp [Step] at hs
    exact hs
  · rw [g.1, h] at hs
    simp [Step] at hs
    exact hs
theorem frac_step (ht : Trace s tr) (ha : InFrac s tr j i) (hi : i < s.size) (h1 : 48 ≤ ch s i) (h2 : ch s i ≤ 57) : InFrac s tr j (i + 1) := by
  have hs := ht.2 i hi
  rcases ha.2 with g | g
  · rw [g.2] at hs
    simp [Step] at hs
    exact ⟨by omega, .inr ⟨by omega, by omega⟩⟩
  · rw [g.2] at hs
    simp [Step] at hs
    exact ⟨by omega, .inr ⟨by omega, by omega⟩⟩
theorem frac_stop (ha : InFrac s tr j i) (h : NoDig s i) (hj : i ≠ j) : AtFrac s tr i := by
  rcases ha.2 with g | g
  · omega
  · exact ⟨ha.1, .inr (.inr ⟨g.2, h⟩)⟩
theorem frac_none (ht : Trace s tr) (ha : InFrac s tr j i) (h : NoDig s i) (hj : i = j) : compB (tr s.size) = false := by
  unfold NoDig at h
  rcases ha.2 with g | g
  · by_cases hi : i < s.size
    · have hs := ht.2 i hi
      rw [g.2] at hs
      simp [Step] at hs
      omega
    · have : i = s.size := by have := ha.1; omega
      rw [← this, g.2]; rfl
  · omega
theorem exp_no (ht : Trace s tr) (ha : AtFrac s tr i) (h1 : ch s i ≠ 101) (h2 : ch s i ≠ 69) : AtEnd s tr i := by
  by_cases hi : i < s.size
  · exfalso
    have hs := ht.2 i hi
    rcases ha.2 with g | g | g
    · rw [g.1] at hs
      simp [Step] at hs
      omega
    · have := g.2.1
      unfold NoDig at this
      rw [g.1] at hs
      simp [Step] at hs
      omega
    · have := g.2
      unfold NoDig at this
      rw [g.1] at hs
      simp [Step] at hs
      omega
  · have : i = s.size := by have := ha.1; omega
    subst this
    refine ⟨rfl, ?_⟩
    rw [compB_iff]
    rcases ha.2 with g | g | g <;> omega
/-- Behind the 'e'. -/
theorem exp_e (ht : Trace s tr) (ha : AtFrac s tr i) (hi : i < s.size) (h : ch s i = 101 ∨ ch s i = 69) : tr (i + 1) = 17 := by
  have hs := ht.2 i hi
  have key : (tr i = 13 ∨ tr i = 14 ∨ tr i = 16) := by rcases ha.2 with g | g | g <;> omega
  rcases key with g | g | g
  all_goals
    rw [g] at hs
    simp [Step] at hs
    omega
/-- Behind the exponent's sign, or where there is none. -/
def AtExp (s : ByteArray) (tr : Nat → Int) (j : Nat) : Prop := j ≤ s.size ∧ (tr j = 18 ∨ (tr j = 17 ∧ ch s j ≠ 43 ∧ ch s j ≠ 45))
theorem exp_sign (ht : Trace s tr) (h17 : tr i = 17) (hi : i < s.size) (h : ch s i = 43 ∨ ch s i = 45) : AtExp s tr (i + 1) := by
  have hs := ht.2 i hi
  rw [h17] at hs
  simp [Step] at hs
  exact ⟨by omega, .inl (by omega)⟩
theorem exp_nosign (h17 : tr i = 17) (hi : i ≤ s.size) (h1 : ch s i ≠ 43) (h2 : ch s i ≠ 45) : AtExp s tr i := ⟨hi, .inr ⟨h17, h1, h2⟩⟩
/-- In the loop over the exponent's digits, which begin at j. -/
def InExp (s : ByteArray) (tr : Nat → Int) (j i : Nat) : Prop := i ≤ s.size ∧ ((i = j ∧ AtExp s tr i) ∨ (j < i ∧ tr i = 19))
theorem exp_start (ha : AtExp s tr j) : InExp s tr j j := ⟨ha.1, .inl ⟨rfl, ha⟩⟩
theorem exp_step (ht : Trace s tr) (ha : InExp s tr j i) (hi : i < s.size) (h1 : 48 ≤ ch s i) (h2 : ch s i ≤ 57) : InExp s tr j (i + 1) := by
  have hs := ht.2 i hi
  have key : tr i = 18 ∨ tr i = 17 ∨ tr i = 19 := by
    rcases ha.2 with g | g
    · rcases g.2.2 with g | g <;> omega
    · omega
  have hj : j ≤ i := by rcases ha.2 with g | g <;> omega
  refine ⟨by omega, .inr ⟨by omega, ?_⟩⟩
  rcases key with g | g | g
  all_goals
    rw [g] at hs
    simp [Step] at hs
    omega
theorem exp_stop (ht : Trace s tr) (ha : InExp s tr j i) (h : NoDig s i) (hj : i ≠ j) : AtEnd s tr i := by
  unfold NoDig at h
  rcases ha.2 with g | g
  · omega
  · by_cases hi : i < s.size
    · exfalso
      have hs := ht.2 i hi
      rw [g.2] at hs
      simp [Step] at hs
      omega
    · have : i = s.size := by have := ha.1; omega
      subst this
      refine ⟨rfl, ?_⟩
      rw [g.2]; rfl
theorem exp_none (ht : Trace s tr) (ha : InExp s tr j i) (h : NoDig s i) (hj : i = j) : compB (tr s.size) = false := by
  unfold NoDig at h
  rcases ha.2 with g | g
  · by_cases hi : i < s.size
    · exfalso
      have hs := ht.2 i hi
      rcases g.2.2 with g | g
      · rw [g] at hs
        simp [Step] at hs
        omega
      · rw [g.1] at hs
        simp [Step] at hs
        omega
    · have : i = s.size := by have := ha.1; omega
      rw [← this]
      rcases g.2.2 with g | g
      · rw [g]; rfl
      · rw [g.1]; rfl
  · omega
end Go.Proofs.Qxb6613222a.Num
