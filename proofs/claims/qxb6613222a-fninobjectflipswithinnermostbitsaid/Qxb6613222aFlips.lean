import Derived.Test.Qxb6613222aCopy
import Derived.WalkSpells
namespace Go.Proofs.Qxb6613222a
open Go.RowKit Go.Deep Go.Proofs.Qxb6613222a.Bit
set_option linter.unusedVariables false
theorem Try.info29f : (Try.prog.info? 29).map (fun i => (i.zero, i.size, i.bytes)) = some (some (.int .u64 0), 1, 8) := by kernel_rfl

theorem bytes15 (a : Option Addr) (n c : Nat) (d k : Int) (w : World) (hn : n ≤ 1048576) : Calls Try.prog 15 #[.slice a n c, .int .i64 d, .int .i64 k] w fun e w' => e = .returned (.bool true) ∧ w = w' := by
  go_enter Try.func15, Try.ntmps15
  go_wp2
  go_ret
  exact ⟨rfl, rfl⟩

set_option maxHeartbeats 1000000 in
theorem flips_walk (b off n c : Nat) (f : Nat → Nat) (d k : Nat) (w : World) (hb : b < w.heap.size) (hn : 0 < n) (hn2 : n ≤ 65536) (hd : d < 64 * n) (hk : k < 64 * n) (hf : ∀ j, f j < 18446744073709551616)
    (hcell : ∀ j, j < n → w.cell? ⟨b, off + j, none⟩ = some (.int .u64 (f j : Int))) :
    Calls Try.prog 6 #[.slice (some ⟨b, off, none⟩) n c, .int .i64 ((d : Int) + 1), .int .i64 (k : Int)] w fun e w' => e = .returned (.bool true) ∧ Below w.heap.size w w' := by
  have hmk := run_make_row' (P := Try.prog) 28 29 (.int .u64 0) 8 Try.underlying28 Try.info29f rfl .i64 .i64 n (by omega) (by omega)
  have hnil := fun w => run_neq_slice_nil_any (P := Try.prog) w 28 29 (some ⟨b, off, none⟩) n c 0 0 Try.underlying28
  have d1 : decide ((65536 : Int) < (n : Int)) = false := decide_eq_false (by omega)
  have d2 : decide ((d : Int) + 1 < 1) = false := decide_eq_false (by omega)
  have d3 : decide (64 * (n : Int) < (d : Int) + 1) = false := decide_eq_false (by omega)
  have d4 : decide ((k : Int) < 0) = false := decide_eq_false (by omega)
  have d5 : decide (64 * (n : Int) ≤ (k : Int)) = false := decide_eq_false (by omega)
  go_enter Try.func6, Try.ntmps6
  go_wp2_with (first
    | (go_at_call 15; refine (bytes15 _ _ _ _ _ _ (by omega)).mono ?_; rintro e w' ⟨rfl, rfl⟩)
    | (refine wpList_copy_words rfl (.tmp 45) (.tmp 46) rfl w.heap.size n n b off c rfl rfl (fun _ => 0) f ?_ ?_ ?_; rotate_right; intro w1 hW1 hg1 hs1))
  case refine_1 => exact Words.made _ _ _
  case refine_2 => intro j hj; rw [World.cell?_alloc_past _ _ _ hb]; exact hcell j hj
  have hB1 : Below w.heap.size w w1 := ((Below.refl _ _).alloc (Nat.le_refl _) _).grown hg1 (by simp) (fun k hk => by injection hk with h; omega)
  rw [World.size_alloc] at hs1
  clear hg1 hcell hnil hb
  have hdn : d / 64 < n := by omega
  have HA : Hid (∀ b' w', w'.cell? ⟨b', 0, none⟩ = some (.slice (some ⟨w.heap.size, 0, none⟩) n n) → w'.cell? ⟨b', 1, none⟩ = some (.int .i64 ((d : Int) + 1)) → w'.cell? ⟨w.heap.size, d / 64, none⟩ = some (.int .u64 (f (d / 64) : Int)) →
      Calls Try.prog 13 #[.pointer (some ⟨b', 0, none⟩)] w' fun e w'' => e = .returned (.bool ((f (d / 64)).testBit (d % 64))) ∧ w'' = w') :=
    fun b' w' g1 g2 g3 => inObject_any b' w.heap.size _ _ d (f (d / 64)) w' g1 g2 hdn (by omega) g3 (hf _)
  have hc1 := hW1.1 (d / 64) hdn
  refine (newNesting_any _ _ _ _ _).mono ?_
  rintro e w' ⟨rfl, rfl⟩
  have HW1 : Hid (Words w1 w.heap.size n f) := hW1
  clear hW1
  generalize hA : (f (d / 64)).testBit (d % 64) = A at HA
  have HEA : Hid ((f (d / 64)).testBit (d % 64) = A) := hA
  clear hA
  go_wp2_with (first
    | (go_at_call 13; refine (HA.out _ _ ?_ ?_ ?_).mono ?_; rotate_right; rintro e w' ⟨rfl, rfl⟩)
    | (refine wpList_copy_words rfl (.tmp 56) (.tmp 57) rfl (w.heap.size + 1 + 1) n n w.heap.size 0 n rfl rfl (fun _ => 0) f ?_ ?_ ?_; rotate_right; intro w2 hW2 hg2 hs2; have hc2 := hW2.1 (d / 64) hdn; have hf2 := hW2.2 (d / 64) hdn; simp only [World.size_alloc, hs1] at hs2; clear hc1))
  case refine_1 =>
    have h := Words.made (w1.alloc (.cells #[.slice (some ⟨w.heap.size, 0, none⟩) n n, .int .i64 ((d : Int) + 1)] 39)) n 29
    rw [World.size_alloc, hs1] at h
    exact h
  case refine_2 =>
    intro j hj
    rw [Nat.zero_add]
    exact ((HW1.out.alloc (by omega) _).alloc (by rw [World.size_alloc]; omega) _).1 j hj
  case refine_1 => rw [← hs1]; simp
  case refine_2 => rw [← hs1]; simp
  case refine_3 => exact (HW1.out.alloc (by omega) _).1 _ hdn
  have hB2 : Below w.heap.size w w2 := ((hB1.alloc (by omega) _).alloc (by rw [World.size_alloc]; omega) _).grown hg2 (by simp only [World.size_alloc]; omega) (fun k hk => by injection hk with h; omega)
  have hV2 : Words w2 w.heap.size n f := ((HW1.out.alloc (by omega) _).alloc (by rw [World.size_alloc]; omega) _).grown hg2 (by simp only [World.size_alloc]; omega) (by omega)
  have hX2 := hV2.other (p := ⟨w.heap.size + 1 + 1, d / 64, none⟩) (by show _ ≠ w.heap.size + 1 + 1; omega) (.int .u64 (bits .xor .u64 (f (d / 64) : Int) (IntKind.u64.wrap (2 ^ (d % 64)))))
  have hY2 : (w2.setCell ⟨w.heap.size + 1 + 1, d / 64, none⟩ (.int .u64 (bits .xor .u64 (f (d / 64) : Int) (IntKind.u64.wrap (2 ^ (d % 64)))))).cell? ⟨w.heap.size + 1 + 1, d / 64, none⟩ = some (.int .u64 ((f (d / 64) ^^^ 2 ^ (d % 64) : Nat) : Int)) := by
    rw [World.cell?_setCell_same _ _ _ hc2, xor_word _ _ (hf _) (Nat.mod_lt _ (by omega))]
  have hZ2 := hB2.setCell (p := ⟨w.heap.size + 1 + 1, d / 64, none⟩) (by show w.heap.size ≤ w.heap.size + 1 + 1; omega) (.int .u64 (bits .xor .u64 (f (d / 64) : Int) (IntKind.u64.wrap (2 ^ (d % 64)))))
  have hs3 : (w2.setCell ⟨w.heap.size + 1 + 1, d / 64, none⟩ (.int .u64 (bits .xor .u64 (f (d / 64) : Int) (IntKind.u64.wrap (2 ^ (d % 64)))))).heap.size = w.heap.size + 1 + 1 + 1 := by rw [World.size_setCell, hs2]
  generalize w2.setCell ⟨w.heap.size + 1 + 1, d / 64, none⟩ (.int .u64 (bits .xor .u64 (f (d / 64) : Int) (IntKind.u64.wrap (2 ^ (d % 64))))) = w3 at hX2 hY2 hZ2 hs3 ⊢
  clear hc2 hf2 hs2 hg2 hW2 hB2 hV2 HW1 hB1 hs1
  clear w2
  clear w1
  clear HA
  have HA : Hid (∀ b' w', w'.cell? ⟨b', 0, none⟩ = some (.slice (some ⟨w.heap.size + 1 + 1, 0, none⟩) n n) → w'.cell? ⟨b', 1, none⟩ = some (.int .i64 ((d : Int) + 1)) → w'.cell? ⟨w.heap.size + 1 + 1, d / 64, none⟩ = some (.int .u64 ((f (d / 64) ^^^ 2 ^ (d % 64) : Nat) : Int)) →
      Calls Try.prog 13 #[.pointer (some ⟨b', 0, none⟩)] w' fun e w'' => e = .returned (.bool (!A)) ∧ w'' = w') :=
    fun b' w' g1 g2 g3 => by
      have h := inObject_any b' (w.heap.size + 1 + 1) _ _ d (f (d / 64) ^^^ 2 ^ (d % 64)) w' g1 g2 hdn (by omega) g3 (xor_lt _ _ (hf _) (Nat.mod_lt _ (by omega)))
      rw [xor_self_bit, HEA.out] at h
      exact h
  have hkn : k / 64 < n := by omega
  refine (newNesting_any _ _ _ _ _).mono ?_
  rintro e w' ⟨rfl, rfl⟩
  have HX2 : Hid (Words w3 w.heap.size n f) := hX2
  have HY2 : Hid (w3.cell? ⟨w.heap.size + 1 + 1, d / 64, none⟩ = some (.int .u64 ((f (d / 64) ^^^ 2 ^ (d % 64) : Nat) : Int))) := hY2
  clear hX2 hY2
  go_wp2_with (first
    | (go_at_call 13; refine (HA.out _ _ ?_ ?_ ?_).mono ?_; rotate_right; rintro e w' ⟨rfl, rfl⟩)
    | (refine wpList_copy_words rfl (.tmp 82) (.tmp 83) rfl (w.heap.size + 1 + 1 + 1 + 1) n n w.heap.size 0 n rfl rfl (fun _ => 0) f ?_ ?_ ?_; rotate_right; intro w4 hW4 hg4 hs4; have hc4 := hW4.1 (k / 64) hkn; have hf4 := hW4.2 (k / 64) hkn; simp only [World.size_alloc, hs3] at hs4))
  case refine_1 =>
    have h := Words.made (w3.alloc (.cells #[.slice (some ⟨w.heap.size + 1 + 1, 0, none⟩) n n, .int .i64 ((d : Int) + 1)] 39)) n 29
    rw [World.size_alloc, hs3] at h
    exact h
  case refine_2 =>
    intro j hj
    rw [Nat.zero_add]
    exact ((HX2.out.alloc (by omega) _).alloc (by rw [World.size_alloc]; omega) _).1 j hj
  case refine_1 => rw [← hs3]; simp
  case refine_2 => rw [← hs3]; simp
  case refine_3 => rw [World.cell?_alloc_past _ _ _ (by omega)]; exact HY2.out
  have hB4 : Below w.heap.size w w4 := ((hZ2.alloc (by omega) _).alloc (by rw [World.size_alloc]; omega) _).grown hg4 (by simp only [World.size_alloc]; omega) (fun k hk => by injection hk with h; omega)
  have hB5 := hB4.setCell (p := ⟨w.heap.size + 1 + 1 + 1 + 1, k / 64, none⟩) (by show w.heap.size ≤ w.heap.size + 1 + 1 + 1 + 1; omega) (.int .u64 (bits .xor .u64 (f (k / 64) : Int) (IntKind.u64.wrap (2 ^ (k % 64)))))
  have hs5 : (w4.setCell ⟨w.heap.size + 1 + 1 + 1 + 1, k / 64, none⟩ (.int .u64 (bits .xor .u64 (f (k / 64) : Int) (IntKind.u64.wrap (2 ^ (k % 64)))))).heap.size = w.heap.size + 1 + 1 + 1 + 1 + 1 := by rw [World.size_setCell, hs4]
  obtain ⟨x, C, hx, hlt, hC, hkd⟩ : ∃ (x : Nat) (C : Bool), (w4.setCell ⟨w.heap.size + 1 + 1 + 1 + 1, k / 64, none⟩ (.int .u64 (bits .xor .u64 (f (k / 64) : Int) (IntKind.u64.wrap (2 ^ (k % 64)))))).cell? ⟨w.heap.size + 1 + 1 + 1 + 1, d / 64, none⟩ = some (.int .u64 (x : Int)) ∧
      x < 18446744073709551616 ∧ x.testBit (d % 64) = C ∧ ((k = d ∧ C = !A) ∨ (k ≠ d ∧ C = A)) := by
    by_cases hq : d / 64 = k / 64
    · refine ⟨f (d / 64) ^^^ 2 ^ (k % 64), _, ?_, xor_lt _ _ (hf _) (Nat.mod_lt _ (by omega)), rfl, ?_⟩
      · rw [hq, World.cell?_setCell_same _ _ _ hc4, xor_word _ _ (hf _) (Nat.mod_lt _ (by omega))]
      · by_cases hkd : k = d
        · refine .inl ⟨hkd, ?_⟩
          rw [hkd, xor_self_bit, HEA.out]
        · refine .inr ⟨hkd, ?_⟩
          rw [xor_other_bit _ _ _ (by omega), HEA.out]
    · refine ⟨f (d / 64), A, ?_, hf _, HEA.out, .inr ⟨fun e => hq (by rw [e]), rfl⟩⟩
      rw [World.cell?_setCell_other _ _ _ _ (fun e => hq (by injection e with _ h2; exact h2.symm)), hW4.1 _ hdn]
  generalize w4.setCell ⟨w.heap.size + 1 + 1 + 1 + 1, k / 64, none⟩ (.int .u64 (bits .xor .u64 (f (k / 64) : Int) (IntKind.u64.wrap (2 ^ (k % 64))))) = w5 at hB5 hs5 hx ⊢
  clear hc4 hf4 hs4 hg4 hW4 hB4 HX2 HY2 hZ2 hs3 HA HEA
  clear w4
  clear w3
  have HA : Hid (∀ b' w', w'.cell? ⟨b', 0, none⟩ = some (.slice (some ⟨w.heap.size + 1 + 1 + 1 + 1, 0, none⟩) n n) → w'.cell? ⟨b', 1, none⟩ = some (.int .i64 ((d : Int) + 1)) → w'.cell? ⟨w.heap.size + 1 + 1 + 1 + 1, d / 64, none⟩ = some (.int .u64 (x : Int)) →
      Calls Try.prog 13 #[.pointer (some ⟨b', 0, none⟩)] w' fun e w'' => e = .returned (.bool C) ∧ w'' = w') :=
    fun b' w' g1 g2 g3 => by
      have h := inObject_any b' (w.heap.size + 1 + 1 + 1 + 1) _ _ d x w' g1 g2 hdn (by omega) g3 hlt
      rw [hC] at h
      exact h
  have HX : Hid (w5.cell? ⟨w.heap.size + 1 + 1 + 1 + 1, d / 64, none⟩ = some (.int .u64 (x : Int))) := hx
  clear hx hC
  refine (newNesting_any _ _ _ _ _).mono ?_
  rintro e w' ⟨rfl, rfl⟩
  rcases hkd with ⟨hkd, rfl⟩ | ⟨hkd, rfl⟩
  · have hkb : ((k : Int) == (d : Int)) = true := by simp; omega
    clear hkd
    go_wp2_with (go_at_call 13; refine (HA.out _ _ ?_ ?_ ?_).mono ?_; rotate_right; rintro e w' ⟨rfl, rfl⟩)
    case refine_1 => rw [← hs5]; simp
    case refine_2 => rw [← hs5]; simp
    case refine_3 => rw [World.cell?_alloc_past _ _ _ (by omega)]; exact HX.out
    go_ret
    refine ⟨by simp, hB5.alloc (by omega) _⟩
  · have hkb : ((k : Int) == (d : Int)) = false := by simp; omega
    clear hkd
    go_wp2_with (go_at_call 13; refine (HA.out _ _ ?_ ?_ ?_).mono ?_; rotate_right; rintro e w' ⟨rfl, rfl⟩)
    case refine_1 => rw [← hs5]; simp
    case refine_2 => rw [← hs5]; simp
    case refine_3 => rw [World.cell?_alloc_past _ _ _ (by omega)]; exact HX.out
    go_ret
    refine ⟨by simp, hB5.alloc (by omega) _⟩
end Go.Proofs.Qxb6613222a
