import Derived.Test.Qxb6613222aNest
import Derived.WalkSpells
import Derived.Deep.RegionHeld3
namespace Go.Proofs.Qxb6613222a
open Go.RowKit Go.Deep Go.Proofs.Qxb6613222a.Bit
theorem Try.info29 : (Try.prog.info? 29).map (fun i => (i.zero, i.size, i.bytes)) = some (some (.int .u64 0), 1, 8) := by kernel_rfl

theorem bytes12 (a : Option Addr) (n c : Nat) (w : World) (hn : n ≤ 1048576) : Calls Try.prog 12 #[.slice a n c] w fun e w' => e = .returned (.bool true) ∧ w = w' := by
  go_enter Try.func12, Try.ntmps12
  go_wp2
  go_ret
  exact ⟨rfl, rfl⟩

set_option maxHeartbeats 1000000 in
theorem inner_walk (b off n c : Nat) (lv : Nat → Bool) (w : World) (hb : b < w.heap.size) (hn : 0 < n) (hn2 : n ≤ 65536) (hcell : ∀ j, j < n → w.cell? ⟨b, off + j, none⟩ = some (.bool (lv j))) :
    Calls Try.prog 5 #[.slice (some ⟨b, off, none⟩) n c] w fun e w' => e = .returned (.bool true) ∧ Below w.heap.size w w' := by
  have hmk := run_make_row' (P := Try.prog) 28 29 (.int .u64 0) 8 Try.underlying28 Try.info29 rfl .i64 .i64 ((n + 63) / 64) (by omega) (by omega)
  have en : (((n + 63) / 64 : Nat) : Int) = ((n : Int) + 63) / 64 := by omega
  rw [en] at hmk
  clear en
  have h0 : ((n : Int) == 0) = false := by simp; omega
  have d1 : decide ((65536 : Int) < (n : Int)) = false := decide_eq_false (by omega)
  go_enter Try.func5, Try.ntmps5
  go_wp2_with (go_at_call 12; refine (bytes12 _ _ _ _ (by omega)).mono ?_; rintro e w' ⟨rfl, rfl⟩)
  clear hmk
  go_loopw [4] (fun i wr => ∃ k : Nat, k ≤ n ∧ i = .int .i64 k ∧ Words wr w.heap.size ((n + 63) / 64) (fun j => wd lv j k) ∧ Below w.heap.size w wr ∧ wr.heap.size = w.heap.size + 1) (fun i _ => n - (intOf i).toNat)
  case atStart => exact ⟨0, Nat.zero_le _, rfl, Words.made _ _ _, (Below.refl _ _).alloc (Nat.le_refl _) _, by simp⟩
  case round =>
    obtain ⟨k, hk, rfl, hW, hB, hsz⟩ := hrel
    by_cases hlt : k < n
    · have hc := (hB.cell (p := ⟨b, off + k, none⟩) hb).trans (hcell k hlt)
      have hj : k / 64 < (n + 63) / 64 := by omega
      have hw1 := hW.1 (k / 64) hj
      have hw2 := hW.2 (k / 64) hj
      cases hl : lv k
      · rw [hl] at hc
        have HR : Hid (Words wr w.heap.size ((n + 63) / 64) (fun j => wd lv j (k + 1))) := by
          have e : (fun j => wd lv j (k + 1)) = (fun j => wd lv j k) := funext fun j => wd_same lv j k (.inl hl)
          rw [e]; exact hW
        clear hW hw1 hw2
        go_wp2
        go_roundw
        case rel => go_light; exact ⟨k + 1, by omega, by go_num, HR.out, hB, hsz⟩
        case measure => go_light; simp [intOf]; omega
      · rw [hl] at hc
        have HR : Hid (Words (wr.setCell ⟨w.heap.size, k / 64, none⟩ (.int .u64 (bits .or .u64 (wd lv (k / 64) k : Int) (IntKind.u64.wrap (2 ^ (k % 64)))))) w.heap.size ((n + 63) / 64) (fun j => wd lv j (k + 1))) := by
          rw [or_word _ _ (wd_lt _ _ _) (Nat.mod_lt _ (by omega))]
          exact hW.set hj (wd_hit lv k hl) (fun i hi => wd_same lv i k (.inr hi))
        go_wp2
        go_roundw
        case rel => go_light; exact ⟨k + 1, by omega, by go_num, HR.out, hB.setCell (Nat.le_refl _) _, by simpa using hsz⟩
        case measure => go_light; simp [intOf]; omega
    · have hkn : k = n := by omega
      subst hkn
      go_wp2
      go_loopw [5] (fun i wr => ∃ q : Nat, q ≤ k ∧ i = .int .i64 ((q : Int) + 1) ∧ Words wr w.heap.size ((k + 63) / 64) (fun j => wd lv j k) ∧ Below w.heap.size w wr ∧ w.heap.size < wr.heap.size) (fun i _ => k + 1 - (intOf i).toNat)
      case atStart => exact ⟨0, Nat.zero_le _, rfl, hW, hB, by omega⟩
      case round =>
        clear hW hB hsz
        obtain ⟨q, hq, rfl, hW, hB, hsz⟩ := hrel
        by_cases hqk : q < k
        · have hc := (hB.cell (p := ⟨b, off + q, none⟩) hb).trans (hcell q hqk)
          have hj : q / 64 < (k + 63) / 64 := by omega
          have hw1 := hW.1 (q / 64) hj
          have hbit := wd_at lv k q hqk
          have hbq : b < wr.heap.size := by omega
          have hqi : (q : Int) < (k : Int) := by omega
          have hqn : (0 : Int) ≤ (q : Int) := by omega
          have hwq : IntKind.i64.wrap (q : Int) = (q : Int) := by rw [IntKind.wrap_i64]; omega
          have hobj : ∀ (w' : World), w'.cell? ⟨wr.heap.size, 0, none⟩ = some (.slice (some ⟨w.heap.size, 0, none⟩) ((k + 63) / 64) ((k + 63) / 64)) → w'.cell? ⟨wr.heap.size, 1, none⟩ = some (.int .i64 ((q : Int) + 1)) →
              w'.cell? ⟨w.heap.size, q / 64, none⟩ = some (.int .u64 (wd lv (q / 64) k : Int)) → Calls Try.prog 13 #[.pointer (some ⟨wr.heap.size, 0, none⟩)] w' fun e w'' => e = .returned (.bool (lv q)) ∧ w'' = w' := by
            intro w' g1 g2 g3
            have := inObject_any wr.heap.size w.heap.size _ _ q (wd lv (q / 64) k) w' g1 g2 hj (by omega) g3 (wd_lt lv _ _)
            rw [hbit] at this
            exact this
          have HO : Hid _ := hobj
          have HW : Hid (Words wr w.heap.size ((k + 63) / 64) (fun j => wd lv j k)) := hW
          clear hobj hW hcell hbit
          go_wp2
          go_region_held3 (fun w' => w'.cell? ⟨b, off + q, none⟩ = some (.bool (lv q)) ∧ w'.cell? ⟨w.heap.size, q / 64, none⟩ = some (.int .u64 (wd lv (q / 64) k : Int))) (simp [go_sem, World.cell?_alloc_past, hc, hw1, hbq, hsz])
            (first
              | (go_at_call 14; refine (newNesting_any _ _ _ _ _).mono ?_; rintro e w' ⟨rfl, rfl⟩)
              | (go_at_call 13; refine (HO.out _ ?_ ?_ ?_).mono ?_; rotate_right; rintro e w' ⟨rfl, rfl⟩; all_goals simp [go_sem, World.cell?_alloc_past, hw1, hsz]))
          clear hc hw1 hwq
          go_wp2
          go_roundw
          case rel =>
            go_light
            refine ⟨q + 1, by omega, by go_num, Words.keep HW.out (fun j => ?_) (fun j => ?_), (hB.alloc (by omega) _).drew, by simp; omega⟩
            · rw [World.cell?_drew, World.cell?_alloc_past _ _ _ hsz]
            · rw [World.frozen?_drew, World.frozen?_alloc_past _ _ _ hsz]
          case measure => go_light; simp [intOf]; omega
        · have hqe : q = k := by omega
          subst hqe
          go_wp2
          go_ret
          exact ⟨rfl, hB⟩
end Go.Proofs.Qxb6613222a
