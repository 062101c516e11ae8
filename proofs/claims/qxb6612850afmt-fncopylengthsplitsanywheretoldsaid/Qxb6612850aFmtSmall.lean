/- The law's own helpers: zzClone, zzEqual, zzCat. -/
import Derived.Test.Qxb6612850aFmtBase
namespace Go.Proofs.Qxb6612850aFmt
open Go.RowKit Go.Deep
set_option linter.unusedVariables false

theorem clone_nil (w : World) : Calls Tryf.prog 8 #[.slice none 0 0] w fun e w' => e = .returned (.slice none 0 0) ∧ w = w' := by
  have hnil := fun w => Lib.run_eql_slice_nil (P := Tryf.prog) w 22 5 none 0 0 0 0 Tryf.underlying22
  go_enter Tryf.func8, Tryf.ntmps8
  go_wp2
  go_ret
  exact ⟨rfl, rfl⟩

theorem set_take (cur D : List Value) (k : Nat) (v : Value) (hk : k < cur.length) (h : cur.take k = D.take k) (hv : D[k]? = some v) : (cur.set k v).take (k + 1) = D.take (k + 1) := by
  rw [List.take_add_one, List.take_add_one, hv, List.getElem?_set_self hk, List.take_set_of_le (Nat.le_refl _), h]

set_option maxHeartbeats 400000 in
theorem clone_some (x : Addr) (c : Nat) (D : List Value) (w : World) (hn : D.length ≤ 1048576) (hb : Byts D) (hr : Reads w (some x) D) :
    Calls Tryf.prog 8 #[.slice (some x) D.length c] w fun e w' => e = .returned (.slice (some ⟨w.heap.size, 0, none⟩) D.length D.length) ∧ Below w.heap.size w w' ∧ w'.heap.size = w.heap.size + 1 ∧ Row w' w.heap.size D := by
  have hmk := run_make_row' (P := Tryf.prog) 22 5 (.int .u8 0) 1 Tryf.underlying22 Tryf.info5 rfl .i64 .i64 D.length (by omega) (by omega)
  have hnil := fun w => Lib.run_eql_slice_nil (P := Tryf.prog) w 22 5 (some x) D.length c 0 0 Tryf.underlying22
  have HB : Hid (Byts D) := hb
  have HR : Hid (Reads w (some x) D) := hr
  clear hb hr
  generalize hN : D.length = N at *
  have HN : Hid (D.length = N) := hN
  clear hN
  go_enter Tryf.func8, Tryf.ntmps8
  go_wp2
  clear hmk hnil
  go_loopw [4] (fun i wr => ∃ k : Nat, k ≤ N ∧ i = .int .i64 k ∧ Below w.heap.size w wr ∧ wr.heap.size = w.heap.size + 1 ∧ ∃ cur, Row wr w.heap.size cur ∧ cur.length = N ∧ cur.take k = D.take k) (fun i _ => N - (intOf i).toNat)
  case atStart => exact ⟨0, Nat.zero_le _, rfl, (Below.refl _ _).alloc (Nat.le_refl _) _, by simp, _, Row.made _ _, by simp, by simp⟩
  case round =>
    obtain ⟨k, hk, rfl, hB, hsz, cur, hR, hL, hT⟩ := hrel
    by_cases hlt : k < N
    · obtain ⟨n, hv⟩ := HB.out.get k (by rw [HN.out]; exact hlt)
      have hs := HR.out.spot (by rw [HN.out]; omega)
      have hx := HR.out.cell hv
      obtain ⟨b, off, spot⟩ := x
      obtain ⟨rfl, hbl⟩ := hs
      rw [Go.WideShapes.add_plain] at hx
      have hc := (hB.cell (p := ⟨b, off + k, none⟩) hbl).trans hx
      obtain ⟨u, hu⟩ : ∃ u, cur[k]? = some u := ⟨_, List.getElem?_eq_getElem (by omega)⟩
      have hcw : wr.cell? ⟨w.heap.size, k, none⟩ = some u := by rw [hR.cell, hu]
      have hfw := hR.frozen k
      have H1 : Hid (Row (wr.setCell ⟨w.heap.size, k, none⟩ (.int .u8 n)) w.heap.size (cur.set k (.int .u8 n))) := hR.set k _
      have H2 : Hid ((cur.set k (.int .u8 n)).take (k + 1) = D.take (k + 1)) := set_take cur D k _ (by omega) hT hv
      have H3 : Hid (cur.length = N) := hL
      clear hR hT hv hx hu hL
      go_wp2
      go_roundw
      case rel => go_light; exact ⟨k + 1, by omega, by go_num, hB.setCell (Nat.le_refl _) _, by simpa using hsz, _, H1.out, by simpa using H3.out, H2.out⟩
      case measure => go_light; simp [intOf]; omega
    · have hkn : k = N := by omega
      subst hkn
      have H1 : Hid (Row wr w.heap.size D) := by
        have e : cur = D := by
          have h1 : cur.take k = cur := List.take_of_length_le (by omega)
          have h2 : D.take k = D := List.take_of_length_le (by rw [HN.out]; omega)
          rw [h1, h2] at hT
          exact hT
        rw [← e]; exact hR
      clear hR hT hL
      go_wp2
      go_ret
      exact ⟨rfl, hB, hsz, H1.out⟩

set_option maxHeartbeats 400000 in
/-- 'zzEqual' of two slices that hold the same bytes. -/
theorem equal_same (a b : Option Addr) (ca cb : Nat) (D : List Value) (w : World) (hn : D.length ≤ 9223372036854775807) (hb : Byts D) (ha : Reads w a D) (hr : Reads w b D) :
    Calls Tryf.prog 13 #[.slice a D.length ca, .slice b D.length cb] w fun e w' => e = .returned (.bool true) ∧ ∃ n, w' = w.drewN n := by
  have HB : Hid (Byts D) := hb
  have HA : Hid (Reads w a D) := ha
  have HR : Hid (Reads w b D) := hr
  clear hb ha hr
  generalize hN : D.length = N at *
  have HN : Hid (D.length = N) := hN
  clear hN
  go_enter Tryf.func13, Tryf.ntmps13
  go_wp2
  go_loopw [5] (fun i wr => ∃ k : Nat, k ≤ N ∧ i = .int .i64 k ∧ ∃ n, wr = w.drewN n) (fun i _ => N - (intOf i).toNat)
  case atStart => exact ⟨0, Nat.zero_le _, rfl, 0, rfl⟩
  case round =>
    obtain ⟨k, hk, rfl, m, rfl⟩ := hrel
    by_cases hlt : k < N
    · obtain ⟨n, hv⟩ := HB.out.get k (by rw [HN.out]; exact hlt)
      obtain ⟨x, rfl⟩ : ∃ x, a = some x := by
        rcases HA.out with ⟨_, e⟩ | ⟨x, e, _⟩
        · rw [e] at hv; cases hv
        · exact ⟨x, e⟩
      obtain ⟨y, rfl⟩ : ∃ y, b = some y := by
        rcases HR.out with ⟨_, e⟩ | ⟨x, e, _⟩
        · rw [e] at hv; cases hv
        · exact ⟨x, e⟩
      have hs := HA.out.spot (by rw [HN.out]; omega)
      have ht := HR.out.spot (by rw [HN.out]; omega)
      have hx := HA.out.cell hv
      have hy := HR.out.cell hv
      obtain ⟨b1, o1, s1⟩ := x
      obtain ⟨b2, o2, s2⟩ := y
      obtain ⟨rfl, hbl⟩ := hs
      obtain ⟨rfl, hbl2⟩ := ht
      rw [Go.WideShapes.add_plain] at hx hy
      clear hv hbl hbl2
      have hki : (k : Int) < (N : Int) := by omega
      go_wp2
      go_quiet (fail)
      go_wp2
      go_roundw
      case rel => go_light; exact ⟨k + 1, by omega, by go_num, _, rfl⟩
      case measure => go_light; simp [intOf]; omega
    · go_wp2
      go_ret
      exact ⟨rfl, m, rfl⟩

/-- 'make([]byte, 0, n)'. -/
theorem run_make0 (n : Nat) (hn : n ≤ 281474976710656) (w : World) : (Instr.makeSlice 22 (.int .i64 0) (.int .i64 (n : Int))).run Tryf.prog w = .ok (.slice (some ⟨w.heap.size, 0, none⟩) 0 n) (w.alloc (.cells (madeCells #[.int .u8 0] n) 5)) := by
  obtain ⟨i, hi, hz0, hz1, hz2⟩ := info_parts Tryf.info5
  have h := run_make (P := Tryf.prog) w 22 5 i (.int .u8 0) Tryf.underlying22 hi hz0 .i64 .i64 0 n (by omega) (by omega) (by rw [hz2]; omega) (by omega)
  rw [hz1] at h
  simp at h
  exact h

theorem one_u8 {n : Int} : ∀ u ∈ [Value.int .u8 n], u.oneCell' = true := by
  intro u hu; simp at hu; subst hu; rfl

theorem take_snoc' (D : List Value) (k : Nat) (v : Value) (h : D[k]? = some v) : D.take k ++ [v] = D.take (k + 1) := by
  rw [List.take_add_one, h]; rfl

set_option maxRecDepth 100000 in
set_option maxHeartbeats 1000000 in
/-- 'zzCat': a new slice that holds A and then B. -/
theorem cat_any (a b : Option Addr) (ca cb : Nat) (A B : List Value) (w : World) (hn : A.length + B.length ≤ 2097152) (hA : Byts A) (hB : Byts B) (ha : Reads w a A) (hr : Reads w b B) :
    Calls Tryf.prog 14 #[.slice a A.length ca, .slice b B.length cb] w fun e w' => e = .returned (.slice (some ⟨w.heap.size, 0, none⟩) (A.length + B.length) (A.length + B.length)) ∧ Below w.heap.size w w' ∧ Reads w' (some ⟨w.heap.size, 0, none⟩) (A ++ B) := by
  have HA : Hid (Byts A) := hA
  have HB : Hid (Byts B) := hB
  have RA : Hid (Reads w a A) := ha
  have RB : Hid (Reads w b B) := hr
  clear hA hB ha hr
  have hmk := run_make0 (A.length + B.length) (by omega)
  generalize hLA : A.length = la at *
  generalize hLB : B.length = lb at *
  have LA : Hid (A.length = la) := hLA
  have LB : Hid (B.length = lb) := hLB
  clear hLA hLB
  have ec : ((la + lb : Nat) : Int) = (la : Int) + (lb : Int) := by omega
  rw [ec] at hmk
  clear ec
  obtain ⟨i0, hi, hz0, hz1, hz2⟩ := info_parts Tryf.info5
  go_enter Tryf.func14, Tryf.ntmps14
  go_wp2
  clear hmk
  go_loopw [5, 6] (fun v i wr => ∃ k : Nat, k ≤ la ∧ i = .int .i64 k ∧ v = .slice (some ⟨w.heap.size, 0, none⟩) k (la + lb) ∧ wr.ownsRow w.heap.size 5 1 (.slice (some ⟨w.heap.size, 0, none⟩) k (la + lb)) k (A.take k) ∧ Below w.heap.size w wr) (fun _ i _ => la - (intOf i).toNat)
  case atStart => exact ⟨0, Nat.zero_le _, rfl, rfl, World.ownsRow_made w _ _ (Nat.le_refl _) (by unfold maxLen; omega) (by simp [madeCells]), (Below.refl _ _).alloc (Nat.le_refl _) _⟩
  case round =>
    obtain ⟨k, hk, rfl, rfl, hown, hbl⟩ := hrel
    by_cases hlt : k < la
    · obtain ⟨n, hv⟩ := HA.out.get k (by rw [LA.out]; exact hlt)
      obtain ⟨x, rfl⟩ : ∃ x, a = some x := by
        rcases RA.out with ⟨_, e⟩ | ⟨x, e, _⟩
        · rw [e] at hv; cases hv
        · exact ⟨x, e⟩
      have hs := RA.out.spot (by rw [LA.out]; omega)
      have hx := RA.out.cell hv
      obtain ⟨b1, o1, s1⟩ := x
      obtain ⟨rfl, hbl1⟩ := hs
      rw [Go.WideShapes.add_plain] at hx
      have hc := (hbl.cell (p := ⟨b1, o1 + k, none⟩) hbl1).trans hx
      have HV : Hid (A[k]? = some (.int .u8 n)) := hv
      have HO : Hid (wr.ownsRow w.heap.size 5 1 (.slice (some ⟨w.heap.size, 0, none⟩) k (la + lb)) k (A.take k)) := hown
      clear hv hx hown
      go_wp2_with (at_builtin; refine wpList_append_fits _ rfl (.tmp 20) (.tmp 25) 22 rfl w.heap.size 5 i0 1 Tryf.underlying22 hi hz1 w.heap.size k (la + lb) (A.take k) rfl (HO.out.alloc _) ⟨wr.heap.size, 0, none⟩ 1 1 [.int .u8 n] rfl rfl (cell_one_new _ _ _) one_u8 (by omega) ?_; intro w1 hown1 hg1)
      rw [take_snoc' A k _ HV.out] at hown1
      have hbl' : Below w.heap.size w w1 := (hbl.alloc hbl.size _).grown hg1 (by simp; have := hbl.size; omega) (fun k hk => by injection hk with h; omega)
      clear hc hg1
      have HO1 : Hid (w1.ownsRow w.heap.size 5 1 (.slice (some ⟨w.heap.size, 0, none⟩) (k + 1) (la + lb)) (k + 1) (A.take (k + 1))) := hown1
      clear hown1
      go_wp2
      go_roundw
      case rel => go_light; exact ⟨k + 1, by omega, by go_num, rfl, HO1.out, hbl'⟩
      case measure => go_light; simp [intOf]; omega
    · have hkn : k = la := by omega
      subst hkn
      have HO : Hid (wr.ownsRow w.heap.size 5 1 (.slice (some ⟨w.heap.size, 0, none⟩) k (k + lb)) k (A ++ B.take 0)) := by
        have e : A.take k = A := List.take_of_length_le (by rw [LA.out]; exact Nat.le_refl _)
        rw [e] at hown
        show wr.ownsRow w.heap.size 5 1 (.slice (some ⟨w.heap.size, 0, none⟩) k (k + lb)) k (A ++ B.take 0)
        simpa using hown
      clear hown
      go_wp2
      go_loopw [5, 7] (fun v i wr => ∃ q : Nat, q ≤ lb ∧ i = .int .i64 q ∧ v = .slice (some ⟨w.heap.size, 0, none⟩) (k + q) (k + lb) ∧ wr.ownsRow w.heap.size 5 1 (.slice (some ⟨w.heap.size, 0, none⟩) (k + q) (k + lb)) (k + q) (A ++ B.take q) ∧ Below w.heap.size w wr) (fun _ i _ => lb - (intOf i).toNat)
      case atStart => exact ⟨0, Nat.zero_le _, rfl, rfl, HO.out, hbl⟩
      case round =>
        clear hbl HO
        obtain ⟨q, hq, rfl, rfl, hown, hbl⟩ := hrel
        by_cases hlt : q < lb
        · obtain ⟨n, hv⟩ := HB.out.get q (by rw [LB.out]; exact hlt)
          obtain ⟨x, rfl⟩ : ∃ x, b = some x := by
            rcases RB.out with ⟨_, e⟩ | ⟨x, e, _⟩
            · rw [e] at hv; cases hv
            · exact ⟨x, e⟩
          have hs := RB.out.spot (by rw [LB.out]; omega)
          have hx := RB.out.cell hv
          obtain ⟨b1, o1, s1⟩ := x
          obtain ⟨rfl, hbl1⟩ := hs
          rw [Go.WideShapes.add_plain] at hx
          have hc := (hbl.cell (p := ⟨b1, o1 + q, none⟩) hbl1).trans hx
          have HV : Hid (B[q]? = some (.int .u8 n)) := hv
          have HO : Hid (wr.ownsRow w.heap.size 5 1 (.slice (some ⟨w.heap.size, 0, none⟩) (k + q) (k + lb)) (k + q) (A ++ B.take q)) := hown
          clear hv hx hown
          go_wp2_with (at_builtin; refine wpList_append_fits _ rfl (.tmp 33) (.tmp 38) 22 rfl w.heap.size 5 i0 1 Tryf.underlying22 hi hz1 w.heap.size (k + q) (k + lb) (A ++ B.take q) rfl (HO.out.alloc _) ⟨wr.heap.size, 0, none⟩ 1 1 [.int .u8 n] rfl rfl (cell_one_new _ _ _) one_u8 (by omega) ?_; intro w1 hown1 hg1)
          rw [List.append_assoc, take_snoc' B q _ HV.out] at hown1
          have hbl' : Below w.heap.size w w1 := (hbl.alloc hbl.size _).grown hg1 (by simp; have := hbl.size; omega) (fun k hk => by injection hk with h; omega)
          clear hc hg1
          have HO1 : Hid (w1.ownsRow w.heap.size 5 1 (.slice (some ⟨w.heap.size, 0, none⟩) (k + (q + 1)) (k + lb)) (k + (q + 1)) (A ++ B.take (q + 1))) := hown1
          clear hown1
          go_wp2
          go_roundw
          case rel => go_light; exact ⟨q + 1, by omega, by go_num, rfl, HO1.out, hbl'⟩
          case measure => go_light; simp [intOf]; omega
        · have hqn : q = lb := by omega
          subst hqn
          have e : B.take q = B := List.take_of_length_le (by rw [LB.out]; exact Nat.le_refl _)
          rw [e] at hown
          have HO : Hid (Reads wr (some ⟨w.heap.size, 0, none⟩) (A ++ B)) := by
            refine .inr ⟨_, rfl, fun j v hv => ?_⟩
            rw [Go.WideShapes.add_plain, Nat.zero_add, hown.cellAt j ?_]
            · exact hv
            · have := (List.getElem?_eq_some_iff.1 hv).1
              rw [List.length_append, LA.out, LB.out] at this
              omega
          clear hown e
          go_wp2
          go_ret
          exact ⟨rfl, hbl, HO.out⟩
end Go.Proofs.Qxb6612850aFmt
