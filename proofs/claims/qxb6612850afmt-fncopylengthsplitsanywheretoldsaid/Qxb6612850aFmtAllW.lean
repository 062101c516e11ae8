/- io.ReadAll: the walk. -/
import Derived.Test.Qxb6612850aFmtAll
import Derived.Test.Qxb6612850aFmtIs
import Derived.Lib.AppendZeros
namespace Go.Proofs.Qxb6612850aFmt
open Go.RowKit Go.Deep
set_option linter.unusedVariables false

theorem Tryf.info22 : (Tryf.prog.info? 22).map (fun i => (i.zero, i.size, i.bytes)) = some (some (.slice none 0 0), 1, 24) := by kernel_rfl

set_option maxRecDepth 100000 in
theorem run_make4 (w : World) : (Instr.makeSlice 90 (.int .i64 0) (.int .i64 4)).run Tryf.prog w = .ok (.slice (some ⟨w.heap.size, 0, none⟩) 0 4) (w.alloc (.cells (madeCells #[.slice none 0 0] 4) 22)) := by
  obtain ⟨i, hi, hz0, hz1, hz2⟩ := info_parts Tryf.info22
  have h := run_make (P := Tryf.prog) w 90 22 i (.slice none 0 0) Tryf.underlying90 hi hz0 .i64 .i64 0 4 (by omega) (by omega) (by rw [hz2]; omega) (by omega)
  rw [hz1] at h
  simp at h
  exact h

theorem ahead_bread (a : Addr) (w : World) : (nilAhead 275 24 (.pointer (some a)) "Read").run Tryf.prog w = .ok (some false) w := by kernel_rfl
theorem method_bread (a : Addr) (w : World) : (method 275 24 (.pointer (some a)) "Read").run Tryf.prog w = .ok (77, .pointer (some a)) w := by kernel_rfl

/-- The row that 'append(nil, make([]byte, n)...)' makes. -/
theorem Row.zeros (w : World) (n c : Nat) (h : n ≤ c) : Row (w.drew.alloc (.cells (Builtin.zeroCells (Value.int .u8 0).cells n ++ Builtin.zeroCells (Value.int .u8 0).cells (c - n)) 5)) w.heap.size (List.replicate c (.int .u8 0)) := by
  unfold Row
  show (w.drew.alloc _).heap[w.drew.heap.size]? = _
  rw [heap_alloc_new]
  congr 2
  have hz : ∀ k, Builtin.zeroCells (Value.int .u8 0).cells k = (List.replicate k (Value.int .u8 0)).toArray := by
    intro k
    have hc : (Value.int .u8 0).cells = #[.int .u8 0] := rfl
    rw [hc]
    apply Array.ext
    · simp [Builtin.zeroCells]
    · intro i h1 h2
      simp [Builtin.zeroCells, Nat.mod_one]
  rw [hz, hz]
  simp
  omega

/-- 'append(nil, make([]byte, n)...)' -/
theorem run_zeros (w : World) (ty : TypeId) (n : Nat) (h0 : 0 < n) (h1 : n ≤ 281474976710656) : ∃ c w', (Builtin.append_ #[22, 3] ty #[.slice none 0 0, .int .i64 n]).run Tryf.prog w = .ok (.slice (some ⟨w.heap.size, 0, none⟩) n c) w' ∧ n ≤ c ∧ c ≤ 9223372036854775807 ∧ Row w' w.heap.size (List.replicate c (.int .u8 0)) ∧ Keeps w.heap.size (fun _ => False) w w' ∧ w'.heap.size = w.heap.size + 1 := by
  obtain ⟨i, hi, hz0, hz1, hz2⟩ := info_parts Tryf.info5
  refine ⟨_, _, Lib.run_append_nil_zeros w 22 3 ty 5 i (.int .u8 0) .i64 .i64 Tryf.underlying22 Tryf.underlying3 hi hz0 n h0 (by omega) (by omega) (by rw [hz2]; omega), grownCap_ge _ _ _ _, grownCap_le_maxLen _ _ _ _ (by unfold maxLen; omega), Row.zeros _ _ _ (grownCap_ge _ _ _ _), ?_, ?_⟩
  · exact (Keeps.drew _ _ w).trans (Keeps.alloc (w := w.drew) (show w.heap.size ≤ w.drew.heap.size from Nat.le_refl _) _)
  · show (w.drew.alloc _).heap.size = w.drew.heap.size + 1
    simp

theorem one_sl {ao : Option Addr} {l c : Nat} : ∀ u ∈ [Value.slice ao l c], u.oneCell' = true := by
  intro u hu; simp at hu; subst hu; rfl

set_option maxRecDepth 100000 in
set_option maxHeartbeats 2000000 in
theorem readAll32 (sp sq sg sd SS pos : Nat) (D : List Value) (a : Addr) (w : World) (h : SrcHas sp sq sg sd SS pos D w) (hE : w.cell? ⟨3, 0, none⟩ = some (.iface 123 (.pointer (some a)))) (h3 : sp ≠ 3 ∧ sq ≠ 3 ∧ sg ≠ 3) (hd : sp < w.heap.size ∧ sq < w.heap.size ∧ sg < w.heap.size ∧ sd < w.heap.size ∧ 3 < w.heap.size) (hpos : pos ≤ D.length) :
    Calls Tryf.prog 32 #[.iface 24 (.pointer (some ⟨sp, 0, none⟩))] w fun x w' => ∃ ao c, x = .returned (.tuple #[.slice ao (D.drop pos).length c, .nilIface]) ∧ Reads w' ao (D.drop pos) ∧ Keeps w.heap.size (fun i => i = sp ∨ i = sq ∨ i = sg) w w' := by
  have hmk : ∀ w, (Instr.makeSlice 22 (.int .i64 0) (.int .i64 512)).run Tryf.prog w = .ok (.slice (some ⟨w.heap.size, 0, none⟩) 0 512) (w.alloc (.cells (madeCells #[.int .u8 0] 512) 5)) := run_make0 512 (by omega)
  have HM : Hid (∀ w : World, Row (w.alloc (.cells (madeCells #[.int .u8 0] 512) 5)) w.heap.size (List.replicate 512 (.int .u8 0))) := fun w => Row.made w 512
  have hmk4 := run_make4
  have H4 : Hid ((madeCells #[.slice none 0 0] 4).size = 4) := by show _ = _; simp [madeCells]
  generalize madeCells #[.int .u8 0] 512 = cells at hmk HM
  generalize madeCells #[.slice none 0 0] 4 = cells4 at hmk4 H4
  have HS : Hid (SrcHas sp sq sg sd SS pos D w) := h
  have HE : Hid (w.cell? ⟨3, 0, none⟩ = some (.iface 123 (.pointer (some a)))) := hE
  have HH3 : Hid (sp ≠ 3 ∧ sq ≠ 3 ∧ sg ≠ 3) := h3
  have HHd : Hid (sp < w.heap.size ∧ sq < w.heap.size ∧ sg < w.heap.size ∧ sd < w.heap.size ∧ 3 < w.heap.size) := hd
  clear h hE h3 hd
  obtain ⟨i5, hi5, hz50, hz51, hz52⟩ := info_parts Tryf.info5
  obtain ⟨i22, hi22, hz220, hz221, hz222⟩ := info_parts Tryf.info22
  go_enter Tryf.func32, Tryf.ntmps32
  go_wp2_with fail
  obtain ⟨w0, hw0⟩ : ∃ w0, w0 = (w.alloc (.cells cells 5)).alloc (.cells cells4 22) := ⟨_, rfl⟩
  rw [← hw0]
  have HA : Hid (AllAt sp sq sg sd SS pos w.heap.size 0 D w w.heap.size 0 512 512 256 (.slice (some ⟨w.heap.size + 1, 0, none⟩) 0 4) [] [] (List.replicate 512 (.int .u8 0)) w0) := by
    have hd := HHd.out
    have k1 : Keeps w.heap.size (fun _ => False) w (w.alloc (.cells cells 5)) := Keeps.alloc (Nat.le_refl _) _
    have k2 : Keeps (w.heap.size + 1) (fun _ => False) (w.alloc (.cells cells 5)) w0 := by rw [hw0]; exact Keeps.alloc (by simp) _
    have k3 : Keeps w.heap.size (fun _ => False) w w0 := k1.trans (k2.mono (by omega) (fun _ _ e => e))
    refine ⟨hd, Nat.le_refl _, k2.at (HM.out w) (by omega) (fun e => e), by simp, fun v hv => ⟨0, List.eq_of_mem_replicate hv⟩, by omega, by omega, ?_, trivial, by simp, ?_, by omega, by omega, by omega, by omega, k3.mono (Nat.le_refl _) (fun _ _ e => e.elim), k3.size, Nat.zero_le _⟩
    · have := World.ownsRow_made (base := w.heap.size) (e := 22) (size := 1) (w.alloc (.cells cells 5)) cells4 4 (by simp) (by unfold maxLen; omega) (by rw [H4.out])
      rw [← hw0] at this
      simpa using this
    · have hk : ∀ i, i < w.heap.size → w0.heap[i]? = w.heap[i]? := fun i hi => k3.block i hi (fun e => e)
      exact HS.out.keep' (hk _ hd.1) (hk _ hd.2.1) (hk _ hd.2.2.1) (hk _ hd.2.2.2.1)
  clear hw0 HS HM hmk hmk4 H4
  go_loopg [4, 5, 6, 7] (D.length + 1) (fun gk v4 v5 v6 v7 wr => ∃ (t bb l cap m nx : Nat) (vs : List Value) (ds : List (List Value)) (cur : List Value), D.length - (pos + t) ≤ gk ∧ l < cap ∧ v4 = .slice (some ⟨bb, 0, none⟩) l cap ∧ v5 = .int .i64 (nx : Int) ∧ v7 = .int .i64 (ds.flatten.length : Int) ∧ AllAt sp sq sg sd SS pos w.heap.size t D w bb l cap m nx v6 vs ds cur wr)
  case atStart => exact ⟨0, _, _, _, _, _, [], [], _, by omega, by omega, rfl, rfl, rfl, HA.out⟩
  case round =>
    clear HA
    obtain ⟨t, bb, l, cap, m, nx, vs, ds, cur, hgk, hroom, rfl, rfl, rfl, hA⟩ := hrel
    have HA : Hid (AllAt sp sq sg sd SS pos w.heap.size t D w bb l cap m nx u6 vs ds cur wr) := hA
    have hcm := hA.capm
    have hsum := hA.sum
    have hm1 := hA.m1
    have hm2 := hA.m2
    have hm3 := hA.m3
    clear hA
    have hcl : ¬ cap = l := by omega
    have hlc : l ≤ cap := by omega
    have hmr := method_bread ⟨sp, 0, none⟩
    have hna := ahead_bread ⟨sp, 0, none⟩
    generalize hfs : ds.flatten.length = fs at *
    have HFS : Hid (ds.flatten.length = fs) := hfs
    clear hfs
    go_wp2_with fail
    have HRD : Hid (Calls Tryf.prog 77 #[.pointer (some ⟨sp, 0, none⟩), .slice (some ⟨bb, l, none⟩) (cap - l) (cap - l)] wr.drew fun x w' => ReadGot sp sq sg sd SS (pos + t) bb l (cap - l) D cur 123 (.pointer (some a)) wr.drew x w') := by
      have hA := HA.out.grow (Keeps.drew _ _ wr)
      have hl := hA.lts
      have hb := hA.hB
      exact read77 sp sq sg sd SS (pos + t) bb l (cap - l) (cap - l) D cur 123 (.pointer (some a)) wr.drew hA.src hA.row hA.byts (by rw [hA.clen]; omega) (by omega) (by omega) (Nat.le_refl _) (by omega) (hA.eof HE.out HH3.out) HH3.out
    by_cases hend : pos + t = D.length
    · have HR1 : Hid (Calls Tryf.prog 77 #[.pointer (some ⟨sp, 0, none⟩), .slice (some ⟨bb, l, none⟩) (cap - l) (cap - l)] wr.drew fun x w' => x = .returned (.tuple #[.int .i64 0, .iface 123 (.pointer (some a))]) ∧ AllAt sp sq sg sd SS pos w.heap.size t D w bb l cap m nx u6 vs ds cur w') := by
        refine Calls.mono HRD.out ?_
        rintro x w' (⟨_, h1, h2, h3, h4⟩ | ⟨k, h1, _, h2, _⟩)
        · exact ⟨h1, (HA.out.grow (Keeps.drew _ _ wr)).nothing h2 h3 h4⟩
        · omega
      clear HRD HA
      go_region_held3 (fun w' => True) (simp [go_sem, *])
        ((go_at_call 77; refine Calls.mono HR1.out ?_; rintro x w2 ⟨rfl, hA2⟩; have HA2 : Hid (AllAt sp sq sg sd SS pos w.heap.size t D w bb l cap m nx u6 vs ds cur w2) := hA2; clear hA2))
      clear HR1
      have he2 : w2.cell? ⟨3, 0, none⟩ = some (.iface 123 (.pointer (some a))) := HA2.out.eof HE.out HH3.out
      obtain ⟨i, hi, hcmp⟩ := Option.map_eq_some_iff.1 Tryf.isComp
      obtain ⟨jj, hj, hjs⟩ := Option.map_eq_some_iff.1 Tryf.isSize
      have heq := run_eql_iface_ptr_same (P := Tryf.prog) w2 a Tryf.underlying32 Tryf.underlying123 hi hcmp hj
      obtain ⟨a6, c6, rfl⟩ : ∃ ao c, u6 = .slice ao vs.length c := by
        rcases HA2.out.own.2 with ⟨e, h0⟩ | ⟨g, c, _, e, _⟩
        · exact ⟨none, 0, by rw [e, h0]⟩
        · exact ⟨_, _, e⟩
      have hl1 : l ≤ 1048576 := by omega
      by_cases hvs : vs = []
      · subst hvs
        go_wp2
        go_ret2
        obtain ⟨e1, e2⟩ := HA2.out.alone hend
        rw [e1]
        exact ⟨_, _, rfl, e2, HA2.out.keeps⟩
      · have HV : Hid (vs.length = ds.length) := HA2.out.chunks.length
        have hvl : ¬ vs.length = 0 := fun e => hvs (List.eq_nil_of_length_eq_zero e)
        have hvb : vs.length ≤ 1048576 := by
          have h1 := HA2.out.cnt
          have h2 := HA2.out.sum
          omega
        have hn0 : 0 < fs + l := by
          have := HA2.out.cnt
          rw [HFS.out] at this
          omega
        have HW : Hid (ds.flatten ++ cur.take l = D.drop pos) := HA2.out.whole hend
        have HN : Hid ((D.drop pos).length = fs + l) := by
          show _ = _
          rw [← HW.out, List.length_append, List.length_take, HFS.out, HA2.out.clen, Nat.min_eq_left hlc]
        obtain ⟨c9, w3, hrun, hc91, hc92, hrow3, hk3, hs3⟩ := run_zeros w2 22 (fs + l) hn0 (by omega)
        rw [Int.natCast_add] at hrun
        generalize hvn : vs.length = nv at *
        have HNV : Hid (vs.length = nv) := hvn
        clear hvn
        go_wp2_with (at_builtin; refine Lib.wpList_append_run _ rfl _ _ 22 3 rfl _ _ rfl rfl _ _ hrun ?_)
        clear hrun
        have HF0 : Hid (w3.ownsRow w2.heap.size 5 1 (.slice (some ⟨w2.heap.size, 0, none⟩) 0 c9) 0 [] ∧ Below w2.heap.size w2 w3) :=
          ⟨⟨rfl, .inr ⟨_, _, _, rfl, Nat.le_refl _, hrow3, Nat.zero_le _, by unfold maxLen; omega, by simp, rfl⟩⟩, hk3.toBelow (fun _ _ e => e)⟩
        have HLE : Hid (∀ k, (ds.take k).flatten.length ≤ fs) := fun k => by rw [← HFS.out]; exact flatten_take_le ds k
        have HRB : Hid (∀ w', Below w2.heap.size w2 w' → ∀ j u, (cur.take l)[j]? = some u → w'.cell? ((⟨bb, 0, none⟩ : Addr).add j) = some u) := by
          intro w' hB j u hj
          have h1 := HA2.out.row
          have h2 : Row w' bb cur := (hB.block bb h1.lt).trans h1
          have h3 := h2.reads_at 0 l
          rw [List.drop_zero] at h3
          exact h3.cell hj
        have HCB : Hid ((cur.take l).length = l ∧ ∀ u ∈ cur.take l, u.oneCell' = true) := ⟨by rw [List.length_take, HA2.out.clen]; exact Nat.min_eq_left hlc, (HA2.out.byts.take l).one⟩
        clear hrow3 hk3 hs3 hc91 hc92
        go_loopw [10, 54] (fun v i wr => ∃ k : Nat, k ≤ nv ∧ i = .int .i64 k ∧ wr.ownsRow w2.heap.size 5 1 v (ds.take k).flatten.length (ds.take k).flatten ∧ Below w2.heap.size w2 wr) (fun _ i _ => nv - (intOf i).toNat)
        case atStart => exact ⟨0, Nat.zero_le _, rfl, by rw [List.take_zero]; exact HF0.out.1, HF0.out.2⟩
        case round =>
          clear HF0
          obtain ⟨k, hk, rfl, hown, hbl⟩ := hrel
          by_cases hlt : k < nv
          · obtain ⟨g6, g, cp, crow, d, rfl, hg6, hcell, hrowg, htk, hbd, hfl⟩ := HA2.out.chunk HNV.out hlt
            have hc : wr.cell? ⟨g6, k, none⟩ = some (.slice (some ⟨g, 0, none⟩) d.length cp) := (hbl.cell (p := ⟨g6, k, none⟩) hg6).trans hcell
            obtain ⟨nk, hnk⟩ : ∃ nk, nk = (ds.take k).flatten.length := ⟨_, rfl⟩
            rw [← hnk] at hown
            have HO : Hid (wr.ownsRow w2.heap.size 5 1 u10 nk (ds.take k).flatten) := hown
            have HNK : Hid (nk = (ds.take k).flatten.length) := hnk
            obtain ⟨nd, hnd⟩ : ∃ nd, nd = d.length := ⟨_, rfl⟩
            rw [← hnd] at hc
            have HND : Hid (nd = d.length) := hnd
            have HRD : Hid (∀ j u, d[j]? = some u → wr.cell? ((⟨g, 0, none⟩ : Addr).add j) = some u) := by
              intro j u hj
              have h2 : Row wr g crow := (hbl.block g hrowg.lt).trans hrowg
              have h3 := h2.reads_at 0 d.length
              rw [List.drop_zero, htk] at h3
              exact h3.cell hj
            have HFL : Hid ((ds.take (k + 1)).flatten = (ds.take k).flatten ++ d) := hfl
            have HBD : Hid (∀ u ∈ d, u.oneCell' = true) := hbd.one
            have HSM : Hid (nk + nd ≤ 1048576) := by
              have h1 := HLE.out (k + 1)
              rw [hfl, List.length_append] at h1
              show _ ≤ _
              omega
            have HSZ : Hid (w2.heap.size ≤ wr.heap.size) := hbl.size
            clear hown hrowg htk hbd hfl hcell hnk hnd
            go_wp2_with (at_builtin; refine wpList_append_own _ rfl _ _ 22 rfl w2.heap.size 5 i5 (.int .u8 0) 1 1 Tryf.underlying22 hi5 hz50 hz51 hz52 rfl (by decide) _ _ _ rfl HO.out ⟨g, 0, none⟩ nd cp d rfl (by rw [HND.out, Nat.mul_one]) HRD.out HBD.out ?q2 ?q3 HSZ.out ?_)
            case q2 => have := HSM.out; unfold maxLen; omega
            case q3 => have := HSM.out; omega
            intro v9 w5 hown5 hg5 hnil5
            have HO5 : Hid (w5.ownsRow w2.heap.size 5 1 v9 (ds.take (k + 1)).flatten.length (ds.take (k + 1)).flatten ∧ Below w2.heap.size w2 w5) := by
              rw [HFL.out, List.length_append, ← HNK.out, ← HND.out]
              exact ⟨hown5, hbl.grown hg5 HSZ.out (fun k hk => (HO.out.lt k hk).1)⟩
            clear hown5 hg5 hnil5 HO hc hbl HRD HBD HSM HSZ
            go_wp2
            go_roundw
            case rel => go_light; exact ⟨k + 1, by omega, by go_num, HO5.out.1, HO5.out.2⟩
            case measure => go_light; simp [intOf]; omega
          · have hkn : k = nv := by omega
            subst hkn
            have e : (ds.take k).flatten = ds.flatten := by rw [List.take_of_length_le (by rw [← HV.out]; exact Nat.le_refl _)]
            rw [e, HFS.out] at hown
            have HO : Hid (wr.ownsRow w2.heap.size 5 1 u10 fs ds.flatten) := hown
            have HSZ : Hid (w2.heap.size ≤ wr.heap.size) := hbl.size
            clear hown e
            go_wp2_with (at_builtin; refine wpList_append_own _ rfl _ _ 22 rfl w2.heap.size 5 i5 (.int .u8 0) 1 1 Tryf.underlying22 hi5 hz50 hz51 hz52 rfl (by decide) _ _ _ rfl HO.out ⟨bb, 0, none⟩ l cap (cur.take l) rfl (by rw [HCB.out.1, Nat.mul_one]) (HRB.out _ hbl) HCB.out.2 ?q2 ?q3 HSZ.out ?_)
            case q2 => unfold maxLen; omega
            case q3 => omega
            intro v9 w5 hown5 hg5 hnil5
            have HB5 : Hid (Below w2.heap.size w2 w5) := hbl.grown hg5 HSZ.out (fun k hk => (HO.out.lt k hk).1)
            rw [HW.out] at hown5
            have HO5 : Hid (∃ ao c, v9 = .slice ao (D.drop pos).length c ∧ Reads w5 ao (D.drop pos)) := by
              have e : (D.drop pos).length = t := by rw [HN.out]; omega
              rw [e]
              exact own_reads hown5
            clear hown5 hg5 hnil5 HO hbl
            go_wp2
            go_ret2
            obtain ⟨ao, c, rfl, hR⟩ := HO5.out
            exact ⟨ao, c, rfl, hR, HA2.out.keeps.trans (Keeps.below (HB5.out.mono HA2.out.size))⟩
    · have HR1 : Hid (Calls Tryf.prog 77 #[.pointer (some ⟨sp, 0, none⟩), .slice (some ⟨bb, l, none⟩) (cap - l) (cap - l)] wr.drew fun x w' => ∃ k, (1 ≤ k ∧ k ≤ cap - l ∧ pos + t + k ≤ D.length) ∧ x = .returned (.tuple #[.int .i64 (k : Int), .nilIface]) ∧ ∃ cur2, AllAt sp sq sg sd SS pos w.heap.size (t + k) D w bb (l + k) cap m nx u6 vs ds cur2 w') := by
        refine Calls.mono HRD.out ?_
        rintro x w' (⟨h, _⟩ | ⟨k, h1, h2, h3, h4, h5, h6, h7⟩)
        · exact absurd h hend
        · exact ⟨k, ⟨h1, h2, h3⟩, h4, _, (HA.out.grow (Keeps.drew _ _ wr)).read h2 h3 h5 h6 h7⟩
      clear HRD HA
      go_region_held3 (fun w' => True) (simp [go_sem, *])
        ((go_at_call 77; refine Calls.mono HR1.out ?_; rintro x w2 ⟨k, hk, rfl, cur2, hA2⟩; have HA2 : Hid (AllAt sp sq sg sd SS pos w.heap.size (t + k) D w bb (l + k) cap m nx u6 vs ds cur2 w2) := hA2; clear hA2))
      clear HR1
      have hk2 : l + k ≤ cap := by omega
      have hk3 : l + k ≤ 1048576 := by have := HA2.out.sum; omega
      by_cases hasd : cap - (l + k) < cap / 16
      · have hnv : vs.length ≤ 1048576 := by
          have h1 := HA2.out.cnt
          have h2 := HA2.out.sum
          omega
        go_wp2_with (at_builtin; refine wpList_append_own _ rfl _ _ 90 rfl w.heap.size 22 i22 (.slice none 0 0) 1 24 Tryf.underlying90 hi22 hz220 hz221 hz222 rfl (by decide) _ vs.length vs rfl (HA2.out.own.alloc _) ⟨w2.heap.size, 0, none⟩ 1 1 [.slice (some ⟨bb, 0, none⟩) (l + k) cap] rfl rfl (cell_one_new _ _ _) one_sl ?q1 ?q2 ?q3 ?_)
        case q1 => unfold maxLen; omega
        case q2 => omega
        case q3 => have := HA2.out.size; simp; omega
        intro v6' w3 hown3 hg3 hnil3
        obtain ⟨c9, w4, hrun, hc91, hc92, hrow4, hk4, hs4⟩ := run_zeros w3 22 nx (by omega) (by omega)
        have HA4 : Hid (AllAt sp sq sg sd SS pos w.heap.size (t + k) D w w3.heap.size 0 c9 nx (nx + nx / 2) v6' (vs ++ [.slice (some ⟨bb, 0, none⟩) (l + k) cap]) (ds ++ [cur2.take (l + k)]) (List.replicate c9 (.int .u8 0)) w4) :=
          (HA2.out.grow (Keeps.alloc (Nat.le_refl _) _)).aside hown3 hg3 hk4 hrow4 hc91 hc92 (by omega)
        have HF4 : Hid ((ds ++ [cur2.take (l + k)]).flatten.length = fs + (l + k)) := by
          show _ = _
          have h1 := HA2.out.sum
          have h2 := HA4.out.sum
          rw [HFS.out] at h1
          omega
        clear hown3 hg3 hnil3 hrow4 hk4 hs4 HA2
        go_wp2_with (at_builtin; refine Lib.wpList_append_run _ rfl _ _ 22 3 rfl _ _ rfl rfl _ _ hrun ?_)
        clear hrun
        go_wp2
        go_roundg (gk - 1)
        case measure => go_light; omega
        case rel =>
          go_light
          exact ⟨t + k, _, 0, c9, nx, nx + nx / 2, _, _, _, by omega, by omega, rfl, by go_num, by rw [HF4.out]; go_num, HA4.out⟩
      · go_wp2
        go_roundg (gk - 1)
        case measure => go_light; omega
        case rel =>
          go_light
          exact ⟨t + k, bb, l + k, cap, m, nx, vs, ds, cur2, by omega, by omega, rfl, rfl, by rw [HFS.out], HA2.out⟩
end Go.Proofs.Qxb6612850aFmt
