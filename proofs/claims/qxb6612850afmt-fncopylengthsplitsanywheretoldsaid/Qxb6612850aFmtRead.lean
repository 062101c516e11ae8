/- bufio.Reader.Read. -/
import Derived.Test.Qxb6612850aFmtCopyLen
namespace Go.Proofs.Qxb6612850aFmt
open Go.RowKit Go.Deep
set_option linter.unusedVariables false

/-- What one Read into the row xb gives: the end, or some of the bytes to come. -/
def ReadGot (sp sq sg sd SS pos xb off n : Nat) (D cur : List Value) (T : TypeId) (v : Value) (w : World) (x : Ending) (w' : World) : Prop :=
  (pos = D.length ∧ x = .returned (.tuple #[.int .i64 0, .iface T v]) ∧ SrcHas sp sq sg sd SS pos D w' ∧ Only (fun i => i = sp ∨ i = sq ∨ i = sg ∨ i = xb) w w' ∧ Row w' xb cur) ∨
  ∃ k, 1 ≤ k ∧ k ≤ n ∧ pos + k ≤ D.length ∧ x = .returned (.tuple #[.int .i64 (k : Int), .nilIface]) ∧ SrcHas sp sq sg sd SS (pos + k) D w' ∧ Only (fun i => i = sp ∨ i = sq ∨ i = sg ∨ i = xb) w w' ∧ Row w' xb (splice cur off ((D.drop pos).take k))

/-- A read straight into a row of the caller's. -/
theorem SrcAt.direct {sp sq sg sd SS r pos xb off k : Nat} {buf D cur : List Value} {err : Value} {lb lr : Int} {w w2 w' : World} (h : SrcAt sp sq sg sd SS r r pos buf D err w) (hR : ReadDone sq sd xb off pos k D cur w w2) (hk : pos + k ≤ D.length) (hk1 : pos < D.length)
    (hx : xb ≠ sp ∧ xb ≠ sq ∧ xb ≠ sg ∧ xb ≠ sd) (hp : RdCells sp sq sg SS r r .nilIface lb lr w') (ho : Only (fun i => i = sp) w2 w') : SrcAt sp sq sg sd SS r r (pos + k) buf D .nilIface w' := by
  obtain ⟨ao, pr, a5, a6⟩ := h.hq
  obtain ⟨rfl, b2, b3, b4, b5⟩ : ao = some ⟨sd, 0, none⟩ ∧ Row w sd D ∧ sd ≠ sp ∧ sd ≠ sq ∧ sd ≠ sg := by
    rcases a6 with ⟨_, rfl⟩ | a6
    · simp at hk1
    · exact a6
  refine ⟨h.pq, h.pg, h.qg, ⟨lb, lr, hp⟩, ⟨some ⟨sd, 0, none⟩, -1, ?_, .inr ⟨rfl, ?_, b3, b4, b5⟩⟩, ?_, h.len, Nat.le_refl _, h.eS, h.S0, h.S1, by omega, by simp, h.hD, h.hbuf, h.lim⟩
  · rw [Nat.sub_self, Nat.add_zero]
    exact (ho.at (fun e => h.pq e.symm)).trans hR.hq
  · exact (ho.at b3).trans ((hR.only.at (fun e => e.elim (fun e => hx.2.2.2 e.symm) b4)).trans b2)
  · exact (ho.at (fun e => h.pg e.symm)).trans ((hR.only.at (fun e => e.elim (fun e => hx.2.2.1 e.symm) (fun e => h.qg e.symm))).trans h.hg)

/-- The array filled by one read. -/
theorem SrcAt.filled {p q g d S r pos k : Nat} {buf D : List Value} {lb lr : Int} {w w1 w2 w' : World} (h : SrcAt p q g d S r r pos buf D .nilIface w) (hpos : pos < D.length) (hk : k ≤ S ∧ pos + k ≤ D.length) (ho1 : Only (fun i => i = p) w w1) (hR : ReadDone q d g 0 pos k D buf w1 w2) (hp' : RdCells p q g S 0 k .nilIface lb lr w') (ho' : Only (fun i => i = p) w2 w') :
    SrcAt p q g d S 0 k pos (splice buf 0 ((D.drop pos).take k)) D .nilIface w' ∧ Only (fun i => i = p ∨ i = q ∨ i = g) w w' := by
  obtain ⟨ao, pr, a5, a6⟩ := h.hq
  obtain ⟨rfl, b2, b3, b4, b5⟩ : ao = some ⟨d, 0, none⟩ ∧ Row w d D ∧ d ≠ p ∧ d ≠ q ∧ d ≠ g := by
    rcases a6 with ⟨_, rfl⟩ | a6
    · simp at hpos
    · exact a6
  have hcs : ((D.drop pos).take k).length = k := by rw [List.length_take, List.length_drop]; omega
  refine ⟨⟨h.pq, h.pg, h.qg, ⟨lb, lr, hp'⟩, ⟨some ⟨d, 0, none⟩, -1, ?_, .inr ⟨rfl, ?_, b3, b4, b5⟩⟩, ?_, ?_, Nat.zero_le _, hk.1, h.S0, h.S1, ?_, ?_, h.hD, ?_, h.lim⟩, ?_⟩
  · rw [Nat.sub_zero]
    exact (ho'.at (fun e => h.pq e.symm)).trans hR.hq
  · exact (ho'.at b3).trans ((hR.only.at (fun e => e.elim b5 b4)).trans ((ho1.at b3).trans b2))
  · exact (ho'.at (fun e => h.pg e.symm)).trans hR.hx
  · rw [splice_length _ _ _ (by rw [hcs, h.len]; omega)]; exact h.len
  · omega
  · rw [Nat.sub_zero]; exact splice_head buf _ k hcs
  · exact h.hbuf.splice ((h.hD.drop pos).take k) 0
  · exact (ho1.mono (fun _ e => .inl e)).trans ((hR.only.mono (fun _ e => e.elim (fun e => .inr (.inr e)) (fun e => .inr (.inl e)))).trans (ho'.mono (fun _ e => .inl e)))

theorem SrcAt.dv {sp sq sg sd SS r pos : Nat} {buf D : List Value} {err : Value} {w : World} (h : SrcAt sp sq sg sd SS r r pos buf D err w) : ∃ (ao : Option Addr) (pr : Int), w.heap[sq]? = some (.cells #[.slice ao D.length D.length, .int .i64 (pos : Int), .int .i64 pr] 82 (0, 0)) ∧ (pos < D.length → ao = some ⟨sd, 0, none⟩ ∧ Row w sd D ∧ sd ≠ sp ∧ sd ≠ sq ∧ sd ≠ sg) := by
  obtain ⟨ao, pr, a5, a6⟩ := h.hq
  rw [Nat.sub_self, Nat.add_zero] at a5
  refine ⟨ao, pr, a5, fun hk => ?_⟩
  rcases a6 with ⟨_, rfl⟩ | a6
  · simp at hk
  · exact a6

set_option maxRecDepth 100000 in
set_option maxHeartbeats 2000000 in
theorem read77 (sp sq sg sd SS pos xb off n c : Nat) (D cur : List Value) (T : TypeId) (v : Value) (w : World) (h : SrcHas sp sq sg sd SS pos D w) (hx : Row w xb cur) (hcur : Byts cur) (hfit : off + n ≤ cur.length) (hn1 : 1 ≤ n) (hn2 : n ≤ 9223372036854775807) (hnc : n ≤ c)
    (hxs : xb ≠ sp ∧ xb ≠ sq ∧ xb ≠ sg ∧ xb ≠ sd) (hE : w.cell? ⟨3, 0, none⟩ = some (.iface T v)) (h3 : sp ≠ 3 ∧ sq ≠ 3 ∧ sg ≠ 3) :
    Calls Tryf.prog 77 #[.pointer (some ⟨sp, 0, none⟩), .slice (some ⟨xb, off, none⟩) n c] w fun x w' => ReadGot sp sq sg sd SS pos xb off n D cur T v w x w' := by
  obtain ⟨r, e, buf, hS⟩ := h
  obtain ⟨lb, lr, hp⟩ := hS.rd
  have hre := hS.re
  have heS := hS.eS
  have hS1 := hS.S1
  have hS0 := hS.S0
  have HS : Hid (SrcAt sp sq sg sd SS r e pos buf D .nilIface w) := hS
  have HP : Hid (RdCells sp sq sg SS r e .nilIface lb lr w) := hp
  have HX : Hid (Row w xb cur) := hx
  have HCUR : Hid (Byts cur) := hcur
  have HE : Hid (w.cell? ⟨3, 0, none⟩ = some (.iface T v)) := hE
  have HFIT : Hid (off + n ≤ cur.length) := hfit
  have c0 : w.cell? ⟨sp, 0, none⟩ = some (.slice (some ⟨sg, 0, none⟩) SS SS) := by rw [Lib.cell_of_heap hp]; rfl
  have c1 : w.cell? ⟨sp, 1, none⟩ = some (.iface 45 (.pointer (some ⟨sq, 0, none⟩))) := by rw [Lib.cell_of_heap hp]; rfl
  have c2 : w.cell? ⟨sp, 2, none⟩ = some (.int .i64 (r : Int)) := by rw [Lib.cell_of_heap hp]; rfl
  have c3 : w.cell? ⟨sp, 3, none⟩ = some (.int .i64 (e : Int)) := by rw [Lib.cell_of_heap hp]; rfl
  have c4 : w.cell? ⟨sp, 4, none⟩ = some .nilIface := by rw [Lib.cell_of_heap hp]; rfl
  have hn0 : ((n : Int) == 0) = false := by simp; omega
  have hn0' : ¬ n = 0 := by omega
  clear hp hx hS hcur hE hfit
  go_enter Tryf.func77, Tryf.ntmps77
  go_wp2_with fail
  go_quiet (fail)
  go_upto_if 23 with fail
  obtain ⟨w0, hw0⟩ : ∃ w0, w0 = w.drewN nq := ⟨_, rfl⟩
  have hsd : Same w w0 := by rw [hw0]; exact Same.drewN _ _
  rw [← hw0]
  clear hw0 c0 c1 c2 c3 c4
  have HO0 : Hid (Only (fun i => i = sp ∨ i = sq ∨ i = sg) w w0) := Only.of_same hsd
  have HS0 : Hid (SrcAt sp sq sg sd SS r e pos buf D .nilIface w0) := HS.out.keep (by rw [hsd.1]) (by rw [hsd.1]) (by rw [hsd.1]) (by rw [hsd.1])
  have hp0 : RdCells sp sq sg SS r e .nilIface lb lr w0 := hsd.at HP.out
  have HX0 : Hid (Row w0 xb cur) := hsd.at HX.out
  have HE0 : Hid (w0.cell? ⟨3, 0, none⟩ = some (.iface T v)) := (HO0.out.cell (fun e => e.elim (fun e => h3.1 e.symm) (fun e => e.elim (fun e => h3.2.1 e.symm) (fun e => h3.2.2 e.symm)))).trans HE.out
  have HP0 : Hid (RdCells sp sq sg SS r e .nilIface lb lr w0) := hp0
  clear hsd HS HP HX HE hp0
  go_cut [4] (fun v4 wc => ∃ r e buf, r < e ∧ SrcAt sp sq sg sd SS r e pos buf D .nilIface wc ∧ Only (fun i => i = sp ∨ i = sq ∨ i = sg) w wc ∧ Row wc xb cur)
  case first =>
    by_cases hre0 : r = e
    · subst hre0
      have c0 : w0.cell? ⟨sp, 0, none⟩ = some (.slice (some ⟨sg, 0, none⟩) SS SS) := by rw [Lib.cell_of_heap HP0.out]; rfl
      have c1 : w0.cell? ⟨sp, 1, none⟩ = some (.iface 45 (.pointer (some ⟨sq, 0, none⟩))) := by rw [Lib.cell_of_heap HP0.out]; rfl
      have c2 : w0.cell? ⟨sp, 2, none⟩ = some (.int .i64 (r : Int)) := by rw [Lib.cell_of_heap HP0.out]; rfl
      have c3 : w0.cell? ⟨sp, 3, none⟩ = some (.int .i64 (r : Int)) := by rw [Lib.cell_of_heap HP0.out]; rfl
      have c4 : w0.cell? ⟨sp, 4, none⟩ = some .nilIface := by rw [Lib.cell_of_heap HP0.out]; rfl
      have f2 := Lib.frozen_of_heap HP0.out 2
      have f4 := Lib.frozen_of_heap HP0.out 4
      have hmr := method_read ⟨sq, 0, none⟩
      obtain ⟨ao, pr, hq0, hdv⟩ := HS0.out.dv
      have HQ0 : Hid _ := hq0
      have HDV : Hid _ := hdv
      clear hq0 hdv
      by_cases hbig : SS ≤ n
      · have hbig' : (n : Int) ≥ (SS : Int) := by omega
        go_wp2_with fail
        have hxb := hxs.1
        have hxb' : ¬ sp = xb := fun e => hxs.1 e.symm
        by_cases hav : pos < D.length
        · obtain ⟨j, hj⟩ : ∃ j, j + 1 = Nat.min (D.length - pos) n := by
            refine ⟨Nat.min (D.length - pos) n - 1, ?_⟩
            simp only [Nat.min_def]; split <;> omega
          have hj2 : j + 1 ≤ n ∧ pos + (j + 1) ≤ D.length := by rw [hj]; simp only [Nat.min_def]; split <;> omega
          obtain ⟨rfl, hdr, hd1, hd2, hd3⟩ := HDV.out hav
          refine (read89_some sq sd xb off n c pos D.length (j + 1) D cur pr w0 rfl HQ0.out hav HS0.out.lim hdr HS0.out.hD HX0.out HFIT.out hj hxs.2.1 hxs.2.2.2 hd2 hn2).mono ?_
          rintro x w2 ⟨rfl, hR⟩
          have hp2 : RdCells sp sq sg SS r r .nilIface lb lr w2 := (hR.only.at (fun e => e.elim hxb' HS0.out.pq)).trans HP0.out
          have hcl : ((D.drop pos).take (j + 1)).length = j + 1 := by rw [List.length_take, List.length_drop]; omega
          have hsl := splice_length cur ((D.drop pos).take (j + 1)) off (by rw [hcl]; have := HFIT.out; omega)
          obtain ⟨nn, hnn⟩ := (HCUR.out.splice ((HS0.out.hD.drop pos).take (j + 1)) off).get (off + j) (by rw [hsl]; have := HFIT.out; omega)
          have e1 : w2.cell? ⟨xb, off + j, none⟩ = some (.int .u8 nn) := by rw [hR.hx.cell]; exact hnn
          clear c0 c1 c2 c3 c4 f2 f4
          have d4 : w2.cell? ⟨sp, 4, none⟩ = some .nilIface := by rw [Lib.cell_of_heap hp2]; rfl
          have d5 : w2.cell? ⟨sp, 5, none⟩ = some (.int .i64 lb) := by rw [Lib.cell_of_heap hp2]; rfl
          have d6 : w2.cell? ⟨sp, 6, none⟩ = some (.int .i64 lr) := by rw [Lib.cell_of_heap hp2]; rfl
          have g4 := Lib.frozen_of_heap hp2 4
          have g5 := Lib.frozen_of_heap hp2 5
          have g6 := Lib.frozen_of_heap hp2 6
          have HP2 : Hid (RdCells sp sq sg SS r r .nilIface lb lr w2) := hp2
          have HR2 : Hid _ := hR
          have hjn : j < n := by omega
          clear hp2 hR hnn hsl hcl hj
          go_wp2_with fail
          refine (readErr39 sp sq sg SS r r .nilIface _ _ _ (((HP2.out.store4 .nilIface).store5 (wrap64 nn)).store6 (-1))).mono ?_
          rintro x w3 ⟨rfl, hP3, hO3⟩
          have hO23 : Only (fun i => i = sp) w2 w3 := ((Only.setCell (S := fun i => i = sp) (p := ⟨sp, 4, none⟩) rfl _).trans ((Only.setCell (S := fun i => i = sp) (p := ⟨sp, 5, none⟩) rfl _).trans (Only.setCell (S := fun i => i = sp) (p := ⟨sp, 6, none⟩) rfl _))).trans hO3
          have HS3 : Hid (SrcAt sp sq sg sd SS r r (pos + (j + 1)) buf D .nilIface w3) := HS0.out.direct HR2.out hj2.2 hav hxs hP3 hO23
          have HX3 : Hid (Row w3 xb (splice cur off ((D.drop pos).take (j + 1)))) := (hO23.at hxb).trans HR2.out.hx
          have HO3 : Hid (Only (fun i => i = sp ∨ i = sq ∨ i = sg ∨ i = xb) w w3) := (HO0.out.mono (fun _ e => e.elim .inl (fun e => .inr (e.elim .inl (fun e => .inr (.inl e)))))).trans ((HR2.out.only.mono (fun _ e => e.elim (fun e => .inr (.inr (.inr e))) (fun e => .inr (.inl e)))).trans (hO23.mono (fun _ e => .inl e)))
          clear hP3 hO3 hO23 d4 d5 d6 g4 g5 g6 e1
          go_wp2
          go_ret2
          exact .inr ⟨j + 1, by omega, hj2.1, hj2.2, by go_num, ⟨r, r, buf, HS3.out⟩, HO3.out, HX3.out⟩
        · have hpe : pos = D.length := by have := HS0.out.fit; omega
          refine (read89_eof sq pos D.length ao pr _ (.iface T v) w0 HQ0.out (by omega) (by have := HS0.out.lim; omega) HE0.out).mono ?_
          rintro x w2 ⟨rfl, hs2⟩
          have hp2 : RdCells sp sq sg SS r r .nilIface lb lr w2 := hs2.at HP0.out
          clear c0 c1 c2 c3 c4 f2 f4
          have d4 : w2.cell? ⟨sp, 4, none⟩ = some .nilIface := by rw [Lib.cell_of_heap hp2]; rfl
          have g4 := Lib.frozen_of_heap hp2 4
          have HP2 : Hid (RdCells sp sq sg SS r r .nilIface lb lr w2) := hp2
          have HS2 : Hid (Same w0 w2) := hs2
          clear hp2 hs2
          go_wp2_with fail
          refine (readErr39 sp sq sg SS r r (.iface T v) lb lr _ (HP2.out.store4 (.iface T v))).mono ?_
          rintro x w3 ⟨rfl, hP3, hO3⟩
          have hO23 : Only (fun i => i = sp) w0 w3 := (Only.of_same HS2.out).trans ((Only.setCell (S := fun i => i = sp) (p := ⟨sp, 4, none⟩) rfl _).trans hO3)
          have HS3 : Hid (SrcAt sp sq sg sd SS r r pos buf D .nilIface w3) := HS0.out.with hP3 hO23
          have HX3 : Hid (Row w3 xb cur) := (hO23.at hxb).trans HX0.out
          have HO3 : Hid (Only (fun i => i = sp ∨ i = sq ∨ i = sg ∨ i = xb) w w3) := (HO0.out.mono (fun _ e => e.elim .inl (fun e => .inr (e.elim .inl (fun e => .inr (.inl e)))))).trans (hO23.mono (fun _ e => .inl e))
          clear hP3 hO3 hO23 d4 g4
          go_wp2
          go_ret2
          exact .inl ⟨hpe, rfl, ⟨r, r, buf, HS3.out⟩, HO3.out, HX3.out⟩
      · have hbig' : ¬ ((n : Int) ≥ (SS : Int)) := by omega
        have hp1 : RdCells sp sq sg SS 0 r .nilIface lb lr (w0.setCell ⟨sp, 2, none⟩ (.int .i64 0)) := HP0.out.store2 0
        have c3' : (w0.setCell ⟨sp, 2, none⟩ (.int .i64 0)).cell? ⟨sp, 3, none⟩ = some (.int .i64 (r : Int)) := by rw [Lib.cell_of_heap hp1]; rfl
        have f3' := Lib.frozen_of_heap hp1 3
        have HP1 : Hid (RdCells sp sq sg SS 0 0 .nilIface lb lr ((w0.setCell ⟨sp, 2, none⟩ (.int .i64 0)).setCell ⟨sp, 3, none⟩ (.int .i64 0))) := hp1.store3 0
        clear hp1
        go_wp2_with fail
        obtain ⟨w1, hw1⟩ : ∃ w1, w1 = (w0.setCell ⟨sp, 2, none⟩ (.int .i64 0)).setCell ⟨sp, 3, none⟩ (.int .i64 0) := ⟨_, rfl⟩
        rw [← hw1]
        have HO1 : Hid (Only (fun i => i = sp) w0 w1) := by
          show Only (fun i => i = sp) w0 w1
          rw [hw1]
          exact (Only.setCell (S := fun i => i = sp) (p := ⟨sp, 2, none⟩) rfl _).trans (Only.setCell (S := fun i => i = sp) (p := ⟨sp, 3, none⟩) rfl _)
        have HP1' : Hid (RdCells sp sq sg SS 0 0 .nilIface lb lr w1) := by
          show RdCells sp sq sg SS 0 0 .nilIface lb lr w1
          rw [hw1]; exact HP1.out
        clear hw1 HP1 c0 c1 c2 c3 c4 f2 f4 c3' f3'
        have c0 : w1.cell? ⟨sp, 0, none⟩ = some (.slice (some ⟨sg, 0, none⟩) SS SS) := by rw [Lib.cell_of_heap HP1'.out]; rfl
        have c1 : w1.cell? ⟨sp, 1, none⟩ = some (.iface 45 (.pointer (some ⟨sq, 0, none⟩))) := by rw [Lib.cell_of_heap HP1'.out]; rfl
        have HOd : Hid (Only (fun i => i = sp) w0 w1.drew) := HO1.out.trans (Only.of_same ⟨rfl, rfl, rfl, rfl⟩)
        have HQ1 : Hid _ := (HOd.out.at (fun e => HS0.out.pq e.symm)).trans HQ0.out
        have HX1 : Hid (Row w1 xb cur) := (HO1.out.at hxs.1).trans HX0.out
        by_cases hav : pos < D.length
        · obtain ⟨k, hk⟩ : ∃ k, k = Nat.min (D.length - pos) SS := ⟨_, rfl⟩
          have hk' : k ≤ SS ∧ 1 ≤ k ∧ pos + k ≤ D.length := by rw [hk]; simp only [Nat.min_def]; split <;> omega
          obtain ⟨rfl, hdr, hd1, hd2, hd3⟩ := HDV.out hav
          have HRD : Hid (Calls Tryf.prog 89 #[.pointer (some ⟨sq, 0, none⟩), .slice (some ⟨sg, 0, none⟩) SS SS] w1.drew fun x w2 => x = .returned (.tuple #[.int .i64 (k : Int), .nilIface]) ∧ RdCells sp sq sg SS 0 0 .nilIface lb lr w2 ∧ ReadDone sq sd sg 0 pos k D buf w1.drew w2) := by
            refine (read89_some sq sd sg 0 SS SS pos D.length k D buf pr w1.drew rfl HQ1.out hav HS0.out.lim ((HOd.out.at hd1).trans hdr) HS0.out.hD ((HOd.out.at (fun e => HS0.out.pg e.symm)).trans HS0.out.hg) (by rw [HS0.out.len]; omega) hk (fun e => HS0.out.qg e.symm) (fun e => hd3 e.symm) hd2 (by omega)).mono ?_
            rintro x w2 ⟨rfl, hR⟩
            exact ⟨rfl, (hR.only.at (fun e => e.elim HS0.out.pg HS0.out.pq)).trans HP1'.out, hR⟩
          clear hk hdr
          go_region_held3 (fun w' => w'.cell? ⟨sp, 0, none⟩ = some (.slice (some ⟨sg, 0, none⟩) SS SS) ∧ w'.cell? ⟨sp, 1, none⟩ = some (.iface 45 (.pointer (some ⟨sq, 0, none⟩)))) (simp [go_sem, *])
            ((go_at_call 89; refine Calls.mono HRD.out ?_; rintro x w2 ⟨rfl, hp2, hR2⟩; have d0 : w2.cell? ⟨sp, 0, none⟩ = some (.slice (some ⟨sg, 0, none⟩) SS SS) := (by rw [Lib.cell_of_heap hp2]; rfl); have d1 : w2.cell? ⟨sp, 1, none⟩ = some (.iface 45 (.pointer (some ⟨sq, 0, none⟩))) := (by rw [Lib.cell_of_heap hp2]; rfl); have d4 : w2.cell? ⟨sp, 4, none⟩ = some .nilIface := (by rw [Lib.cell_of_heap hp2]; rfl); have g4 := Lib.frozen_of_heap hp2 4; have HP2 : Hid (RdCells sp sq sg SS 0 0 .nilIface lb lr w2) := hp2; have HR2 : Hid (ReadDone sq sd sg 0 pos k D buf w1.drew w2) := hR2; clear hp2 hR2))
          have hp4 := HP2.out.store4 .nilIface
          clear c0 c1 d0 d1 d4 g4
          have d3 : (w2.setCell ⟨sp, 4, none⟩ .nilIface).cell? ⟨sp, 3, none⟩ = some (.int .i64 0) := by rw [Lib.cell_of_heap hp4]; rfl
          have g3 := Lib.frozen_of_heap hp4 3
          have hk0 : ((k : Int) == 0) = false := by simp; omega
          have hk0' : ¬ k = 0 := by omega
          obtain ⟨hS5, hO5⟩ := HS0.out.filled hav ⟨hk'.1, hk'.2.2⟩ HOd.out HR2.out (hp4.store3 k) ((Only.setCell (S := fun i => i = sp) (p := ⟨sp, 4, none⟩) rfl _).trans (Only.setCell (S := fun i => i = sp) (p := ⟨sp, 3, none⟩) rfl _))
          have HX5 : Hid (Row ((w2.setCell ⟨sp, 4, none⟩ .nilIface).setCell ⟨sp, 3, none⟩ (.int .i64 (k : Int))) xb cur) := (hO5.at (fun e => e.elim hxs.1 (fun e => e.elim hxs.2.1 hxs.2.2.1))).trans HX0.out
          have HS5 : Hid _ := hS5
          have HO5 : Hid _ := hO5
          clear hp4 hS5 hO5
          go_wp2
          go_meet
          exact ⟨0, k, _, by omega, HS5.out, HO0.out.trans HO5.out, HX5.out⟩
        · have hpe : pos = D.length := by have := HS0.out.fit; omega
          have HRD : Hid (Calls Tryf.prog 89 #[.pointer (some ⟨sq, 0, none⟩), .slice (some ⟨sg, 0, none⟩) SS SS] w1.drew fun x w2 => x = .returned (.tuple #[.int .i64 0, .iface T v]) ∧ RdCells sp sq sg SS 0 0 .nilIface lb lr w2 ∧ Same w1.drew w2) := by
            refine (read89_eof sq pos D.length ao pr _ (.iface T v) w1.drew HQ1.out (by omega) (by have := HS0.out.lim; omega) ((HOd.out.cell (fun e => h3.1 e.symm)).trans HE0.out)).mono ?_
            rintro x w2 ⟨rfl, hs2⟩
            exact ⟨rfl, hs2.at HP1'.out, hs2⟩
          go_region_held3 (fun w' => w'.cell? ⟨sp, 0, none⟩ = some (.slice (some ⟨sg, 0, none⟩) SS SS) ∧ w'.cell? ⟨sp, 1, none⟩ = some (.iface 45 (.pointer (some ⟨sq, 0, none⟩)))) (simp [go_sem, *])
            ((go_at_call 89; refine Calls.mono HRD.out ?_; rintro x w2 ⟨rfl, hp2, hR2⟩; have d0 : w2.cell? ⟨sp, 0, none⟩ = some (.slice (some ⟨sg, 0, none⟩) SS SS) := (by rw [Lib.cell_of_heap hp2]; rfl); have d1 : w2.cell? ⟨sp, 1, none⟩ = some (.iface 45 (.pointer (some ⟨sq, 0, none⟩))) := (by rw [Lib.cell_of_heap hp2]; rfl); have d4 : w2.cell? ⟨sp, 4, none⟩ = some .nilIface := (by rw [Lib.cell_of_heap hp2]; rfl); have g4 := Lib.frozen_of_heap hp2 4; have HP2 : Hid (RdCells sp sq sg SS 0 0 .nilIface lb lr w2) := hp2; have HR2 : Hid (Same w1.drew w2) := hR2; clear hp2 hR2))
          clear c0 c1 d0 d1 d4 g4
          go_wp2_with fail
          refine (readErr39 sp sq sg SS 0 0 (.iface T v) lb lr _ (HP2.out.store4 (.iface T v))).mono ?_
          rintro x w3 ⟨rfl, hP3, hO3⟩
          have hO23 : Only (fun i => i = sp) w0 w3 := HOd.out.trans ((Only.of_same HR2.out).trans ((Only.setCell (S := fun i => i = sp) (p := ⟨sp, 4, none⟩) rfl _).trans hO3))
          have HS3 : Hid (SrcAt sp sq sg sd SS 0 0 pos buf D .nilIface w3) := by
            have h := HS0.out
            obtain ⟨ao, pr, a5, a6⟩ := h.hq
            rw [Nat.sub_self] at a5
            refine ⟨h.pq, h.pg, h.qg, ⟨lb, lr, hP3⟩, ⟨ao, pr, (hO23.at (fun e => h.pq e.symm)).trans a5, ?_⟩, (hO23.at (fun e => h.pg e.symm)).trans h.hg, h.len, Nat.le_refl _, Nat.zero_le _, h.S0, h.S1, by omega, by simp, h.hD, h.hbuf, h.lim⟩
            rcases a6 with a6 | ⟨b1, b2, b3, b4, b5⟩
            · exact .inl a6
            · exact .inr ⟨b1, (hO23.at b3).trans b2, b3, b4, b5⟩
          have HX3 : Hid (Row w3 xb cur) := (hO23.at hxs.1).trans HX0.out
          have HO3 : Hid (Only (fun i => i = sp ∨ i = sq ∨ i = sg ∨ i = xb) w w3) := (HO0.out.mono (fun _ e => e.elim .inl (fun e => .inr (e.elim .inl (fun e => .inr (.inl e)))))).trans (hO23.mono (fun _ e => .inl e))
          clear hP3 hO3 hO23
          go_wp2
          go_ret2
          exact .inl ⟨hpe, rfl, ⟨0, 0, buf, HS3.out⟩, HO3.out, HX3.out⟩
    · have hre1 : ((r : Int) == (e : Int)) = false := by simp; omega
      go_wp2
      go_meet
      exact ⟨r, e, buf, by omega, HS0.out, HO0.out, HX0.out⟩
  case rest =>
    clear HO0 HS0 HX0 HE0 HP0 hre heS hn0 hn0'
    obtain ⟨r, e, buf, hlt, hS, hO, hX⟩ := hcut
    obtain ⟨lb, lr, hp⟩ := hS.rd
    have heS := hS.eS
    have hfitD := hS.fit
    obtain ⟨k, hk⟩ : ∃ k, k = Nat.min (e - r) n := ⟨_, rfl⟩
    have hk' : 1 ≤ k ∧ k ≤ n ∧ k ≤ e - r := by rw [hk]; simp only [Nat.min_def]; split <;> omega
    obtain ⟨cs, hcs⟩ : ∃ cs, cs = (buf.drop r).take k := ⟨_, rfl⟩
    have hcl : cs.length = k := by rw [hcs, List.length_take, List.length_drop, hS.len]; omega
    have hcD : cs = (D.drop pos).take k := by
      rw [hcs]
      have h1 := congrArg (List.take k) hS.same
      rw [List.take_take, List.take_take, Nat.min_eq_left hk'.2.2] at h1
      exact h1
    have hcb : Byts cs := by rw [hcs]; exact (hS.hbuf.drop r).take k
    have c0 : wc.cell? ⟨sp, 0, none⟩ = some (.slice (some ⟨sg, 0, none⟩) SS SS) := by rw [Lib.cell_of_heap hp]; rfl
    have c2 : wc.cell? ⟨sp, 2, none⟩ = some (.int .i64 (r : Int)) := by rw [Lib.cell_of_heap hp]; rfl
    have c3 : wc.cell? ⟨sp, 3, none⟩ = some (.int .i64 (e : Int)) := by rw [Lib.cell_of_heap hp]; rfl
    have H1 : Hid (Row wc.drew xb cur) := hX
    have H2 : Hid (cs.length = k) := hcl
    have H3 : Hid (k = Nat.min (e - r) n) := hk
    have H4 : Hid (∀ j v, cs[j]? = some v → wc.cell? ((⟨sg, r, none⟩ : Addr).add j) = some v) := by
      intro j v hv
      rw [Go.WideShapes.add_plain, hS.hg.cell]
      rw [hcs, List.getElem?_take] at hv
      split at hv
      · rw [List.getElem?_drop] at hv; exact hv
      · cases hv
    have H5 : Hid (off + k ≤ cur.length) := by show off + k ≤ cur.length; have := HFIT.out; omega
    have H6 : Hid _ := hcb.one
    have HSc : Hid (SrcAt sp sq sg sd SS r e pos buf D .nilIface wc) := hS
    have HPc : Hid (RdCells sp sq sg SS r e .nilIface lb lr wc) := hp
    have HOc : Hid (Only (fun i => i = sp ∨ i = sq ∨ i = sg) w wc) := hO
    have HCD : Hid (cs = (D.drop pos).take k) := hcD
    clear hk hcs hcl hcD hcb hS hO hX hp
    have hSr : ¬ SS = r := by omega
    have hrS : r ≤ e := by omega
    go_upto_region 25 with fail
    go_cut [4] (fun v4 wd => v4 = .int .i64 (k : Int) ∧ Row wd xb (splice cur off cs) ∧ Only (fun i => i = xb) wc wd)
    case first =>
      go_region_law (refine step_copy_n rfl (.tmp 109) (.tmp 122) rfl (some ⟨xb, off, none⟩) (some ⟨sg, r, none⟩) n c (e - r) (SS - r) (by simp [Act.eval, Act.put]) (by simp [Act.eval, Act.put]) xb off k cur cs H1.out H2.out H3.out (fun h => ⟨rfl, _, rfl, H4.out⟩) H5.out H6.out ?_)
      all_goals go_wp2
      all_goals go_meet
      all_goals exact ⟨rfl, H1.out.splice off cs, (Only.of_same (a := wc) (b := wc.drew) ⟨rfl, rfl, rfl, rfl⟩).trans ⟨by simp, fun M => Keeps.setRow (S := fun i => i = xb) (.inr rfl) _⟩⟩
    case rest =>
      obtain ⟨rfl, hX2, hO2⟩ := hcut
      rename World => wd
      have hp2 : RdCells sp sq sg SS r e .nilIface lb lr wd := (hO2.at (fun e => hxs.1 e.symm)).trans HPc.out
      have hg2 : Row wd sg buf := (hO2.at (fun e => hxs.2.2.1 e.symm)).trans HSc.out.hg
      clear c0 c2 c3
      have c2 : wd.cell? ⟨sp, 2, none⟩ = some (.int .i64 (r : Int)) := by rw [Lib.cell_of_heap hp2]; rfl
      have f2 := Lib.frozen_of_heap hp2 2
      have hcast : (((r + k : Nat) : Int)) = (r : Int) + (k : Int) := by omega
      have hp3 := hp2.store2 (r + k)
      rw [hcast] at hp3
      clear hcast
      obtain ⟨nn, hnn⟩ := HSc.out.hbuf.get (r + k - 1) (by rw [HSc.out.len]; omega)
      have hg3 : Row (wd.setCell ⟨sp, 2, none⟩ (.int .i64 ((r : Int) + (k : Int)))) sg buf := by
        unfold Row; rw [Below.heap_setCell _ _ _ _ (by show sg ≠ sp; exact fun e => HSc.out.pg e.symm)]; exact hg2
      have HP3 : Hid (RdCells sp sq sg SS (r + k) e .nilIface lb lr (wd.setCell ⟨sp, 2, none⟩ (.int .i64 ((r : Int) + (k : Int))))) := hp3
      have HG3 : Hid _ := hg3
      have HX2 : Hid (Row wd xb (splice cur off cs)) := hX2
      have HO2 : Hid _ := hO2
      have HNN : Hid (buf[r + k - 1]? = some (.int .u8 nn)) := hnn
      clear hp2 hg2 hp3 hg3 hX2 hO2 hnn
      go_upto_region 27 with fail
      obtain ⟨w3, hw3⟩ : ∃ w3, w3 = wd.setCell ⟨sp, 2, none⟩ (.int .i64 ((r : Int) + (k : Int))) := ⟨_, rfl⟩
      rw [← hw3]
      have hp3 : RdCells sp sq sg SS (r + k) e .nilIface lb lr w3 := by rw [hw3]; exact HP3.out
      have hg3 : Row w3 sg buf := by rw [hw3]; exact HG3.out
      have HO3 : Hid (Only (fun i => i = sp ∨ i = xb) wd w3) := by
        show Only (fun i => i = sp ∨ i = xb) wd w3
        rw [hw3]; exact Only.setCell (S := fun i => i = sp ∨ i = xb) (p := ⟨sp, 2, none⟩) (.inl rfl) _
      have HX3 : Hid (Row w3 xb (splice cur off cs)) := by
        show Row w3 xb (splice cur off cs)
        unfold Row
        rw [hw3, Below.heap_setCell _ _ _ _ (by show xb ≠ sp; exact hxs.1)]; exact HX2.out
      clear hw3 c2 f2 HP3 HG3
      have c0 : w3.cell? ⟨sp, 0, none⟩ = some (.slice (some ⟨sg, 0, none⟩) SS SS) := by rw [Lib.cell_of_heap hp3]; rfl
      have c2 : w3.cell? ⟨sp, 2, none⟩ = some (.int .i64 ((r : Int) + (k : Int))) := by rw [Lib.cell_of_heap hp3]; rfl
      have c5 : w3.cell? ⟨sp, 5, none⟩ = some (.int .i64 lb) := by rw [Lib.cell_of_heap hp3]; rfl
      have f5 := Lib.frozen_of_heap hp3 5
      obtain ⟨t1, ht1⟩ : ∃ t1, t1 + 1 = r + k := ⟨r + k - 1, by omega⟩
      have cg : w3.cell? ⟨sg, t1, none⟩ = some (.int .u8 nn) := by rw [hg3.cell, ← HNN.out, ← ht1]; rfl
      have hrk : (r : Int) + (k : Int) = (t1 : Int) + 1 := by omega
      rw [hrk] at c2
      have ht1S : t1 < SS := by omega
      have HP4 : Hid (RdCells sp sq sg SS (r + k) e .nilIface lb lr w3) := hp3
      clear hp3 hg3 hrk
      go_cut [] (fun we => ∃ lb', RdCells sp sq sg SS (r + k) e .nilIface lb' lr we ∧ Only (fun i => i = sp) w3 we)
      case first =>
        go_region
        all_goals go_wp2
        all_goals go_meet
        all_goals exact ⟨_, (HP4.out : RdCells sp sq sg SS (r + k) e .nilIface lb lr w3.drew).store5 _, (Only.of_same (a := w3) (b := w3.drew) ⟨rfl, rfl, rfl, rfl⟩).trans (Only.setCell (S := fun i => i = sp) (p := ⟨sp, 5, none⟩) rfl _)⟩
      case rest =>
        obtain ⟨lb', hp5, hO5⟩ := hcut
        clear c0 c2 c5 f5 cg
        have c6 : wc.cell? ⟨sp, 6, none⟩ = some (.int .i64 lr) := by rw [Lib.cell_of_heap hp5]; rfl
        have f6 := Lib.frozen_of_heap hp5 6
        have hp6 := hp5.store6 (-1)
        have hO6 : Only (fun i => i = sp) w3 (wc.setCell ⟨sp, 6, none⟩ (.int .i64 (-1))) := hO5.trans (Only.setCell (S := fun i => i = sp) (p := ⟨sp, 6, none⟩) rfl _)
        have HX6 : Hid (Row (wc.setCell ⟨sp, 6, none⟩ (.int .i64 (-1))) xb (splice cur off ((D.drop pos).take k))) := by
          rw [← HCD.out]
          exact (hO6.at hxs.1).trans HX3.out
        have hO7 : Only (fun i => i = sp ∨ i = xb) _ (wc.setCell ⟨sp, 6, none⟩ (.int .i64 (-1))) := ((HO2.out.mono (S' := fun i => i = sp ∨ i = xb) (fun _ e => .inr e)).trans HO3.out).trans (hO6.mono (fun _ e => .inl e))
        have HS6 : Hid (SrcAt sp sq sg sd SS (r + k) e (pos + k) buf D .nilIface (wc.setCell ⟨sp, 6, none⟩ (.int .i64 (-1)))) := by
          have h := HSc.out
          obtain ⟨ao, pr, a5, a6⟩ := h.hq
          have h1 := hk'.2.2
          refine ⟨h.pq, h.pg, h.qg, ⟨_, _, hp6⟩, ⟨ao, pr, ?_, ?_⟩, (hO7.at (fun e => e.elim (fun e => h.pg e.symm) (fun e => hxs.2.2.1 e.symm))).trans h.hg, h.len, by omega, h.eS, h.S0, h.S1, by omega, drop_take_more _ _ _ _ _ _ h1 h.same, h.hD, h.hbuf, h.lim⟩
          · rw [show pos + k + (e - (r + k)) = pos + (e - r) from by omega]
            exact (hO7.at (fun e => e.elim (fun e => h.pq e.symm) (fun e => hxs.2.1 e.symm))).trans a5
          · rcases a6 with a6 | ⟨b1, b2, b3, b4, b5⟩
            · exact .inl a6
            · exact .inr ⟨b1, (hO7.at (fun e => e.elim b3 (fun e => hxs.2.2.2 e.symm))).trans b2, b3, b4, b5⟩
        have HO6 : Hid (Only (fun i => i = sp ∨ i = sq ∨ i = sg ∨ i = xb) w (wc.setCell ⟨sp, 6, none⟩ (.int .i64 (-1)))) := (HOc.out.mono (fun _ e => e.elim .inl (fun e => .inr (e.elim .inl (fun e => .inr (.inl e)))))).trans (hO7.mono (fun _ e => e.elim .inl (fun e => .inr (.inr (.inr e)))))
        clear hp5 hp6 hO5 hO6 hO7
        go_wp2
        go_ret2
        exact .inr ⟨k, hk'.1, hk'.2.1, by omega, rfl, ⟨r + k, e, buf, HS6.out⟩, HO6.out, HX6.out⟩
end Go.Proofs.Qxb6612850aFmt
