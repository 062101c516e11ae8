/- CopyLength. -/
import Derived.Test.Qxb6612850aFmtDst
import Derived.Test.Qxb6612850aFmtDisc
import Derived.Test.Qxb6612850aFmtErr
namespace Go.Proofs.Qxb6612850aFmt
open Go.RowKit Go.Deep Go.Extern.Stop Go.Stop Go.Extern
set_option linter.unusedVariables false

/-- Where the sentinels lie, and that none of the eight blocks is one of theirs. -/
structure Sent (F : Interp) (a3 a4 : Addr) (s : ByteArray) (w : World) : Prop where
  hF : F.answers w.tape
  h3 : w.cell? ⟨3, 0, none⟩ = some (.iface 123 (.pointer (some a3)))
  h4 : w.cell? ⟨4, 0, none⟩ = some (.iface 123 (.pointer (some a4)))
  hs : w.cell? a4 = some (.string s)

theorem Sent.keep {F : Interp} {a3 a4 : Addr} {s : ByteArray} {w w' : World} {M : Nat} {S : Nat → Prop} (h : Sent F a3 a4 s w) (k : Keeps M S w w') (h3 : 3 < M ∧ ¬ S 3) (h4 : 4 < M ∧ ¬ S 4) (ha : a4.block < M ∧ ¬ S a4.block) : Sent F a3 a4 s w' :=
  ⟨by rw [k.tape]; exact h.hF, k.cell h.h3 h3.1 h3.2, k.cell h.h4 h4.1 h4.2, by rw [World.cell?_of_block (w := w) (a := a4) (k.block _ ha.1 ha.2)]; exact h.hs⟩

/-- The destination: DstAt with all that was written so far. -/
def DstHas (M p b g S : Nat) (out : List Value) (w : World) : Prop := ∃ n bs buf, DstAt M p b g S n bs buf w ∧ bs ++ buf.take n = out

/-- The source: D from pos on is still to come. -/
def SrcHas (p q g d S pos : Nat) (D : List Value) (w : World) : Prop := ∃ r e buf, SrcAt p q g d S r e pos buf D .nilIface w

/-- The blocks of both lie apart, and apart from the sentinels. -/
structure Apart (M p b g sp sq sg sd : Nat) (a4 : Addr) : Prop where
  p3 : ∀ k, k = p ∨ k = b ∨ k = g ∨ k = sp ∨ k = sq ∨ k = sg → k ≠ 3 ∧ k ≠ 4 ∧ k ≠ a4.block
  m3 : 3 < M ∧ 4 < M ∧ a4.block < M
  sM : sp < M ∧ sq < M ∧ sg < M ∧ sd < M
  ne : ∀ k, k = sp ∨ k = sq ∨ k = sg ∨ k = sd → k ≠ p ∧ k ≠ b ∧ k ≠ g

theorem DstAt.lt {M p b g S n : Nat} {bs buf : List Value} {w : World} (h : DstAt M p b g S n bs buf w) : b < M := h.hI.1

/-- A change of the source's blocks alone. -/
theorem DstAt.only {M p b g S n : Nat} {bs buf : List Value} {w w' : World} {Q : Nat → Prop} (h : DstAt M p b g S n bs buf w) (o : Only Q w w') (hp : ¬ Q p) (hb : ¬ Q b) (hg : ¬ Q g) (hM : ∀ k, Q k → k < M) : DstAt M p b g S n bs buf w' := by
  obtain ⟨i1, v, lr, i2, i3⟩ := h.hI
  refine ⟨h.pM, h.gM, h.pb, h.gb, h.pg, by rw [o.size]; exact h.hM, (o.at hp).trans h.hp, (o.at hg).trans h.hg, h.len, h.nS, h.S0, h.S1, ⟨i1, v, lr, (o.at hb).trans i2, ?_⟩, h.hbs, h.hbuf⟩
  rcases i3 with i3 | ⟨x, cap, cur, e1, e2, e3, e4⟩
  · exact .inl i3
  · exact .inr ⟨x, cap, cur, e1, e2, (o.at (fun hx => by have := hM _ hx; omega)).trans e3, e4⟩

theorem SrcAt.keepM {p q g d S r e pos M : Nat} {buf D : List Value} {err : Value} {w w' : World} {Q : Nat → Prop} (h : SrcAt p q g d S r e pos buf D err w) (k : Keeps M Q w w') (hp : p < M ∧ ¬ Q p) (hq : q < M ∧ ¬ Q q) (hg : g < M ∧ ¬ Q g) (hd : d < M ∧ ¬ Q d) : SrcAt p q g d S r e pos buf D err w' :=
  h.keep (k.block _ hp.1 hp.2) (k.block _ hq.1 hq.2) (k.block _ hg.1 hg.2) (k.block _ hd.1 hd.2)

theorem flush_any (M p b g S : Nat) (out : List Value) (w : World) (h : DstHas M p b g S out w) (hl : out.length ≤ 1099511627776) :
    Calls Tryf.prog 26 #[.pointer (some ⟨p, 0, none⟩)] w fun e w' => e = .returned .nilIface ∧ DstHas M p b g S out w' ∧ Keeps M (fun k => k = p ∨ k = b ∨ k = g) w w' := by
  obtain ⟨n, bs, buf, hD, ho⟩ := h
  by_cases hn : n = 0
  · subst hn
    refine (flush_zero M p b g S bs buf w hD).mono ?_
    rintro e w1 ⟨rfl, rfl⟩
    exact ⟨rfl, ⟨0, bs, buf, hD, ho⟩, Keeps.refl _ _ _⟩
  · refine (flush_some M p b g S n bs buf w hD (by omega) ?_).mono ?_
    · have h1 := congrArg List.length ho
      rw [List.length_append, List.length_take, hD.len] at h1
      have := hD.nS
      omega
    · rintro e w1 ⟨rfl, hD1, hK⟩
      exact ⟨rfl, ⟨0, _, buf, hD1, by rw [List.take_zero, List.append_nil]; exact ho⟩, hK.mono (Nat.le_refl _) (fun _ _ e => e.elim .inl (fun e => .inr (.inl e)))⟩

theorem write_any (M p b g S m c xb xo : Nat) (P out : List Value) (w : World) (h : DstHas M p b g S out w) (hP : P.length = m) (hPb : Byts P) (hm : m ≤ 1048576) (hmc : m ≤ c)
    (hx : xb < M ∧ xb ≠ p ∧ xb ≠ b ∧ xb ≠ g) (hr : ∀ j v, P[j]? = some v → w.cell? ⟨xb, xo + j, none⟩ = some v) (hlim : out.length + m ≤ 1099510000000) :
    Calls Tryf.prog 24 #[.pointer (some ⟨p, 0, none⟩), .slice (some ⟨xb, xo, none⟩) m c] w fun e w' => e = .returned (.tuple #[.int .i64 m, .nilIface]) ∧ DstHas M p b g S (out ++ P) w' ∧ Keeps M (fun i => i = p ∨ i = b ∨ i = g) w w' := by
  obtain ⟨n, bs, buf, hD, ho⟩ := h
  have h1 := congrArg List.length ho
  rw [List.length_append, List.length_take, hD.len] at h1
  have h2 := hD.nS
  refine (write24 M p b g S n m c xb xo bs buf P (some ⟨xb, xo, none⟩) w hD hP hPb hm hmc (fun _ => rfl) (fun _ => hx) hr (by omega)).mono ?_
  rintro e w1 ⟨rfl, n', bs', buf', hD', hj, hK⟩
  exact ⟨rfl, ⟨n', bs', buf', hD', by rw [hj, ho]⟩, hK⟩

/-- What the copy has come to after m bytes. -/
structure Copied (F : Interp) (a3 a4 : Addr) (s : ByteArray) (M p b g S sp sq sg sd SS pos m : Nat) (D out : List Value) (w w' : World) : Prop where
  dst : DstHas M p b g S (out ++ (D.drop pos).take m) w'
  src : SrcHas sp sq sg sd SS (pos + m) D w'
  sent : Sent F a3 a4 s w'
  keeps : Keeps M (fun i => i = p ∨ i = b ∨ i = g ∨ i = sp ∨ i = sq ∨ i = sg) w w'

/-- How many bytes are copied. -/
def copyCount (n : Int) (A : Nat) : Nat := if n ≤ (A : Int) then n.toNat else A

section
variable {F : Interp} {a3 a4 : Addr} {s : ByteArray} {M p b g S sp sq sg sd SS : Nat} {w w' : World}
theorem Apart.sentS (ap : Apart M p b g sp sq sg sd a4) (h : Sent F a3 a4 s w) (k : Keeps M (fun i => i = p ∨ i = b ∨ i = g ∨ i = sp ∨ i = sq ∨ i = sg) w w') : Sent F a3 a4 s w' := by
  refine h.keep k ⟨ap.m3.1, fun e => (ap.p3 _ e).1 rfl⟩ ⟨ap.m3.2.1, fun e => (ap.p3 _ e).2.1 rfl⟩ ⟨ap.m3.2.2, fun e => (ap.p3 _ e).2.2 rfl⟩
theorem Apart.dstKeeps {k : Keeps M (fun i => i = p ∨ i = b ∨ i = g) w w'} : Keeps M (fun i => i = p ∨ i = b ∨ i = g ∨ i = sp ∨ i = sq ∨ i = sg) w w' := k.mono (Nat.le_refl _) (fun _ _ e => e.elim .inl (fun e => .inr (e.elim .inl (fun e => .inr (.inl e)))))
theorem Apart.srcKeeps {k : Keeps M (fun i => i = sp ∨ i = sq ∨ i = sg) w w'} : Keeps M (fun i => i = p ∨ i = b ∨ i = g ∨ i = sp ∨ i = sq ∨ i = sg) w w' := k.mono (Nat.le_refl _) (fun _ _ e => .inr (.inr (.inr e)))
theorem Apart.dstOnly (ap : Apart M p b g sp sq sg sd a4) {out : List Value} (h : DstHas M p b g S out w) (o : Only (fun i => i = sp ∨ i = sq ∨ i = sg) w w') : DstHas M p b g S out w' := by
  obtain ⟨n, bs, buf, hD, ho⟩ := h
  refine ⟨n, bs, buf, hD.only o ?_ ?_ ?_ ?_, ho⟩
  · intro e; exact (ap.ne _ (by rcases e with e | e | e <;> simp [e])).1 rfl
  · intro e; exact (ap.ne _ (by rcases e with e | e | e <;> simp [e])).2.1 rfl
  · intro e; exact (ap.ne _ (by rcases e with e | e | e <;> simp [e])).2.2 rfl
  · intro k e
    have h1 := ap.sM
    rcases e with rfl | rfl | rfl
    · exact h1.1
    · exact h1.2.1
    · exact h1.2.2.1
theorem Apart.srcKeep (ap : Apart M p b g sp sq sg sd a4) {r e pos : Nat} {buf D : List Value} (h : SrcAt sp sq sg sd SS r e pos buf D .nilIface w) (k : Keeps M (fun i => i = p ∨ i = b ∨ i = g) w w') : SrcAt sp sq sg sd SS r e pos buf D .nilIface w' := by
  have hn : ∀ x, x = sp ∨ x = sq ∨ x = sg ∨ x = sd → ¬ (x = p ∨ x = b ∨ x = g) := by
    intro x hx e
    have h1 := ap.ne x hx
    rcases e with e | e | e
    · exact h1.1 e
    · exact h1.2.1 e
    · exact h1.2.2 e
  exact h.keepM k ⟨ap.sM.1, hn _ (.inl rfl)⟩ ⟨ap.sM.2.1, hn _ (.inr (.inl rfl))⟩ ⟨ap.sM.2.2.1, hn _ (.inr (.inr (.inl rfl)))⟩ ⟨ap.sM.2.2.2, hn _ (.inr (.inr (.inr rfl)))⟩
end
end Go.Proofs.Qxb6612850aFmt
