import Derived.Test.Qxb6603619aDB
import Derived.RegionTactic
import Derived.BigRegion
import Derived.StillTailTactics
import Derived.Deep.QuietTactic
import Derived.BigQuiet
import Derived.Lib.SliceRun
import Derived.WalkSpells
import Derived.Deep.RegionWith
namespace Go.Proofs.Qxb6603619a.Crd
open Go.RowKit
set_option linter.unusedVariables false
set_option linter.unusedSimpArgs false

theorem cell_far {w : World} {p a : Addr} {v u : Value} (h : a.block ≠ p.block) (hc : w.cell? a = some u) : (w.setCell p v).cell? a = some u := by
  rw [World.cell?_of_block (w := w) (Below.heap_setCell w p v a.block h)]; exact hc

/-- The two counters of dMeasure. -/
structure Ctr (w0 w : World) (X Y : Nat) (N : Nat) (z : Int) : Prop where
  x : w.cell? ⟨X, 0, none⟩ = some (.int .i64 (N : Int))
  fx : w.frozen? ⟨X, 0, none⟩ = false
  y : w.cell? ⟨Y, 0, none⟩ = some (.int .i64 z)
  fy : w.frozen? ⟨Y, 0, none⟩ = false
  bel : Below w0.heap.size w0 w

theorem hid {p : Prop} (h : p) : Hid p := h

/-- What dMeasure leaves. -/
def Meas (w0 : World) (b o X Y N0 : Nat) (e : Ending) (w' : World) : Prop :=
  ∃ r N1 z1, e = .returned (.bool r) ∧ Ctr w0 w' X Y N1 z1 ∧ (r = true → N1 ≤ 65536 ∧ 0 ≤ z1 ∧ z1 ≤ 1048576 ∧ ∃ k, ∃ t : T k, N1 = N0 + k ∧ S 65536 k w0 t b o)

theorem Meas.no {w0 w' : World} {b o X Y N0 N1 : Nat} {z1 : Int} (h : Ctr w0 w' X Y N1 z1) : Meas w0 b o X Y N0 (.returned (.bool false)) w' := ⟨false, N1, z1, rfl, h, fun h => by cases h⟩

theorem Ctr.setX {w0 w : World} {X Y N N' : Nat} {z : Int} (h : Ctr w0 w X Y N z) (hX : w0.heap.size ≤ X) (hYX : Y ≠ X) : Ctr w0 (w.setCell ⟨X, 0, none⟩ (.int .i64 (N' : Int))) X Y N' z :=
  ⟨World.cell?_setCell_same _ _ _ h.x, by simpa using h.fx, cell_far hYX h.y, by simpa using h.fy, h.bel.setCell hX _⟩

theorem Ctr.setY {w0 w : World} {X Y N : Nat} {z z' : Int} (h : Ctr w0 w X Y N z) (hY : w0.heap.size ≤ Y) (hXY : X ≠ Y) : Ctr w0 (w.setCell ⟨Y, 0, none⟩ (.int .i64 z')) X Y N z' :=
  ⟨cell_far hXY h.x, by simpa using h.fx, World.cell?_setCell_same _ _ _ h.y, by simpa using h.fy, h.bel.setCell hY _⟩

theorem Ctr.drew {w0 w : World} {X Y N : Nat} {z : Int} (h : Ctr w0 w X Y N z) : Ctr w0 ({ heap := w.heap, tape := w.tape, drawn := w.drawn + 1, os := w.os, output := w.output } : World) X Y N z :=
  ⟨h.x, h.fx, h.y, h.fy, ⟨h.bel.os, h.bel.tape, h.bel.output, h.bel.size, h.bel.block⟩⟩

/-- What the loop over the members has shown. -/
def Seen (w0 : World) (ma : Option Addr) (M k N : Nat) : Prop := ∀ mb mo, ma = some ⟨mb, mo, none⟩ → ∀ j, j < k → ∃ d, ∃ t : T d, M + d ≤ N ∧ S 65536 d w0 t mb (mo + j * 7 + 1)

theorem Seen.step {w0 : World} {mb mo M k N N' : Nat} (h : Seen w0 (some ⟨mb, mo, none⟩) M k N) (hM : M ≤ N) (hk : ∃ d, ∃ t : T d, N' = N + d ∧ S 65536 d w0 t mb (mo + k * 7 + 1)) : Seen w0 (some ⟨mb, mo, none⟩) M (k + 1) N' := by
  intro mb' mo' e j hj
  obtain ⟨d, t, rfl, hS⟩ := hk
  by_cases hjk : j = k
  · subst hjk
    simp only [Option.some.injEq, Addr.mk.injEq, and_true] at e
    obtain ⟨rfl, rfl⟩ := e
    exact ⟨d, t, by omega, hS⟩
  · obtain ⟨d', t', h1, h2⟩ := h mb' mo' e j (by omega)
    exact ⟨d', t', by omega, h2⟩

theorem Seen.mono {w0 : World} {ma : Option Addr} {M k N N' : Nat} (h : Seen w0 ma M k N) (hN : N ≤ N') : Seen w0 ma M k N' := by
  intro mb mo e j hj
  obtain ⟨d, t, h1, h2⟩ := h mb mo e j hj
  exact ⟨d, t, by omega, h2⟩

/-- A pointer that is nil or leads to a tree. -/
def OkP (w0 : World) (p : Option Addr) (M N : Nat) : Prop := p = none ∨ ∃ b o, p = some ⟨b, o, none⟩ ∧ ∃ d, ∃ t : T d, M + d ≤ N ∧ S 65536 d w0 t b o

theorem OkP.mono {w0 : World} {p : Option Addr} {M N N' : Nat} (h : OkP w0 p M N) (hN : N ≤ N') : OkP w0 p M N' := by
  rcases h with h | ⟨b, o, e, d, t, h1, h2⟩
  · exact .inl h
  · exact .inr ⟨b, o, e, d, t, by omega, h2⟩

theorem OkP.sptr {w0 : World} {p : Option Addr} {M N D : Nat} (h : OkP w0 p M N) (hD : N ≤ M + D) : ∃ x : Option (T D), SPtr x (S 65536 D w0) p := by
  rcases h with h | ⟨b, o, e, d, t, h1, h2⟩
  · exact ⟨none, h⟩
  · obtain ⟨t', h'⟩ := S.le (by omega : d ≤ D) ⟨t, h2⟩
    exact ⟨some t', b, o, e, h'⟩

theorem meas_node {n : Nat} {w0 : World} {t : Nd (T n)} {b o mc M N D : Nat} {ma pv pi : Option Addr} (hn : SNode maxLen w0 t (S maxLen n w0) b o ma mc pv pi) (hl : t.ml ≤ 65536) (hs : Seen w0 ma M t.ml N) (hv : OkP w0 pv M N) (hi : OkP w0 pi M N) (hD : N ≤ M + D) :
    ∃ t' : T (D + 1), S 65536 (D + 1) w0 t' b o := by
  obtain ⟨va', hva⟩ := hv.sptr hD
  obtain ⟨ia', hia⟩ := hi.sptr hD
  rcases Nat.eq_zero_or_pos t.ml with hz | hpos
  · exact ⟨(⟨t.hd, t.df, t.fm, t.mn, t.ml, t.nm, fun _ => tdef D, va', ia'⟩ : Nd (T D)), ma, mc, pv, pi,
      ⟨hn.c0, hn.c1, hn.c2, hn.c3, hn.c4, hn.c5, hn.sdf, hn.sfm, hl, hn.nil, fun h0 => absurd h0 (by show ¬ 0 < t.ml; omega), hva, hia⟩⟩
  · obtain ⟨mb, mo, e, hm⟩ := hn.mem hpos
    obtain ⟨f, hf⟩ := @Go.Deep.choose_lt (T D) ⟨tdef D⟩ t.ml (fun j a => S 65536 D w0 a mb (mo + j * 7 + 1)) (fun j hj => by
      obtain ⟨d, t', h1, h2⟩ := hs mb mo e j hj
      exact S.le (by omega : d ≤ D) ⟨t', h2⟩)
    exact ⟨(⟨t.hd, t.df, t.fm, t.mn, t.ml, t.nm, f, va', ia'⟩ : Nd (T D)), ma, mc, pv, pi,
      ⟨hn.c0, hn.c1, hn.c2, hn.c3, hn.c4, hn.c5, hn.sdf, hn.sfm, hl, hn.nil, fun _ => ⟨mb, mo, e, fun j hj => ⟨(hm j hj).1, (hm j hj).2.1, hf j hj⟩⟩, hva, hia⟩⟩

theorem Meas.yes {n : Nat} {w0 w' : World} {t : Nd (T n)} {b o mc X Y N0 N : Nat} {z : Int} {ma pv pi : Option Addr} (hn : SNode maxLen w0 t (S maxLen n w0) b o ma mc pv pi) (hs : Seen w0 ma (N0 + 1) t.ml N) (hv : OkP w0 pv (N0 + 1) N) (hi : OkP w0 pi (N0 + 1) N) (hM : N0 + 1 + t.ml ≤ N) (hN : N ≤ 65536) (hz : 0 ≤ z) (hz' : z ≤ 1048576) (hC : Ctr w0 w' X Y N z) :
    Meas w0 b o X Y N0 (.returned (.bool true)) w' := by
  obtain ⟨D, rfl⟩ := Nat.exists_eq_add_of_le (by omega : N0 + 1 ≤ N)
  obtain ⟨t', h'⟩ := meas_node hn (by omega) hs hv hi (Nat.le_refl _)
  exact ⟨true, _, z, rfl, hC, fun _ => ⟨hN, hz, hz', D + 1, t', by omega, h'⟩⟩

theorem SPtr.cases {α : Type} {x : Option α} {sub : α → Nat → Nat → Prop} {p : Option Addr} (h : SPtr x sub p) : p = none ∨ ∃ a b o, p = some ⟨b, o, none⟩ ∧ sub a b o := by
  cases x with
  | none => exact .inl h
  | some a =>
    obtain ⟨b, o, e, h'⟩ := h
    exact .inr ⟨a, b, o, e, h'⟩

set_option maxRecDepth 100000 in
set_option maxHeartbeats 4000000 in
theorem meas11 : ∀ (n : Nat) (w0 : World) (t : T n) (b o X Y N0 : Nat) (z0 : Int) (w : World), S maxLen n w0 t b o → w0.heap.size ≤ X → w0.heap.size ≤ Y → X ≠ Y → N0 ≤ 65536 → 0 ≤ z0 → z0 ≤ 140737489403920 → Ctr w0 w X Y N0 z0 →
    Calls Try.prog 11 #[.pointer (some ⟨b, o, none⟩), .pointer (some ⟨X, 0, none⟩), .pointer (some ⟨Y, 0, none⟩)] w fun e w' => Meas w0 b o X Y N0 e w' := by
  intro n
  induction n with
  | zero => intro w0 t b o X Y N0 z0 w h; exact h.elim
  | succ n ih =>
    intro w0 t b o X Y N0 z0 w hS hX hY hXY hN hz0 hz1 hC
    have HI := hid ih
    clear ih
    obtain ⟨ma, mc, pv, pi, hn⟩ := hS
    have HN := hid hn
    have HC := hid hC
    have hbo := cell_lt hn.c0
    have hbX : b ≠ X := by simp at hbo; omega
    have hbY : b ≠ Y := by simp at hbo; omega
    have c1 := (hC.bel.cell (cell_lt hn.c1)).trans hn.c1
    have c2 := (hC.bel.cell (cell_lt hn.c2)).trans hn.c2
    have hx := hC.x
    have hfx := hC.fx
    have hYX : Y ≠ X := Ne.symm hXY
    have hNi : (N0 : Int) ≤ 65536 := by omega
    have hdf := hn.sdf
    have hfm := hn.sfm
    clear hn hC
    go_enter Try.func11, Try.ntmps11
    go_wp2_with fail
    obtain ⟨W, hW⟩ : ∃ W, W = w.setCell ⟨X, 0, none⟩ (.int .i64 ((N0 : Int) + 1)) := ⟨_, rfl⟩
    rw [← hW]
    have HW : Hid (Ctr w0 W X Y (N0 + 1) z0) := hid (by rw [hW]; exact HC.out.setX hX hYX)
    have C1 : W.cell? ⟨b, o + 1, none⟩ = some (.string (t : Nd (T n)).df) := by rw [hW]; exact cell_far hbX c1
    have C2 : W.cell? ⟨b, o + 2, none⟩ = some (.string (t : Nd (T n)).fm) := by rw [hW]; exact cell_far hbX c2
    have CY : W.cell? ⟨Y, 0, none⟩ = some (.int .i64 z0) := HW.out.y
    obtain ⟨df, hdfe⟩ : ∃ df, df = (t : Nd (T n)).df := ⟨_, rfl⟩
    obtain ⟨fm, hfme⟩ : ∃ fm, fm = (t : Nd (T n)).fm := ⟨_, rfl⟩
    rw [← hdfe] at C1 hdf
    rw [← hfme] at C2 hfm
    clear hW c1 c2 hx hfx hdfe hfme
    go_still_tail 18, (by kernel_rfl)
    have hwz : IntKind.i64.wrap (IntKind.i64.wrap (IntKind.i64.wrap (z0 + 64) + (df.size : Int)) + (fm.size : Int)) = z0 + 64 + df.size + fm.size := by
      simp only [IntKind.wrap_i64]; omega
    rw [hwz]
    clear hwz
    generalize IntKind.i64.wrap (IntKind.i64.wrap (z0 + 64) + (df.size : Int)) = q2
    generalize IntKind.i64.wrap (z0 + 64) = q1
    obtain ⟨z', hz'⟩ : ∃ z', z' = z0 + 64 + (df.size : Int) + (fm.size : Int) := ⟨_, rfl⟩
    rw [← hz']
    obtain ⟨W1, hW1⟩ : ∃ W1, W1 = ({ heap := W.heap, tape := W.tape, drawn := W.drawn + 1, os := W.os, output := W.output } : World) := ⟨_, rfl⟩
    rw [← hW1]
    have HW1 : Hid (Ctr w0 W1 X Y (N0 + 1) z0) := hid (by rw [hW1]; exact HW.out.drew)
    have CY1 : W1.cell? ⟨Y, 0, none⟩ = some (.int .i64 z0) := HW1.out.y
    have FY1 : W1.frozen? ⟨Y, 0, none⟩ = false := HW1.out.fy
    have hz'1 : 0 ≤ z' := by omega
    clear hz' hdf hfm CY C1 C2 hz1 hz0 hW1
    refine wpList_plain rfl fun K2 hK2 => ?_
    go_step
    refine hK2 _ _ (wpList_nil ?_)
    clear hK2
    obtain ⟨W2, hW2⟩ : ∃ W2, W2 = W1.setCell ⟨Y, 0, none⟩ (.int .i64 z') := ⟨_, rfl⟩
    rw [← hW2]
    have HW2 : Hid (Ctr w0 W2 X Y (N0 + 1) z') := hid (by rw [hW2]; exact HW1.out.setY hY hXY)
    have CX2 : W2.cell? ⟨X, 0, none⟩ = some (.int .i64 ((N0 : Int) + 1)) := by simpa using HW2.out.x
    have CY2 : W2.cell? ⟨Y, 0, none⟩ = some (.int .i64 z') := HW2.out.y
    have HNN := hid hN
    have hM : (N0 : Int) + 1 = ((N0 + 1 : Nat) : Int) := by omega
    rw [hM] at CX2 ⊢
    clear hM
    obtain ⟨M, hM⟩ : ∃ M, M = N0 + 1 := ⟨_, rfl⟩
    rw [← hM] at CX2 ⊢
    have HM := hid hM
    clear hW2 CY1 FY1 HW1 HW hN hNi hM
    go_wp2_with fail
    · go_ret
      exact Meas.no HW2.out
    · have hz2 : z' ≤ 1048576 := by omega
      have HMM : Hid (M ≤ 65536) := hid (by omega)
      clear CX2 CY2
      obtain ⟨l, hl⟩ : ∃ l, l = (t : Nd (T n)).ml := ⟨_, rfl⟩
      have HL := hid hl
      have hc3 : w0.cell? ⟨b, o + 3, none⟩ = some (.slice ma l mc) := by rw [hl]; exact HN.out.c3
      have HC3 := hid hc3
      clear hl hc3
      go_loopw [7] (fun i wr => ∃ (k N : Nat) (z : Int), k ≤ l ∧ i = .int .i64 k ∧ Ctr w0 wr X Y N z ∧ 0 ≤ z ∧ z ≤ 1048576 ∧ N ≤ 65536 ∧ M + k ≤ N ∧ Seen w0 ma M k N) (fun i _ => l - (intOf i).toNat)
      case atStart => exact ⟨0, M, z', Nat.zero_le _, rfl, by rw [HM.out]; exact HW2.out, hz'1, hz2, HMM.out, Nat.le_refl _, fun _ _ _ j hj => absurd hj (Nat.not_lt_zero _)⟩
      case round =>
        obtain ⟨k, N, z, hk, rfl, hC, hz3, hz4, hN3, hMk, hsn⟩ := hrel
        have HCr := hid hC
        have HSN := hid hsn
        have HN3 := hid hN3
        have HMk := hid hMk
        have c3 := (hC.bel.cell (cell_lt HC3.out)).trans HC3.out
        clear hC hsn hN3 hMk
        by_cases hlt : k < l
        · obtain ⟨mb, mo, rfl, hm⟩ := HN.out.mem (by rw [← HL.out]; omega)
          obtain ⟨g1, g2, g3⟩ := hm k (by rw [← HL.out]; exact hlt)
          have f1 := (HCr.out.bel.cell (cell_lt g1)).trans g1
          have fY := HCr.out.y
          have hlt' : (k : Int) < (l : Int) := by omega
          have hk7 : (k : Int) < 70000 := by have := HMk.out; have := HN3.out; omega
          clear hm
          go_wp2_with fail
          obtain ⟨nk, hnk⟩ : ∃ nk, nk = (t : Nd (T n)).nm k := ⟨_, rfl⟩
          rw [← hnk] at f1 g2
          clear hnk
          go_still_tail 16, (by kernel_rfl)
          have hwz : IntKind.i64.wrap (IntKind.i64.wrap (z + 16) + (nk.size : Int)) = z + 16 + nk.size := by
            simp only [IntKind.wrap_i64]; omega
          rw [hwz]
          clear hwz
          generalize IntKind.i64.wrap (z + 16) = p1
          obtain ⟨y, hy⟩ : ∃ y, y = z + 16 + (nk.size : Int) := ⟨_, rfl⟩
          rw [← hy]
          obtain ⟨V1, hV1⟩ : ∃ V1, V1 = ({ heap := wr.heap, tape := wr.tape, drawn := wr.drawn + 1, os := wr.os, output := wr.output } : World) := ⟨_, rfl⟩
          rw [← hV1]
          have HV1 : Hid (Ctr w0 V1 X Y N z) := hid (by rw [hV1]; exact HCr.out.drew)
          have CY1 : V1.cell? ⟨Y, 0, none⟩ = some (.int .i64 z) := HV1.out.y
          have FY1 : V1.frozen? ⟨Y, 0, none⟩ = false := HV1.out.fy
          have HY1 : Hid (0 ≤ y) := hid (by omega)
          have HY2 : Hid (y ≤ 140737489403920) := hid (by omega)
          have HG3 := hid g3
          clear hV1 f1 fY c3 g1 g2 g3 hy
          refine wpList_plain rfl fun K3 hK3 => ?_
          go_step
          refine hK3 _ _ (wpList_nil ?_)
          clear hK3
          obtain ⟨V2, hV2⟩ : ∃ V2, V2 = V1.setCell ⟨Y, 0, none⟩ (.int .i64 y) := ⟨_, rfl⟩
          rw [← hV2]
          have HV2 : Hid (Ctr w0 V2 X Y N y) := hid (by rw [hV2]; exact HV1.out.setY hY hXY)
          have c3 := (HV2.out.bel.cell (cell_lt HC3.out)).trans HC3.out
          clear hV2 CY1 FY1 HV1
          go_wp2_with (go_at_call 11; refine (HI.out w0 _ mb (mo + k * 7 + 1) X Y N y V2 HG3.out hX hY hXY HN3.out HY1.out HY2.out HV2.out).mono ?_; rintro e w' ⟨r, N1, z1, rfl, hC', hr⟩; have HC' := hid hC'; have HR := hid hr; clear hC' hr; cases r)
          · go_ret
            exact Meas.no HC'.out
          · go_roundw
            case rel =>
              obtain ⟨r1, r2, r3, d, td, rfl, r4⟩ := HR.out (by simp)
              have h0 : 0 < d := by rcases Nat.eq_zero_or_pos d with h | h; (subst h; exact r4.elim); exact h
              have := HMk.out
              exact ⟨k + 1, _, z1, by omega, by go_num, HC'.out, r2, r3, r1, by omega, HSN.out.step (by omega) ⟨d, td, rfl, r4⟩⟩
            case measure => simp [intOf]; omega
        · have hkl : k = l := by omega
          subst hkl
          have hz4' : z ≤ 140737489403920 := by omega
          have HZ4 := hid hz4'
          have HZ5 := hid hz4
          have HZ3 := hid hz3
          have c4 := (HCr.out.bel.cell (cell_lt HN.out.c4)).trans HN.out.c4
          have c5 := (HCr.out.bel.cell (cell_lt HN.out.c5)).trans HN.out.c5
          rcases HN.out.vs.cases with hpv | ⟨av, bv, ov, hpv, hsv⟩ <;> rcases HN.out.is.cases with hpi | ⟨ai, bi, oi, hpi, hsi⟩ <;> subst hpv <;> subst hpi
          · go_wp2_with fail
            go_ret
            refine Meas.yes HN.out (by rw [← HM.out, ← HL.out]; exact HSN.out) (.inl rfl) (.inl rfl) ?_ HN3.out HZ3.out HZ5.out HCr.out
            rw [← HM.out, ← HL.out]; exact HMk.out
          · have HS5 := hid hsi
            clear hsi hz4' hz4 hz3
            go_wp2_with (go_at_call 11; refine (HI.out w0 _ bi oi X Y N z wr HS5.out hX hY hXY HN3.out HZ3.out HZ4.out HCr.out).mono ?_; rintro e w' ⟨r, N1, z1, rfl, hC', hr⟩; have HC' := hid hC'; have HR := hid hr; clear hC' hr; cases r)
            · go_ret
              exact Meas.no HC'.out
            · go_ret
              obtain ⟨r1, r2, r3, d, td, rfl, r4⟩ := HR.out (by simp)
              have q1 := HM.out
              have q2 := HL.out
              have q3 := HMk.out
              exact Meas.yes HN.out (by rw [← q1, ← q2]; exact HSN.out.mono (by omega)) (.inl rfl) (.inr ⟨bi, oi, rfl, d, td, by omega, r4⟩) (by omega) r1 r2 r3 HC'.out
          · have HS4 := hid hsv
            clear hsv hz4' hz4 hz3
            go_wp2_with (go_at_call 11; refine (HI.out w0 _ bv ov X Y N z wr HS4.out hX hY hXY HN3.out HZ3.out HZ4.out HCr.out).mono ?_; rintro e w' ⟨r, N1, z1, rfl, hC', hr⟩; have HC' := hid hC'; have HR := hid hr; have c5' := (hC'.bel.cell (cell_lt HN.out.c5)).trans HN.out.c5; clear hC' hr; cases r)
            · go_ret
              exact Meas.no HC'.out
            · go_ret
              obtain ⟨r1, r2, r3, d, td, rfl, r4⟩ := HR.out (by simp)
              have q1 := HM.out
              have q2 := HL.out
              have q3 := HMk.out
              exact Meas.yes HN.out (by rw [← q1, ← q2]; exact HSN.out.mono (by omega)) (.inr ⟨bv, ov, rfl, d, td, by omega, r4⟩) (.inl rfl) (by omega) r1 r2 r3 HC'.out
          · have HS4 := hid hsv
            have HS5 := hid hsi
            clear hsv hsi hz4' hz4 hz3
            go_wp2_with (first
              | (go_at_call_of 11 bv; refine (HI.out w0 _ bv ov X Y N z wr HS4.out hX hY hXY HN3.out HZ3.out HZ4.out HCr.out).mono ?_; rintro e w' ⟨r, N1, z1, rfl, hC', hr⟩; have HC' := hid hC'; have HR := hid hr; have c5' := (hC'.bel.cell (cell_lt HN.out.c5)).trans HN.out.c5; clear hC' hr; cases r)
              | (go_at_call_of 11 bi; refine (HI.out w0 _ bi oi X Y N1 z1 w' HS5.out hX hY hXY (HR.out (by simp)).1 (HR.out (by simp)).2.1 (Int.le_trans (HR.out (by simp)).2.2.1 (by omega)) HC'.out).mono ?_; rintro e w'' ⟨r, N2, z2, rfl, hC', hr⟩; have HC'' := hid hC'; have HR' := hid hr; clear hC' hr; cases r))
            · go_ret
              exact Meas.no HC'.out
            · go_ret
              exact Meas.no HC''.out
            · go_ret
              obtain ⟨r1, r2, r3, d, td, rfl, r4⟩ := HR.out (by simp)
              obtain ⟨s1, s2, s3, d', td', rfl, s4⟩ := HR'.out (by simp)
              have q1 := HM.out
              have q2 := HL.out
              have q3 := HMk.out
              exact Meas.yes HN.out (by rw [← q1, ← q2]; exact HSN.out.mono (by omega)) (.inr ⟨bv, ov, rfl, d, td, by omega, r4⟩) (.inr ⟨bi, oi, rfl, d', td', by omega, s4⟩) (by omega) s1 s2 s3 HC''.out
    · go_ret
      exact Meas.no HW2.out

end Go.Proofs.Qxb6603619a.Crd
