import Derived.Test.Qxb6603619aDK
namespace Go.Proofs.Qxb6603619a.Crd
open Go.RowKit
set_option linter.unusedVariables false
set_option linter.unusedSimpArgs false

theorem g1 {b : Bool} (h : (true && b) = true) : b = true := by simpa using h
theorem g0 {b : Bool} (h : (true && b) = false) : b = false := by simpa using h

set_option maxRecDepth 100000 in
set_option maxHeartbeats 8000000 in
theorem gives10 : ∀ (n : Nat) (t : T n) (b o : Nat) (w : World), S 65536 n w t b o →
    Calls Try.prog 10 #[.pointer (some ⟨b, o, none⟩)] w fun e w' => e = .returned (.bool (gives n t)) ∧ Below w.heap.size w w' := by
  intro n
  induction n with
  | zero => intro t b o w h; exact h.elim
  | succ n ih =>
    intro t b o w hS
    have HI := hid ih
    clear ih
    obtain ⟨ma, mc, pv, pi, hn⟩ := hS
    have HN := hid hn
    have c0 := hn.c0
    clear hn
    cases hhd : (t : Nd (T n)).hd with
    | true =>
      rw [hhd] at c0
      have HT : Hid (gives (n + 1) t = true) := hid (g1 (gv_hd (kp := true) (by rw [hhd]; rfl)))
      rw [HT.out]
      clear hhd
      go_enter Try.func10, Try.ntmps10
      go_wp2_with fail
      go_ret
      exact ⟨rfl, Below.refl _ _⟩
    | false =>
      rw [hhd] at c0
      have HH := hid hhd
      clear hhd
      go_enter Try.func10, Try.ntmps10
      go_upto_if 8 with fail
      go_cut [] from 3 (fun wx => wx = w)
      case first => as_aux_lemma =>
        go_wp2_with fail
        go_meet
        case rel => rfl
      case rest =>
      have hwc : wc = w := hcut
      rw [hwc]
      clear c0 hcut hwc
      have c3 := HN.out.c3
      go_step
      go_step
      go_cut [] from 3 (fun wx => Below w.heap.size w wx ∧ kids true (t : Nd (T n)))
      case first => as_aux_lemma =>
        have hq3 := fun (w : World) (a : Option Addr) (n c n' c' : Nat) => run_neq_slice_nil_any (P := Try.prog) w 37 51 a n c n' c' Try.underlying37
        cases ma with
        | none =>
          have hl0 := HN.out.ml0
          have HL0 := hid hl0
          clear hl0
          go_wp2_with fail
          go_meet
          case rel => exact ⟨Below.refl _ _, fun j hj _ => by rw [HL0.out] at hj; omega⟩
        | some ad =>
          obtain ⟨l, hl⟩ : ∃ l, l = (t : Nd (T n)).ml := ⟨_, rfl⟩
          have HL := hid hl
          rw [← hl] at c3
          have hnms := HN.out.nms
          have H16 := hid (last16 w (some ad) l mc (t : Nd (T n)).nm (by rw [hl]; exact HN.out.lml) (fun h0 => by
            obtain ⟨mb, mo, e, hm⟩ := HN.out.mem (by rw [← hl]; exact h0)
            exact ⟨mb, mo, e, fun j hj => (hm j (by rw [← hl]; exact hj)).1⟩) (fun j hj => hnms j (by rw [← hl]; exact hj)))
          have HNms := hid hnms
          have hl6 : (l : Int) ≤ 65536 := by have := HN.out.lml; rw [← hl] at this; omega
          clear hl hnms
          go_wp2_with (go_at_call 16; refine H16.out.mono ?_; rintro e w16 ⟨lb, lsz, rfl, hlF, b16⟩; have HB16 := hid b16; have c3' := (b16.cell (cell_lt c3)).trans c3; have HLF := hid hlF; clear hlF b16)
          go_loopw [4] (fun i wr => ∃ k : Nat, k ≤ l ∧ i = .int .i64 k ∧ Below w16.heap.size w16 wr ∧ ∀ j, j < k → lastOf (t : Nd (T n)).nm (t : Nd (T n)).ml ((t : Nd (T n)).nm j) = some j → (true && gives n ((t : Nd (T n)).tm j)) = false) (fun i _ => l - (intOf i).toNat)
          case atStart => exact ⟨0, Nat.zero_le _, rfl, Below.refl _ _, fun j hj => absurd hj (Nat.not_lt_zero _)⟩
          case round =>
            obtain ⟨k, hk, rfl, hb, hks⟩ := hrel
            have HBk := hid hb
            have HKs := hid hks
            have HBr := hid (HB16.out.trans (hb.mono HB16.out.size))
            have r3 := (hb.cell (cell_lt c3')).trans c3'
            have HLr := hid (HLF.out.below hb)
            clear hb c3' c3 hq3 hks
            by_cases hlt : k < l
            · obtain ⟨mb, mo', rfl, hm⟩ := HN.out.mem' (by rw [← HL.out]; omega)
              obtain ⟨g1', g2, g3⟩ := hm k (by rw [← HL.out]; exact hlt)
              have f1 := (HBr.out.cell (cell_lt g1')).trans g1'
              have HSk := hid (S.below g3 HBr.out)
              have hnk := HNms.out k (by rw [← HL.out]; exact hlt)
              obtain ⟨j, hj⟩ := lastOf_some (nm := (t : Nd (T n)).nm) (k := l) hlt
              have hlook := HLr.out.look (t := 58) (e := 3) Try.underlying58 (Try.zeroValue3 wr) hnk (v := .int .i64 (j : Int)) (by unfold li; rw [hj]; rfl)
              have hlt' : (k : Int) < (l : Int) := by omega
              have HJ := hid hj
              clear hm g1' g2 g3 hnk hj
              by_cases hjk : j = k
              · subst hjk
                obtain ⟨q, hq⟩ : ∃ q, q = gives n ((t : Nd (T n)).tm j) := ⟨_, rfl⟩
                have HQ := hid hq
                have H10 : Hid (Calls Try.prog 10 #[.pointer (some ⟨mb, mo' + j * 7 + 1, none⟩)] wr fun e w' => e = .returned (.bool q) ∧ Below wr.heap.size wr w') := hid (by rw [hq]; exact HI.out _ _ _ _ HSk.out)
                clear hq
                cases q with
                | true =>
                  have HT : Hid (gives (n + 1) t = true) := hid (g1 (gv_mem (kp := true) (j := j) (by rw [← HL.out]; exact hlt) (by rw [← HL.out]; exact HJ.out) (by rw [← HQ.out]; rfl)))
                  go_wp2_with (go_at_call 10; refine H10.out.mono ?_; rintro e w9 ⟨rfl, b9⟩; have HB9 := hid b9; clear b9)
                  go_ret
                  exact ⟨by rw [HT.out]; rfl, HBr.out.trans (HB9.out.mono HBr.out.size)⟩
                | false =>
                  go_wp2_with (go_at_call 10; refine H10.out.mono ?_; rintro e w9 ⟨rfl, b9⟩; have HB9 := hid b9; clear b9)
                  go_roundw
                  case rel =>
                    refine ⟨j + 1, by omega, by go_num, HBk.out.trans (HB9.out.mono HBk.out.size), fun i hi hli => ?_⟩
                    by_cases e : i = j
                    · subst e; rw [← HQ.out]; rfl
                    · exact HKs.out i (by omega) hli
                  case measure => simp [intOf]; omega
              · have hjk' : ¬ ((j : Int) = (k : Int)) := by omega
                go_wp2_with fail
                go_roundw
                case rel =>
                  refine ⟨k + 1, by omega, by go_num, HBk.out, fun i hi hli => ?_⟩
                  by_cases e : i = k
                  · subst e
                    rw [← HL.out, HJ.out] at hli
                    simp only [Option.some.injEq] at hli
                    exact absurd hli hjk
                  · exact HKs.out i (by omega) hli
                case measure => simp [intOf]; omega
            · have hkl : k = l := by omega
              subst hkl
              go_wp2_with fail
              go_meet
              case rel => exact ⟨HBr.out, fun j hj hl => HKs.out j (by rw [HL.out]; exact hj) hl⟩
      case rest =>
      obtain ⟨hb1, hkd⟩ := hcut
      have HKd := hid hkd
      clear hkd c3
      have HB1 := hid hb1
      have c4 := (hb1.cell (cell_lt HN.out.c4)).trans HN.out.c4
      clear hb1
      go_step
      go_step
      go_cut [] from 3 (fun wx => Below w.heap.size w wx ∧ opts true (t : Nd (T n)).va)
      case first => as_aux_lemma =>
        cases hva : (t : Nd (T n)).va with
        | none =>
          have hp := HN.out.vs
          rw [hva] at hp
          have hp' : pv = none := hp
          subst hp'
          have HVa := hid hva
          clear hp hva
          go_wp2_with fail
          go_meet
          case rel => exact ⟨HB1.out, fun a h => by rw [HVa.out] at h; cases h⟩
        | some av =>
          have hp := HN.out.vs
          rw [hva] at hp
          obtain ⟨bv, ov, rfl, hsv⟩ := hp
          obtain ⟨q, hq⟩ : ∃ q, q = gives n av := ⟨_, rfl⟩
          have HQ := hid hq
          have H10 : Hid (Calls Try.prog 10 #[.pointer (some ⟨bv, ov, none⟩)] wc fun e w' => e = .returned (.bool q) ∧ Below wc.heap.size wc w') := hid (by rw [hq]; exact HI.out _ _ _ _ (S.below hsv HB1.out))
          have HVa := hid hva
          clear hq hva hsv
          cases q with
          | true =>
            have HT : Hid (gives (n + 1) t = true) := hid (g1 (gv_va (kp := true) HVa.out (by rw [← HQ.out]; rfl)))
            go_wp2_with (go_at_call 10; refine H10.out.mono ?_; rintro e w9 ⟨rfl, b9⟩; have HB9 := hid b9; clear b9)
            go_ret
            exact ⟨by rw [HT.out]; rfl, HB1.out.trans (HB9.out.mono HB1.out.size)⟩
          | false =>
            go_wp2_with (go_at_call 10; refine H10.out.mono ?_; rintro e w9 ⟨rfl, b9⟩; have HB9 := hid b9; clear b9)
            go_meet
            case rel => exact ⟨HB1.out.trans (HB9.out.mono HB1.out.size), fun a h => by rw [HVa.out] at h; simp only [Option.some.injEq] at h; rw [← h, ← HQ.out]; rfl⟩
      case rest =>
      obtain ⟨hb2, ho1⟩ := hcut
      have HO1 := hid ho1
      clear ho1 c4
      have HB2 := hid hb2
      have c5 := (hb2.cell (cell_lt HN.out.c5)).trans HN.out.c5
      clear hb2
      go_step
      go_step
      go_cut [] from 3 (fun wx => Below w.heap.size w wx ∧ opts true (t : Nd (T n)).ia)
      case first => as_aux_lemma =>
        cases hva : (t : Nd (T n)).ia with
        | none =>
          have hp := HN.out.is
          rw [hva] at hp
          have hp' : pi = none := hp
          subst hp'
          have HVa := hid hva
          clear hp hva
          go_wp2_with fail
          go_meet
          case rel => exact ⟨HB2.out, fun a h => by rw [HVa.out] at h; cases h⟩
        | some av =>
          have hp := HN.out.is
          rw [hva] at hp
          obtain ⟨bv, ov, rfl, hsv⟩ := hp
          obtain ⟨q, hq⟩ : ∃ q, q = gives n av := ⟨_, rfl⟩
          have HQ := hid hq
          have H10 : Hid (Calls Try.prog 10 #[.pointer (some ⟨bv, ov, none⟩)] wc fun e w' => e = .returned (.bool q) ∧ Below wc.heap.size wc w') := hid (by rw [hq]; exact HI.out _ _ _ _ (S.below hsv HB2.out))
          have HVa := hid hva
          clear hq hva hsv
          cases q with
          | true =>
            have HT : Hid (gives (n + 1) t = true) := hid (g1 (gv_ia (kp := true) HVa.out (by rw [← HQ.out]; rfl)))
            go_wp2_with (go_at_call 10; refine H10.out.mono ?_; rintro e w9 ⟨rfl, b9⟩; have HB9 := hid b9; clear b9)
            go_ret
            exact ⟨by rw [HT.out]; rfl, HB2.out.trans (HB9.out.mono HB2.out.size)⟩
          | false =>
            go_wp2_with (go_at_call 10; refine H10.out.mono ?_; rintro e w9 ⟨rfl, b9⟩; have HB9 := hid b9; clear b9)
            go_meet
            case rel => exact ⟨HB2.out.trans (HB9.out.mono HB2.out.size), fun a h => by rw [HVa.out] at h; simp only [Option.some.injEq] at h; rw [← h, ← HQ.out]; rfl⟩
      case rest =>
      obtain ⟨hb3, ho2⟩ := hcut
      have HO2 := hid ho2
      clear ho2 c5
      have HT : Hid (gives (n + 1) t = false) := hid (g0 (gv_no (kp := true) (by rw [HH.out]; rfl) HKd.out HO1.out HO2.out))
      have HB3 := hid hb3
      clear hb3
      go_wp2_with fail
      go_ret
      exact ⟨by rw [HT.out]; rfl, HB3.out⟩

end Go.Proofs.Qxb6603619a.Crd
