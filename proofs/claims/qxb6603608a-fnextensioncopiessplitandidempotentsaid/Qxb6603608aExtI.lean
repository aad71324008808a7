import Derived.Test.Qxb6603608aExtH
import Derived.Test.Qxb6603608aExtC
namespace Go.Proofs.Qxb6603608a.Ext
open Go.RowKit
set_option linter.unusedVariables false
set_option linter.unusedSimpArgs false

theorem clone13_nil (w : World) : Calls Try.prog 13 #[.slice none 0 0] w fun e w' => e = .returned (.slice none 0 0) ∧ w' = w := by
  have q27 : ∀ (w : World) (a : Option Addr) (n c n' c' : Nat), (binOp .eql 27 (.slice a n c) (.slice none n' c')).run Try.prog w = .ok (.bool a.isNone) w := fun w a n c n' c' => Lib.run_eql_slice_nil w _ _ a n c n' c' Try.underlying27
  go_enter Try.func13, Try.ntmps13
  go_wp2
  go_ret
  exact ⟨rfl, rfl⟩

theorem clone13_any (a : Option Addr) (n c : Nat) (E : Nat → X) (Z V : Nat → List Int) (w : World) (hn : n ≤ 65536) (hnil : a = none → c = 0) (hx : XAt w a n E) (hg : ∀ i, i < n → Good w (E i) (Z i) (V i)) :
    Calls Try.prog 13 #[.slice a n c] w fun e w' => ∃ a' c' E', e = .returned (.slice a' n c') ∧ XAt w' a' n E' ∧ (∀ i, i < n → Good w' (E' i) (Z i) (V i)) ∧ Below w.heap.size w w' := by
  cases a with
  | none =>
    obtain rfl := hnil rfl
    have h0 : n = 0 := by
      rcases Nat.eq_zero_or_pos n with h | h
      · exact h
      · obtain ⟨b, off, e, _⟩ := hx h
        cases e
    subst h0
    refine (clone13_nil w).mono ?_
    rintro e w' ⟨rfl, rfl⟩
    exact ⟨none, 0, E, rfl, hx, hg, Below.refl _ _⟩
  | some x =>
    refine (clone13 x n c E Z V w hn hx hg).mono ?_
    rintro e w' ⟨E', rfl, hrow, hg', hb⟩
    exact ⟨_, n, E', rfl, hrow.at, hg', hb⟩

/-- What the law is told of its arguments. -/
structure Args (w : World) (a ao : Option Addr) (n c lo co : Nat) (E : Nat → X) (Z V : Nat → List Int) (zo : List Int) : Prop where
  hn : n ≤ maxLen
  anil : a = none → c = 0
  hx : XAt w a n E
  hlo : lo ≤ maxLen
  onil : ao = none → co = 0
  ho : Rd .i64 w ao lo zo
  id : ∀ i, i < n → Rd .i64 w (E i).ia (E i).il (Z i)
  val : ∀ i, i < n → Rd .u8 w (E i).va (E i).vl (V i)
  inil : ∀ i, i < n → (E i).ia = none → (E i).ic = 0
  vnil : ∀ i, i < n → (E i).va = none → (E i).vc = 0
  lens : ∀ i, i < n → (E i).il ≤ maxLen ∧ (E i).vl ≤ maxLen

theorem ms_mono (m : Nat → Bool) {j n : Nat} (h : j ≤ n) : ∃ t, ms m n = ms m j ++ t := by
  obtain ⟨d, rfl⟩ := Nat.exists_eq_add_of_le h
  exact ⟨((List.range d).map (j + ·)).filter m, by simp [ms, List.range_add, List.filter_append]⟩

theorem ms_hit {m : Nat → Bool} {j n : Nat} (h : j < n) (hm : m j = true) : (ms m j).length < (ms m n).length ∧ (ms m n).getD (ms m j).length 0 = j := by
  obtain ⟨t, ht⟩ := ms_mono m (show j + 1 ≤ n from h)
  rw [ms_yes hm] at ht
  rw [ht]
  exact ⟨by simp, by simp [List.getD]⟩

theorem below0 {w : World} (q : Nat) : Below w.heap.size w (w.drewN q) := below_drewN (Below.refl _ _) q

theorem cellW {W w : World} {p : Nat} {a : Addr} {v : Value} (hW : W = w.drewN p) (h : w.cell? a = some v) : W.cell? a = some v := by subst hW; exact h

theorem end_eq (l : List Nat) : (((l.length : Int) == 0) == decide (l = [])) = true := by
  cases l with
  | nil => rfl
  | cons a l =>
    have : ((((a :: l).length : Nat) : Int) == 0) = false := by simp; omega
    rw [this]
    simp

set_option maxHeartbeats 2000000 in
theorem law5 (a ao : Option Addr) (n c lo co : Nat) (E : Nat → X) (Z V : Nat → List Int) (zo : List Int) (w : World) (A : Args w a ao n c lo co E Z V zo) :
    Calls Try.prog 5 #[.slice a n c, .slice ao lo co] w fun e w' => e = .returned (.bool true) ∧ Below w.heap.size w w' := by
  have q37 : ∀ (w : World) (a : Option Addr) (n c n' c' : Nat), (binOp .eql 37 (.slice a n c) (.slice none n' c')).run Try.prog w = .ok (.bool a.isNone) w := fun w a n c n' c' => Lib.run_eql_slice_nil w _ _ a n c n' c' Try.underlying37
  have hn63 := A.hn
  have hlo63 := A.hlo
  unfold maxLen at hn63 hlo63
  go_enter Try.func5, Try.ntmps5
  go_wp2_with fail
  refine (zz11 _ _ _ _ _ _ E _ A.hx A.hn A.hlo A.lens).mono ?_
  rintro e w1 ⟨r, rfl, ⟨q1, rfl⟩, _⟩
  cases r with
  | false =>
    go_wp2_with fail
    go_ret
    exact ⟨rfl, below0 q1⟩
  | true =>
  go_wp2_with fail
  refine (fit12 _ _ _ _ _ _ E _ (A.hx.below (below0 q1)) A.hn A.hlo A.lens).mono ?_
  rintro e w1 ⟨r, rfl, ⟨q2, rfl⟩, hfit⟩
  cases r with
  | false =>
    go_wp2_with fail
    go_ret
    exact ⟨rfl, below0 (q1 + q2)⟩
  | true =>
  obtain ⟨hn, hlo, hlens⟩ := hfit rfl
  clear hfit
  have hb0 : Below w.heap.size w (w.drewN (q1 + q2)) := below0 (q1 + q2)
  go_wp2_with fail
  refine (clone13_any _ _ _ E Z V _ hn A.anil (A.hx.below hb0) (fun i hi => ⟨(A.id i hi).below hb0, (A.val i hi).below hb0, A.inil i hi, A.vnil i hi, (hlens i hi).1, (hlens i hi).2⟩)).mono ?_
  rintro e w1 ⟨a1, c1, E1, rfl, hx1, hg1, hb1⟩
  replace hb1 : Below w.heap.size w w1 := Below.two hb0 hb1
  go_wp2_with fail
  refine (clone14 _ _ _ zo _ A.onil (by omega) (A.ho.below hb1)).mono ?_
  rintro e w2 ⟨a2, c2, rfl, _, _, ho2, hb2⟩
  have hx2 := hx1.below hb2
  have hg2 : ∀ i, i < n → Good w2 (E1 i) (Z i) (V i) := fun i hi => (hg1 i hi).below hb2
  replace hb2 := Below.two hb1 hb2
  go_wp2_with fail
  refine (unpack15 _ _ _ E1 _ hx2 hn).mono ?_
  rintro e w3 ⟨rfl, -, hcols, hb3⟩
  have hx3 := hx2.below hb3
  have ho3 := ho2.below hb3
  have hg3 : ∀ i, i < n → Good w3 (E1 i) (Z i) (V i) := fun i hi => (hg2 i hi).below hb3
  replace hb3 := Below.two hb2 hb3
  go_wp2_with fail
  refine (exts16 n w2.heap.size E1 w3 hn hcols).mono ?_
  rintro e w4 ⟨rfl, -, hrow4, hb4⟩
  have hx4 := hx3.below hb4
  have ho4 := ho3.below hb4
  have hg4 : ∀ i, i < n → Good w4 (E1 i) (Z i) (V i) := fun i hi => (hg3 i hi).below hb4
  replace hb4 := Below.two hb3 hb4
  go_wp2_with fail
  refine (copies17 _ n n E1 _ lo _ zo (fun i => eqB (Z i) zo) _ hn (Nat.le_refl _) (by unfold maxLen; omega) (by omega) hrow4.at ho4 (fun i hi => ⟨Z i, (hg4 i hi).id, by have := (hg4 i hi).ile; omega, rfl⟩)).mono ?_
  rintro e w5 ⟨a5, c5, rfl, hcop, hb5⟩
  have hx5 := hx4.below hb5
  have ho5 := ho4.below hb5
  have hg5 : ∀ i, i < n → Good w5 (E1 i) (Z i) (V i) := fun i hi => (hg4 i hi).below hb5
  replace hb5 := Below.two hb4 hb5
  clear hx1 hx2 hx3 hx4 ho2 ho3 ho4 hg1 hg2 hg3 hg4 hb0 hb1 hb2 hb3 hb4 hcols hrow4 A
  obtain ⟨hc1, hc2, hc3, hc4⟩ := hcop
  obtain ⟨m, hm⟩ : ∃ m : Nat → Bool, m = fun i => eqB (Z i) zo := ⟨_, rfl⟩
  rw [← hm] at hc1 hc3 hc4 ⊢
  have hml := ms_le m n
  have HM : Hid (m = fun i => eqB (Z i) zo) := hm
  clear hm
  have HX : Hid (XAt w5 a1 n E1) := hx5
  have HG : Hid (∀ i, i < n → Good w5 (E1 i) (Z i) (V i)) := hg5
  have HR : Hid (XAt w5 a5 (ms m n).length (R m E1 n)) := hc4
  clear hx5 hg5 hc4
  go_wp2_with fail
  go_loopw [10, 39] (fun ct i wr => ∃ k q : Nat, k ≤ n ∧ i = .int .i64 k ∧ ct = .int .i64 (ms m k).length ∧ wr = w5.drewN q) (fun _ i _ => n - (intOf i).toNat)
  case atStart => exact ⟨0, 0, Nat.zero_le _, rfl, rfl, rfl⟩
  case round =>
    obtain ⟨k, q, hk, rfl, rfl, rfl⟩ := hrel
    have hkl := ms_le m k
    by_cases hlt : k < n
    · obtain ⟨b1, o1, rfl, hcell⟩ := HX.out (by omega)
      obtain ⟨g1, g2, g3⟩ := hcell k hlt
      have hG := HG.out k hlt
      have hlt' : (k : Int) < (n : Int) := by omega
      have hmz : m k = eqB (Z k) zo := congrFun HM.out k
      have hil : (E1 k).il ≤ 1048576 := by have := hG.ile; omega
      clear hcell
      cases hmk : m k with
      | false =>
        have hq : eqB (Z k) zo = false := hmz.symm.trans hmk
        have HK : Hid (m k = false) := hmk
        clear hmz hmk
        go_wp2_with (go_at_call 18; refine (same18 _ _ _ _ _ _ (Z k) zo _ ?_ ?_ ?_ ?_).mono ?_; exact hG.id.below (below0 q); exact ho5.below (below0 q); exact hil; omega; rintro e w' ⟨rfl, q', rfl⟩)
        go_roundw
        case rel => exact ⟨k + 1, _, by omega, by go_num, by rw [ms_no HK.out], rfl⟩
        case measure => simp [intOf]; omega
      | true =>
        have hq : eqB (Z k) zo = true := hmz.symm.trans hmk
        obtain ⟨hh1, hh2⟩ := ms_hit hlt hmk
        obtain ⟨b5, o5, rfl, hres⟩ := HR.out (by omega)
        obtain ⟨r1, r2, r3⟩ := hres _ hh1
        have hRE : R m E1 n (ms m k).length = E1 k := by unfold R; rw [hh2]
        rw [hRE] at r1 r2 r3
        have hh1' : ((ms m k).length : Int) < ((ms m n).length : Int) := by omega
        have HK : Hid (m k = true) := hmk
        clear hmz hmk hh2 hRE hres
        go_wp2_with (go_at_call 18; refine (same18 _ _ _ _ _ _ (Z k) zo _ ?_ ?_ ?_ ?_).mono ?_; exact hG.id.below (below0 q); exact ho5.below (below0 q); exact hil; omega; rintro e w' ⟨rfl, q', rfl⟩)
        obtain ⟨W, hW⟩ : ∃ W, W = w5.drewN (q + q') := ⟨_, rfl⟩
        have s1 := cellW hW g1
        have s2 := cellW hW g2
        have s3 := cellW hW g3
        have t1 := cellW hW r1
        have t2 := cellW hW r2
        have t3 := cellW hW r3
        have hGW : Good W (E1 k) (Z k) (V k) := by rw [hW]; exact hG.below (below0 _)
        rw [← hW]
        have HW : Hid (W = w5.drewN (q + q')) := hW
        clear hW g1 g2 g3 r1 r2 r3
        go_quiet ((go_at_call 19; refine Calls.quiet_of (same19 _ _ _ _ _ _ _ _ _ _ _ (Z k) (V k) _ ?_ ?_ ?_ ?_ rfl rfl ?_ ?_); exact hGW.id.below (below0 _); exact hGW.id.below (below0 _); exact hGW.val.below (below0 _); exact hGW.val.below (below0 _); exact hil; exact hG.vle))
        go_wp2
        go_roundw
        case rel => exact ⟨k + 1, q + q' + nq, by omega, by go_num, by rw [ms_yes HK.out]; simp, by rw [HW.out]; simp⟩
        case measure => simp [intOf]; omega
    · have : k = n := by omega
      subst this
      go_wp2
      go_ret
      exact ⟨ret_bool (end_eq _), below_drewN hb5 q⟩

end Go.Proofs.Qxb6603608a.Ext
