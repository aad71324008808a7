import Derived.Test.Qxb6603619aDL
import Derived.Test.Qxb6603619aDM
import Derived.Test.Qxb6603619aDN
import Derived.LaidEqlPtr
namespace Go.Proofs.Qxb6603619a.Crd
open Go.RowKit
set_option linter.unusedVariables false
set_option linter.unusedSimpArgs false

theorem M.blk' {P : Nat → Prop} {n : Nat} {w : World} {kp md : Bool} {t : T n} {s : Nat} (h : M P n w kp md t s) : ∃ cs, w.heap[s]? = some (.cells cs 49 (0, 0)) := by
  cases n with
  | zero => exact h.elim
  | succ n =>
    obtain ⟨vp, va, vi, h⟩ := h
    exact ⟨_, h.blk⟩

theorem sized {t k : Nat} (h : (Try.prog.info? t).map (·.size) = some (k + 1)) : ∃ j, Try.prog.info? t = some j ∧ j.size ≠ 0 := by
  cases hj : Try.prog.info? t with
  | none => rw [hj] at h; cases h
  | some j =>
    rw [hj] at h
    simp only [Option.map_some, Option.some.injEq] at h
    exact ⟨j, rfl, by omega⟩

theorem neV {w : World} {v v' : Nat} {cs cs' : Array Value} (hne : v ≠ v') (h : w.heap[v]? = some (.cells cs 28 (0, 0))) (h' : w.heap[v']? = some (.cells cs' 28 (0, 0))) : (binOp .eql 24 (.pointer (some ⟨v, 0, none⟩)) (.pointer (some ⟨v', 0, none⟩))).run Try.prog w = .ok (.bool false) w := by
  obtain ⟨j, hj, hz⟩ := sized (t := 28) (k := 5) (by kernel_rfl)
  exact run_eql_ptr_other w Try.underlying24 hj hz (by intro e; apply hne; cases e; rfl) h h'

theorem neS {w : World} {v v' : Nat} {cs cs' : Array Value} (hne : v ≠ v') (h : w.heap[v]? = some (.cells cs 49 (0, 0))) (h' : w.heap[v']? = some (.cells cs' 49 (0, 0))) : (binOp .eql 25 (.pointer (some ⟨v, 0, none⟩)) (.pointer (some ⟨v', 0, none⟩))).run Try.prog w = .ok (.bool false) w := by
  obtain ⟨j, hj, hz⟩ := sized (t := 49) (k := 28) (by kernel_rfl)
  exact run_eql_ptr_other w Try.underlying25 hj hz (by intro e; apply hne; cases e; rfl) h h'

theorem eqS (w : World) (v : Nat) : (binOp .eql 25 (.pointer (some ⟨v, 0, none⟩)) (.pointer (some ⟨v, 0, none⟩))).run Try.prog w = .ok (.bool true) w := by
  obtain ⟨j, hj, hz⟩ := sized (t := 49) (k := 28) (by kernel_rfl)
  exact run_eql_ptr_same w _ Try.underlying25 hj

theorem Within.cases {w : World} {b o : Nat} {e : Ending} {w' : World} (h : Within w (some ⟨b, o, none⟩) e w') : Below w.heap.size w w' ∧ (e = .returned (.bool false) ∨ (e = .returned (.bool true) ∧ ∃ k, ∃ t : T k, k ≤ 65536 ∧ S 65536 k w t b o)) := by
  obtain ⟨r, rfl, hb, hr⟩ := h
  refine ⟨hb, ?_⟩
  cases r with
  | false => exact .inl rfl
  | true => exact .inr ⟨rfl, hr rfl b o rfl⟩

/-- The Version that the law builds. -/
def Vw (w6 : World) (nm : ByteArray) (a b c : Bool) (s : Nat) (d : Bool) : World := w6.alloc (.cells (ver nm a b c s d) 28)

theorem vm0 {n : Nat} {P : Nat → Prop} {w6 : World} {t : T n} {k md : Bool} {s : Nat} (nm : ByteArray) (a b c d : Bool) (h : M P n w6 k md t s) : VM n (Vw w6 nm a b c s d) t k md w6.heap.size nm a b c s d :=
  ⟨heap_alloc_last _ _, h.kept (fun x _ hx => Below.heap_alloc _ _ _ hx) (fun _ _ _ => trivial)⟩

theorem belV (w6 : World) (nm : ByteArray) (a b c : Bool) (s : Nat) (d : Bool) : Below w6.heap.size w6 (Vw w6 nm a b c s d) := (Below.refl _ _).alloc (Nat.le_refl _) _
theorem szV (w6 : World) (nm : ByteArray) (a b c : Bool) (s : Nat) (d : Bool) : (Vw w6 nm a b c s d).heap.size = w6.heap.size + 1 := by simp [Vw, World.size_alloc]

set_option maxRecDepth 100000 in
set_option maxHeartbeats 4000000 in
theorem law3_nil (w : World) (nm : ByteArray) (a b c d kp : Bool) : Calls Try.prog 3 #[.string nm, .bool a, .bool b, .bool c, .bool d, .pointer none, .bool kp] w fun e w' => e = .returned (.bool true) ∧ Below w.heap.size w w' := by
  go_enter Try.func3, Try.ntmps3
  go_wp2_with (go_at_call 5; refine (within5_nil nm (by omega) w).mono ?_; rintro e w5 ⟨r, rfl, b5, -⟩; have HB5 := hid b5; clear b5; cases r)
  all_goals (go_ret; first | exact ⟨rfl, Below.refl _ _⟩ | exact ⟨rfl, HB5.out⟩)

set_option maxRecDepth 100000 in
set_option maxHeartbeats 4000000 in
theorem law3 (w : World) (nm : ByteArray) (a b c d kp : Bool) (n : Nat) (t : T n) (pb po : Nat) (hS : S maxLen n w t pb po) : Calls Try.prog 3 #[.string nm, .bool a, .bool b, .bool c, .bool d, .pointer (some ⟨pb, po, none⟩), .bool kp] w fun e w' => e = .returned (.bool true) ∧ Below w.heap.size w w' := by
  have HS := hid hS
  clear hS
  go_enter Try.func3, Try.ntmps3
  go_upto_region 8 with (first
    | (go_at_call 5; refine (within5 nm (by omega) w n t pb po HS.out).mono ?_; intro e w5 hw5; obtain ⟨b5, rfl | ⟨rfl, k, t', hk, hS'⟩⟩ := hw5.cases <;> clear hw5 <;> have HB5 := hid b5 <;> clear b5)
    | (go_at_call 6; refine (build6 k t' pb po w5 (S.below hS' HB5.out)).mono ?_; rintro e w6 ⟨sB, rfl, m6, b6⟩; have M6 := hid m6; have HB6 := hid (HB5.out.trans (b6.mono HB5.out.size)); have HS' := hid hS'; clear m6 b6 hS'))
  · go_ret
    exact ⟨rfl, Below.refl _ _⟩
  · go_ret
    exact ⟨rfl, HB5.out⟩
  · have hW' : w6.alloc (Obj.cells #[Value.string nm, Value.bool a, Value.bool b, Value.bool c, Value.pointer (some ⟨sB, 0, none⟩), Value.bool d] 28) = Vw w6 nm a b c sB d := rfl
    rw [hW']
    clear hW'
    have hv0 := vm0 nm a b c d M6.out
    have hbV := belV w6 nm a b c sB d
    have hsV := szV w6 nm a b c sB d
    obtain ⟨WV, hWV⟩ : ∃ WV, WV = Vw w6 nm a b c sB d := ⟨_, rfl⟩
    rw [← hWV] at hv0 hbV hsV ⊢
    obtain ⟨x, hx⟩ : ∃ x, x = w6.heap.size := ⟨_, rfl⟩
    rw [← hx] at hv0 hsV ⊢
    have HV0 := hid hv0
    have HBV := hid (HB6.out.trans (hbV.mono HB6.out.size))
    have HSV := hid hsV
    have H7 := hid (all7 hk t' WV true kp false x sB nm a b c d hv0)
    clear hWV hx hv0 hbV hsV
    go_upto_region 9 with (go_at_call 7; refine H7.out.mono ?_; rintro e w7 ⟨v', s', rfl, hge, vm7, b7, -⟩; have HGe := hid hge; have HVM := hid vm7; have HB7 := hid b7; clear hge vm7 b7)
    have hne : ¬ v' = x := by have := HGe.out; rw [HSV.out] at this; omega
    have heq := neV hne HVM.out.blk (HV0.out.below HB7.out).blk
    have hC7 := verC HVM.out.blk
    have d4 := hC7.c4
    have HC7 := hid hC7
    have hC0 := verC (HV0.out.below HB7.out).blk
    have e4 := hC0.c4
    have HE4 := hid e4
    have HSw := hid (S.below HS'.out (HBV.out.trans (HB7.out.mono HBV.out.size)))
    have H9 := hid (match9 k t' _ pb po s' kp true w7 HSw.out (by have := HVM.out.sch; rw [Bool.true_and] at this; exact this))
    have HM0 := hid (HV0.out.below HB7.out).sch
    clear hC7 hC0
    go_wp2_with (first
      | (go_at_call 8; refine (same8 w7 v' s' nm a b c d HC7.out).mono ?_; rintro e w8 ⟨rfl, hw8⟩; rw [hw8]; clear hw8)
      | (go_at_call_of 9 s'; refine H9.out.mono ?_; rintro e w9 ⟨rfl, b9⟩; have HB9 := hid b9; have e4' := (b9.cell (cell_lt HE4.out)).trans HE4.out; clear b9)
      | (go_at_call_of 9 sB; refine (match9 k t' _ pb po sB true false w9 (S.below HSw.out HB9.out) (HM0.out.below HB9.out)).mono ?_; rintro e w10 ⟨rfl, b10⟩; have HB10 := hid b10; clear b10))
    go_ret
    have q1 := HBV.out.trans (HB7.out.mono HBV.out.size)
    have q2 := q1.trans (HB9.out.mono q1.size)
    exact ⟨rfl, q2.trans (HB10.out.mono q2.size)⟩

set_option maxRecDepth 100000 in
set_option maxHeartbeats 4000000 in
theorem law4_nil (w : World) (nm : ByteArray) (a b c d k1 k2 : Bool) : Calls Try.prog 4 #[.string nm, .bool a, .bool b, .bool c, .bool d, .pointer none, .bool k1, .bool k2] w fun e w' => e = .returned (.bool true) ∧ Below w.heap.size w w' := by
  go_enter Try.func4, Try.ntmps4
  go_wp2_with (go_at_call 5; refine (within5_nil nm (by omega) w).mono ?_; rintro e w5 ⟨r, rfl, b5, -⟩; have HB5 := hid b5; clear b5; cases r)
  all_goals (go_ret; first | exact ⟨rfl, Below.refl _ _⟩ | exact ⟨rfl, HB5.out⟩)

set_option maxRecDepth 100000 in
set_option maxHeartbeats 8000000 in
theorem law4 (w : World) (nm : ByteArray) (a b c d k1 k2 : Bool) (n : Nat) (t : T n) (pb po : Nat) (hS : S maxLen n w t pb po) : Calls Try.prog 4 #[.string nm, .bool a, .bool b, .bool c, .bool d, .pointer (some ⟨pb, po, none⟩), .bool k1, .bool k2] w fun e w' => e = .returned (.bool true) ∧ Below w.heap.size w w' := by
  have HS := hid hS
  clear hS
  go_enter Try.func4, Try.ntmps4
  go_upto_region 8 with (first
    | (go_at_call 5; refine (within5 nm (by omega) w n t pb po HS.out).mono ?_; intro e w5 hw5; obtain ⟨b5, rfl | ⟨rfl, k, t', hk, hS'⟩⟩ := hw5.cases <;> clear hw5 <;> have HB5 := hid b5 <;> clear b5)
    | (go_at_call 6; refine (build6 k t' pb po w5 (S.below hS' HB5.out)).mono ?_; rintro e w6 ⟨sB, rfl, m6, b6⟩; have M6 := hid m6; have HB6 := hid (HB5.out.trans (b6.mono HB5.out.size)); have HS' := hid hS'; clear m6 b6 hS'))
  · go_ret
    exact ⟨rfl, Below.refl _ _⟩
  · go_ret
    exact ⟨rfl, HB5.out⟩
  · have hW' : w6.alloc (Obj.cells #[Value.string nm, Value.bool a, Value.bool b, Value.bool c, Value.pointer (some ⟨sB, 0, none⟩), Value.bool d] 28) = Vw w6 nm a b c sB d := rfl
    rw [hW']
    clear hW'
    have hv0 := vm0 nm a b c d M6.out
    have hbV := belV w6 nm a b c sB d
    have hsV := szV w6 nm a b c sB d
    obtain ⟨WV, hWV⟩ : ∃ WV, WV = Vw w6 nm a b c sB d := ⟨_, rfl⟩
    rw [← hWV] at hv0 hbV hsV ⊢
    obtain ⟨x, hx⟩ : ∃ x, x = w6.heap.size := ⟨_, rfl⟩
    rw [← hx] at hv0 hsV ⊢
    have HV0 := hid hv0
    have HBV := hid (HB6.out.trans (hbV.mono HB6.out.size))
    have HSV := hid hsV
    have H7 := hid (all7 hk t' WV true k1 false x sB nm a b c d hv0)
    clear hWV hx hv0 hbV hsV
    go_upto_region 9 with (go_at_call 7; refine H7.out.mono ?_; rintro e w7 ⟨v', s', rfl, hge, vm7, b7, -⟩; have HGe := hid hge; have HVM := hid vm7; have HB7 := hid b7; clear hge vm7 b7)
    have hne : ¬ v' = x := by have := HGe.out; rw [HSV.out] at this; omega
    have heq := neV hne HVM.out.blk (HV0.out.below HB7.out).blk
    have hv2 := HVM.out
    rw [Bool.true_and] at hv2
    have HV2 := hid hv2
    have H7' := hid (all7 hk t' w7 k1 k2 true v' s' nm a b c d hv2)
    have HBw7 := hid (HBV.out.trans (HB7.out.mono HBV.out.size))
    clear hne hv2
    go_upto_region 12 with (go_at_call 7; refine H7'.out.mono ?_; rintro e w8 ⟨v3, s3, rfl, hge, vm8, b8, p1, p2⟩; have HGe3 := hid hge; have HVM3 := hid vm8; have HB8 := hid b8; have P1 := hid p1; have P2 := hid p2; clear hge vm8 b8 p1 p2)
    have hlt2 : v' < w7.heap.size := (Array.getElem?_eq_some_iff.1 HV2.out.blk).1
    have hne3 : ¬ v3 = v' := by have := HGe3.out; omega
    have heq3 := neV hne3 HVM3.out.blk (HV2.out.below HB8.out).blk
    have HC3 := hid (verC HVM3.out.blk)
    have HBw8 := hid (HBw7.out.trans (HB8.out.mono HBw7.out.size))
    have HSw := hid (S.below HS'.out HBw8.out)
    have HX2 := hid (HV2.out.below HB8.out)
    have HX0 := hid ((HV0.out.below HB7.out).below HB8.out)
    clear heq hlt2 hne3
    obtain ⟨q, hq⟩ : ∃ q, q = gives k t' := ⟨_, rfl⟩
    have H10 : Hid (Calls Try.prog 10 #[.pointer (some ⟨pb, po, none⟩)] w8 fun e w' => e = .returned (.bool q) ∧ Below w8.heap.size w8 w') := hid (by rw [hq]; exact gives10 _ _ _ _ _ HSw.out)
    have HQ := hid hq
    clear hq
    go_upto_region 16 with (go_at_call 8; refine (same8 w8 v3 s3 nm a b c d HC3.out).mono ?_; rintro e w8' ⟨rfl, hw8⟩; rw [hw8]; clear hw8)
    go_cut [20] from 21 (fun v wx => v = .bool (k1 && q) ∧ Below w8.heap.size w8 wx)
    case first => as_aux_lemma =>
      cases k1 with
      | false =>
        go_wp2_with fail
        go_meet
        case rel => exact ⟨rfl, Below.refl _ _⟩
      | true =>
        go_wp2_with (go_at_call 10; refine H10.out.mono ?_; rintro e w10 ⟨rfl, b10⟩; have HB10 := hid b10; clear b10)
        go_meet
        case rel => exact ⟨rfl, HB10.out⟩
    case rest =>
    obtain ⟨rfl, hb9⟩ := hcut
    have HB9 := hid hb9
    have d4 := (verC (HVM3.out.below hb9).blk).c4
    have e4 := (verC (HX2.out.below hb9).blk).c4
    clear hb9 heq3
    go_step
    go_step
    go_cut [] from 20 (fun wx => Below w8.heap.size w8 wx)
    case first => as_aux_lemma =>
      obtain ⟨g, hg⟩ : ∃ g, g = (k1 && q) := ⟨_, rfl⟩
      rw [← hg]
      cases g with
      | true =>
        have hpl : (true && !(k1 && gives k t')) = false := by rw [← HQ.out, ← hg]; rfl
        have h3 := P2.out hpl
        have hs2 := HV2.out.sch.lt
        have hne : s3 ≠ s' := by omega
        have m3 := (HVM3.out.below HB9.out).sch.blk'
        have m2 := (HX2.out.below HB9.out).sch.blk'
        obtain ⟨cs3, m3⟩ := m3
        obtain ⟨cs2, m2⟩ := m2
        have heq := fun r => neS (w := wc.drewN r) hne m3 m2
        clear hpl h3 hs2 hne m3 m2 hg
        go_wp2_with fail
        go_quiet (fail)
        go_wp2_with fail
        go_meet
        case rel => exact below_drewN HB9.out _
      | false =>
        have hpl : (true && !(k1 && gives k t')) = true := by rw [← HQ.out, ← hg]; rfl
        have h3 := P1.out hpl
        subst h3
        have heq := fun r => eqS (wc.drewN r) s3
        clear hpl hg
        go_wp2_with fail
        go_quiet (fail)
        go_wp2_with fail
        go_meet
        case rel => exact below_drewN HB9.out _
    case rest =>
    have HB10 := hid hcut
    have d4' := (verC (HVM3.out.below hcut).blk).c4
    have H93 := hid (match9 k t' _ pb po s3 (k1 && k2) true wc (S.below HSw.out hcut) (HVM3.out.below hcut).sch)
    have HY2 := hid (HX2.out.below hcut)
    have HY0 := hid (HX0.out.below hcut)
    have HSy := hid (S.below HSw.out hcut)
    clear hcut d4 e4
    cases k1 with
    | true => as_aux_lemma =>
      have H93' := H93
      rw [Bool.true_and] at H93'
      clear H93 HV2 HX2 P1 P2
      go_wp2_with (first
        | (go_at_call_of 9 s3; refine H93'.out.mono ?_; rintro e w11 ⟨rfl, b11⟩; have HB11 := hid b11; have z4 := (verC (HY2.out.below b11).blk).c4; clear b11)
        | (go_at_call_of 9 s'; refine (match9 k t' _ pb po s' true true w11 (S.below HSy.out HB11.out) (HY2.out.below HB11.out).sch).mono ?_; rintro e w12 ⟨rfl, b12⟩; have HB12 := hid b12; have y4 := (verC ((HY0.out.below HB11.out).below b12).blk).c4; clear b12)
        | (go_at_call_of 9 sB; refine (match9 k t' _ pb po sB true false w12 (S.below (S.below HSy.out HB11.out) HB12.out) ((HY0.out.below HB11.out).below HB12.out).sch).mono ?_; rintro e w13 ⟨rfl, b13⟩; have HB13 := hid b13; clear b13))
      go_ret
      have q1 := HBw8.out.trans (HB10.out.mono HBw8.out.size)
      have q2 := q1.trans (HB11.out.mono q1.size)
      have q3 := q2.trans (HB12.out.mono q2.size)
      exact ⟨rfl, q3.trans (HB13.out.mono q3.size)⟩
    | false => as_aux_lemma =>
      have H93' := H93
      rw [Bool.false_and] at H93'
      clear H93 HV2 HX2 P1 P2
      go_wp2_with (first
        | (go_at_call_of 9 s3; refine H93'.out.mono ?_; rintro e w11 ⟨rfl, b11⟩; have HB11 := hid b11; have z4 := (verC (HY2.out.below b11).blk).c4; clear b11)
        | (go_at_call_of 9 s'; refine (match9 k t' _ pb po s' false true w11 (S.below HSy.out HB11.out) (HY2.out.below HB11.out).sch).mono ?_; rintro e w12 ⟨rfl, b12⟩; have HB12 := hid b12; have y4 := (verC ((HY0.out.below HB11.out).below b12).blk).c4; clear b12)
        | (go_at_call_of 9 sB; refine (match9 k t' _ pb po sB true false w12 (S.below (S.below HSy.out HB11.out) HB12.out) ((HY0.out.below HB11.out).below HB12.out).sch).mono ?_; rintro e w13 ⟨rfl, b13⟩; have HB13 := hid b13; clear b13))
      go_ret
      have q1 := HBw8.out.trans (HB10.out.mono HBw8.out.size)
      have q2 := q1.trans (HB11.out.mono q1.size)
      have q3 := q2.trans (HB12.out.mono q2.size)
      exact ⟨rfl, q3.trans (HB13.out.mono q3.size)⟩

end Go.Proofs.Qxb6603619a.Crd
