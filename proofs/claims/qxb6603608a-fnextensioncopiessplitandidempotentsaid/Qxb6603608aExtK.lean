import Derived.Test.Qxb6603608aExtJ
namespace Go.Proofs.Qxb6603608a.Ext
open Go.RowKit
set_option linter.unusedVariables false
set_option linter.unusedSimpArgs false

theorem ms_split (m : Nat → Bool) {k n : Nat} (h : k ≤ n) : ms m n = ms m k ++ (ms (fun i => m (k + i)) (n - k)).map (k + ·) := by
  obtain ⟨d, rfl⟩ := Nat.exists_eq_add_of_le h
  have e : k + d - k = d := by omega
  rw [e]
  simp [ms, List.range_add, List.filter_append, List.filter_map, Function.comp_def]

theorem ms_all {m : Nat → Bool} {r : Nat} (h : ∀ j, j < r → m j = true) : ms m r = List.range r := by
  rw [ms, List.filter_eq_self]
  intro a ha
  exact h a (by simpa using ha)

theorem XAt.congr {w : World} {a : Option Addr} {n : Nat} {E E' : Nat → X} (h : XAt w a n E) (he : ∀ j, j < n → E j = E' j) : XAt w a n E' := by
  intro h0
  obtain ⟨b, off, e, hc⟩ := h h0
  exact ⟨b, off, e, fun i hi => by rw [← he i hi]; exact hc i hi⟩

theorem XAt.take {w : World} {a : Option Addr} {n k : Nat} {E : Nat → X} (h : XAt w a n E) (hk : k ≤ n) : XAt w a k E := by
  intro h0
  obtain ⟨b, off, e, hc⟩ := h (by omega)
  exact ⟨b, off, e, fun i hi => hc i (by omega)⟩

theorem XAt.drop {w : World} {B n k : Nat} {E : Nat → X} (h : XAt w (some ⟨B, 0, none⟩) n E) (hk : k < n) : XAt w (some ⟨B, k * 3, none⟩) (n - k) (fun i => E (k + i)) := by
  intro h0
  obtain ⟨b, off, e, hc⟩ := h (by omega)
  simp only [Option.some.injEq, Addr.mk.injEq, and_true] at e
  obtain ⟨rfl, rfl⟩ := e
  refine ⟨B, k * 3, rfl, fun i hi => ?_⟩
  have := hc (k + i) (by omega)
  rw [Nat.add_mul, Nat.zero_add] at this
  exact this

/-- extensionCopies, the length and the content of its answer said by the caller. -/
theorem copies17' (a : Option Addr) (n c : Nat) (E : Nat → X) (ao : Option Addr) (lo co : Nat) (zo : List Int) (m : Nat → Bool) (w : World) (r : Nat) (E' : Nat → X) (hr : (ms m n).length = r) (hE : ∀ j, j < r → E ((ms m n).getD j 0) = E' j)
    (hn : n ≤ 65536) (hnc : n ≤ c) (hc : c ≤ maxLen) (hlo : lo ≤ 1048576) (hx : XAt w a n E) (ho : Rd .i64 w ao lo zo)
    (hm : ∀ i, i < n → ∃ z, Rd .i64 w (E i).ia (E i).il z ∧ (E i).il ≤ 1048576 ∧ m i = eqB z zo) :
    Calls Try.prog 17 #[.slice a n c, .slice ao lo co] w fun e w' => ∃ a' c', e = .returned (.slice a' r c') ∧ r ≤ c' ∧ c' ≤ maxLen ∧ XAt w' a' r E' ∧ Below w.heap.size w w' := by
  subst hr
  refine (copies17 a n c E ao lo co zo m w hn hnc hc hlo hx ho hm).mono ?_
  rintro e w' ⟨a', c', rfl, ⟨h1, h2, _, h4⟩, hb⟩
  exact ⟨a', c', rfl, h1, h2, h4.congr hE, hb⟩

theorem right_at {m : Nat → Bool} {k n j : Nat} (h : k ≤ n) (hj : j < (ms (fun i => m (k + i)) (n - k)).length) : (ms m n).getD ((ms m k).length + j) 0 = k + (ms (fun i => m (k + i)) (n - k)).getD j 0 := by
  rw [ms_split m h]
  simp [List.getD, List.getElem?_append_right, hj]

theorem left_at {m : Nat → Bool} {k n j : Nat} (h : k ≤ n) (hj : j < (ms m k).length) : (ms m n).getD j 0 = (ms m k).getD j 0 := by
  rw [ms_split m h]
  simp [List.getD, List.getElem?_append_left, hj]

theorem split_len (m : Nat → Bool) {k n : Nat} (h : k ≤ n) : (ms m n).length = (ms m k).length + (ms (fun i => m (k + i)) (n - k)).length := by
  rw [ms_split m h]; simp

set_option maxRecDepth 100000 in
set_option maxHeartbeats 4000000 in
theorem law6 (a ao : Option Addr) (n c lo co : Nat) (kk : Int) (E : Nat → X) (Z V : Nat → List Int) (zo : List Int) (w : World) (A : Args w a ao n c lo co E Z V zo) :
    Calls Try.prog 6 #[.slice a n c, .slice ao lo co, .int .i64 kk] w fun e w' => e = .returned (.bool true) ∧ Below w.heap.size w w' := by
  have hn63 := A.hn
  have hlo63 := A.hlo
  unfold maxLen at hn63 hlo63
  go_enter Try.func6, Try.ntmps6
  go_wp2_with fail
  refine (zz20 _ _ _ _ _ _ _ E _ A.hx A.hn A.hlo A.lens).mono ?_
  rintro e w1 ⟨r, rfl, ⟨q1, rfl⟩, _⟩
  cases r with
  | false =>
    go_wp2_with fail
    go_ret
    exact ⟨rfl, below0 q1⟩
  | true =>
  go_wp2_with fail
  refine (fit12 _ _ _ _ _ _ E _ (A.hx.below (below0 q1)) A.hn A.hlo A.lens).mono ?_
  rintro e w1 ⟨r, rfl, ⟨q2, rfl⟩, hfit⟩
  cases r with
  | false =>
    go_wp2_with fail
    go_ret
    exact ⟨rfl, below0 (q1 + q2)⟩
  | true =>
  obtain ⟨hn, hlo, hlens⟩ := hfit rfl
  clear hfit
  have hb0 : Below w.heap.size w (w.drewN (q1 + q2)) := below0 (q1 + q2)
  by_cases hk0 : kk < 0
  · go_wp2_with fail
    go_ret
    exact ⟨rfl, hb0⟩
  by_cases hkn : (n : Int) < kk
  · go_wp2_with fail
    go_ret
    exact ⟨rfl, hb0⟩
  obtain ⟨k, rfl⟩ : ∃ k : Nat, kk = k := ⟨kk.toNat, by omega⟩
  have hk : k ≤ n := by omega
  go_wp2_with fail
  refine (clone13_any _ _ _ E Z V _ hn A.anil (A.hx.below hb0) (fun i hi => ⟨(A.id i hi).below hb0, (A.val i hi).below hb0, A.inil i hi, A.vnil i hi, (hlens i hi).1, (hlens i hi).2⟩)).mono ?_
  rintro e w1 ⟨a1, c1, E1, rfl, hx1, hg1, hb1⟩
  replace hb1 : Below w.heap.size w w1 := Below.two hb0 hb1
  go_wp2_with fail
  refine (clone14 _ _ _ zo _ A.onil (by omega) (A.ho.below hb1)).mono ?_
  rintro e w2 ⟨a2, c2, rfl, -, -, ho2, hb2⟩
  have hx2 := hx1.below hb2
  have hg2 : ∀ i, i < n → Good w2 (E1 i) (Z i) (V i) := fun i hi => (hg1 i hi).below hb2
  replace hb2 := Below.two hb1 hb2
  go_wp2_with fail
  refine (unpack15 _ _ _ E1 _ hx2 hn).mono ?_
  rintro e w3 ⟨rfl, -, hcols, hb3⟩
  have hx3 := hx2.below hb3
  have ho3 := ho2.below hb3
  have hg3 : ∀ i, i < n → Good w3 (E1 i) (Z i) (V i) := fun i hi => (hg2 i hi).below hb3
  replace hb3 := Below.two hb2 hb3
  go_wp2_with fail
  refine (exts16 n w2.heap.size E1 w3 hn hcols).mono ?_
  rintro e w4 ⟨rfl, -, hrow4, hb4⟩
  have hx4 := hx3.below hb4
  have ho4 := ho3.below hb4
  have hg4 : ∀ i, i < n → Good w4 (E1 i) (Z i) (V i) := fun i hi => (hg3 i hi).below hb4
  replace hb4 := Below.two hb3 hb4
  have hbt4 := hrow4.at
  clear hx1 hx2 hx3 ho2 ho3 hg1 hg2 hg3 hb0 hb1 hb2 hb3 hcols hrow4 A
  obtain ⟨m, hm⟩ : ∃ m : Nat → Bool, m = fun i => eqB (Z i) zo := ⟨_, rfl⟩
  have HM : Hid (∀ i, m i = eqB (Z i) zo) := fun i => congrFun hm i
  clear hm
  obtain ⟨r, hr⟩ : ∃ r, (ms m n).length = r := ⟨_, rfl⟩
  obtain ⟨rl, hrl⟩ : ∃ rl, (ms m k).length = rl := ⟨_, rfl⟩
  obtain ⟨rt, hrt⟩ : ∃ rt, (ms (fun i => m (k + i)) (n - k)).length = rt := ⟨_, rfl⟩
  have hsum : r = rl + rt := by rw [← hr, ← hrl, ← hrt]; exact split_len m hk
  have hrn : r ≤ n := by rw [← hr]; exact ms_le m n
  obtain ⟨xs, hxs⟩ : ∃ xs : Nat → X, xs = fun j => E1 ((ms m n).getD j 0) := ⟨_, rfl⟩
  have HS : Hid (xs = fun j => E1 ((ms m n).getD j 0)) := hxs
  have HR : Hid ((ms m n).length = r) := hr
  have HL : Hid ((ms m k).length = rl) := hrl
  have HT : Hid ((ms (fun i => m (k + i)) (n - k)).length = rt) := hrt
  have HSum : Hid (r = rl + rt) := hsum
  clear hxs hr hrl hrt hsum
  go_wp2_with fail
  refine (copies17' _ n n E1 _ lo _ zo m _ r xs HR.out (fun j _ => by rw [HS.out]) hn (Nat.le_refl _) (by unfold maxLen; omega) (by omega) hbt4 ho4 (fun i hi => ⟨Z i, (hg4 i hi).id, by have := (hg4 i hi).ile; omega, HM.out i⟩)).mono ?_
  rintro e w5 ⟨aR, cR, rfl, hR1, hR2, hR5, hb5⟩
  have hx5 := hx4.below hb5
  have ho5 := ho4.below hb5
  have hbt5 := hbt4.below hb5
  have hg5 : ∀ i, i < n → Good w5 (E1 i) (Z i) (V i) := fun i hi => (hg4 i hi).below hb5
  replace hb5 := Below.two hb4 hb5
  clear hx4 ho4 hbt4 hg4 hb4
  have hk' : (k : Int) ≤ (n : Int) := by omega
  go_wp2_with fail
  refine (copies17' _ k n E1 _ lo _ zo m _ rl xs HL.out (fun j hj => by rw [HS.out]; simp only; rw [left_at hk (by rw [HL.out]; exact hj)]) (by omega) hk (by unfold maxLen; omega) (by omega) (hbt5.take hk) ho5 (fun i hi => ⟨Z i, (hg5 i (by omega)).id, by have := (hg5 i (by omega)).ile; omega, HM.out i⟩)).mono ?_
  rintro e w6 ⟨aL, cL, rfl, hL1, hL2, hL6, hb6⟩
  have hx6 := hx5.below hb6
  have ho6 := ho5.below hb6
  have hbt6 := hbt5.below hb6
  have hR6 := hR5.below hb6
  have hg6 : ∀ i, i < n → Good w6 (E1 i) (Z i) (V i) := fun i hi => (hg5 i hi).below hb6
  replace hb6 := Below.two hb5 hb6
  clear hx5 ho5 hbt5 hg5 hb5 hR5
  have hSr : ∀ j, j < rt → E1 (k + (ms (fun i => m (k + i)) (n - k)).getD j 0) = xs (rl + j) := fun j hj => by
    rw [HS.out]
    simp only
    rw [← HL.out, right_at hk (by rw [HT.out]; exact hj)]
  by_cases hkeq : n = k
  case' pos =>
    subst hkeq
    simp only [Nat.sub_self] at hSr
    have hT0 : (ms (fun i => m (n + i)) 0).length = rt := by simpa using HT.out
    have H0 : Hid ((ms (fun i => m (n + i)) 0).length = rt) := hT0
    clear hT0
    go_wp2_with fail
    refine (copies17' _ 0 0 (fun i => E1 (n + i)) _ lo _ zo (fun i => m (n + i)) _ rt (fun j => xs (rl + j)) H0.out hSr (by omega) (Nat.le_refl _) (by unfold maxLen; omega) (by omega) (fun h => absurd h (Nat.lt_irrefl _)) ho6 (fun i hi => absurd hi (Nat.not_lt_zero _))).mono ?_
    clear H0
  case' neg =>
    have hkl : k < n := by omega
    have hkl' : (k : Int) < (n : Int) := by omega
    go_wp2_with fail
    refine (copies17' _ (n - k) (n - k) (fun i => E1 (k + i)) _ lo _ zo (fun i => m (k + i)) _ rt (fun j => xs (rl + j)) HT.out hSr (by omega) (Nat.le_refl _) (by unfold maxLen; omega) (by omega) (hbt6.drop hkl) ho6 (fun i hi => ⟨Z (k + i), (hg6 (k + i) (by omega)).id, by have := (hg6 (k + i) (by omega)).ile; omega, HM.out (k + i)⟩)).mono ?_
    clear hkl hkl'
  all_goals
    rintro e w7 ⟨aT, cT, rfl, hT1, hT2, hT7, hb7⟩
    have hx7 := hx6.below hb7
    have ho7 := ho6.below hb7
    have hR7 := hR6.below hb7
    have hL7 := hL6.below hb7
    have hg7 : ∀ i, i < n → Good w7 (E1 i) (Z i) (V i) := fun i hi => (hg6 i hi).below hb7
    replace hb7 := Below.two hb6 hb7
    clear hx6 ho6 hbt6 hg6 hb6 hR6 hL6 hSr HT
    have hgx : ∀ i, i < r → ∃ z v, Good w7 (xs i) z v ∧ eqB z zo = true := fun i hi => by
      have hlt := ms_lt (m := m) (k := n) (j := i) (by rw [HR.out]; exact hi)
      refine ⟨_, _, by rw [HS.out]; exact hg7 _ hlt.1, ?_⟩
      rw [← HM.out]; exact hlt.2
    go_wp2_with fail
    refine (copies17' _ r cR xs _ lo _ zo (fun _ => true) _ r xs (by rw [ms_all (fun _ _ => rfl)]; simp) (fun j hj => by rw [ms_all (fun _ _ => rfl)]; simp [List.getD, hj]) (by omega) hR1 hR2 (by omega) hR7 ho7 (fun i hi => ?_)).mono ?_
    · obtain ⟨z, v, hG, hz⟩ := hgx i hi
      exact ⟨z, hG.id, by have := hG.ile; omega, hz.symm⟩
    rintro e w8 ⟨aA, cA, rfl, hA1, hA2, hA8, hb8⟩
    have hx8 := hx7.below hb8
    have ho8 := ho7.below hb8
    have hR8 := hR7.below hb8
    have hL8 := hL7.below hb8
    have hT8 := hT7.below hb8
    have hg8 : ∀ i, i < n → Good w8 (E1 i) (Z i) (V i) := fun i hi => (hg7 i hi).below hb8
    have hgx8 : ∀ i, i < r → ∃ z v, Good w8 (xs i) z v ∧ eqB z zo = true := fun i hi => by
      obtain ⟨z, v, h1, h2⟩ := hgx i hi
      exact ⟨z, v, h1.below hb8, h2⟩
    replace hb8 := Below.two hb7 hb8
    clear hx7 ho7 hR7 hL7 hT7 hg7 hgx hb7
    have hs1 : (rl : Int) + (rt : Int) ≤ (r : Int) := by have := HSum.out; omega
    have hs2 : (r : Int) ≤ (rl : Int) + (rt : Int) := by have := HSum.out; omega
    have HX8 : Hid (XAt w8 a1 n E1) := hx8
    have HR8 : Hid (XAt w8 aR r xs) := hR8
    have HL8 : Hid (XAt w8 aL rl xs) := hL8
    have HT8 : Hid (XAt w8 aT rt (fun j => xs (rl + j))) := hT8
    have HA8 : Hid (XAt w8 aA r xs) := hA8
    have HG8 : Hid (∀ i, i < n → Good w8 (E1 i) (Z i) (V i)) := hg8
    have HGX : Hid (∀ i, i < r → ∃ z v, Good w8 (xs i) z v ∧ eqB z zo = true) := hgx8
    clear hx8 hR8 hL8 hT8 hA8 hg8 hgx8
    go_wp2_with fail
    go_loopw [15, 68] (fun ct i wr => ∃ j q : Nat, j ≤ n ∧ i = .int .i64 j ∧ ct = .int .i64 (ms m j).length ∧ wr = w8.drewN q) (fun _ i _ => n - (intOf i).toNat)
    case atStart => exact ⟨0, 0, Nat.zero_le _, rfl, rfl, rfl⟩
    case round =>
      obtain ⟨j, q, hj, rfl, rfl, rfl⟩ := hrel
      have hjl := ms_le m j
      by_cases hlt : j < n
      · obtain ⟨b1, o1, rfl, hcell⟩ := HX8.out (by omega)
        obtain ⟨g1, g2, g3⟩ := hcell j hlt
        have hG := HG8.out j hlt
        have hlt' : (j : Int) < (n : Int) := by omega
        have hil : (E1 j).il ≤ 1048576 := by have := hG.ile; omega
        clear hcell
        cases hmk : m j with
        | false =>
          have hq : eqB (Z j) zo = false := (HM.out j).symm.trans hmk
          have HK : Hid (m j = false) := hmk
          clear hmk
          go_wp2_with (go_at_call 18; refine (same18 _ _ _ _ _ _ (Z j) zo _ ?_ ?_ ?_ ?_).mono ?_; exact hG.id.below (below0 q); exact ho8.below (below0 q); exact hil; omega; rintro e w' ⟨rfl, q', rfl⟩)
          go_roundw
          case rel => exact ⟨j + 1, _, by omega, by go_num, by rw [ms_no HK.out], rfl⟩
          case measure => simp [intOf]; omega
        | true =>
          have hq : eqB (Z j) zo = true := (HM.out j).symm.trans hmk
          have HK : Hid (m j = true) := hmk
          clear hmk
          go_wp2_with (go_at_call 18; refine (same18 _ _ _ _ _ _ (Z j) zo _ ?_ ?_ ?_ ?_).mono ?_; exact hG.id.below (below0 q); exact ho8.below (below0 q); exact hil; omega; rintro e w' ⟨rfl, q', rfl⟩)
          go_roundw
          case rel => exact ⟨j + 1, _, by omega, by go_num, by rw [ms_yes HK.out]; simp, rfl⟩
          case measure => simp [intOf]; omega
      · have hjn : j = n := by omega
        subst hjn
        rw [HR.out]
        clear hjl hlt
        go_wp2_with fail
        go_loopw [104] (fun i wr => ∃ t q : Nat, t ≤ r ∧ i = .int .i64 t ∧ wr = w8.drewN q) (fun i _ => r - (intOf i).toNat)
        case atStart => exact ⟨0, _, Nat.zero_le _, rfl, rfl⟩
        case round =>
          obtain ⟨t, q, ht, rfl, rfl⟩ := hrel
          by_cases hlt : t < r
          · obtain ⟨bR, oR, rfl, hcR⟩ := HR8.out (by omega)
            obtain ⟨bA, oA, rfl, hcA⟩ := HA8.out (by omega)
            obtain ⟨r1, r2, r3⟩ := hcR t hlt
            obtain ⟨s1, s2, s3⟩ := hcA t hlt
            obtain ⟨z, v, hG, hq⟩ := HGX.out t hlt
            have hlt' : (t : Int) < (r : Int) := by omega
            have hil : (xs t).il ≤ 1048576 := by have := hG.ile; omega
            clear hcR hcA
            go_wp2_with (go_at_call 18; refine (same18 _ _ _ _ _ _ z zo _ ?_ ?_ ?_ ?_).mono ?_; exact hG.id.below (below0 q); exact ho8.below (below0 q); exact hil; omega; rintro e w' ⟨rfl, q', rfl⟩)
            obtain ⟨W, hW⟩ : ∃ W, W = w8.drewN (q + q') := ⟨_, rfl⟩
            replace r1 := cellW hW r1
            replace r2 := cellW hW r2
            replace r3 := cellW hW r3
            replace s1 := cellW hW s1
            replace s2 := cellW hW s2
            replace s3 := cellW hW s3
            have hGW : Good W (xs t) z v := by rw [hW]; exact hG.below (below0 _)
            rw [← hW]
            have HW : Hid (W = w8.drewN (q + q')) := hW
            clear hW
            go_quiet ((go_at_call 19; refine Calls.quiet_of (same19 _ _ _ _ _ _ _ _ _ _ _ z v _ ?_ ?_ ?_ ?_ rfl rfl ?_ ?_); exact hGW.id.below (below0 _); exact hGW.id.below (below0 _); exact hGW.val.below (below0 _); exact hGW.val.below (below0 _); exact hil; exact hG.vle))
            have ht0 : (0 : Int) ≤ (t : Int) := by omega
            by_cases hleft : t < rl
            · have hleft' : (t : Int) < (rl : Int) := by omega
              go_wp2_with fail
              obtain ⟨bL, oL, rfl, hcL⟩ := HL8.out (by omega)
              obtain ⟨p1, p2, p3⟩ := hcL t hleft
              obtain ⟨W2, hW2⟩ : ∃ W2, W2 = W.drewN nq := ⟨_, rfl⟩
              replace r1 := cellW hW2 r1
              replace r2 := cellW hW2 r2
              replace r3 := cellW hW2 r3
              replace p1 := cellW hW2 (cellW HW.out p1)
              replace p2 := cellW hW2 (cellW HW.out p2)
              replace p3 := cellW hW2 (cellW HW.out p3)
              have hG2 : Good W2 (xs t) z v := by rw [hW2]; exact hGW.below (below0 _)
              rw [← hW2]
              have HW2 : Hid (W2 = W.drewN nq) := hW2
              clear hW2 s1 s2 s3 hcL
              go_quiet ((go_at_call 19; refine Calls.quiet_of (same19 _ _ _ _ _ _ _ _ _ _ _ z v _ ?_ ?_ ?_ ?_ rfl rfl ?_ ?_); exact hG2.id.below (below0 _); exact hG2.id.below (below0 _); exact hG2.val.below (below0 _); exact hG2.val.below (below0 _); exact hil; exact hG.vle))
              go_wp2
              go_roundw
              case rel => exact ⟨t + 1, _, by omega, by go_num, by rw [HW2.out, HW.out, World.drewN_drewN, World.drewN_drewN]⟩
              case measure => simp [intOf]; omega
            · have hleft' : (rl : Int) ≤ (t : Int) := by omega
              go_wp2_with fail
              obtain ⟨u, hu⟩ : ∃ u : Nat, t = rl + u := ⟨t - rl, by omega⟩
              have hu' : (t : Int) - (rl : Int) = (u : Int) := by omega
              have hur : u < rt := by omega
              have hur' : (u : Int) < (rt : Int) := by omega
              have hu0 : (0 : Int) ≤ (u : Int) := by omega
              simp only [hu']
              obtain ⟨bT, oT, rfl, hcT⟩ := HT8.out (by omega)
              obtain ⟨p1, p2, p3⟩ := hcT u hur
              simp only [← hu] at p1 p2 p3
              obtain ⟨W2, hW2⟩ : ∃ W2, W2 = W.drewN nq := ⟨_, rfl⟩
              replace r1 := cellW hW2 r1
              replace r2 := cellW hW2 r2
              replace r3 := cellW hW2 r3
              replace p1 := cellW hW2 (cellW HW.out p1)
              replace p2 := cellW hW2 (cellW HW.out p2)
              replace p3 := cellW hW2 (cellW HW.out p3)
              have hG2 : Good W2 (xs t) z v := by rw [hW2]; exact hGW.below (below0 _)
              rw [← hW2]
              have HW2 : Hid (W2 = W.drewN nq) := hW2
              clear hW2 s1 s2 s3 hcT hu' hu
              go_quiet ((go_at_call 19; refine Calls.quiet_of (same19 _ _ _ _ _ _ _ _ _ _ _ z v _ ?_ ?_ ?_ ?_ rfl rfl ?_ ?_); exact hG2.id.below (below0 _); exact hG2.id.below (below0 _); exact hG2.val.below (below0 _); exact hG2.val.below (below0 _); exact hil; exact hG.vle))
              go_wp2
              go_roundw
              case rel => exact ⟨t + 1, _, by omega, by go_num, by rw [HW2.out, HW.out, World.drewN_drewN, World.drewN_drewN]⟩
              case measure => simp [intOf]; omega
          · go_wp2
            go_ret
            exact ⟨rfl, below_drewN hb8 _⟩

end Go.Proofs.Qxb6603608a.Ext
