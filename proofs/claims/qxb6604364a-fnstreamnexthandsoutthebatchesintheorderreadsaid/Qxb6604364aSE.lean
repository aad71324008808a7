import Derived.Test.Qxb6604364aSD
namespace Go.Proofs.Qxb6604364a.Str
open Go.RowKit Go.Conc
set_option linter.unusedVariables false
set_option linter.unusedSimpArgs false

/-- The stream: batches lo .. hi-1 lie in its buffer, in order; every cell of W is as it was. -/
def St (W wr : World) (S c n : Nat) (H : Nat → Hd) (lo hi : Nat) : Prop :=
  ∃ buf s r, wr.heap[c]? = some (.chan n buf false s r false) ∧ wr.cell? ⟨S, 1, none⟩ = some (.chan (some c)) ∧ buf.size = hi - lo ∧
    (∀ j, j < hi - lo → ∃ B, buf[j]? = some (.pointer (some ⟨B, 0, none⟩)) ∧ wr.cell? ⟨B, 0, none⟩ = some (.slice (H (lo + j)).a (H (lo + j)).l (H (lo + j)).c)) ∧ ∀ a v, W.cell? a = some v → wr.cell? a = some v

theorem St.drewN {W wr : World} {S c n : Nat} {H : Nat → Hd} {lo hi : Nat} (h : St W wr S c n H lo hi) (q : Nat) : St W (wr.drewN q) S c n H lo hi := h

theorem st_put {W wr : World} {S c n : Nat} {H : Nat → Hd} {k : Nat} {buf : Array Value} {s r : Nat} (hc : wr.heap[c]? = some (.chan n buf false s r false)) (h1 : wr.cell? ⟨S, 1, none⟩ = some (.chan (some c))) (hs : buf.size = k)
    (hb : ∀ j, j < k → ∃ B, buf[j]? = some (.pointer (some ⟨B, 0, none⟩)) ∧ wr.cell? ⟨B, 0, none⟩ = some (.slice (H j).a (H j).l (H j).c)) (hk : ∀ a v, W.cell? a = some v → wr.cell? a = some v) :
    St W ((wr.alloc (.cells #[.slice (H k).a (H k).l (H k).c, .slice none 0 0, .slice none 0 0, .nilIface] 46)).setChan c n (buf.push (.pointer (some ⟨wr.heap.size, 0, none⟩))) false (s + 1) r false) S c n H 0 (k + 1) := by
  have hclt : c < wr.heap.size := (Array.getElem?_eq_some_iff.1 hc).1
  have keep : ∀ a v, wr.cell? a = some v → ((wr.alloc (.cells #[.slice (H k).a (H k).l (H k).c, .slice none 0 0, .slice none 0 0, .nilIface] 46)).setChan c n (buf.push (.pointer (some ⟨wr.heap.size, 0, none⟩))) false (s + 1) r false).cell? a = some v := by
    intro a v h
    rw [setChan_cell (chan_ne hc h), World.cell?_alloc_lt _ _ _ (cell_lt h)]
    exact h
  refine ⟨_, s + 1, r, heap_setChan _ _ _ _ _ _ _ _ (by simp; omega), keep _ _ h1, by simp [hs], fun j hj => ?_, fun a v h => keep _ _ (hk a v h)⟩
  simp only [Nat.zero_add]
  by_cases e : j = k
  · subst e
    refine ⟨wr.heap.size, by rw [← hs]; simp, ?_⟩
    rw [setChan_cell (by show wr.heap.size ≠ c; omega), World.cell?_alloc_at _ _ _ _ rfl]
    rfl
  · obtain ⟨B, hB1, hB2⟩ := hb j (by omega)
    refine ⟨B, ?_, keep _ _ hB2⟩
    rw [Array.getElem?_push, if_neg (by omega)]
    exact hB1

theorem st_next {W wr w1 : World} {S c n : Nat} {H : Nat → Hd} {lo hi : Nat} {buf : Array Value} {s r : Nat} (hlt : lo < hi) (hc : wr.heap[c]? = some (.chan n buf false s r false)) (h1 : wr.cell? ⟨S, 1, none⟩ = some (.chan (some c))) (hs : buf.size = hi - lo)
    (hb : ∀ j, j < hi - lo → ∃ B, buf[j]? = some (.pointer (some ⟨B, 0, none⟩)) ∧ wr.cell? ⟨B, 0, none⟩ = some (.slice (H (lo + j)).a (H (lo + j)).l (H (lo + j)).c)) (hk : ∀ a v, W.cell? a = some v → wr.cell? a = some v) (hbel : Below wr.heap.size wr w1) :
    St W (w1.setChan c n (buf.extract 1 buf.size) false s (r + 1) false) S c n H (lo + 1) hi := by
  have hclt : c < wr.heap.size := (Array.getElem?_eq_some_iff.1 hc).1
  have keep : ∀ a v, wr.cell? a = some v → (w1.setChan c n (buf.extract 1 buf.size) false s (r + 1) false).cell? a = some v := by
    intro a v h
    rw [setChan_cell (chan_ne hc h), hbel.cell (cell_lt h)]
    exact h
  refine ⟨_, s, r + 1, heap_setChan _ _ _ _ _ _ _ _ (by have := hbel.size; omega), keep _ _ h1, by simp [hs]; omega, fun j hj => ?_, fun a v h => keep _ _ (hk a v h)⟩
  obtain ⟨B, hB1, hB2⟩ := hb (1 + j) (by omega)
  refine ⟨B, ?_, ?_⟩
  · rw [Array.getElem?_extract, if_pos (by omega)]
    exact hB1
  · rw [show lo + 1 + j = lo + (1 + j) from by omega]
    exact keep _ _ hB2

theorem LAt.kept {W wr : World} {a : Option Addr} {n : Nat} {H : Nat → Hd} (h : LAt W a n H) (hk : ∀ a v, W.cell? a = some v → wr.cell? a = some v) : LAt wr a n H := by
  intro h0
  obtain ⟨b, off, e, hc⟩ := h h0
  exact ⟨b, off, e, fun i hi => hk _ _ (hc i hi)⟩
theorem Rd.kept {W wr : World} {a : Option Addr} {l : Nat} {ss : Nat → ByteArray} (h : Rd W a l ss) (hk : ∀ a v, W.cell? a = some v → wr.cell? a = some v) : Rd wr a l ss := by
  intro h0
  obtain ⟨b, off, e, hc⟩ := h h0
  exact ⟨b, off, e, fun i hi => hk _ _ (hc i hi)⟩

theorem HRow.at {w : World} {N n : Nat} {H : Nat → Hd} (h : HRow w N n n H) : LAt w (some ⟨N, 0, none⟩) n H := by
  intro _
  refine ⟨N, 0, rfl, fun i hi => ?_⟩
  have := World.rowIs.cell h hi
  rw [if_pos hi] at this
  rw [Nat.zero_add]
  exact this

theorem cloneLists_any (a : Option Addr) (n c : Nat) (H : Nat → Hd) (S : Nat → Nat → ByteArray) (w : World) (hn : n ≤ 4096) (hnil : a = none → c = 0) (hx : LAt w a n H) (hg : ∀ i, i < n → Rd w (H i).a (H i).l (S i) ∧ (H i).l ≤ 1048576 ∧ ((H i).a = none → (H i).c = 0)) :
    Calls Try.prog 6 #[.slice a n c] w fun e w' => ∃ a' c' H', e = .returned (.slice a' n c') ∧ LAt w' a' n H' ∧ (∀ i, i < n → Rd w' (H' i).a (H' i).l (S i) ∧ (H' i).l ≤ 1048576) ∧ Below w.heap.size w w' := by
  cases a with
  | none =>
    obtain rfl := hnil rfl
    have h0 : n = 0 := by
      rcases Nat.eq_zero_or_pos n with h | h
      · exact h
      · obtain ⟨b, off, e, _⟩ := hx h
        cases e
    subst h0
    refine (cloneLists6_nil w).mono ?_
    rintro e w' ⟨rfl, rfl⟩
    exact ⟨none, 0, H, rfl, hx, fun i hi => absurd hi (Nat.not_lt_zero _), Below.refl _ _⟩
  | some x =>
    refine (cloneLists6 x n c H S w hn hx hg).mono ?_
    rintro e w' ⟨H', rfl, hrow, hg', hb⟩
    exact ⟨_, n, H', rfl, hrow.at, hg', hb⟩

theorem Below.two {w w1 w2 : World} (h : Below w.heap.size w w1) (k : Below w1.heap.size w1 w2) : Below w.heap.size w w2 := h.trans (k.mono h.size)

set_option maxHeartbeats 2000000 in
theorem law3 (a : Option Addr) (n c : Nat) (H : Nat → Hd) (S : Nat → Nat → ByteArray) (w : World) (hn : n ≤ maxLen) (hnil : a = none → c = 0) (hx : LAt w a n H) (hl : ∀ i, i < n → (H i).l ≤ maxLen ∧ Rd w (H i).a (H i).l (S i) ∧ ∀ j, j < (H i).l → (S i j).size ≤ maxLen) (hhn : ∀ i, i < n → (H i).a = none → (H i).c = 0) :
    Calls Try.prog 3 #[.slice a n c] w fun e w' => e = .returned (.bool true) ∧ Below w.heap.size w w' := by
  have hn63 := hn
  unfold maxLen at hn63
  have HL : Hid (∀ i, i < n → Rd w (H i).a (H i).l (S i)) := fun i hi => (hl i hi).2.1
  go_enter Try.func3, Try.ntmps3
  go_wp2_with fail
  refine (zz4 a n c H S w hn hx hl).mono ?_
  rintro e w1 ⟨r, rfl, rfl, hfit⟩
  clear hl
  cases r with
  | false =>
    go_wp2_with fail
    go_ret
    exact ⟨rfl, Below.refl _ _⟩
  | true =>
  have HF : Hid (Fits n H S) := hfit rfl
  clear hfit
  by_cases h4 : n ≤ 4096
  case neg =>
    go_wp2_with fail
    go_ret
    exact ⟨rfl, Below.refl _ _⟩
  go_wp2_with fail
  refine (nested5 a n c H S _ h4 hx HF.out HL.out).mono ?_
  rintro e w2 ⟨⟨r, rfl⟩, rfl⟩
  by_cases hr : 1048576 < r
  · go_wp2_with fail
    go_ret
    exact ⟨rfl, Below.refl _ _⟩
  go_wp2_with fail
  refine (cloneLists_any a n c H S _ h4 hnil hx (fun i hi => ⟨HL.out i hi, (HF.out.2 i hi).1, hhn i hi⟩)).mono ?_
  rintro e w3 ⟨a1, c1, H1, rfl, hx1, hg1, hb1⟩
  go_wp2_with fail
  refine (new7 n w3 h4).mono ?_
  rintro e w4 ⟨S0, c0, rfl, hS4, hc4, hcge, hb4⟩
  have hb := Below.two hb1 hb4
  have hcge' : w2.heap.size ≤ c0 := Nat.le_trans hb1.size hcge
  have HX : Hid (LAt w4 a1 n H1) := hx1.below hb4
  have HG : Hid (∀ i, i < n → Rd w4 (H1 i).a (H1 i).l (S i) ∧ (H1 i).l ≤ 1048576) := fun i hi => ⟨(hg1 i hi).1.below hb4, (hg1 i hi).2⟩
  have HS : Hid (St w4 w4 S0 c0 n H1 0 0) := ⟨#[], 0, 0, hc4, hS4, rfl, fun j hj => absurd hj (Nat.not_lt_zero _), fun _ _ h => h⟩
  clear hx1 hg1 hS4 hc4 hb1 hb4 hcge hx hhn
  go_wp2_with fail
  go_loopw [4] (fun i wr => ∃ k : Nat, k ≤ n ∧ i = .int .i64 k ∧ St w4 wr S0 c0 n H1 0 k ∧ Below w2.heap.size w2 wr) (fun i _ => n - (intOf i).toNat)
  case atStart => exact ⟨0, Nat.zero_le _, rfl, HS.out, hb⟩
  case round =>
    obtain ⟨k, hk, rfl, hst, hbk⟩ := hrel
    by_cases hlt : k < n
    · obtain ⟨buf, s, r0, q1, q2, q3, q4, q5⟩ := hst
      obtain ⟨b, off, rfl, hcell⟩ := (HX.out.kept q5) (by omega)
      have g1 := hcell k hlt
      have hlt' : (k : Int) < (n : Int) := by omega
      simp only [Nat.sub_zero, Nat.zero_add] at q3 q4
      have Q1 : Hid (wr.heap[c0]? = some (.chan n buf false s r0 false)) := q1
      have Q3 : Hid (buf.size = k) := q3
      have Q4 : Hid (∀ j, j < k → ∃ B, buf[j]? = some (.pointer (some ⟨B, 0, none⟩)) ∧ wr.cell? ⟨B, 0, none⟩ = some (.slice (H1 j).a (H1 j).l (H1 j).c)) := q4
      have Q5 : Hid (∀ a v, w4.cell? a = some v → wr.cell? a = some v) := q5
      clear q1 q3 q4 q5 hcell
      go_wp2_with (go_at_call 8; refine (put8 S0 c0 n buf s r0 _ _ _ _ q2 Q1.out (by rw [Q3.out]; exact hlt)).mono ?_; rintro e w' ⟨rfl, rfl⟩)
      go_roundw
      case rel => exact ⟨k + 1, by omega, by go_num, st_put Q1.out q2 Q3.out Q4.out Q5.out, below_setChan (hbk.alloc hbk.size _) hcge' _ _ _ _ _ _⟩
      case measure => simp [intOf]; omega
    · have hkn : k = n := by omega
      subst hkn
      have HST : Hid (St w4 wr S0 c0 k H1 0 k) := hst
      clear hst
      go_wp2_with fail
      go_loopw [5] (fun i wr => ∃ t : Nat, t ≤ k ∧ i = .int .i64 t ∧ St w4 wr S0 c0 k H1 t k ∧ Below w2.heap.size w2 wr) (fun i _ => k - (intOf i).toNat)
      case atStart => exact ⟨0, Nat.zero_le _, rfl, HST.out, hbk⟩
      case round =>
        obtain ⟨t, ht, rfl, hst, hbt⟩ := hrel
        by_cases hlt : t < k
        · obtain ⟨buf, s, r0, q1, q2, q3, q4, q5⟩ := hst
          obtain ⟨B, hB1, hB2⟩ := q4 0 (by omega)
          simp only [Nat.add_zero] at hB2
          have Q1 := q1
          have hlt' : (t : Int) < (k : Int) := by omega
          have HQ : Hid ((∀ w1, Below wr.heap.size wr w1 → St w4 (w1.setChan c0 k (buf.extract 1 buf.size) false s (r0 + 1) false) S0 c0 k H1 (t + 1) k)) := fun w1 h => st_next hlt q1 q2 q3 q4 q5 h
          have HB1 : Hid (buf[0]? = some (.pointer (some ⟨B, 0, none⟩))) := hB1
          have HC1 : Hid (wr.heap[c0]? = some (.chan k buf false s r0 false)) := q1
          clear q1 Q1 q3 q4 q5 hB1
          go_wp2_with fail
          refine (next9 S0 c0 k buf s r0 B _ _ _ _ q2 HC1.out HB1.out hB2).mono ?_
          rintro e w6 ⟨rfl, w5, hb5, hw6⟩
          have hst6 : St w4 w6 S0 c0 k H1 (t + 1) k := by rw [hw6]; exact HQ.out w5 hb5
          have hb6 : Below w2.heap.size w2 w6 := by rw [hw6]; exact below_setChan (hbt.trans (hb5.mono hbt.size)) hcge' _ _ _ _ _ _
          clear hw6 hb5 hB2 q2
          have hkp : ∀ a v, w4.cell? a = some v → w6.cell? a = some v := by obtain ⟨_, _, _, _, _, _, _, h⟩ := hst6; exact h
          obtain ⟨b, off, rfl, hcell⟩ := (HX.out.kept hkp) (by omega)
          have g1 := hcell t hlt
          have hrd := (HG.out t hlt).1.kept hkp
          have hrl := (HG.out t hlt).2
          have HST6 : Hid (St w4 w6 S0 c0 k H1 (t + 1) k) := hst6
          clear hcell hkp hst6
          go_wp2_with (go_at_call 10; refine (same10 _ _ _ _ _ (S t) _ hrd hrd hrl).mono ?_; rintro e w' ⟨rfl, q, rfl⟩)
          go_roundw
          case rel => exact ⟨t + 1, by omega, by go_num, HST6.out.drewN q, below_drewN hb6 q⟩
          case measure => simp [intOf]; omega
        · go_wp2
          go_ret
          exact ⟨rfl, hbt⟩

end Go.Proofs.Qxb6604364a.Str
