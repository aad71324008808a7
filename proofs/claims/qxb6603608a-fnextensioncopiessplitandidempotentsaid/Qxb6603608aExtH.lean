import Derived.Test.Qxb6603608aExtG
namespace Go.Proofs.Qxb6603608a.Ext
open Go.RowKit
set_option linter.unusedVariables false
set_option linter.unusedSimpArgs false

theorem copies22_zero (a : Option Addr) (c : Nat) (ao : Option Addr) (lo co : Nat) (w : World) :
    Calls Try.prog 22 #[.slice a 0 c, .slice ao lo co] w fun e w' => e = .returned (.slice none 0 0) ∧ w' = w := by
  go_enter Try.func22, Try.ntmps22
  go_wp2
  refine wp_loop_rounds 1 ?_
  rw [rounds_succ]
  go_wp2
  go_ret
  exact ⟨rfl, rfl⟩

/-- What a slice of copies says: its length, its room, nil where there is none, the extensions. -/
def CopiesAt (w' : World) (E : Nat → X) (m : Nat → Bool) (n : Nat) (a' : Option Addr) (c' : Nat) : Prop :=
  (ms m n).length ≤ c' ∧ c' ≤ maxLen ∧ a'.isNone = decide ((ms m n).length = 0) ∧ XAt w' a' (ms m n).length (R m E n)

theorem copies_read {w w' : World} {b off n : Nat} {E : Nat → X} {m : Nat → Bool} {v : Value} (h : Copies w' w.heap.size b off E m n v) (hx : XAt w (some ⟨b, off, none⟩) n E) (hb : Below w.heap.size w w') :
    ∃ a' c', v = .slice a' (ms m n).length c' ∧ CopiesAt w' E m n a' c' := by
  rcases h with ⟨e0, rfl⟩ | ⟨i, e1, rfl⟩ | ⟨e2, hown⟩
  · refine ⟨none, 0, by rw [e0]; rfl, by rw [e0]; simp, Nat.zero_le _, by rw [e0]; rfl, ?_⟩
    intro h0
    rw [e0] at h0
    simp at h0
  · have hi := (ms_lt (m := m) (k := n) (j := 0) (by rw [e1]; simp)).1
    rw [e1] at hi
    simp at hi
    obtain ⟨b', off', ex, hcell⟩ := hx (by omega)
    simp only [Option.some.injEq, Addr.mk.injEq, and_true] at ex
    obtain ⟨rfl, rfl⟩ := ex
    refine ⟨_, 1, by rw [e1]; rfl, by rw [e1]; simp, by decide, by rw [e1]; rfl, fun h0 => ⟨b, off + i * 3, rfl, fun j hj => ?_⟩⟩
    have hj0 : j = 0 := by rw [e1] at hj; simpa using hj
    subst hj0
    have hR : R m E n 0 = E i := by simp [R, e1]
    rw [hR]
    obtain ⟨g1, g2, g3⟩ := hcell i hi
    simp only [Nat.zero_mul, Nat.add_zero]
    exact ⟨(hb.cell (cell_lt g1)).trans g1, (hb.cell (cell_lt g2)).trans g2, (hb.cell (cell_lt g3)).trans g3⟩
  · have hlen := hown.1
    rcases hown.2 with ⟨_, h0⟩ | ⟨g, cap, cur, rfl, hbg, hg, hnc, hcm, hcs, htake⟩
    · omega
    · have hL : (decide ((ms m n).length = 0)) = false := by simp; rintro e; rw [e] at e2; simp at e2
      refine ⟨_, cap, rfl, hnc, hcm, by rw [hL]; rfl, fun h0 => ⟨g, 0, rfl, fun j hj => ?_⟩⟩
      obtain ⟨c0, c1, c2⟩ := cellsOf_at E (ms m n) j hj
      have a0 := hown.cellAt (j * 3) (by omega)
      have a1 := hown.cellAt (j * 3 + 1) (by omega)
      have a2 := hown.cellAt (j * 3 + 2) (by omega)
      simp only [Nat.zero_add]
      exact ⟨a0.trans c0, a1.trans c1, a2.trans c2⟩

set_option maxHeartbeats 400000 in
theorem copies17 (a : Option Addr) (n c : Nat) (E : Nat → X) (ao : Option Addr) (lo co : Nat) (zo : List Int) (m : Nat → Bool) (w : World) (hn : n ≤ 65536) (hnc : n ≤ c) (hc : c ≤ maxLen) (hlo : lo ≤ 1048576) (hx : XAt w a n E) (ho : Rd .i64 w ao lo zo)
    (hm : ∀ i, i < n → ∃ z, Rd .i64 w (E i).ia (E i).il z ∧ (E i).il ≤ 1048576 ∧ m i = eqB z zo) :
    Calls Try.prog 17 #[.slice a n c, .slice ao lo co] w fun e w' => ∃ a' c', e = .returned (.slice a' (ms m n).length c') ∧ CopiesAt w' E m n a' c' ∧ Below w.heap.size w w' := by
  rcases Nat.eq_zero_or_pos n with rfl | hpos
  · go_enter Try.func17, Try.ntmps17
    go_wp2_with fail
    refine (copies22_zero a c ao lo co w).mono ?_
    rintro e w' ⟨rfl, rfl⟩
    go_wp2_with fail
    go_ret
    exact ⟨none, 0, rfl, ⟨Nat.le_refl _, Nat.zero_le _, rfl, fun h => absurd h (by simp [ms])⟩, Below.refl _ _⟩
  · obtain ⟨b, off, rfl, _⟩ := hx hpos
    go_enter Try.func17, Try.ntmps17
    go_wp2_with fail
    refine (copies22 b off n c E ao lo co zo m w hn hnc hc hlo hx ho hm).mono ?_
    rintro e w' ⟨v, rfl, hcop, hb⟩
    obtain ⟨a', c', rfl, hat⟩ := copies_read hcop hx hb
    go_wp2_with fail
    go_ret
    exact ⟨a', c', rfl, hat, hb⟩

end Go.Proofs.Qxb6603608a.Ext
