import Derived.Test.Qxb6604364aSA
import Derived.RegionTactic
import Derived.BigRegion
import Derived.Conc.LoneCalls
import Derived.Conc.LoneSelectN
import Derived.KernelRfl
import Derived.Laws.Rows
namespace Go.Proofs.Qxb6604364a.Str
open Go.RowKit Go.Conc
set_option linter.unusedVariables false
set_option linter.unusedSimpArgs false

theorem cloneLists6_nil (w : World) : Calls Try.prog 6 #[.slice none 0 0] w fun e w' => e = .returned (.slice none 0 0) ∧ w' = w := by
  have q : ∀ (w : World) (a : Option Addr) (n c n' c' : Nat), (binOp .eql 22 (.slice a n c) (.slice none n' c')).run Try.prog w = .ok (.bool a.isNone) w := fun w a n c n' c' => Lib.run_eql_slice_nil w _ _ a n c n' c' Try.underlying22
  go_enter Try.func6, Try.ntmps6
  go_wp2
  go_ret
  exact ⟨rfl, rfl⟩

/-- A row of headers, k of them laid. -/
def HRow (w : World) (N n k : Nat) (H : Nat → Hd) : Prop := w.rowIs N 29 n (fun j => if j < k then .slice (H j).a (H j).l (H j).c else .slice none 0 0)

theorem HRow.below {w w' : World} {N n k : Nat} {H : Nat → Hd} (h : HRow w N n k H) (hb : Below w.heap.size w w') : HRow w' N n k H :=
  World.rowIs.of_block h (hb.block _ (World.rowIs.lt h))

theorem Rd.other {W W' : World} {N n k : Nat} {H : Nat → Hd} {a : Option Addr} {l : Nat} {ss : Nat → ByteArray} (hrow : HRow W N n k H) (hr : Rd W a l ss) (ho : ∀ b, b ≠ N → W'.heap[b]? = W.heap[b]?) : Rd W' a l ss := by
  intro h0
  obtain ⟨b, off, e, hc⟩ := hr h0
  refine ⟨b, off, e, fun i hi => ?_⟩
  have hci := hc i hi
  by_cases hbN : b = N
  · subst hbN
    exfalso
    obtain ⟨c, hb, hn, hcc⟩ := hrow
    simp only [World.cell?, hb] at hci
    simp at hci
    have hlt : off + i < n := by
      have := (Array.getElem?_eq_some_iff.1 hci).1
      omega
    rw [hcc _ hlt] at hci
    simp only [Option.some.injEq] at hci
    split at hci <;> cases hci
  · rw [World.cell?_of_block (w := W) (w' := W') (ho b hbN)]
    exact hci

theorem hrow_step {W : World} {N n k : Nat} {H : Nat → Hd} {h : Hd} (hrow : HRow W N n k H) : HRow (W.setCell ⟨N, k, none⟩ (.slice h.a h.l h.c)) N n (k + 1) (fun j => if j = k then h else H j) := by
  refine (World.rowIs.set hrow k _).congr fun j hj => ?_
  by_cases e : j = k
  · subst e; simp
  · have : (j < k + 1) = (j < k) := by simp; omega
    simp [e, this]

set_option maxHeartbeats 1000000 in
theorem cloneLists6 (x : Addr) (n c : Nat) (H : Nat → Hd) (S : Nat → Nat → ByteArray) (w : World) (hn : n ≤ 4096) (hx : LAt w (some x) n H) (hg : ∀ i, i < n → Rd w (H i).a (H i).l (S i) ∧ (H i).l ≤ 1048576 ∧ ((H i).a = none → (H i).c = 0)) :
    Calls Try.prog 6 #[.slice (some x) n c] w fun e w' => ∃ H' : Nat → Hd, e = .returned (.slice (some ⟨w.heap.size, 0, none⟩) n n) ∧
      HRow w' w.heap.size n n H' ∧ (∀ i, i < n → Rd w' (H' i).a (H' i).l (S i) ∧ (H' i).l ≤ 1048576) ∧ Below w.heap.size w w' := by
  have q : ∀ (w : World) (a : Option Addr) (n c n' c' : Nat), (binOp .eql 22 (.slice a n c) (.slice none n' c')).run Try.prog w = .ok (.bool a.isNone) w := fun w a n c n' c' => Lib.run_eql_slice_nil w _ _ a n c n' c' Try.underlying22
  have hmk := run_make_row' (P := Try.prog) 22 29 (.slice none 0 0) 24 Try.underlying22 info29 rfl .i64 .i64 n (by omega) (by omega)
  go_enter Try.func6, Try.ntmps6
  go_wp2
  go_loopw [4] (fun i wr => ∃ (k : Nat) (H' : Nat → Hd), k ≤ n ∧ i = .int .i64 k ∧ HRow wr w.heap.size n k H' ∧ (∀ i, i < k → Rd wr (H' i).a (H' i).l (S i) ∧ (H' i).l ≤ 1048576) ∧ Below w.heap.size w wr) (fun i _ => n - (intOf i).toNat)
  case atStart => exact ⟨0, H, Nat.zero_le _, rfl, (World.rowIs_made w _ _ _).congr (by simp), fun j hj => absurd hj (Nat.not_lt_zero _), (Below.refl _ _).alloc (Nat.le_refl _) _⟩
  case round =>
    obtain ⟨k, H', hk, rfl, hrow, hgk, hb⟩ := hrel
    by_cases hlt : k < n
    · obtain ⟨b, off, ex, hcell⟩ := hx (by omega)
      simp only [Option.some.injEq] at ex
      subst ex
      have g1 := hcell k hlt
      have f1 := (hb.cell (cell_lt g1)).trans g1
      obtain ⟨hr1, hr2, hr3⟩ := hg k hlt
      have hlt' : (k : Int) < (n : Int) := by omega
      have HGk : Hid (∀ i, i < k → Rd wr (H' i).a (H' i).l (S i) ∧ (H' i).l ≤ 1048576) := hgk
      have HX : Hid (LAt w (some ⟨b, off, none⟩) n H) := hx
      clear hgk hcell g1 hg hx
      go_wp2_with (go_at_call 12; refine (clone12 _ _ _ (S k) _ hr3 hr2 (hr1.below hb)).mono ?_; rintro e w1 ⟨a1, c1, rfl, hrd1, hb1⟩; have hrow1 := hrow.below hb1; have y1 := World.rowIs.cell hrow1 hlt; have z1 := World.rowIs.frozen hrow1 k)
      go_roundw
      case rel =>
        have ho : ∀ d, d ≠ w.heap.size → (w1.setCell ⟨w.heap.size, k, none⟩ (.slice a1 (H k).l c1)).heap[d]? = w1.heap[d]? := fun d hd => Below.heap_setCell _ _ _ _ hd
        refine ⟨k + 1, _, by omega, by go_num, hrow_step (h := ⟨a1, (H k).l, c1⟩) hrow1, fun i hi => ?_, (hb.trans (hb1.mono hb.size)).setCell (Nat.le_refl _) _⟩
        by_cases e : i = k
        · subst e
          simp only [if_pos]
          exact ⟨hrd1.other hrow1 ho, hr2⟩
        · simp only [if_neg e]
          have := HGk.out i (by omega)
          exact ⟨(this.1.below hb1).other hrow1 ho, this.2⟩
      case measure => simp [intOf]; omega
    · have : k = n := by omega
      subst this
      go_wp2
      go_ret
      exact ⟨H', rfl, hrow, hgk, hb⟩

end Go.Proofs.Qxb6604364a.Str
