import Derived.Test.Qxb6603608aRows
import Derived.WalkKit
import Derived.Below
import Derived.Lib.SliceRun
import Derived.Deep.OwnRows
import Derived.Deep.QuietTactic
import Derived.BigQuiet
import Derived.WalkSmall
namespace Go.Proofs.Qxb6603608a.Ext
open Go.RowKit
set_option linter.unusedVariables false

/-- A slice of integers of kind k, 'l' long, at 'a', reads as 'zs'. -/
def Rd (k : IntKind) (w : World) (a : Option Addr) (l : Nat) (zs : List Int) : Prop :=
  zs.length = l ∧ (0 < l → ∃ b off, a = some ⟨b, off, none⟩ ∧ ∀ i, i < l → w.cell? ⟨b, off + i, none⟩ = some (.int k (zs.getD i 0)))

theorem cell_lt {w : World} {a : Addr} {v : Value} (h : w.cell? a = some v) : a.block < w.heap.size := by
  unfold World.cell? at h
  split at h
  · next he => exact (Array.getElem?_eq_some_iff.1 he).1
  · cases h

theorem Rd.below {k : IntKind} {w w' : World} {a : Option Addr} {l : Nat} {zs : List Int} (h : Rd k w a l zs) (hb : Below w.heap.size w w') : Rd k w' a l zs := by
  refine ⟨h.1, fun h0 => ?_⟩
  obtain ⟨b, off, e, hc⟩ := h.2 h0
  exact ⟨b, off, e, fun i hi => (hb.cell (cell_lt (hc i hi))).trans (hc i hi)⟩

theorem Rd.nil {k : IntKind} {w : World} {a : Option Addr} : Rd k w a 0 [] := ⟨rfl, fun h => absurd h (Nat.lt_irrefl _)⟩

theorem Rd.uniq {k : IntKind} {w : World} {a : Option Addr} {l : Nat} {z z' : List Int} (h : Rd k w a l z) (h' : Rd k w a l z') : z = z' := by
  apply List.ext_getElem (h.1.trans h'.1.symm)
  intro i h1 h2
  obtain ⟨b, off, e, hc⟩ := h.2 (by have := h.1; omega)
  obtain ⟨b', off', e', hc'⟩ := h'.2 (by have := h.1; omega)
  rw [e] at e'
  simp only [Option.some.injEq, Addr.mk.injEq, and_true] at e'
  obtain ⟨rfl, rfl⟩ := e'
  have := (hc i (by have := h.1; omega)).symm.trans (hc' i (by have := h.1; omega))
  simpa [List.getD, h1, h2] using this

def eqB (z1 z2 : List Int) : Bool := decide (z1 = z2)

theorem eqB_len {z1 z2 : List Int} (h : z1.length ≠ z2.length) : eqB z1 z2 = false := by
  simp only [eqB, decide_eq_false_iff_not]; rintro rfl; exact h rfl
theorem eqB_at {z1 z2 : List Int} {k : Nat} (h : z1.getD k 0 ≠ z2.getD k 0) : eqB z1 z2 = false := by
  simp only [eqB, decide_eq_false_iff_not]; rintro rfl; exact h rfl
theorem eqB_all {z1 z2 : List Int} (hl : z1.length = z2.length) (h : ∀ k, k < z1.length → z1.getD k 0 = z2.getD k 0) : eqB z1 z2 = true := by
  simp only [eqB, decide_eq_true_eq]
  apply List.ext_getElem hl
  intro i h1 h2
  have := h i h1
  simpa [List.getD, h1, h2] using this

theorem ret_bool {a b : Bool} (h : a = b) : Ending.returned (.bool a) = .returned (.bool b) := by rw [h]
theorem eqB_at' {z1 z2 : List Int} {k : Nat} (h : (z1[k]?.getD 0 != z2[k]?.getD 0) = true) : eqB z1 z2 = false := by
  refine eqB_at (k := k) ?_
  simpa using h
theorem step_all {z1 z2 : List Int} {k : Nat} (h : ∀ j, j < k → z1.getD j 0 = z2.getD j 0) (hq : (z1[k]?.getD 0 != z2[k]?.getD 0) = false) : ∀ j, j < k + 1 → z1.getD j 0 = z2.getD j 0 := by
  intro j hj
  by_cases e : j = k
  · subst e; simpa using hq
  · exact h j (by omega)

set_option maxHeartbeats 400000 in
theorem same18 (a1 a2 : Option Addr) (l1 c1 l2 c2 : Nat) (z1 z2 : List Int) (w : World) (h1 : Rd .i64 w a1 l1 z1) (h2 : Rd .i64 w a2 l2 z2) (b1 : l1 ≤ 1048576) (b2 : l2 ≤ 1048576) :
    Calls Try.prog 18 #[.slice a1 l1 c1, .slice a2 l2 c2] w fun e w' => e = .returned (.bool (eqB z1 z2)) ∧ ∃ n, w' = w.drewN n := by
  by_cases hne : l1 = l2
  · subst hne
    obtain ⟨e1, h1⟩ := h1
    obtain ⟨e2, h2⟩ := h2
    have E1 : Hid (z1.length = l1) := e1
    have E2 : Hid (z2.length = l1) := e2
    clear e1 e2
    go_enter Try.func18, Try.ntmps18
    go_wp2
    go_loopw [13] (fun i wr => ∃ k n : Nat, k ≤ l1 ∧ i = .int .i64 k ∧ wr = w.drewN n ∧ ∀ j, j < k → z1.getD j 0 = z2.getD j 0) (fun i _ => l1 - (intOf i).toNat)
    case atStart => exact ⟨0, 0, Nat.zero_le _, rfl, rfl, fun j hj => absurd hj (Nat.not_lt_zero _)⟩
    case round =>
      obtain ⟨k, n, hk, rfl, rfl, hall⟩ := hrel
      by_cases hlt : k < l1
      · obtain ⟨x1, o1, rfl, hc1⟩ := h1 (by omega)
        obtain ⟨x2, o2, rfl, hc2⟩ := h2 (by omega)
        have g1 := hc1 k hlt
        have g2 := hc2 k hlt
        have hlt' : (k : Int) < (l1 : Int) := by omega
        have HA : Hid (∀ j, j < k → z1.getD j 0 = z2.getD j 0) := hall
        clear hc1 hc2 hall h1 h2
        go_wp2
        go_quiet (fail)
        go_wp2
        · go_ret
          exact ⟨ret_bool (eqB_at' (by assumption)).symm, _, World.drewN_drewN _ _ _⟩
        · have hq : (z1[k]?.getD 0 != z2[k]?.getD 0) = false := by assumption
          go_roundw
          case rel => exact ⟨k + 1, _, by omega, by go_num, rfl, step_all HA.out hq⟩
          case measure => simp [intOf]; omega
      · go_wp2
        go_ret
        exact ⟨ret_bool (eqB_all (by rw [E1.out, E2.out]) (fun j hj => hall j (by have := E1.out; omega))).symm, n, rfl⟩
  · go_enter Try.func18, Try.ntmps18
    go_wp2
    go_ret
    exact ⟨ret_bool (eqB_len (by rw [h1.1, h2.1]; exact hne)).symm, 0, rfl⟩

set_option maxHeartbeats 400000 in
theorem same25 (a1 a2 : Option Addr) (l1 c1 l2 c2 : Nat) (z1 z2 : List Int) (w : World) (h1 : Rd .i64 w a1 l1 z1) (h2 : Rd .i64 w a2 l2 z2) (b1 : l1 ≤ 1048576) (b2 : l2 ≤ 1048576) :
    Calls Try.prog 25 #[.slice a1 l1 c1, .slice a2 l2 c2] w fun e w' => e = .returned (.bool (eqB z1 z2)) ∧ ∃ n, w' = w.drewN n := by
  by_cases hne : l1 = l2
  · subst hne
    obtain ⟨e1, h1⟩ := h1
    obtain ⟨e2, h2⟩ := h2
    have E1 : Hid (z1.length = l1) := e1
    have E2 : Hid (z2.length = l1) := e2
    clear e1 e2
    go_enter Try.func25, Try.ntmps25
    go_wp2
    go_loopw [13] (fun i wr => ∃ k n : Nat, k ≤ l1 ∧ i = .int .i64 k ∧ wr = w.drewN n ∧ ∀ j, j < k → z1.getD j 0 = z2.getD j 0) (fun i _ => l1 - (intOf i).toNat)
    case atStart => exact ⟨0, 0, Nat.zero_le _, rfl, rfl, fun j hj => absurd hj (Nat.not_lt_zero _)⟩
    case round =>
      obtain ⟨k, n, hk, rfl, rfl, hall⟩ := hrel
      by_cases hlt : k < l1
      · obtain ⟨x1, o1, rfl, hc1⟩ := h1 (by omega)
        obtain ⟨x2, o2, rfl, hc2⟩ := h2 (by omega)
        have g1 := hc1 k hlt
        have g2 := hc2 k hlt
        have hlt' : (k : Int) < (l1 : Int) := by omega
        have HA : Hid (∀ j, j < k → z1.getD j 0 = z2.getD j 0) := hall
        clear hc1 hc2 hall h1 h2
        go_wp2
        go_quiet (fail)
        go_wp2
        · go_ret
          exact ⟨ret_bool (eqB_at' (by assumption)).symm, _, World.drewN_drewN _ _ _⟩
        · have hq : (z1[k]?.getD 0 != z2[k]?.getD 0) = false := by assumption
          go_roundw
          case rel => exact ⟨k + 1, _, by omega, by go_num, rfl, step_all HA.out hq⟩
          case measure => simp [intOf]; omega
      · go_wp2
        go_ret
        exact ⟨ret_bool (eqB_all (by rw [E1.out, E2.out]) (fun j hj => hall j (by have := E1.out; omega))).symm, n, rfl⟩
  · go_enter Try.func25, Try.ntmps25
    go_wp2
    go_ret
    exact ⟨ret_bool (eqB_len (by rw [h1.1, h2.1]; exact hne)).symm, 0, rfl⟩

set_option maxHeartbeats 400000 in
theorem same23 (a1 a2 : Option Addr) (l1 c1 l2 c2 : Nat) (z1 z2 : List Int) (w : World) (h1 : Rd .u8 w a1 l1 z1) (h2 : Rd .u8 w a2 l2 z2) (b1 : l1 ≤ 1048576) (b2 : l2 ≤ 1048576) :
    Calls Try.prog 23 #[.slice a1 l1 c1, .slice a2 l2 c2] w fun e w' => e = .returned (.bool (eqB z1 z2)) ∧ ∃ n, w' = w.drewN n := by
  by_cases hne : l1 = l2
  · subst hne
    obtain ⟨e1, h1⟩ := h1
    obtain ⟨e2, h2⟩ := h2
    have E1 : Hid (z1.length = l1) := e1
    have E2 : Hid (z2.length = l1) := e2
    clear e1 e2
    go_enter Try.func23, Try.ntmps23
    go_wp2
    go_loopw [13] (fun i wr => ∃ k n : Nat, k ≤ l1 ∧ i = .int .i64 k ∧ wr = w.drewN n ∧ ∀ j, j < k → z1.getD j 0 = z2.getD j 0) (fun i _ => l1 - (intOf i).toNat)
    case atStart => exact ⟨0, 0, Nat.zero_le _, rfl, rfl, fun j hj => absurd hj (Nat.not_lt_zero _)⟩
    case round =>
      obtain ⟨k, n, hk, rfl, rfl, hall⟩ := hrel
      by_cases hlt : k < l1
      · obtain ⟨x1, o1, rfl, hc1⟩ := h1 (by omega)
        obtain ⟨x2, o2, rfl, hc2⟩ := h2 (by omega)
        have g1 := hc1 k hlt
        have g2 := hc2 k hlt
        have hlt' : (k : Int) < (l1 : Int) := by omega
        have HA : Hid (∀ j, j < k → z1.getD j 0 = z2.getD j 0) := hall
        clear hc1 hc2 hall h1 h2
        go_wp2
        go_quiet (fail)
        go_wp2
        · go_ret
          exact ⟨ret_bool (eqB_at' (by assumption)).symm, _, World.drewN_drewN _ _ _⟩
        · have hq : (z1[k]?.getD 0 != z2[k]?.getD 0) = false := by assumption
          go_roundw
          case rel => exact ⟨k + 1, _, by omega, by go_num, rfl, step_all HA.out hq⟩
          case measure => simp [intOf]; omega
      · go_wp2
        go_ret
        exact ⟨ret_bool (eqB_all (by rw [E1.out, E2.out]) (fun j hj => hall j (by have := E1.out; omega))).symm, n, rfl⟩
  · go_enter Try.func23, Try.ntmps23
    go_wp2
    go_ret
    exact ⟨ret_bool (eqB_len (by rw [h1.1, h2.1]; exact hne)).symm, 0, rfl⟩

set_option maxHeartbeats 400000 in
theorem same24 (a1 a2 : Option Addr) (l1 c1 l2 c2 : Nat) (z1 z2 : List Int) (w : World) (h1 : Rd .i64 w a1 l1 z1) (h2 : Rd .i64 w a2 l2 z2) (b1 : l1 ≤ 1048576) (b2 : l2 ≤ 1048576) :
    Calls Try.prog 24 #[.slice a1 l1 c1, .slice a2 l2 c2] w fun e w' => e = .returned (.bool (eqB z1 z2)) ∧ ∃ n, w' = w.drewN n := by
  go_enter Try.func24, Try.ntmps24
  go_wp2_with (go_at_call 25; refine (same25 _ _ _ _ _ _ z1 z2 _ h1 h2 b1 b2).mono ?_; rintro e w' ⟨rfl, n, rfl⟩)
  go_ret
  exact ⟨rfl, n, rfl⟩

theorem info3 : (Try.prog.info? 3).map (fun i => (i.zero, i.size, i.bytes)) = some (some (.int .i64 0), 1, 8) := by kernel_rfl

theorem cnil14 (w : World) : Calls Try.prog 14 #[.slice none 0 0] w fun e w' => e = .returned (.slice none 0 0) ∧ w' = w := by
  have q : ∀ (w : World) (a : Option Addr) (n c n' c' : Nat), (binOp .eql 28 (.slice a n c) (.slice none n' c')).run Try.prog w = .ok (.bool a.isNone) w := fun w a n c n' c' => Lib.run_eql_slice_nil w _ _ a n c n' c' Try.underlying28
  go_enter Try.func14, Try.ntmps14
  go_wp2
  go_ret
  exact ⟨rfl, rfl⟩

set_option maxHeartbeats 400000 in
theorem crow14 (x : Addr) (len cap : Nat) (zs : List Int) (w : World) (hm : len ≤ 1048576) (hr : Rd .i64 w (some x) len zs) :
    Calls Try.prog 14 #[.slice (some x) len cap] w fun e w' => e = .returned (.slice (some ⟨w.heap.size, 0, none⟩) len len) ∧ w'.heap.size = w.heap.size + 1 ∧ w'.rowIs w.heap.size 3 len (fun j => .int .i64 (zs.getD j 0)) ∧ Below w.heap.size w w' := by
  have q : ∀ (w : World) (a : Option Addr) (n c n' c' : Nat), (binOp .eql 28 (.slice a n c) (.slice none n' c')).run Try.prog w = .ok (.bool a.isNone) w := fun w a n c n' c' => Lib.run_eql_slice_nil w _ _ a n c n' c' Try.underlying28
  have hmk := run_make_row' (P := Try.prog) 28 3 (.int .i64 0) 8 Try.underlying28 info3 rfl .i64 .i64 len (by omega) (by omega)
  go_enter Try.func14, Try.ntmps14
  go_wp2
  go_loopw [12] (fun i wr => ∃ k : Nat, k ≤ len ∧ i = .int .i64 k ∧ wr.heap.size = w.heap.size + 1 ∧ wr.rowIs w.heap.size 3 len (fun j => if j < k then .int .i64 (zs.getD j 0) else .int .i64 0) ∧ Below w.heap.size w wr) (fun i _ => len - (intOf i).toNat)
  case atStart => exact ⟨0, Nat.zero_le _, rfl, by simp, (World.rowIs_made w _ _ _).congr (by simp), (Below.refl _ _).alloc (Nat.le_refl _) _⟩
  case round =>
    obtain ⟨k, hk, rfl, hsz, hrow, hb⟩ := hrel
    by_cases hlt : k < len
    · obtain ⟨b, off, ex, hc⟩ := hr.2 (by omega)
      simp only [Option.some.injEq] at ex
      subst ex
      have hsrc : wr.cell? ⟨b, off + k, none⟩ = some (.int .i64 (zs.getD k 0)) := (hb.cell (cell_lt (hc k hlt))).trans (hc k hlt)
      have hfz := hrow.frozen k
      have hdst := hrow.cell hlt
      simp at hdst
      clear hc hr
      go_wp2
      go_roundw
      case rel => exact ⟨k + 1, by omega, by go_num, by simpa [World.setCell] using hsz, (hrow.set k _).congr (fun i hi => by by_cases e : i = k <;> by_cases e' : i < k <;> simp [e, e'] <;> omega), hb.setCell (Nat.le_refl _) _⟩
      case measure => simp [intOf]; omega
    · go_wp2
      go_ret
      exact ⟨rfl, hsz, hrow.congr (fun i hi => by simp; omega), hb⟩

/-- The clone: as long, nil where it was nil, its own memory, reading as the source read. -/
theorem clone14 (a : Option Addr) (len cap : Nat) (zs : List Int) (w : World) (hn : a = none → cap = 0) (hm : len ≤ 1048576) (hr : Rd .i64 w a len zs) :
    Calls Try.prog 14 #[.slice a len cap] w fun e w' => ∃ a' c', e = .returned (.slice a' len c') ∧ (a'.isNone = a.isNone) ∧ (a' = none → c' = 0) ∧ Rd .i64 w' a' len zs ∧ Below w.heap.size w w' := by
  cases a with
  | none =>
    obtain rfl := hn rfl
    have h0 : len = 0 := by
      rcases Nat.eq_zero_or_pos len with h | h
      · exact h
      · obtain ⟨b, off, e, _⟩ := hr.2 h
        cases e
    subst h0
    refine (cnil14 w).mono ?_
    rintro e w' ⟨rfl, rfl⟩
    exact ⟨none, 0, rfl, rfl, fun _ => rfl, hr, Below.refl _ _⟩
  | some x =>
    refine (crow14 x len cap zs w hm hr).mono ?_
    rintro e w' ⟨rfl, _, hrow, hb⟩
    exact ⟨_, len, rfl, rfl, fun h => (by cases h), ⟨hr.1, fun h0 => ⟨_, 0, rfl, fun i hi => by rw [Nat.zero_add]; exact hrow.cell hi⟩⟩, hb⟩

theorem info5 : (Try.prog.info? 5).map (fun i => (i.zero, i.size, i.bytes)) = some (some (.int .u8 0), 1, 1) := by kernel_rfl

theorem cnil8 (w : World) : Calls Try.prog 8 #[.slice none 0 0] w fun e w' => e = .returned (.slice none 0 0) ∧ w' = w := by
  have q : ∀ (w : World) (a : Option Addr) (n c n' c' : Nat), (binOp .eql 22 (.slice a n c) (.slice none n' c')).run Try.prog w = .ok (.bool a.isNone) w := fun w a n c n' c' => Lib.run_eql_slice_nil w _ _ a n c n' c' Try.underlying22
  go_enter Try.func8, Try.ntmps8
  go_wp2
  go_ret
  exact ⟨rfl, rfl⟩

set_option maxHeartbeats 400000 in
theorem crow8 (x : Addr) (len cap : Nat) (zs : List Int) (w : World) (hm : len ≤ 1048576) (hr : Rd .u8 w (some x) len zs) :
    Calls Try.prog 8 #[.slice (some x) len cap] w fun e w' => e = .returned (.slice (some ⟨w.heap.size, 0, none⟩) len len) ∧ w'.heap.size = w.heap.size + 1 ∧ w'.rowIs w.heap.size 5 len (fun j => .int .u8 (zs.getD j 0)) ∧ Below w.heap.size w w' := by
  have q : ∀ (w : World) (a : Option Addr) (n c n' c' : Nat), (binOp .eql 22 (.slice a n c) (.slice none n' c')).run Try.prog w = .ok (.bool a.isNone) w := fun w a n c n' c' => Lib.run_eql_slice_nil w _ _ a n c n' c' Try.underlying22
  have hmk := run_make_row' (P := Try.prog) 22 5 (.int .u8 0) 1 Try.underlying22 info5 rfl .i64 .i64 len (by omega) (by omega)
  go_enter Try.func8, Try.ntmps8
  go_wp2
  go_loopw [12] (fun i wr => ∃ k : Nat, k ≤ len ∧ i = .int .i64 k ∧ wr.heap.size = w.heap.size + 1 ∧ wr.rowIs w.heap.size 5 len (fun j => if j < k then .int .u8 (zs.getD j 0) else .int .u8 0) ∧ Below w.heap.size w wr) (fun i _ => len - (intOf i).toNat)
  case atStart => exact ⟨0, Nat.zero_le _, rfl, by simp, (World.rowIs_made w _ _ _).congr (by simp), (Below.refl _ _).alloc (Nat.le_refl _) _⟩
  case round =>
    obtain ⟨k, hk, rfl, hsz, hrow, hb⟩ := hrel
    by_cases hlt : k < len
    · obtain ⟨b, off, ex, hc⟩ := hr.2 (by omega)
      simp only [Option.some.injEq] at ex
      subst ex
      have hsrc : wr.cell? ⟨b, off + k, none⟩ = some (.int .u8 (zs.getD k 0)) := (hb.cell (cell_lt (hc k hlt))).trans (hc k hlt)
      have hfz := hrow.frozen k
      have hdst := hrow.cell hlt
      simp at hdst
      clear hc hr
      go_wp2
      go_roundw
      case rel => exact ⟨k + 1, by omega, by go_num, by simpa [World.setCell] using hsz, (hrow.set k _).congr (fun i hi => by by_cases e : i = k <;> by_cases e' : i < k <;> simp [e, e'] <;> omega), hb.setCell (Nat.le_refl _) _⟩
      case measure => simp [intOf]; omega
    · go_wp2
      go_ret
      exact ⟨rfl, hsz, hrow.congr (fun i hi => by simp; omega), hb⟩

/-- The clone: as long, nil where it was nil, its own memory, reading as the source read. -/
theorem clone8 (a : Option Addr) (len cap : Nat) (zs : List Int) (w : World) (hn : a = none → cap = 0) (hm : len ≤ 1048576) (hr : Rd .u8 w a len zs) :
    Calls Try.prog 8 #[.slice a len cap] w fun e w' => ∃ a' c', e = .returned (.slice a' len c') ∧ (a'.isNone = a.isNone) ∧ (a' = none → c' = 0) ∧ Rd .u8 w' a' len zs ∧ Below w.heap.size w w' := by
  cases a with
  | none =>
    obtain rfl := hn rfl
    have h0 : len = 0 := by
      rcases Nat.eq_zero_or_pos len with h | h
      · exact h
      · obtain ⟨b, off, e, _⟩ := hr.2 h
        cases e
    subst h0
    refine (cnil8 w).mono ?_
    rintro e w' ⟨rfl, rfl⟩
    exact ⟨none, 0, rfl, rfl, fun _ => rfl, hr, Below.refl _ _⟩
  | some x =>
    refine (crow8 x len cap zs w hm hr).mono ?_
    rintro e w' ⟨rfl, _, hrow, hb⟩
    exact ⟨_, len, rfl, rfl, fun h => (by cases h), ⟨hr.1, fun h0 => ⟨_, 0, rfl, fun i hi => by rw [Nat.zero_add]; exact hrow.cell hi⟩⟩, hb⟩


theorem eqB_self (z : List Int) : eqB z z = true := by simp [eqB]

set_option maxHeartbeats 400000 in
/-- sameFields of two records that read alike. -/
theorem same19 (ia ja : Option Addr) (il ic jc : Nat) (c : Bool) (va ua : Option Addr) (vl vc uc : Nat) (zi zv : List Int) (w : World) (h1 : Rd .i64 w ia il zi) (h2 : Rd .i64 w ja il zi) (h3 : Rd .u8 w va vl zv) (h4 : Rd .u8 w ua vl zv)
    (n1 : ia.isNone = ja.isNone) (n2 : va.isNone = ua.isNone) (b1 : il ≤ 1048576) (b2 : vl ≤ 1048576) :
    Calls Try.prog 19 #[.slice ia il ic, .bool c, .slice va vl vc, .slice ja il jc, .bool c, .slice ua vl uc] w fun e w' => e = .returned (.bool true) ∧ ∃ n, w' = w.drewN n := by
  have q28 : ∀ (w : World) (a : Option Addr) (n c n' c' : Nat), (binOp .eql 28 (.slice a n c) (.slice none n' c')).run Try.prog w = .ok (.bool a.isNone) w := fun w a n c n' c' => Lib.run_eql_slice_nil w _ _ a n c n' c' Try.underlying28
  have q22 : ∀ (w : World) (a : Option Addr) (n c n' c' : Nat), (binOp .eql 22 (.slice a n c) (.slice none n' c')).run Try.prog w = .ok (.bool a.isNone) w := fun w a n c n' c' => Lib.run_eql_slice_nil w _ _ a n c n' c' Try.underlying22
  go_enter Try.func19, Try.ntmps19
  go_wp2_with fail
  refine (same18 _ _ _ _ _ _ zi zi _ h1 h2 b1 b1).mono ?_
  rw [eqB_self]
  rintro e w' ⟨rfl, n, rfl⟩
  go_wp2_with fail
  refine (same23 _ _ _ _ _ _ zv zv _ (h3.below (below_drewN (Below.refl _ _) n)) (h4.below (below_drewN (Below.refl _ _) n)) b2 b2).mono ?_
  rw [eqB_self]
  rintro e w' ⟨rfl, n', rfl⟩
  go_wp2_with fail
  go_ret
  exact ⟨rfl, _, rfl⟩

end Go.Proofs.Qxb6603608a.Ext
