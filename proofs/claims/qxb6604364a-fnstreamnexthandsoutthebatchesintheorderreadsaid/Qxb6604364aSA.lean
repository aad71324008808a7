import Derived.Test.Qxb6604364aRows
import Derived.WalkKit
import Derived.Below
import Derived.Lib.SliceRun
import Derived.Deep.OwnRows
import Derived.Deep.QuietTactic
import Derived.BigQuiet
import Derived.WalkSmall
import Derived.WalkSpells
import Derived.Deep.LoopGhost
namespace Go.Proofs.Qxb6604364a.Str
open Go.RowKit
set_option linter.unusedVariables false
set_option linter.unusedSimpArgs false

/-- A slice's header. -/
structure Hd where
  a : Option Addr
  l : Nat
  c : Nat

/-- A list of strings, 'l' long, at 'a', reads as 'ss'. -/
def Rd (w : World) (a : Option Addr) (l : Nat) (ss : Nat → ByteArray) : Prop :=
  0 < l → ∃ b off, a = some ⟨b, off, none⟩ ∧ ∀ i, i < l → w.cell? ⟨b, off + i, none⟩ = some (.string (ss i))

/-- A list of lists. -/
def LAt (w : World) (a : Option Addr) (n : Nat) (H : Nat → Hd) : Prop :=
  0 < n → ∃ b off, a = some ⟨b, off, none⟩ ∧ ∀ i, i < n → w.cell? ⟨b, off + i, none⟩ = some (.slice (H i).a (H i).l (H i).c)

theorem cell_lt {w : World} {a : Addr} {v : Value} (h : w.cell? a = some v) : a.block < w.heap.size := by
  unfold World.cell? at h
  split at h
  · next he => exact (Array.getElem?_eq_some_iff.1 he).1
  · cases h

theorem Rd.below {w w' : World} {a : Option Addr} {l : Nat} {ss : Nat → ByteArray} (h : Rd w a l ss) (hb : Below w.heap.size w w') : Rd w' a l ss := by
  intro h0
  obtain ⟨b, off, e, hc⟩ := h h0
  exact ⟨b, off, e, fun i hi => (hb.cell (cell_lt (hc i hi))).trans (hc i hi)⟩

theorem LAt.below {w w' : World} {a : Option Addr} {n : Nat} {H : Nat → Hd} (h : LAt w a n H) (hb : Below w.heap.size w w') : LAt w' a n H := by
  intro h0
  obtain ⟨b, off, e, hc⟩ := h h0
  exact ⟨b, off, e, fun i hi => (hb.cell (cell_lt (hc i hi))).trans (hc i hi)⟩

theorem ret_bool {a b : Bool} (h : a = b) : Ending.returned (.bool a) = .returned (.bool b) := by rw [h]

def BoolIf (p : Prop) (w : World) (e : Ending) (w' : World) : Prop := ∃ r, e = .returned (.bool r) ∧ w' = w ∧ (r = true → p)
theorem BoolIf.no {p : Prop} {w : World} : BoolIf p w (.returned (.bool false)) w := ⟨false, rfl, rfl, fun h => by cases h⟩
theorem BoolIf.yes {p : Prop} {w : World} {r : Bool} (hp : p) : BoolIf p w (.returned (.bool r)) w := ⟨r, rfl, rfl, fun _ => hp⟩

/-- The lengths that zzBytes has checked. -/
def Fits (n : Nat) (H : Nat → Hd) (S : Nat → Nat → ByteArray) : Prop := n ≤ 1048576 ∧ ∀ i, i < n → (H i).l ≤ 1048576 ∧ ∀ j, j < (H i).l → (S i j).size ≤ 1048576

set_option maxHeartbeats 2000000 in
theorem zz4 (a : Option Addr) (n c : Nat) (H : Nat → Hd) (S : Nat → Nat → ByteArray) (w : World) (hn : n ≤ maxLen) (hx : LAt w a n H) (hl : ∀ i, i < n → (H i).l ≤ maxLen ∧ Rd w (H i).a (H i).l (S i) ∧ ∀ j, j < (H i).l → (S i j).size ≤ maxLen) :
    Calls Try.prog 4 #[.slice a n c] w fun e w' => BoolIf (Fits n H S) w e w' := by
  unfold maxLen at hn hl
  by_cases hc1 : n ≤ 1048576
  · go_enter Try.func4, Try.ntmps4
    go_wp2
    go_loopg [3, 4] n (fun g t i wr => ∃ (k : Nat) (s : Int), k ≤ n ∧ g = n - k ∧ i = .int .i64 k ∧ t = .int .i64 s ∧ wr = w ∧ 0 ≤ s ∧ s ≤ 1048576 ∧ ∀ i, i < k → (H i).l ≤ 1048576 ∧ ∀ j, j < (H i).l → (S i j).size ≤ 1048576)
    case atStart => exact ⟨0, _, Nat.zero_le _, by omega, rfl, rfl, rfl, by omega, by omega, fun j hj => absurd hj (Nat.not_lt_zero _)⟩
    case round =>
      obtain ⟨k, s, hk, hgk, rfl, rfl, rfl, hs0, hs1, hall⟩ := hrel
      have HA : Hid (∀ i, i < k → (H i).l ≤ 1048576 ∧ ∀ j, j < (H i).l → (S i j).size ≤ 1048576) := hall
      have HK : Hid (gk = n - k) := hgk
      clear hall hgk
      by_cases hlt : k < n
      · obtain ⟨b, off, rfl, hcell⟩ := hx (by omega)
        have g1 := hcell k hlt
        obtain ⟨hlk, hrd, hsz⟩ := hl k hlt
        have hlt' : (k : Int) < (n : Int) := by omega
        have HC : Hid (∀ i, i < n → wr.cell? ⟨b, off + i, none⟩ = some (.slice (H i).a (H i).l (H i).c)) := hcell
        have HL : Hid (∀ i, i < n → (H i).l ≤ 2 ^ 63 - 1 ∧ Rd wr (H i).a (H i).l (S i) ∧ ∀ j, j < (H i).l → (S i j).size ≤ 2 ^ 63 - 1) := hl
        clear hcell hl
        by_cases hl20 : (H k).l ≤ 1048576
        · go_wp2
          · go_ret
            exact BoolIf.no
          · go_loopg [3, 5] ((H k).l) (fun g t i w2 => ∃ (j : Nat) (s' : Int), j ≤ (H k).l ∧ g = (H k).l - j ∧ i = .int .i64 j ∧ t = .int .i64 s' ∧ w2 = wr ∧ 0 ≤ s' ∧ s' ≤ 1048576 ∧ ∀ i, i < j → (S k i).size ≤ 1048576)
            case atStart => exact ⟨0, _, Nat.zero_le _, by omega, rfl, rfl, rfl, by omega, by assumption, fun j hj => absurd hj (Nat.not_lt_zero _)⟩
            case round =>
              obtain ⟨j, s', hj, hgj, rfl, rfl, rfl, hs0', hs1', hall'⟩ := hrel
              have HB : Hid (∀ i, i < j → (S k i).size ≤ 1048576) := hall'
              clear hall'
              by_cases hlt2 : j < (H k).l
              · obtain ⟨b2, off2, ha2, hcell2⟩ := hrd (by omega)
                have g2 := hcell2 j hlt2
                have hz := hsz j hlt2
                have hlt2' : (j : Int) < ((H k).l : Int) := by omega
                clear hcell2
                go_wp2
                · go_ret
                  exact BoolIf.no
                · go_ret
                  exact BoolIf.no
                · have hsz1 : ((S k j).size : Int) ≤ 1048576 := by assumption
                  go_roundg ((H k).l - (j + 1))
                  case measure => omega
                  case rel => exact ⟨j + 1, _, by omega, rfl, by go_num, rfl, rfl, by omega, by assumption, fun i hi => by
                    by_cases e : i = j
                    · subst e; omega
                    · exact HB.out i (by omega)⟩
              · go_wp2
                go_roundg (n - (k + 1))
                case measure => have := HK.out; omega
                case rel => exact ⟨k + 1, _, by omega, rfl, by go_num, rfl, rfl, hs0', hs1', fun i hi => by
                  by_cases e : i = k
                  · subst e; exact ⟨hl20, fun t ht => HB.out t (by omega)⟩
                  · exact HA.out i (by omega)⟩
        · go_wp2
          go_ret
          exact BoolIf.no
      · go_wp2
        go_ret
        exact BoolIf.yes ⟨hc1, fun i hi => HA.out i (by omega)⟩
  · go_enter Try.func4, Try.ntmps4
    go_wp2
    go_ret
    exact BoolIf.no

set_option maxHeartbeats 1000000 in
theorem bytes11 (a : Option Addr) (l c : Nat) (ss : Nat → ByteArray) (w : World) (hl : l ≤ 1048576) (hx : Rd w a l ss) (hs : ∀ j, j < l → (ss j).size ≤ 1048576) :
    Calls Try.prog 11 #[.slice a l c] w fun e w' => ∃ r : Int, e = .returned (.int .i64 r) ∧ 0 ≤ r ∧ r ≤ 33554432 ∧ w' = w := by
  go_enter Try.func11, Try.ntmps11
  go_wp2
  go_loop [3, 4] (fun t i => ∃ (k : Nat) (s : Int), k ≤ l ∧ i = .int .i64 k ∧ t = .int .i64 s ∧ 0 ≤ s ∧ s ≤ 33554432) (fun _ i => l - (intOf i).toNat)
  case atStart => exact ⟨0, _, Nat.zero_le _, rfl, rfl, by omega, by omega⟩
  case round =>
    obtain ⟨k, s, hk, rfl, rfl, hs0, hs1⟩ := hrel
    by_cases hlt : k < l
    · obtain ⟨b, off, rfl, hcell⟩ := hx (by omega)
      have g1 := hcell k hlt
      have g2 := hs k hlt
      have hlt' : (k : Int) < (l : Int) := by omega
      clear hcell hs
      by_cases h20 : 1048576 < s
      · go_wp2
        go_ret
        exact ⟨s, rfl, hs0, hs1, rfl⟩
      · go_wp2
        go_round
        case rel => exact ⟨k + 1, _, by omega, by go_num, rfl, by omega, by omega⟩
        case measure => simp [intOf]; omega
    · go_wp2
      go_ret
      exact ⟨s, rfl, hs0, hs1, rfl⟩

set_option maxHeartbeats 1000000 in
theorem nested5 (a : Option Addr) (n c : Nat) (H : Nat → Hd) (S : Nat → Nat → ByteArray) (w : World) (hn : n ≤ 4096) (hx : LAt w a n H) (hf : Fits n H S) (hr : ∀ i, i < n → Rd w (H i).a (H i).l (S i)) :
    Calls Try.prog 5 #[.slice a n c] w fun e w' => (∃ r : Int, e = .returned (.int .i64 r)) ∧ w' = w := by
  have HF : Hid (Fits n H S) := hf
  clear hf
  go_enter Try.func5, Try.ntmps5
  go_wp2
  go_loop [3, 4] (fun t i => ∃ (k : Nat) (s : Int), k ≤ n ∧ i = .int .i64 k ∧ t = .int .i64 s ∧ 0 ≤ s ∧ s ≤ 67108864) (fun _ i => n - (intOf i).toNat)
  case atStart => exact ⟨0, _, Nat.zero_le _, rfl, rfl, by omega, by omega⟩
  case round =>
    obtain ⟨k, s, hk, rfl, rfl, hs0, hs1⟩ := hrel
    by_cases hlt : k < n
    · obtain ⟨b, off, rfl, hcell⟩ := hx (by omega)
      have g1 := hcell k hlt
      have g2 := (HF.out.2 k hlt).1
      have g3 := (HF.out.2 k hlt).2
      have g4 := hr k hlt
      have hlt' : (k : Int) < (n : Int) := by omega
      clear hcell hr
      by_cases h20 : 1048576 < s
      · go_wp2
        go_ret
        exact ⟨⟨s, rfl⟩, rfl⟩
      · go_wp2_with (go_at_call 11; refine (bytes11 _ _ _ (S k) _ g2 g4 g3).mono ?_; rintro e w' ⟨r, rfl, hr0, hr1, rfl⟩)
        go_round
        case rel => exact ⟨k + 1, _, by omega, by go_num, rfl, by omega, by omega⟩
        case measure => simp [intOf]; omega
    · go_wp2
      go_ret
      exact ⟨⟨s, rfl⟩, rfl⟩

theorem info9 : (Try.prog.info? 9).map (fun i => (i.zero, i.size, i.bytes)) = some (some (.string ByteArray.empty), 1, 16) := by kernel_rfl
theorem info29 : (Try.prog.info? 29).map (fun i => (i.zero, i.size, i.bytes)) = some (some (.slice none 0 0), 1, 24) := by kernel_rfl

theorem cnil12 (w : World) : Calls Try.prog 12 #[.slice none 0 0] w fun e w' => e = .returned (.slice none 0 0) ∧ w' = w := by
  have q : ∀ (w : World) (a : Option Addr) (n c n' c' : Nat), (binOp .eql 29 (.slice a n c) (.slice none n' c')).run Try.prog w = .ok (.bool a.isNone) w := fun w a n c n' c' => Lib.run_eql_slice_nil w _ _ a n c n' c' Try.underlying29
  go_enter Try.func12, Try.ntmps12
  go_wp2
  go_ret
  exact ⟨rfl, rfl⟩

set_option maxHeartbeats 400000 in
theorem crow12 (x : Addr) (len cap : Nat) (ss : Nat → ByteArray) (w : World) (hm : len ≤ 1048576) (hr : Rd w (some x) len ss) :
    Calls Try.prog 12 #[.slice (some x) len cap] w fun e w' => e = .returned (.slice (some ⟨w.heap.size, 0, none⟩) len len) ∧ w'.heap.size = w.heap.size + 1 ∧ w'.rowIs w.heap.size 9 len (fun j => .string (ss j)) ∧ Below w.heap.size w w' := by
  have q : ∀ (w : World) (a : Option Addr) (n c n' c' : Nat), (binOp .eql 29 (.slice a n c) (.slice none n' c')).run Try.prog w = .ok (.bool a.isNone) w := fun w a n c n' c' => Lib.run_eql_slice_nil w _ _ a n c n' c' Try.underlying29
  have hmk := run_make_row' (P := Try.prog) 29 9 (.string ByteArray.empty) 16 Try.underlying29 info9 rfl .i64 .i64 len (by omega) (by omega)
  go_enter Try.func12, Try.ntmps12
  go_wp2
  go_loopw [4] (fun i wr => ∃ k : Nat, k ≤ len ∧ i = .int .i64 k ∧ wr.heap.size = w.heap.size + 1 ∧ wr.rowIs w.heap.size 9 len (fun j => if j < k then .string (ss j) else .string ByteArray.empty) ∧ Below w.heap.size w wr) (fun i _ => len - (intOf i).toNat)
  case atStart => exact ⟨0, Nat.zero_le _, rfl, by simp, (World.rowIs_made w _ _ _).congr (by simp), (Below.refl _ _).alloc (Nat.le_refl _) _⟩
  case round =>
    obtain ⟨k, hk, rfl, hsz, hrow, hb⟩ := hrel
    by_cases hlt : k < len
    · obtain ⟨b, off, ex, hc⟩ := hr (by omega)
      simp only [Option.some.injEq] at ex
      subst ex
      have hsrc : wr.cell? ⟨b, off + k, none⟩ = some (.string (ss k)) := (hb.cell (cell_lt (hc k hlt))).trans (hc k hlt)
      have hfz := hrow.frozen k
      have hdst := hrow.cell hlt
      simp at hdst
      clear hc hr
      go_wp2
      go_roundw
      case rel => exact ⟨k + 1, by omega, by go_num, by simpa [World.setCell] using hsz, (hrow.set k _).congr (fun i hi => by by_cases e : i = k <;> by_cases e' : i < k <;> simp [e, e'] <;> omega), hb.setCell (Nat.le_refl _) _⟩
      case measure => simp [intOf]; omega
    · go_wp2
      go_ret
      exact ⟨rfl, hsz, hrow.congr (fun i hi => by simp; omega), hb⟩

theorem clone12 (a : Option Addr) (len cap : Nat) (ss : Nat → ByteArray) (w : World) (hn : a = none → cap = 0) (hm : len ≤ 1048576) (hr : Rd w a len ss) :
    Calls Try.prog 12 #[.slice a len cap] w fun e w' => ∃ a' c', e = .returned (.slice a' len c') ∧ Rd w' a' len ss ∧ Below w.heap.size w w' := by
  cases a with
  | none =>
    obtain rfl := hn rfl
    have h0 : len = 0 := by
      rcases Nat.eq_zero_or_pos len with h | h
      · exact h
      · obtain ⟨b, off, e, _⟩ := hr h
        cases e
    subst h0
    refine (cnil12 w).mono ?_
    rintro e w' ⟨rfl, rfl⟩
    exact ⟨none, 0, rfl, hr, Below.refl _ _⟩
  | some x =>
    refine (crow12 x len cap ss w hm hr).mono ?_
    rintro e w' ⟨rfl, _, hrow, hb⟩
    exact ⟨_, len, rfl, fun h0 => ⟨_, 0, rfl, fun i hi => by rw [Nat.zero_add]; exact hrow.cell hi⟩, hb⟩

/-- Two lists that read alike. -/
theorem same10 (a1 a2 : Option Addr) (l c1 c2 : Nat) (ss : Nat → ByteArray) (w : World) (h1 : Rd w a1 l ss) (h2 : Rd w a2 l ss) (b1 : l ≤ 1048576) :
    Calls Try.prog 10 #[.slice a1 l c1, .slice a2 l c2] w fun e w' => e = .returned (.bool true) ∧ ∃ n, w' = w.drewN n := by
  go_enter Try.func10, Try.ntmps10
  go_wp2
  go_loopw [5] (fun i wr => ∃ k n : Nat, k ≤ l ∧ i = .int .i64 k ∧ wr = w.drewN n) (fun i _ => l - (intOf i).toNat)
  case atStart => exact ⟨0, 0, Nat.zero_le _, rfl, rfl⟩
  case round =>
    obtain ⟨k, n, hk, rfl, rfl⟩ := hrel
    by_cases hlt : k < l
    · obtain ⟨x1, o1, rfl, hc1⟩ := h1 (by omega)
      obtain ⟨x2, o2, rfl, hc2⟩ := h2 (by omega)
      have g1 := hc1 k hlt
      have g2 := hc2 k hlt
      have hlt' : (k : Int) < (l : Int) := by omega
      clear hc1 hc2 h1 h2
      go_wp2
      go_quiet (fail)
      go_wp2
      go_roundw
      case rel => exact ⟨k + 1, _, by omega, by go_num, rfl⟩
      case measure => simp [intOf]; omega
    · go_wp2
      go_ret
      exact ⟨rfl, n, rfl⟩

end Go.Proofs.Qxb6604364a.Str
