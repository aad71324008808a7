import Derived.Test.Qxb6603608aRows
import Derived.WalkKit
import Derived.Below
import Derived.Lib.SliceRun
import Derived.Deep.OwnRows
namespace Go.Proofs.Qxb6603608a.Uni
open Go.RowKit
set_option linter.unusedVariables false

def fit2 (a b : Nat) : Bool := decide (a + b ≤ 1048576)
def uni (c vt : Int) (vc : Bool) (t : Int) (k : Bool) : Bool := (c == 0) && (vt == t) && (vc == k)

set_option maxHeartbeats 400000 in
theorem zz7 (c vt : Int) (vc : Bool) (a3 a4 : Option Addr) (l3 c3 l4 c4 : Nat) (t : Int) (w : World) (h3 : l3 ≤ maxLen) (h4 : l4 ≤ maxLen) :
    Calls Try.prog 7 #[.int .i64 c, .int .i64 vt, .bool vc, .slice a3 l3 c3, .slice a4 l4 c4, .int .i64 t] w fun e w' => e = .returned (.bool (fit2 l3 l4)) ∧ w' = w := by
  unfold maxLen at h3 h4
  go_enter Try.func7, Try.ntmps7
  go_wp2
  all_goals
    go_ret
    exact ⟨by simp [fit2]; omega, rfl⟩

set_option maxHeartbeats 400000 in
theorem uni21 (c vt : Int) (vc : Bool) (a3 a4 : Option Addr) (l3 c3 l4 c4 : Nat) (t : Int) (k : Bool) (w : World) :
    Calls Try.prog 21 #[.agg #[.int .i64 c, .int .i64 vt, .bool vc, .slice a3 l3 c3, .slice a4 l4 c4], .int .i64 t, .bool k] w fun e w' => e = .returned (.bool (uni c vt vc t k)) ∧ Below w.heap.size w w' := by
  go_enter Try.func21, Try.ntmps21
  go_wp2
  all_goals
    go_ret
    exact ⟨by simp [uni, *], (Below.refl _ _).alloc (Nat.le_refl _) _⟩

set_option maxHeartbeats 400000 in
theorem uni9 (c vt : Int) (vc : Bool) (a3 a4 : Option Addr) (l3 c3 l4 c4 : Nat) (t : Int) (k : Bool) (w : World) :
    Calls Try.prog 9 #[.int .i64 c, .int .i64 vt, .bool vc, .slice a3 l3 c3, .slice a4 l4 c4, .int .i64 t, .bool k] w fun e w' => e = .returned (.bool (uni c vt vc t k)) ∧ Below w.heap.size w w' := by
  go_enter Try.func9, Try.ntmps9
  go_wp2_with (go_at_call 21; refine (uni21 _ _ _ _ _ _ _ _ _ _ _ _).mono ?_; rintro e w' ⟨rfl, hb⟩)
  go_ret
  exact ⟨rfl, hb⟩

theorem cells5 : Try.prog.cellsOf 5 = 1 := by kernel_rfl
theorem info5 : (Try.prog.info? 5).map (fun i => (i.zero, i.size, i.bytes)) = some (some (.int .u8 0), 1, 1) := by kernel_rfl

theorem cell_lt {w : World} {a : Addr} {v : Value} (h : w.cell? a = some v) : a.block < w.heap.size := by
  unfold World.cell? at h
  split at h
  · next he => exact (Array.getElem?_eq_some_iff.1 he).1
  · cases h

/-- cloneB -/
theorem nil8 (w : World) : Calls Try.prog 8 #[.slice none 0 0] w fun e w' => e = .returned (.slice none 0 0) ∧ w' = w := by
  have q22 : ∀ (w : World) (a : Option Addr) (n c n' c' : Nat), (binOp .eql 22 (.slice a n c) (.slice none n' c')).run Try.prog w = .ok (.bool a.isNone) w := fun w a n c n' c' => Lib.run_eql_slice_nil w _ _ a n c n' c' Try.underlying22
  go_enter Try.func8, Try.ntmps8
  go_wp2
  go_ret
  exact ⟨rfl, rfl⟩

set_option maxHeartbeats 400000 in
theorem row8 (x : Addr) (len cap : Nat) (zs : List Int) (w : World) (hl : len ≤ cap) (hm : len ≤ 1048576) (hz : zs.length = cap) (hc : ∀ i, i < zs.length → w.cell? (x.add i) = some (.int .u8 (zs.getD i 0))) :
    Calls Try.prog 8 #[.slice (some x) len cap] w fun e w' => e = .returned (.slice (some ⟨w.heap.size, 0, none⟩) len len) ∧ w'.heap.size = w.heap.size + 1 ∧ w'.rowIs w.heap.size 5 len (fun j => .int .u8 (zs.getD j 0)) ∧ Below w.heap.size w w' := by
  have q22 : ∀ (w : World) (a : Option Addr) (n c n' c' : Nat), (binOp .eql 22 (.slice a n c) (.slice none n' c')).run Try.prog w = .ok (.bool a.isNone) w := fun w a n c n' c' => Lib.run_eql_slice_nil w _ _ a n c n' c' Try.underlying22
  have hmk := run_make_row' (P := Try.prog) 22 5 (.int .u8 0) 1 Try.underlying22 info5 rfl .i64 .i64 len (by omega) (by omega)
  go_enter Try.func8, Try.ntmps8
  go_wp2
  go_loopw [12] (fun i wr => ∃ k : Nat, k ≤ len ∧ i = .int .i64 k ∧ wr.heap.size = w.heap.size + 1 ∧ wr.rowIs w.heap.size 5 len (fun j => if j < k then .int .u8 (zs.getD j 0) else .int .u8 0) ∧ Below w.heap.size w wr) (fun i _ => len - (intOf i).toNat)
  case atStart => exact ⟨0, Nat.zero_le _, rfl, by simp, (World.rowIs_made w _ _ _).congr (by simp), (Below.refl _ _).alloc (Nat.le_refl _) _⟩
  case round =>
    obtain ⟨k, hk, rfl, hsz, hrow, hb⟩ := hrel
    by_cases hlt : k < len
    · have hsrc : wr.cell? (x.add k) = some (.int .u8 (zs.getD k 0)) := (hb.cell (cell_lt (hc k (by omega)))).trans (hc k (by omega))
      have hfz := hrow.frozen k
      have hdst := hrow.cell hlt
      simp at hdst
      go_wp2
      go_roundw
      case rel => exact ⟨k + 1, by omega, by go_num, by simpa [World.setCell] using hsz, (hrow.set k _).congr (fun i hi => by by_cases e : i = k <;> by_cases e' : i < k <;> simp [e, e'] <;> omega), hb.setCell (Nat.le_refl _) _⟩
      case measure => simp [intOf]; omega
    · go_wp2
      go_ret
      exact ⟨rfl, hsz, hrow.congr (fun i hi => by simp; omega), hb⟩

def IsRow (k : IntKind) (w : World) (a : Option Addr) (len cap : Nat) (zs : List Int) : Prop :=
  (a = none ∧ len = 0 ∧ cap = 0 ∧ zs = []) ∨
  ∃ x, a = some x ∧ len ≤ cap ∧ cap ≤ maxLen ∧ zs.length = cap ∧ (∀ i, i < zs.length → w.cell? (x.add i) = some (.int k (zs.getD i 0))) ∧ ∀ n ∈ zs, (Lit.int k n).wf = true

theorem IsRow.len_le {k : IntKind} {w : World} {a : Option Addr} {len cap : Nat} {zs : List Int} (h : IsRow k w a len cap zs) : len ≤ maxLen := by
  rcases h with ⟨_, rfl, _, _⟩ | ⟨x, _, h1, h2, _⟩
  · exact Nat.zero_le _
  · exact Nat.le_trans h1 h2

theorem IsRow.below {k : IntKind} {w w' : World} {a : Option Addr} {len cap : Nat} {zs : List Int} (h : IsRow k w a len cap zs) (hb : Below w.heap.size w w') : IsRow k w' a len cap zs := by
  rcases h with h | ⟨x, h1, h2, h3, h4, h5, h6⟩
  · exact .inl h
  · exact .inr ⟨x, h1, h2, h3, h4, fun i hi => (hb.cell (cell_lt (h5 i hi))).trans (h5 i hi), h6⟩

theorem clone8 (a : Option Addr) (len cap : Nat) (zs : List Int) (w : World) (hm : len ≤ 1048576) (h : IsRow .u8 w a len cap zs) :
    Calls Try.prog 8 #[.slice a len cap] w fun e w' => ∃ a' len' cap', e = .returned (.slice a' len' cap') ∧ Below w.heap.size w w' := by
  rcases h with ⟨rfl, rfl, rfl, rfl⟩ | ⟨x, rfl, h2, h3, h4, h5, h6⟩
  · refine (nil8 w).mono ?_
    rintro e w' ⟨rfl, rfl⟩
    exact ⟨_, _, _, rfl, Below.refl _ _⟩
  · refine (row8 x len cap zs w h2 hm h4 h5).mono ?_
    rintro e w' ⟨rfl, _, _, hb⟩
    exact ⟨_, _, _, rfl, hb⟩

theorem uni9' (c vt : Int) (vc : Bool) (a3 a4 : Option Addr) (l3 c3 l4 c4 : Nat) (t : Int) (k : Bool) (w : World) (b : Bool) (h : uni c vt vc t k = b) :
    Calls Try.prog 9 #[.int .i64 c, .int .i64 vt, .bool vc, .slice a3 l3 c3, .slice a4 l4 c4, .int .i64 t, .bool k] w fun e w' => e = .returned (.bool b) ∧ Below w.heap.size w w' := by
  subst h; exact uni9 _ _ _ _ _ _ _ _ _ _ _ _

theorem Below.two {w w1 w2 : World} (h : Below w.heap.size w w1) (k : Below w1.heap.size w1 w2) : Below w.heap.size w w2 := h.trans (k.mono h.size)

set_option maxHeartbeats 1000000 in
theorem part3 (a0 : Int) (a1 : Int) (a2 : Bool) (a3 : Option Addr) (len3 cap3 : Nat) (z3 : List Int) (a4 : Option Addr) (len4 cap4 : Nat) (z4 : List Int) (a5 : Int) (w : World) (w3 : IsRow .u8 w a3 len3 cap3 z3) (w4 : IsRow .u8 w a4 len4 cap4 z4)
    (hl3 : len3 ≤ maxLen) (hl4 : len4 ≤ maxLen) (hf : len3 + len4 ≤ 1048576) (hfit : fit2 len3 len4 = true) (p q r : Bool)
    (hp : Hid (uni a0 a1 a2 a5 false = p)) (hq : Hid (uni a0 a1 a2 a5 true = q)) (hr : Hid (uni a0 a1 a2 a5 a2 = r)) 
    (hpq : p = true ∧ q = false ∧ a2 = false ∧ a0 = 0 ∧ a5 = a1 ∨ p = false ∧ q = true ∧ a2 = true ∧ a0 = 0 ∧ a5 = a1 ∨ p = false ∧ q = false ∧ a0 = 0 ∧ ¬ a5 = a1 ∨ p = false ∧ q = false ∧ ¬ a0 = 0) :
    Calls Try.prog 3 #[.int .i64 a0, .int .i64 a1, .bool a2, .slice a3 len3 cap3, .slice a4 len4 cap4, .int .i64 a5] w fun e w' => e = .returned (.bool true) ∧ Below w.heap.size w w' := by
  rcases hpq with ⟨rfl, rfl, rfl, rfl, rfl⟩ | ⟨rfl, rfl, rfl, rfl, rfl⟩ | ⟨rfl, rfl, rfl, hne⟩ | ⟨rfl, rfl, hne⟩
  all_goals
    go_enter Try.func3, Try.ntmps3
    go_wp2_with fail
    refine (zz7 _ _ _ _ _ _ _ _ _ _ _ hl3 hl4).mono ?_
    rw [hfit]
    rintro e w' ⟨rfl, rfl⟩
    go_wp2_with fail
    refine (clone8 _ _ _ z3 _ (by omega) w3).mono ?_
    rintro e w1 ⟨b3, l3, c3, rfl, hb1⟩
    go_wp2_with fail
    refine (clone8 _ _ _ z4 _ (by omega) (w4.below hb1)).mono ?_
    rintro e w2 ⟨b4, l4, c4, rfl, hb2⟩
    have hb := Below.two hb1 hb2
    clear hb1 hb2
    go_wp2_with fail
    refine (uni9' _ _ _ _ _ _ _ _ _ _ _ _ _ hp.out).mono ?_
    rintro e w3 ⟨rfl, hb1⟩
    replace hb := Below.two hb hb1; clear hb1
    go_wp2_with fail
    refine (uni9' _ _ _ _ _ _ _ _ _ _ _ _ _ hq.out).mono ?_
    rintro e w4 ⟨rfl, hb1⟩
    replace hb := Below.two hb hb1; clear hb1
    go_wp2_with fail
    refine (uni9' _ _ _ _ _ _ _ _ _ _ _ _ _ hr.out).mono ?_
    rintro e w5 ⟨rfl, hb1⟩
    replace hb := Below.two hb hb1; clear hb1
    go_wp2_with fail
    refine (uni9' _ _ _ _ _ _ _ _ _ _ _ _ _ hr.out).mono ?_
    rintro e w6 ⟨rfl, hb1⟩
    replace hb := Below.two hb hb1; clear hb1
    go_wp2_with fail
    go_ret
    exact ⟨by simp, hb⟩

theorem walk3 (a0 : Int) (a1 : Int) (a2 : Bool) (a3 : Option Addr) (len3 cap3 : Nat) (z3 : List Int) (a4 : Option Addr) (len4 cap4 : Nat) (z4 : List Int) (a5 : Int) (w : World) (w3 : IsRow .u8 w a3 len3 cap3 z3) (w4 : IsRow .u8 w a4 len4 cap4 z4) :
    Calls Try.prog 3 #[.int .i64 a0, .int .i64 a1, .bool a2, .slice a3 len3 cap3, .slice a4 len4 cap4, .int .i64 a5] w fun e w' => e = .returned (.bool true) ∧ Below w.heap.size w w' := by
  have hl3 := w3.len_le
  have hl4 := w4.len_le
  by_cases hf : len3 + len4 ≤ 1048576
  · refine part3 a0 a1 a2 a3 len3 cap3 z3 a4 len4 cap4 z4 a5 w w3 w4 hl3 hl4 hf (by simp [fit2, hf]) _ _ _ rfl rfl rfl ?_
    unfold uni
    by_cases h0 : a0 = 0 <;> by_cases h1 : a5 = a1 <;> cases a2 <;> simp_all
    all_goals (intro h; exact h1 h.symm)
  · have hfit : fit2 len3 len4 = false := by simp [fit2, hf]
    go_enter Try.func3, Try.ntmps3
    go_wp2_with fail
    refine (zz7 _ _ _ _ _ _ _ _ _ _ _ hl3 hl4).mono ?_
    rw [hfit]
    rintro e w' ⟨rfl, rfl⟩
    go_wp2_with fail
    go_ret
    exact ⟨rfl, Below.refl _ _⟩

end Go.Proofs.Qxb6603608a.Uni
