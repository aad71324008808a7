import Derived.Test.Qxb6603608aUni
namespace Go.Proofs.Qxb6603608a.Uni
open Go.RowKit
set_option linter.unusedVariables false

def fit4 (a b c d : Nat) : Bool := decide (a + b + c + d ≤ 1048576)

set_option maxHeartbeats 400000 in
theorem zz10 (c vt : Int) (vc : Bool) (a3 a4 a5 a6 : Option Addr) (l3 c3 l4 c4 l5 c5 l6 c6 : Nat) (t : Int) (k : Bool) (w : World) (h3 : l3 ≤ maxLen) (h4 : l4 ≤ maxLen) (h5 : l5 ≤ maxLen) (h6 : l6 ≤ maxLen) :
    Calls Try.prog 10 #[.int .i64 c, .int .i64 vt, .bool vc, .slice a3 l3 c3, .slice a4 l4 c4, .slice a5 l5 c5, .slice a6 l6 c6, .int .i64 t, .bool k] w fun e w' => e = .returned (.bool (fit4 l3 l4 l5 l6)) ∧ w' = w := by
  unfold maxLen at h3 h4 h5 h6
  go_enter Try.func10, Try.ntmps10
  go_wp2
  all_goals
    go_ret
    exact ⟨by simp [fit4]; omega, rfl⟩

set_option maxHeartbeats 1000000 in
theorem part4 (a0 : Int) (a1 : Int) (a2 : Bool) (a3 : Option Addr) (len3 cap3 : Nat) (z3 : List Int) (a4 : Option Addr) (len4 cap4 : Nat) (z4 : List Int) (a5 : Option Addr) (len5 cap5 : Nat) (z5 : List Int) (a6 : Option Addr) (len6 cap6 : Nat) (z6 : List Int) (a7 : Int) (a8 : Bool) (w : World)
    (w3 : IsRow .u8 w a3 len3 cap3 z3) (w4 : IsRow .u8 w a4 len4 cap4 z4) (w5 : IsRow .u8 w a5 len5 cap5 z5) (w6 : IsRow .u8 w a6 len6 cap6 z6)
    (hl3 : len3 ≤ maxLen) (hl4 : len4 ≤ maxLen) (hl5 : len5 ≤ maxLen) (hl6 : len6 ≤ maxLen) (hf : len3 + len4 + len5 + len6 ≤ 1048576) (hfit : fit4 len3 len4 len5 len6 = true) (p r : Bool)
    (hp : Hid (uni a0 a1 a2 a7 a8 = p)) (hr : Hid (uni a0 a1 a2 a1 a2 = r))
    (hpr : p = true ∧ r = true ∧ a0 = 0 ∧ a7 = a1 ∧ a8 = a2 ∨ p = false ∧ r = true ∧ a0 = 0 ∨ p = false ∧ r = false ∧ ¬ a0 = 0) :
    Calls Try.prog 4 #[.int .i64 a0, .int .i64 a1, .bool a2, .slice a3 len3 cap3, .slice a4 len4 cap4, .slice a5 len5 cap5, .slice a6 len6 cap6, .int .i64 a7, .bool a8] w fun e w' => e = .returned (.bool true) ∧ Below w.heap.size w w' := by
  rcases hpr with ⟨rfl, rfl, rfl, rfl, rfl⟩ | ⟨rfl, rfl, rfl⟩ | ⟨rfl, rfl, hne⟩
  all_goals
    go_enter Try.func4, Try.ntmps4
    go_wp2_with fail
    refine (zz10 _ _ _ _ _ _ _ _ _ _ _ _ _ _ _ _ _ _ hl3 hl4 hl5 hl6).mono ?_
    rw [hfit]
    rintro e w' ⟨rfl, rfl⟩
    go_wp2_with fail
    refine (clone8 _ _ _ z3 _ (by omega) w3).mono ?_
    rintro e w1 ⟨b3, l3, c3, rfl, hb⟩
    go_wp2_with fail
    refine (clone8 _ _ _ z4 _ (by omega) (w4.below hb)).mono ?_
    rintro e w2 ⟨b4, l4, c4, rfl, hb2⟩
    replace hb := Below.two hb hb2; clear hb2
    go_wp2_with fail
    refine (clone8 _ _ _ z5 _ (by omega) (w5.below hb)).mono ?_
    rintro e w3 ⟨b5, l5, c5, rfl, hb2⟩
    replace hb := Below.two hb hb2; clear hb2
    go_wp2_with fail
    refine (clone8 _ _ _ z6 _ (by omega) (w6.below hb)).mono ?_
    rintro e w4 ⟨b6, l6, c6, rfl, hb2⟩
    replace hb := Below.two hb hb2; clear hb2
    go_wp2_with fail
    refine (uni9' _ _ _ _ _ _ _ _ _ _ _ _ _ hp.out).mono ?_
    rintro e w5 ⟨rfl, hb1⟩
    replace hb := Below.two hb hb1; clear hb1
    go_wp2_with fail
    refine (uni9' _ _ _ _ _ _ _ _ _ _ _ _ _ hp.out).mono ?_
    rintro e w6 ⟨rfl, hb1⟩
    replace hb := Below.two hb hb1; clear hb1
    go_wp2_with fail
    refine (uni9' _ _ _ _ _ _ _ _ _ _ _ _ _ hr.out).mono ?_
    rintro e w7 ⟨rfl, hb1⟩
    replace hb := Below.two hb hb1; clear hb1
    go_wp2_with fail
    go_ret
    exact ⟨by simp <;> exact hne, hb⟩

theorem walk4 (a0 : Int) (a1 : Int) (a2 : Bool) (a3 : Option Addr) (len3 cap3 : Nat) (z3 : List Int) (a4 : Option Addr) (len4 cap4 : Nat) (z4 : List Int) (a5 : Option Addr) (len5 cap5 : Nat) (z5 : List Int) (a6 : Option Addr) (len6 cap6 : Nat) (z6 : List Int) (a7 : Int) (a8 : Bool) (w : World)
    (w3 : IsRow .u8 w a3 len3 cap3 z3) (w4 : IsRow .u8 w a4 len4 cap4 z4) (w5 : IsRow .u8 w a5 len5 cap5 z5) (w6 : IsRow .u8 w a6 len6 cap6 z6) :
    Calls Try.prog 4 #[.int .i64 a0, .int .i64 a1, .bool a2, .slice a3 len3 cap3, .slice a4 len4 cap4, .slice a5 len5 cap5, .slice a6 len6 cap6, .int .i64 a7, .bool a8] w fun e w' => e = .returned (.bool true) ∧ Below w.heap.size w w' := by
  have hl3 := w3.len_le
  have hl4 := w4.len_le
  have hl5 := w5.len_le
  have hl6 := w6.len_le
  by_cases hf : len3 + len4 + len5 + len6 ≤ 1048576
  · refine part4 a0 a1 a2 a3 len3 cap3 z3 a4 len4 cap4 z4 a5 len5 cap5 z5 a6 len6 cap6 z6 a7 a8 w w3 w4 w5 w6 hl3 hl4 hl5 hl6 hf (by simp [fit4, hf]) _ _ rfl rfl ?_
    unfold uni
    by_cases h0 : a0 = 0
    · subst h0
      by_cases h1 : a1 = a7
      · subst h1
        cases a2 <;> cases a8 <;> simp
      · simp [h1]
    · simp [h0]
  · have hfit : fit4 len3 len4 len5 len6 = false := by simp [fit4, hf]
    go_enter Try.func4, Try.ntmps4
    go_wp2_with fail
    refine (zz10 _ _ _ _ _ _ _ _ _ _ _ _ _ _ _ _ _ _ hl3 hl4 hl5 hl6).mono ?_
    rw [hfit]
    rintro e w' ⟨rfl, rfl⟩
    go_wp2_with fail
    go_ret
    exact ⟨rfl, Below.refl _ _⟩

end Go.Proofs.Qxb6603608a.Uni
