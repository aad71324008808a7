import Derived.Test.Qxb6603608aExtB
namespace Go.Proofs.Qxb6603608a.Ext
open Go.RowKit
set_option linter.unusedVariables false

set_option maxHeartbeats 2000000 in
theorem zz11 (a ao : Option Addr) (n c lo co : Nat) (E : Nat → X) (w : World) (hx : XAt w a n E) (hn : n ≤ maxLen) (hlo : lo ≤ maxLen) (hE : ∀ i, i < n → (E i).il ≤ maxLen ∧ (E i).vl ≤ maxLen) :
    Calls Try.prog 11 #[.slice a n c, .slice ao lo co] w fun e w' => BoolIf True w e w' := by
  unfold maxLen at hn hlo hE
  by_cases hc1 : n ≤ 1048576
  · go_enter Try.func11, Try.ntmps11
    go_wp2
    go_loopw [5, 6] (fun t i wr => ∃ (k : Nat) (s : Int), k ≤ n ∧ i = .int .i64 k ∧ t = .int .i64 s ∧ wr = w ∧ 0 ≤ s ∧ s ≤ 1048576) (fun _ i _ => n - (intOf i).toNat)
    case atStart => exact ⟨0, _, Nat.zero_le _, rfl, rfl, rfl, by omega, by omega⟩
    case round =>
      obtain ⟨k, s, hk, rfl, rfl, rfl, hs0, hs1⟩ := hrel
      by_cases hlt : k < n
      · obtain ⟨b, off, rfl, hcell⟩ := hx (by omega)
        obtain ⟨g1, g2, g3⟩ := hcell k hlt
        have hb := hE k hlt
        have hlt' : (k : Int) < (n : Int) := by omega
        clear hcell hE
        go_wp2
        all_goals
          first
          | (go_ret
             exact BoolIf.no 0)
          | (go_roundw
             case rel => exact ⟨k + 1, _, by omega, by go_num, rfl, by first | rfl | trivial, by omega, by omega⟩
             case measure => simp [intOf]; omega)
      · go_wp2
        all_goals
          go_ret
          exact BoolIf.yes 0 trivial
  · go_enter Try.func11, Try.ntmps11
    go_wp2
    go_ret
    exact BoolIf.no 0

set_option maxHeartbeats 2000000 in
theorem zz20 (a ao : Option Addr) (n c lo co : Nat) (kk : Int) (E : Nat → X) (w : World) (hx : XAt w a n E) (hn : n ≤ maxLen) (hlo : lo ≤ maxLen) (hE : ∀ i, i < n → (E i).il ≤ maxLen ∧ (E i).vl ≤ maxLen) :
    Calls Try.prog 20 #[.slice a n c, .slice ao lo co, .int .i64 kk] w fun e w' => BoolIf True w e w' := by
  unfold maxLen at hn hlo hE
  by_cases hc1 : n ≤ 1048576
  · go_enter Try.func20, Try.ntmps20
    go_wp2
    go_loopw [7, 8] (fun t i wr => ∃ (k : Nat) (s : Int), k ≤ n ∧ i = .int .i64 k ∧ t = .int .i64 s ∧ wr = w ∧ 0 ≤ s ∧ s ≤ 1048576) (fun _ i _ => n - (intOf i).toNat)
    case atStart => exact ⟨0, _, Nat.zero_le _, rfl, rfl, rfl, by omega, by omega⟩
    case round =>
      obtain ⟨k, s, hk, rfl, rfl, rfl, hs0, hs1⟩ := hrel
      by_cases hlt : k < n
      · obtain ⟨b, off, rfl, hcell⟩ := hx (by omega)
        obtain ⟨g1, g2, g3⟩ := hcell k hlt
        have hb := hE k hlt
        have hlt' : (k : Int) < (n : Int) := by omega
        clear hcell hE
        go_wp2
        all_goals
          first
          | (go_ret
             exact BoolIf.no 0)
          | (go_roundw
             case rel => exact ⟨k + 1, _, by omega, by go_num, rfl, by first | rfl | trivial, by omega, by omega⟩
             case measure => simp [intOf]; omega)
      · go_wp2
        all_goals
          go_ret
          exact BoolIf.yes 0 trivial
  · go_enter Try.func20, Try.ntmps20
    go_wp2
    go_ret
    exact BoolIf.no 0

end Go.Proofs.Qxb6603608a.Ext
