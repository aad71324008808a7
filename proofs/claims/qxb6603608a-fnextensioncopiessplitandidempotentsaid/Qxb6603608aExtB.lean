import Derived.Test.Qxb6603608aExtA
namespace Go.Proofs.Qxb6603608a.Ext
open Go.RowKit
set_option linter.unusedVariables false

/-- An extension as it lies in three cells: the headers of Id and Value, and the bool. -/
structure X where
  ia : Option Addr
  il : Nat
  ic : Nat
  c : Bool
  va : Option Addr
  vl : Nat
  vc : Nat

/-- n extensions lie in a row at 'a'. -/
def XAt (w : World) (a : Option Addr) (n : Nat) (E : Nat → X) : Prop :=
  0 < n → ∃ b off, a = some ⟨b, off, none⟩ ∧ ∀ i, i < n → w.cell? ⟨b, off + i * 3, none⟩ = some (.slice (E i).ia (E i).il (E i).ic) ∧ w.cell? ⟨b, off + i * 3 + 1, none⟩ = some (.bool (E i).c) ∧ w.cell? ⟨b, off + i * 3 + 2, none⟩ = some (.slice (E i).va (E i).vl (E i).vc)

theorem XAt.below {w w' : World} {a : Option Addr} {n : Nat} {E : Nat → X} (h : XAt w a n E) (hb : Below w.heap.size w w') : XAt w' a n E := by
  intro h0
  obtain ⟨b, off, e, hc⟩ := h h0
  refine ⟨b, off, e, fun i hi => ?_⟩
  obtain ⟨h1, h2, h3⟩ := hc i hi
  exact ⟨(hb.cell (cell_lt h1)).trans h1, (hb.cell (cell_lt h2)).trans h2, (hb.cell (cell_lt h3)).trans h3⟩

/-- It returns a bool, having only drawn; where the bool is true, p holds. -/
def BoolIf (p : Prop) (w : World) (e : Ending) (w' : World) : Prop := ∃ r, e = .returned (.bool r) ∧ (∃ m, w' = w.drewN m) ∧ (r = true → p)

theorem BoolIf.no {p : Prop} {w : World} (m : Nat) : BoolIf p w (.returned (.bool false)) (w.drewN m) := ⟨false, rfl, ⟨m, rfl⟩, fun h => by cases h⟩
theorem BoolIf.yes {p : Prop} {w : World} {r : Bool} (m : Nat) (hp : p) : BoolIf p w (.returned (.bool r)) (w.drewN m) := ⟨r, rfl, ⟨m, rfl⟩, fun _ => hp⟩

def Fits (n lo : Nat) (E : Nat → X) : Prop := n ≤ 65536 ∧ lo ≤ 65536 ∧ ∀ i, i < n → (E i).il ≤ 131072 ∧ (E i).vl ≤ 1048576

set_option maxHeartbeats 1000000 in
theorem fit12 (a ao : Option Addr) (n c lo co : Nat) (E : Nat → X) (w : World) (hx : XAt w a n E) (hn : n ≤ maxLen) (hlo : lo ≤ maxLen) (hE : ∀ i, i < n → (E i).il ≤ maxLen ∧ (E i).vl ≤ maxLen) :
    Calls Try.prog 12 #[.slice a n c, .slice ao lo co] w fun e w' => BoolIf (Fits n lo E) w e w' := by
  unfold maxLen at hn hlo hE
  by_cases hc : n ≤ 65536 ∧ lo ≤ 65536
  · obtain ⟨hc1, hc2⟩ := hc
    by_cases hc3 : lo * 8 + n * 56 ≤ 1048576
    · go_enter Try.func12, Try.ntmps12
      go_wp2
      go_loopw [5, 26] (fun t i wr => ∃ (k m : Nat) (s : Int), k ≤ n ∧ i = .int .i64 k ∧ t = .int .i64 s ∧ wr = w.drewN m ∧ 0 ≤ s ∧ s ≤ 1048576 ∧ ∀ j, j < k → (E j).il ≤ 131072 ∧ (E j).vl ≤ 1048576) (fun _ i _ => n - (intOf i).toNat)
      case atStart => exact ⟨0, 0, _, Nat.zero_le _, rfl, rfl, rfl, by omega, by omega, fun j hj => absurd hj (Nat.not_lt_zero _)⟩
      case round =>
        obtain ⟨k, m, s, hk, rfl, rfl, rfl, hs0, hs1, hall⟩ := hrel
        have HA : Hid (∀ j, j < k → (E j).il ≤ 131072 ∧ (E j).vl ≤ 1048576) := hall
        clear hall
        by_cases hlt : k < n
        · obtain ⟨b, off, rfl, hcell⟩ := hx (by omega)
          obtain ⟨g1, g2, g3⟩ := hcell k hlt
          have hb := hE k hlt
          have hlt' : (k : Int) < (n : Int) := by omega
          clear hcell hE
          by_cases hi : (E k).il ≤ 131072
          · by_cases hv : (E k).vl ≤ 1048576
            · go_wp2
              go_quiet (fail)
              go_wp2
              · go_ret
                exact BoolIf.no _
              · go_roundw
                case rel => exact ⟨k + 1, _, _, by omega, by go_num, rfl, rfl, by omega, by assumption, fun j hj => by
                  by_cases e : j = k
                  · subst e; exact ⟨hi, hv⟩
                  · exact HA.out j (by omega)⟩
                case measure => simp [intOf]; omega
            · go_wp2
              go_ret
              exact BoolIf.no _
          · go_wp2
            go_ret
            exact BoolIf.no _
        · go_wp2
          go_ret
          exact BoolIf.yes _ ⟨hc1, hc2, fun i hi => HA.out i (by omega)⟩
    · go_enter Try.func12, Try.ntmps12
      go_wp2
      go_ret
      exact BoolIf.no 0
  · by_cases hc1 : n ≤ 65536
    · have hc2 : ¬ lo ≤ 65536 := fun h => hc ⟨hc1, h⟩
      go_enter Try.func12, Try.ntmps12
      go_wp2
      go_ret
      exact BoolIf.no 0
    · go_enter Try.func12, Try.ntmps12
      go_wp2
      go_ret
      exact BoolIf.no 0


end Go.Proofs.Qxb6603608a.Ext
