import Derived.Test.Qxb6603703aRows
import Derived.WalkKit
import Derived.Below
import Derived.WalkSpells
import Derived.Deep.QuietTactic
import Derived.BigQuiet
namespace Go.Proofs.Qxb6603703a.Dig
open Go.RowKit
set_option linter.unusedVariables false

theorem zz4 (s : ByteArray) (w : World) (hs : s.size ≤ maxLen) :
    Calls Try.prog 4 #[.string s] w fun e w' => e = .returned (.bool (decide (s.size ≤ 1048576))) ∧ w' = w := by
  unfold maxLen at hs
  go_enter Try.func4, Try.ntmps4
  go_wp2
  all_goals
    go_ret
    exact ⟨by simp; omega, rfl⟩

/-- k is where the leading digits end. -/
def Ends (s : ByteArray) (k : Nat) : Prop := (∀ j (h : j < s.size), j < k → 48 ≤ (s[j].toNat : Int) ∧ (s[j].toNat : Int) ≤ 57) ∧ ∀ h : k < s.size, ¬ (48 ≤ (s[k].toNat : Int) ∧ (s[k].toNat : Int) ≤ 57)

set_option maxHeartbeats 400000 in
theorem lead6 (s : ByteArray) (w : World) (hs : s.size ≤ 1048576) :
    Calls Try.prog 6 #[.string s] w fun e w' => ∃ k n : Nat, k ≤ s.size ∧ Ends s k ∧ e = .returned (.tuple #[.string (s.extract 0 k), .string (s.extract k s.size)]) ∧ w' = w.drewN n := by
  go_enter Try.func6, Try.ntmps6
  go_wp2
  go_loop [4] (fun i => ∃ k : Nat, k ≤ s.size ∧ i = .int .i64 k ∧ ∀ j (h : j < s.size), j < k → 48 ≤ (s[j].toNat : Int) ∧ (s[j].toNat : Int) ≤ 57) (fun i => s.size - (intOf i).toNat)
  case atStart => exact ⟨0, Nat.zero_le _, rfl, fun j _ hj => absurd hj (Nat.not_lt_zero _)⟩
  case round =>
    obtain ⟨k, hk, rfl, hall⟩ := hrel
    have HA : Hid (∀ j (h : j < s.size), j < k → 48 ≤ (s[j].toNat : Int) ∧ (s[j].toNat : Int) ≤ 57) := hall
    clear hall
    have hk' : (k : Int) ≤ (s.size : Int) := by omega
    have hk0 : (0 : Int) ≤ (k : Int) := by omega
    by_cases hlt : k < s.size
    · by_cases h1 : 48 ≤ (s[k].toNat : Int)
      · by_cases h2 : (s[k].toNat : Int) ≤ 57
        · go_wp2
          go_round
          case rel => exact ⟨k + 1, by omega, by go_num, fun j h hj => by
            by_cases e : j = k
            · subst e; exact ⟨h1, h2⟩
            · exact HA.out j h (by omega)⟩
          case measure => simp [intOf]; omega
        · go_wp2
          go_quiet (fail)
          go_wp2
          go_ret2
          exact ⟨k, _, hk, ⟨HA.out, fun _ h => by omega⟩, rfl, rfl⟩
      · go_wp2
        go_quiet (fail)
        go_wp2
        go_ret2
        exact ⟨k, _, hk, ⟨HA.out, fun _ h => by omega⟩, rfl, rfl⟩
    · go_wp2
      go_quiet (fail)
      go_wp2
      go_ret2
      exact ⟨k, _, hk, ⟨HA.out, fun h => absurd h hlt⟩, rfl, rfl⟩

theorem lead5 (s : ByteArray) (w : World) (hs : s.size ≤ 1048576) :
    Calls Try.prog 5 #[.string s] w fun e w' => ∃ k n : Nat, k ≤ s.size ∧ Ends s k ∧ e = .returned (.tuple #[.string (s.extract 0 k), .string (s.extract k s.size)]) ∧ w' = w.drewN n := by
  go_enter Try.func5, Try.ntmps5
  go_wp2_with fail
  refine (lead6 s w hs).mono ?_
  rintro e w' ⟨k, n, hk, hE, rfl, rfl⟩
  go_wp2_with fail
  go_ret2
  exact ⟨k, n, hk, hE, rfl, rfl⟩

theorem digits {s d : ByteArray} {k : Nat} (hk : k ≤ s.size) (h : Ends s k) (hd : d = s.extract 0 k) : ∀ j (h : j < d.size), 48 ≤ (d[j].toNat : Int) ∧ (d[j].toNat : Int) ≤ 57 := by
  subst hd
  intro j hj
  have hjk : j < k := by rw [ByteArray.size_extract] at hj; omega
  rw [ByteArray.getElem_extract]
  simp only [Nat.zero_add]
  exact h.1 j (by omega) hjk

theorem rest {s r : ByteArray} {k : Nat} (hk : k ≤ s.size) (h : Ends s k) (hr : r = s.extract k s.size) : ∀ h : 0 < r.size, ¬ (48 ≤ (r[0].toNat : Int) ∧ (r[0].toNat : Int) ≤ 57) := by
  subst hr
  intro h0
  have hks : k < s.size := by rw [ByteArray.size_extract] at h0; omega
  rw [ByteArray.getElem_extract]
  simp only [Nat.add_zero]
  exact h.2 hks

set_option maxHeartbeats 1000000 in
theorem walk3 (s : ByteArray) (w : World) (hs : s.size ≤ maxLen) :
    Calls Try.prog 3 #[.string s] w fun e w' => e = .returned (.bool true) ∧ ∃ n, w' = w.drewN n := by
  by_cases hb : s.size ≤ 1048576
  · have hd : decide (s.size ≤ 1048576) = true := by simpa using hb
    go_enter Try.func3, Try.ntmps3
    go_wp2_with fail
    refine (zz4 s w hs).mono ?_
    rw [hd]
    rintro e w' ⟨rfl, rfl⟩
    go_wp2_with fail
    refine (lead5 s _ hb).mono ?_
    rintro e w' ⟨k, n, hk, hE, rfl, rfl⟩
    have hk' : (k : Int) ≤ (s.size : Int) := by omega
    go_wp2_with fail
    obtain ⟨d, hd⟩ : ∃ d, d = s.extract 0 k := ⟨_, rfl⟩
    obtain ⟨r, hr⟩ : ∃ r, r = s.extract k s.size := ⟨_, rfl⟩
    have hdig := digits hk hE hd
    have hrest := rest hk hE hr
    have hds : d.size ≤ 1048576 := by rw [hd, ByteArray.size_extract]; omega
    have hrs : r.size ≤ 1048576 := by rw [hr, ByteArray.size_extract]; omega
    rw [← hd, ← hr]
    clear hd hr hE
    go_loop [5] (fun i => ∃ j : Nat, j ≤ d.size ∧ i = .int .i64 j) (fun i => d.size - (intOf i).toNat)
    case atStart => exact ⟨0, Nat.zero_le _, rfl⟩
    case round =>
      obtain ⟨j, hj, rfl⟩ := hrel
      by_cases hlt : j < d.size
      · obtain ⟨g1, g2⟩ := hdig j hlt
        go_wp2
        go_round
        case rel => exact ⟨j + 1, by omega, by go_num⟩
        case measure => simp [intOf]; omega
      · by_cases hr0 : 0 < r.size
        · have g := hrest hr0
          by_cases g1 : 48 ≤ (r[0].toNat : Int)
          · have g2 : 57 < (r[0].toNat : Int) := by omega
            go_wp2
            go_ret
            exact ⟨rfl, n, rfl⟩
          · go_wp2
            go_ret
            exact ⟨rfl, n, rfl⟩
        · go_wp2
          go_ret
          exact ⟨rfl, n, rfl⟩
  · have hd : decide (s.size ≤ 1048576) = false := by simpa using hb
    go_enter Try.func3, Try.ntmps3
    go_wp2_with fail
    refine (zz4 s w hs).mono ?_
    rw [hd]
    rintro e w' ⟨rfl, rfl⟩
    go_wp2_with fail
    go_ret
    exact ⟨rfl, 0, rfl⟩

end Go.Proofs.Qxb6603703a.Dig
