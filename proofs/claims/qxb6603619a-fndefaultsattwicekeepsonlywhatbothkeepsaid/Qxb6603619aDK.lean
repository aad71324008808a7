import Derived.Test.Qxb6603619aDI
namespace Go.Proofs.Qxb6603619a.Crd
open Go.RowKit
set_option linter.unusedVariables false
set_option linter.unusedSimpArgs false

theorem make58 (n : Int) (w : World) : (Instr.makeMap 58 (some (.int .i64 n))).run Try.prog w = .ok (.map (some w.heap.size)) (w.alloc (.map #[] 0)) := by
  simp [Instr.makeMap, run_underlying Try.underlying58, asInt, asIntOf, Result.andThen]

/-- lastIndex's map. -/
def li (nm : Nat → ByteArray) (k : Nat) (x : ByteArray) : Option Value := (lastOf nm k x).map fun j => .int .i64 (j : Int)

theorem li_put {nm : Nat → ByteArray} {k : Nat} (x : ByteArray) : (if x = nm k then some (.int .i64 (k : Int)) else li nm k x) = li nm (k + 1) x := by
  unfold li
  simp only [lastOf]
  by_cases h : x = nm k
  · subst h; simp
  · have h' : ¬ nm k = x := fun e => h e.symm
    simp only [if_neg h, if_neg h']

set_option maxHeartbeats 2000000 in
theorem last16 (w : World) (ma : Option Addr) (l mc : Nat) (nm : Nat → ByteArray) (hl : l ≤ 65536) (hm : 0 < l → ∃ mb mo, ma = some ⟨mb, mo, none⟩ ∧ ∀ j, j < l → w.cell? ⟨mb, mo + j * 7, none⟩ = some (.string (nm j))) (hn : ∀ j, j < l → (nm j).size ≤ maxLen) :
    Calls Try.prog 16 #[.slice ma l mc] w fun e w' => ∃ b sz, e = .returned (.map (some b)) ∧ FMap w' b l (li nm l) sz ∧ Below w.heap.size w w' := by
  have HMm := hid hm
  have HNm := hid hn
  have hmk := make58
  have hli : (l : Int) ≤ 65536 := by omega
  clear hm hn
  go_enter Try.func16, Try.ntmps16
  go_wp2_with fail
  go_loopw [4] (fun i wr => ∃ (k sz : Nat), k ≤ l ∧ i = .int .i64 k ∧ FMap wr w.heap.size k (li nm k) sz ∧ Below w.heap.size w wr) (fun i _ => l - (intOf i).toNat)
  case atStart => exact ⟨0, 0, Nat.zero_le _, rfl, FMap.made w, (Below.refl _ _).alloc (Nat.le_refl _) _⟩
  case round =>
    obtain ⟨k, sz, hk, rfl, hF, hB⟩ := hrel
    have HF := hid hF
    have HB := hid hB
    clear hF hB
    by_cases hlt : k < l
    · obtain ⟨mb, mo, rfl, hc⟩ := HMm.out (by omega)
      have g1 := (HB.out.cell (cell_lt (hc k hlt))).trans (hc k hlt)
      obtain ⟨w2, sz2, hup, hf2, hg2⟩ := HF.out.update Try.underlying58 (by unfold maxLen; omega) (HNm.out k hlt) (.int .i64 (k : Int))
      have HF2 := hid hf2
      have HG2 := hid hg2
      have hlt' : (k : Int) < (l : Int) := by omega
      clear hc hf2 hg2
      go_wp2_with fail
      go_roundw
      case rel => exact ⟨k + 1, sz2, by omega, by go_num, HF2.out.congr (fun x _ => li_put x), below_put HB.out HG2.out (Nat.le_refl _) (Nat.le_refl _)⟩
      case measure => simp [intOf]; omega
    · have : k = l := by omega
      subst this
      go_wp2_with fail
      go_ret
      exact ⟨_, sz, rfl, HF.out, HB.out⟩

theorem as9_yes (w : World) (v : Value) : (Instr.typeAssert (.iface 9 v) 20 9 true).run Try.prog w = .ok (.tuple #[v, .bool true]) w := by kernel_rfl
theorem as9_nil (w : World) : (Instr.typeAssert .nilIface 20 9 true).run Try.prog w = .ok (.tuple #[.string ByteArray.empty, .bool false]) w := by kernel_rfl

set_option maxHeartbeats 2000000 in
theorem def15 (w : World) (s : Nat) (b : Bool) (df : ByteArray) (h : w.cell? ⟨s, 1, none⟩ = some (if b then .iface 9 (.string df) else .nilIface)) :
    Calls Try.prog 15 #[.pointer (some ⟨s, 0, none⟩)] w fun e w' => e = .returned (.tuple #[.string (if b then df else ByteArray.empty), .bool b, .bool b]) ∧ Below w.heap.size w w' := by
  cases b with
  | true =>
    simp only [if_true] at h ⊢
    have ha := as9_yes
    go_enter Try.func15, Try.ntmps15
    go_wp2_with fail
    go_quiet (fail)
    go_wp2_with fail
    go_ret3
    exact ⟨rfl, below_drewN (Below.refl _ _) _⟩
  | false =>
    simp only [Bool.false_eq_true, if_false] at h ⊢
    have ha := as9_nil
    go_enter Try.func15, Try.ntmps15
    go_wp2_with fail
    go_quiet (fail)
    go_wp2_with fail
    go_ret3
    exact ⟨rfl, below_drewN (Below.refl _ _) _⟩

end Go.Proofs.Qxb6603619a.Crd
