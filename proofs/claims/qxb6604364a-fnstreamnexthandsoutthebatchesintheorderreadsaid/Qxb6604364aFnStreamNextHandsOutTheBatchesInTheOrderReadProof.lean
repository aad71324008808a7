/-
  'Rows.FnStreamNextHandsOutTheBatchesInTheOrderReadSaid': the frame after the kit's shell; the walk: Str.law3.
-/
import Derived.Test.Qxb6604364aRows
import Derived.WalkKit
import Derived.ProofKit
import Derived.OpenShut
import Derived.ShutString
import Derived.ChangeOld
import Derived.Below
import Derived.Deep.Strs
import Derived.Test.Qxb6604364aSE
namespace Go.Proofs.Qxb6604364a.fnStreamNextHandsOutTheBatchesInTheOrderRead
open Go.ChangeShapes Go.WideShapes Go.ChangeAt Go.RowKit Go.Deep
open Go.Proofs.Qxb6604364a.Str (Hd Rd LAt law3)
set_option linter.unusedVariables false

theorem own : ownKnob Try.prog.godebug = none := by kernel_rfl
theorem laidOut : laidOutB Try.prog = true := by kernel_rfl
theorem cells29 : Try.prog.cellsOf 29 = 1 := by kernel_rfl
theorem cells9 : Try.prog.cellsOf 9 = 1 := by kernel_rfl

theorem addr_plain {w : World} {a : Addr} {v : Value} (h : w.cell? a = some v) : a = ⟨a.block, a.off, none⟩ := by
  unfold World.cell? at h
  split at h
  · split at h
    · cases h
    · next hs => obtain ⟨b, o, s⟩ := a; cases s <;> simp_all
  · cases h

section
variable {H : Type} {enc : TypeId × Value → H} {W : World} {fuel : Nat}

theorem open_rd {v : Value} {x : DataW H × List MemPlace} (h : DataW.trod enc Try.prog W 0 (fun _ => true) true fuel 29 [v] = some x) :
    ∃ (t : (Option Addr × Nat × Nat) × (Nat → ByteArray)), v = .slice t.1.1 t.1.2.1 t.1.2.2 ∧ t.1.2.1 ≤ maxLen ∧ Rd W t.1.1 t.1.2.1 t.2 ∧ (∀ j, j < t.1.2.1 → (t.2 j).size ≤ maxLen) ∧ (t.1.1 = none → t.1.2.2 = 0) := by
  rcases open_strs Try.underlying29 Try.underlying9 cells9 h with ⟨hcs, _⟩ | ⟨a, len, cap, m, Sx, hcs, _, hl, hm, hmm, _, hx⟩
  · simp only [List.cons.injEq, and_true] at hcs
    exact ⟨((none, 0, 0), fun _ => ByteArray.empty), hcs, Nat.zero_le _, fun h => absurd h (Nat.lt_irrefl _), fun j hj => absurd hj (Nat.not_lt_zero _), fun _ => rfl⟩
  · simp only [List.cons.injEq, and_true] at hcs
    simp only [if_true] at hmm
    subst hmm
    refine ⟨((some a, len, m), Sx), hcs, Nat.le_trans hl hm, fun h0 => ?_, fun j hj => (hx j (Nat.lt_of_lt_of_le hj hl)).2, fun h => (by cases h)⟩
    have h00 := (hx 0 (Nat.lt_of_lt_of_le h0 hl)).1
    rw [show a.add 0 = a from by simp [Addr.add]] at h00
    have hap := addr_plain h00
    refine ⟨a.block, a.off, congrArg some hap, fun i hi => ?_⟩
    have hi' := (hx i (Nat.lt_of_lt_of_le hi hl)).1
    rw [hap, Addr.add_lit] at hi'
    exact hi'

theorem open_arg {v0 : Value} {x0 : DataW H × List MemPlace} (h0 : DataW.trod enc Try.prog W 0 (fun _ => true) true fuel 22 [v0] = some x0) :
    ∃ (a : Option Addr) (n c : Nat) (Hs : Nat → Hd) (S : Nat → Nat → ByteArray), v0 = .slice a n c ∧ n ≤ maxLen ∧ (a = none → c = 0) ∧ LAt W a n Hs ∧ (∀ i, i < n → (Hs i).l ≤ maxLen ∧ Rd W (Hs i).a (Hs i).l (S i) ∧ ∀ j, j < (Hs i).l → (S i j).size ≤ maxLen) ∧ (∀ i, i < n → (Hs i).a = none → (Hs i).c = 0) := by
  rcases open_slice1 Try.underlying22 cells29 h0 with ⟨hcs, _⟩ | ⟨a, len, cap, m, n, V, D, Pl, hcs, _, hl, hm, hmm, _, hx⟩
  · simp only [List.cons.injEq, and_true] at hcs
    exact ⟨none, 0, 0, fun _ => ⟨none, 0, 0⟩, fun _ _ => ByteArray.empty, hcs, Nat.zero_le _, fun _ => rfl, fun h => absurd h (Nat.lt_irrefl _), fun i hi => absurd hi (Nat.not_lt_zero _), fun i hi => absurd hi (Nat.not_lt_zero _)⟩
  · simp only [List.cons.injEq, and_true] at hcs
    simp only [if_true] at hmm
    subst hmm
    have each : ∀ i, i < len → ∃ (t : (Option Addr × Nat × Nat) × (Nat → ByteArray)), V i = .slice t.1.1 t.1.2.1 t.1.2.2 ∧ t.1.2.1 ≤ maxLen ∧ Rd W t.1.1 t.1.2.1 t.2 ∧ (∀ j, j < t.1.2.1 → (t.2 j).size ≤ maxLen) ∧ (t.1.1 = none → t.1.2.2 = 0) :=
      fun i hi => open_rd (hx i (Nat.lt_of_lt_of_le hi hl)).2
    obtain ⟨f, hf⟩ := choose_lt each
    refine ⟨some a, len, m, fun i => ⟨(f i).1.1, (f i).1.2.1, (f i).1.2.2⟩, fun i => (f i).2, hcs, Nat.le_trans hl hm, fun h => (by cases h), fun h0 => ?_, fun i hi => ⟨(hf i hi).2.1, (hf i hi).2.2.1, (hf i hi).2.2.2.1⟩, fun i hi => (hf i hi).2.2.2.2⟩
    have h00 := (hx 0 (Nat.lt_of_lt_of_le h0 hl)).1
    rw [show a.add 0 = a from by simp [Addr.add]] at h00
    have hap := addr_plain h00
    refine ⟨a.block, a.off, congrArg some hap, fun i hi => ?_⟩
    have hi' := (hx i (Nat.lt_of_lt_of_le hi hl)).1
    rw [hap, Addr.add_lit] at hi'
    rw [hi', (hf i hi).1]
end

set_option maxRecDepth 100000 in
theorem lifted (os : Os) (started : os.Started) (H : Type) (enc : TypeId × Value → H) :
    ReturnsInHanded {} Try.checked os 3 .any (Rows.fnStreamNextHandsOutTheBatchesInTheOrderReadSpec.pre6 enc Try.prog Try.f3 Rows.fnStreamNextHandsOutTheBatchesInTheOrderReadRow.domain false) (Rows.fnStreamNextHandsOutTheBatchesInTheOrderReadSpec.post enc Try.prog Try.f3 false true false false) := by
  refine returnsInHanded_of_change (C := Try.checked) own started (by kernel_rfl) Try.func3
    (ChangeSpec.witness6 (enc := enc) (C := Try.checked) false ⟨#[], #[.slice none 0 0], []⟩ 8 (by kernel_rfl) (by kernel_rfl) (by kernel_rfl) (by kernel_rfl)) ?_
  intro W base args ds gs before hval0 hW hcnd _
  have hval : ∀ (j : Nat) t v, Try.f3.params[j]? = some t → args[j]? = some v → Value.okWide Try.prog W .any base t v := hval0
  have hW' := hW
  obtain ⟨p, q, hA0, hV, rfl, hfz, hnd⟩ := hW
  have hA : DataW.TrodAll enc Try.prog W 0 (fun _ => true) true Try.f3.params.toList args.toList ds p := hA0
  rw [Try.params3] at hA hval
  obtain ⟨v0, vs0, d0, ds0, p0, q0, hargs, rfl, rfl, h0, r0⟩ := trodAll_cons hA
  obtain ⟨rfl, rfl, rfl⟩ := trodAll_nil r0
  obtain rfl : args = #[v0] := by cases args; simp_all
  obtain ⟨rfl, rfl⟩ := trodVars_none hV
  obtain ⟨b0, m0, e0, rfl⟩ := okWide_slice Try.underlying22 (hval 0 22 v0 rfl rfl)
  have k0 := h0
  have lt0 : ∀ x ∈ p0, x.block < W.heap.size := by obtain ⟨m, hm⟩ := k0; exact DataW.trod_lt m _ _ _ hm
  obtain ⟨fuel0, f0⟩ := h0
  obtain ⟨a, n, c, Hs, S, ev0, A1, A2, A3, A4, A5⟩ := open_arg (by simpa [Value.cells] using f0)
  clear hA0 hval0
  have hw := law3 a n c Hs S W A1 A2 A3 A4 A5
  rw [← ev0] at hw
  refine hw.mono fun e W' ⟨he, bel⟩ => ?_
  subst he
  exact ⟨_, rfl, _, _, _, [], _, [], hW', trodAll_mk1 (shut_bool Try.underlying4 _), (trodAll_cons_mk (Below.trod laidOut (by kernel_rfl) (of_decide_eq_true (by kernel_rfl)) k0 bel lt0) trodAll_mk0), rfl, bel.frame _, fun h => by cases h⟩

theorem over : Rows.fnStreamNextHandsOutTheBatchesInTheOrderReadRow.holds Try.pinned (OpenSpec.ofChange Rows.fnStreamNextHandsOutTheBatchesInTheOrderReadSpec) :=
  OpenClaim.holds_of_wide 3 Try.f3 rfl rfl rfl rfl rfl rfl rfl ⟨rfl, rfl, rfl, rfl, rfl⟩ rfl rfl rfl rfl rfl (by kernel_rfl) Try.func3 (by kernel_rfl)
    (of_decide_eq_true (by kernel_rfl)) (by unfold Func.isWrapper; first | (rw [if_pos (by decide +kernel)]; kernel_rfl) | (rw [if_neg (by decide +kernel)]; exact ⟨rfl, rfl⟩))
    (fun os started H enc _ => lifted os started H enc)

theorem proved : Rows.FnStreamNextHandsOutTheBatchesInTheOrderReadSaid := over
end Go.Proofs.Qxb6604364a.fnStreamNextHandsOutTheBatchesInTheOrderRead
