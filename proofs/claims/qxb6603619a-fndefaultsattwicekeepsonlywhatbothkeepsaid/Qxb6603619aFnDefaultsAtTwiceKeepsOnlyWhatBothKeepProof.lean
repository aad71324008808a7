/-
  'Rows.FnDefaultsAtTwiceKeepsOnlyWhatBothKeepSaid': the frame after the kit's shell; the walk: Crd.law4.
-/
import Derived.Test.Qxb6603619aRows
import Derived.WalkKit
import Derived.ProofKit
import Derived.OpenShut
import Derived.ShutString
import Derived.ChangeOld
import Derived.ChangeMaps5
import Derived.Below
import Derived.SizedLaws
import Derived.Test.Qxb6603619aDP
namespace Go.Proofs.Qxb6603619a.fnDefaultsAtTwiceKeepsOnlyWhatBothKeep
open Go.ChangeShapes Go.WideShapes Go.ChangeAt Go.RowKit
open Go.Proofs.Qxb6603619a.Crd
set_option linter.unusedVariables false

theorem own : ownKnob Try.prog.godebug = none := by kernel_rfl
theorem laidOut : laidOutB Try.prog = true := by kernel_rfl

set_option maxRecDepth 100000 in
set_option maxHeartbeats 2000000 in
theorem lifted (os : Os) (started : os.Started) (H : Type) (enc : TypeId × Value → H) :
    ReturnsInHanded {} Try.checked os 4 .any (Rows.fnDefaultsAtTwiceKeepsOnlyWhatBothKeepSpec.pre6 enc Try.prog Try.f4 Rows.fnDefaultsAtTwiceKeepsOnlyWhatBothKeepRow.domain false) (Rows.fnDefaultsAtTwiceKeepsOnlyWhatBothKeepSpec.post enc Try.prog Try.f4 false true false false) := by
  refine returnsInHanded_of_change_sized (C := Try.checked) own started (by kernel_rfl) Try.func4
    (ChangeSpec.witness6 (enc := enc) (C := Try.checked) false ⟨#[], #[.string ByteArray.empty, .bool false, .bool false, .bool false, .bool false, .pointer none, .bool false, .bool false], []⟩ 8 (by kernel_rfl) (by kernel_rfl) (by kernel_rfl) (by kernel_rfl)) ?_
  intro W base args ds gs before hval0 hW hcnd hsz _
  have hval : ∀ (j : Nat) t v, Try.f4.params[j]? = some t → args[j]? = some v → Value.okWide Try.prog W .any base t v := hval0
  have hW' := hW
  obtain ⟨p, q, hA0, hV, rfl, hfz, hnd⟩ := hW
  have hA : DataW.TrodAll enc Try.prog W 0 (fun _ => true) true Try.f4.params.toList args.toList ds p := hA0
  have hsz' : (DataW.weightsEach Try.prog (Try.f4.params.toList ++ Rows.fnDefaultsAtTwiceKeepsOnlyWhatBothKeepSpec.plain.varTypes Try.prog) (ds ++ gs)).all (· ≤ reachBytes) = true := hsz
  rw [Try.params4] at hA hval hsz'
  obtain ⟨v0, vs0, d0, ds0, p0, q0, hargs, rfl, rfl, h0, r0⟩ := trodAll_cons hA
  obtain ⟨v1, vs1, d1, ds1, p1, q1, rfl, rfl, rfl, h1, r1⟩ := trodAll_cons r0
  obtain ⟨v2, vs2, d2, ds2, p2, q2, rfl, rfl, rfl, h2, r2⟩ := trodAll_cons r1
  obtain ⟨v3, vs3, d3, ds3, p3, q3, rfl, rfl, rfl, h3, r3⟩ := trodAll_cons r2
  obtain ⟨v4, vs4, d4, ds4, p4, q4, rfl, rfl, rfl, h4, r4⟩ := trodAll_cons r3
  obtain ⟨v5, vs5, d5, ds5, p5, q5, rfl, rfl, rfl, h5, r5⟩ := trodAll_cons r4
  obtain ⟨v6, vs6, d6, ds6, p6, q6, rfl, rfl, rfl, h6, r6⟩ := trodAll_cons r5
  obtain ⟨v7, vs7, d7, ds7, p7, q7, rfl, rfl, rfl, h7, r7⟩ := trodAll_cons r6
  obtain ⟨rfl, rfl, rfl⟩ := trodAll_nil r7
  obtain rfl : args = #[v0, v1, v2, v3, v4, v5, v6, v7] := by cases args; simp_all
  obtain ⟨rfl, rfl⟩ := trodVars_none hV
  obtain ⟨nm, rfl, rfl, rfl, hnm⟩ := Go.ChangeMaps.open_string Try.underlying9 (hval 0 9 v0 rfl rfl) h0
  obtain ⟨b1, rfl, rfl, rfl⟩ := openB (hval 1 4 v1 rfl rfl) h1
  obtain ⟨b2, rfl, rfl, rfl⟩ := openB (hval 2 4 v2 rfl rfl) h2
  obtain ⟨b3, rfl, rfl, rfl⟩ := openB (hval 3 4 v3 rfl rfl) h3
  obtain ⟨b4, rfl, rfl, rfl⟩ := openB (hval 4 4 v4 rfl rfl) h4
  obtain ⟨b6, rfl, rfl, rfl⟩ := openB (hval 6 4 v6 rfl rfl) h6
  obtain ⟨b7, rfl, rfl, rfl⟩ := openB (hval 7 4 v7 rfl rfl) h7
  obtain ⟨pp, rfl⟩ := okWide_pointer Try.underlying22 (hval 5 22 v5 rfl rfl)
  have k5 := h5
  have lt5 : ∀ x ∈ p5, x.block < W.heap.size := by obtain ⟨m, hm⟩ := k5; exact DataW.trod_lt m _ _ _ hm
  obtain ⟨fuel5, f5⟩ := h5
  have hfit : Fits d5 22 := List.all_eq_true.2 fun n hn => List.all_eq_true.1 hsz' n (DataW.weights_mem_each (j := 5) (t := 22) rfl rfl n hn)
  have hroot := open_root (by simpa [Value.cells] using f5) hfit
  clear hA0 hval0 hsz hsz'
  have hw : Calls Try.prog 4 #[.string nm, .bool b1, .bool b2, .bool b3, .bool b4, .pointer pp, .bool b6, .bool b7] W fun e w' => e = .returned (.bool true) ∧ Below W.heap.size W w' := by
    rcases hroot with rfl | ⟨n, t, b, o, rfl, hS⟩
    · exact law4_nil W nm b1 b2 b3 b4 b6 b7
    · exact law4 W nm b1 b2 b3 b4 b6 b7 n t b o hS
  refine hw.mono fun e W' ⟨he, bel⟩ => ?_
  subst he
  exact ⟨_, rfl, _, _, _, [], _, [], hW', trodAll_mk1 (shut_bool Try.underlying4 _), (trodAll_cons_mk (Go.ChangeMaps.shut_string Try.underlying9 hnm) (trodAll_cons_mk (shut_bool Try.underlying4 _) (trodAll_cons_mk (shut_bool Try.underlying4 _) (trodAll_cons_mk (shut_bool Try.underlying4 _) (trodAll_cons_mk (shut_bool Try.underlying4 _) (trodAll_cons_mk (Below.trod laidOut (by kernel_rfl) (of_decide_eq_true (by kernel_rfl)) k5 bel lt5) (trodAll_cons_mk (shut_bool Try.underlying4 _) (trodAll_cons_mk (shut_bool Try.underlying4 _) trodAll_mk0)))))))), rfl, bel.frame _, fun h => by cases h⟩

theorem over : Rows.fnDefaultsAtTwiceKeepsOnlyWhatBothKeepRow.holds Try.pinned (OpenSpec.ofChange Rows.fnDefaultsAtTwiceKeepsOnlyWhatBothKeepSpec) :=
  OpenClaim.holds_of_wide 4 Try.f4 rfl rfl rfl rfl rfl rfl rfl ⟨rfl, rfl, rfl, rfl, rfl⟩ rfl rfl rfl rfl rfl (by kernel_rfl) Try.func4 (by kernel_rfl)
    (of_decide_eq_true (by kernel_rfl)) (by unfold Func.isWrapper; first | (rw [if_pos (by decide +kernel)]; kernel_rfl) | (rw [if_neg (by decide +kernel)]; exact ⟨rfl, rfl⟩))
    (fun os started H enc _ => lifted os started H enc)

theorem proved : Rows.FnDefaultsAtTwiceKeepsOnlyWhatBothKeepSaid := over
end Go.Proofs.Qxb6603619a.fnDefaultsAtTwiceKeepsOnlyWhatBothKeep
