import Derived.Test.Qxb6603608aExtB
namespace Go.Proofs.Qxb6603608a.Ext
open Go.RowKit
set_option linter.unusedVariables false

theorem info28 : (Try.prog.info? 28).map (fun i => (i.zero, i.size, i.bytes)) = some (some (.slice none 0 0), 1, 24) := by kernel_rfl
theorem info4 : (Try.prog.info? 4).map (fun i => (i.zero, i.size, i.bytes)) = some (some (.bool false), 1, 1) := by kernel_rfl
theorem info22 : (Try.prog.info? 22).map (fun i => (i.zero, i.size, i.bytes)) = some (some (.slice none 0 0), 1, 24) := by kernel_rfl

/-- The three rows that unpackExts fills, k elements done. -/
def Cols (wr : World) (N n k : Nat) (E : Nat → X) : Prop :=
  wr.rowIs N 28 n (fun j => if j < k then .slice (E j).ia (E j).il (E j).ic else .slice none 0 0) ∧
  wr.rowIs (N + 1) 4 n (fun j => if j < k then .bool (E j).c else .bool false) ∧
  wr.rowIs (N + 2) 22 n (fun j => if j < k then .slice (E j).va (E j).vl (E j).vc else .slice none 0 0)

theorem cols_step {wr : World} {N n k : Nat} {E : Nat → X} (h : Cols wr N n k E) :
    Cols (((wr.setCell ⟨N, k, none⟩ (.slice (E k).ia (E k).il (E k).ic)).setCell ⟨N + 1, k, none⟩ (.bool (E k).c)).setCell ⟨N + 2, k, none⟩ (.slice (E k).va (E k).vl (E k).vc)) N n (k + 1) E := by
  obtain ⟨h1, h2, h3⟩ := h
  refine ⟨(((h1.set k _).setOther (by simp) _).setOther (by simp) _).congr fun j hj => ?_, (((h2.setOther (by simp) _).set k _).setOther (by simp) _).congr fun j hj => ?_, (((h3.setOther (by simp) _).setOther (by simp) _).set k _).congr fun j hj => ?_⟩
  all_goals
    by_cases e : j = k
    · subst e; simp
    · have : (j < k + 1) = (j < k) := by simp; omega
      simp [e, this]

set_option maxHeartbeats 1000000 in
theorem unpack15 (a : Option Addr) (n c : Nat) (E : Nat → X) (w : World) (hx : XAt w a n E) (hn : n ≤ 65536) :
    Calls Try.prog 15 #[.slice a n c] w fun e w' => e = .returned (.tuple #[.slice (some ⟨w.heap.size, 0, none⟩) n n, .slice (some ⟨w.heap.size + 1, 0, none⟩) n n, .slice (some ⟨w.heap.size + 2, 0, none⟩) n n]) ∧
      w'.heap.size = w.heap.size + 3 ∧ Cols w' w.heap.size n n E ∧ Below w.heap.size w w' := by
  have hmk1 := run_make_row' (P := Try.prog) 32 28 (.slice none 0 0) 24 Try.underlying32 info28 rfl .i64 .i64 n (by omega) (by omega)
  have hmk2 := run_make_row' (P := Try.prog) 33 4 (.bool false) 1 Try.underlying33 info4 rfl .i64 .i64 n (by omega) (by omega)
  have hmk3 := run_make_row' (P := Try.prog) 34 22 (.slice none 0 0) 24 Try.underlying34 info22 rfl .i64 .i64 n (by omega) (by omega)
  go_enter Try.func15, Try.ntmps15
  go_wp2
  go_loopw [20] (fun i wr => ∃ k : Nat, k ≤ n ∧ i = .int .i64 k ∧ wr.heap.size = w.heap.size + 3 ∧ Cols wr w.heap.size n k E ∧ Below w.heap.size w wr) (fun i _ => n - (intOf i).toNat)
  case atStart =>
    refine ⟨0, Nat.zero_le _, rfl, by simp, ⟨?_, ?_, ?_⟩, (((Below.refl _ _).alloc (Nat.le_refl _) _).alloc (by simp) _).alloc (by simp; omega) _⟩
    · exact (((World.rowIs_made w _ _ _).alloc _).alloc _).congr (by simp)
    · have := ((World.rowIs_made (w.alloc (.cells (madeCells #[.slice none 0 0] n) 28)) (.bool false) n 4).alloc (.cells (madeCells #[.slice none 0 0] n) 22)).congr (g := fun j => if j < 0 then .bool (E j).c else .bool false) (by simp)
      simpa using this
    · have := (World.rowIs_made ((w.alloc (.cells (madeCells #[.slice none 0 0] n) 28)).alloc (.cells (madeCells #[.bool false] n) 4)) (.slice none 0 0) n 22).congr (g := fun j => if j < 0 then .slice (E j).va (E j).vl (E j).vc else .slice none 0 0) (by simp)
      simpa using this
  case round =>
    obtain ⟨k, hk, rfl, hsz, hcols, hb⟩ := hrel
    by_cases hlt : k < n
    · obtain ⟨b, off, rfl, hcell⟩ := hx (by omega)
      obtain ⟨g1, g2, g3⟩ := hcell k hlt
      have hbb := cell_lt g1
      have f1 := (hb.cell (cell_lt g1)).trans g1
      have f2 := (hb.cell (cell_lt g2)).trans g2
      have f3 := (hb.cell (cell_lt g3)).trans g3
      have z1 := hcols.1.frozen k
      have z2 := hcols.2.1.frozen k
      have z3 := hcols.2.2.frozen k
      have d1 := hcols.1.cell hlt
      have d2 := hcols.2.1.cell hlt
      have d3 := hcols.2.2.cell hlt
      have hbne : b ≠ w.heap.size := by simp at hbb; omega
      have hbne1 : b ≠ w.heap.size + 1 := by simp at hbb; omega
      have hlt' : (k : Int) < (n : Int) := by omega
      simp at d1 d2 d3
      clear hcell g1 g2 g3
      go_wp2
      go_roundw
      case rel => exact ⟨k + 1, by omega, by go_num, by simpa [World.setCell] using hsz, cols_step hcols, ((hb.setCell (Nat.le_refl _) _).setCell (Nat.le_succ _) _).setCell (Nat.le_add_right _ 2) _⟩
      case measure => simp [intOf]; omega
    · have : k = n := by omega
      subst this
      go_wp2
      go_ret3
      exact ⟨rfl, hsz, hcols, hb⟩

end Go.Proofs.Qxb6603608a.Ext
