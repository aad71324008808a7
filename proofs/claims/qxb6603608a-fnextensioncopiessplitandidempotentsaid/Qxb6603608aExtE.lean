import Derived.Test.Qxb6603608aExtD
import Derived.RegionTactic
import Derived.BigRegion
namespace Go.Proofs.Qxb6603608a.Ext
open Go.RowKit
set_option linter.unusedVariables false
set_option linter.unusedSimpArgs false

/-- Cell j of a row of extensions. -/
def xc (E : Nat → X) (j : Nat) : Value := if j % 3 = 0 then .slice (E (j / 3)).ia (E (j / 3)).il (E (j / 3)).ic else if j % 3 = 1 then .bool (E (j / 3)).c else .slice (E (j / 3)).va (E (j / 3)).vl (E (j / 3)).vc
def x0 (j : Nat) : Value := if j % 3 = 1 then .bool false else .slice none 0 0

theorem xc0 (E : Nat → X) (k : Nat) : xc E (k * 3) = .slice (E k).ia (E k).il (E k).ic := by simp [xc]
theorem xc1 (E : Nat → X) (k : Nat) : xc E (k * 3 + 1) = .bool (E k).c := by
  have e : (k * 3 + 1) % 3 = 1 := by omega
  have f : (k * 3 + 1) / 3 = k := by omega
  simp [xc, e, f]
theorem xc2 (E : Nat → X) (k : Nat) : xc E (k * 3 + 2) = .slice (E k).va (E k).vl (E k).vc := by
  have e : (k * 3 + 2) % 3 = 2 := by omega
  have f : (k * 3 + 2) / 3 = k := by omega
  simp [xc, e, f]

/-- A row of n extensions of type t, k of them laid. -/
def XRow (w : World) (N : Nat) (t : TypeId) (n k : Nat) (E : Nat → X) : Prop := w.rowIs N t (n * 3) (fun j => if j < k * 3 then xc E j else x0 j)

theorem xrow_step {w : World} {N : Nat} {t : TypeId} {n k : Nat} {E : Nat → X} (h : XRow w N t n k E) :
    XRow (((w.setCell ⟨N, k * 3, none⟩ (.slice (E k).ia (E k).il (E k).ic)).setCell ⟨N, k * 3 + 1, none⟩ (.bool (E k).c)).setCell ⟨N, k * 3 + 2, none⟩ (.slice (E k).va (E k).vl (E k).vc)) N t n (k + 1) E := by
  refine (((h.set _ _).set _ _).set _ _).congr fun j hj => ?_
  by_cases e2 : j = k * 3 + 2
  · subst e2
    rw [if_pos rfl, if_pos (by omega), xc2]
  · rw [if_neg e2]
    by_cases e1 : j = k * 3 + 1
    · subst e1
      rw [if_pos rfl, if_pos (by omega), xc1]
    · rw [if_neg e1]
      by_cases e0 : j = k * 3
      · subst e0
        rw [if_pos rfl, if_pos (by omega), xc0]
      · rw [if_neg e0]
        by_cases el : j < k * 3
        · rw [if_pos el, if_pos (by omega)]
        · rw [if_neg el, if_neg (by omega)]

theorem XRow.at {w : World} {N : Nat} {t : TypeId} {n : Nat} {E : Nat → X} (h : XRow w N t n n E) : XAt w (some ⟨N, 0, none⟩) n E := by
  intro _
  refine ⟨N, 0, rfl, fun i hi => ?_⟩
  have a0 := World.rowIs.cell h (i := i * 3) (by omega)
  have a1 := World.rowIs.cell h (i := i * 3 + 1) (by omega)
  have a2 := World.rowIs.cell h (i := i * 3 + 2) (by omega)
  rw [if_pos (by omega), xc0] at a0
  rw [if_pos (by omega), xc1] at a1
  rw [if_pos (by omega), xc2] at a2
  simp only [Nat.zero_add] at *
  exact ⟨a0, a1, a2⟩

theorem info46 : (Try.prog.info? 46).map (fun i => (i.zero, i.size, i.bytes)) = some (some (.agg #[.slice none 0 0, .bool false, .slice none 0 0]), 3, 56) := by kernel_rfl
theorem info42 : (Try.prog.info? 42).map (fun i => (i.zero, i.size, i.bytes)) = some (some (.agg #[.slice none 0 0, .bool false, .slice none 0 0]), 3, 56) := by kernel_rfl

theorem madeCells_x (n : Nat) (w : World) (t : TypeId) (E : Nat → X) : XRow (w.alloc (.cells (madeCells #[.slice none 0 0, .bool false, .slice none 0 0] (n * 3)) t)) w.heap.size t n 0 E := by
  refine ⟨_, Go.Deep.blk_alloc_new _ _, size_madeCells _ _, fun i hi => ?_⟩
  have hm : i % 3 = 0 ∨ i % 3 = 1 ∨ i % 3 = 2 := by omega
  rcases hm with e | e | e <;> simp [madeCells, hi, e, x0]

theorem make3 (t e : TypeId) (ht : Try.prog.underlying t = some (.slice e)) (hinfo : (Try.prog.info? e).map (fun i => (i.zero, i.size, i.bytes)) = some (some (.agg #[.slice none 0 0, .bool false, .slice none 0 0]), 3, 56))
    (n : Nat) (hn : n ≤ 65536) (w : World) :
    (Instr.makeSlice t (.int .i64 (n : Int)) (.int .i64 (n : Int))).run Try.prog w = .ok (.slice (some ⟨w.heap.size, 0, none⟩) n n) (w.alloc (.cells (madeCells #[.slice none 0 0, .bool false, .slice none 0 0] (n * 3)) e)) := by
  obtain ⟨i, hi, hz, hs, hb⟩ := info_parts hinfo
  have hr := run_make (P := Try.prog) w t e i _ ht hi hz .i64 .i64 n n (by omega) (Int.le_refl _) (by rw [hb]; omega) (by omega)
  simp only [Int.toNat_natCast, hs] at hr
  exact hr

set_option maxHeartbeats 2000000 in
theorem exts16 (n N : Nat) (E : Nat → X) (w : World) (hn : n ≤ 65536) (hc : Cols w N n n E) :
    Calls Try.prog 16 #[.slice (some ⟨N, 0, none⟩) n n, .slice (some ⟨N + 1, 0, none⟩) n n, .slice (some ⟨N + 2, 0, none⟩) n n] w fun e w' => e = .returned (.slice (some ⟨w.heap.size, 0, none⟩) n n) ∧
      w'.heap.size = w.heap.size + 1 ∧ XRow w' w.heap.size 46 n n E ∧ Below w.heap.size w w' := by
  have hmk := make3 37 46 Try.underlying37 info46 n hn
  go_enter Try.func16, Try.ntmps16
  go_wp2
  go_loopw [14] (fun i wr => ∃ k : Nat, k ≤ n ∧ i = .int .i64 k ∧ wr.heap.size = w.heap.size + 1 ∧ XRow wr w.heap.size 46 n k E ∧ Below w.heap.size w wr) (fun i _ => n - (intOf i).toNat)
  case atStart => exact ⟨0, Nat.zero_le _, rfl, by simp, madeCells_x _ _ _ _, (Below.refl _ _).alloc (Nat.le_refl _) _⟩
  case round =>
    obtain ⟨k, hk, rfl, hsz, hrow, hb⟩ := hrel
    by_cases hlt : k < n
    · have d1 := hc.1.cell hlt
      have d2 := hc.2.1.cell hlt
      have d3 := hc.2.2.cell hlt
      rw [if_pos hlt] at d1 d2 d3
      have f1 := (hb.cell (cell_lt d1)).trans d1
      have f2 := (hb.cell (cell_lt d2)).trans d2
      have f3 := (hb.cell (cell_lt d3)).trans d3
      have z1 := World.rowIs.frozen hrow (k * 3)
      have z2 := World.rowIs.frozen hrow (k * 3 + 1)
      have z3 := World.rowIs.frozen hrow (k * 3 + 2)
      have y1 := World.rowIs.cell hrow (i := k * 3) (by omega)
      have y2 := World.rowIs.cell hrow (i := k * 3 + 1) (by omega)
      have y3 := World.rowIs.cell hrow (i := k * 3 + 2) (by omega)
      have hlt' : (k : Int) < (n : Int) := by omega
      clear d1 d2 d3
      go_wp2
      go_region
      go_wp2
      go_roundw
      case rel =>
        exact ⟨k + 1, by omega, by go_num, by simpa [World.setCell] using hsz, World.rowIs.drew (xrow_step hrow), (((hb.setCell (Nat.le_refl _) _).setCell (Nat.le_refl _) _).setCell (Nat.le_refl _) _).drew⟩
      case measure => simp [intOf]; omega
    · have : k = n := by omega
      subst this
      go_wp2
      go_ret
      exact ⟨rfl, hsz, hrow, hb⟩


end Go.Proofs.Qxb6603608a.Ext
