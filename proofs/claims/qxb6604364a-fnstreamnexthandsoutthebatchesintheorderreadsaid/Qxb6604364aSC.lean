import Derived.Test.Qxb6604364aSB
namespace Go.Proofs.Qxb6604364a.Str
open Go.RowKit Go.Conc
set_option linter.unusedVariables false
set_option linter.unusedSimpArgs false

theorem mk35 (w : World) : (Instr.makeChan 35 (.int .i64 1)).run Try.prog w = .ok (.chan (some w.heap.size)) (w.alloc (.chan 1 #[] false 0 0 false)) := by
  have h : (Try.prog.info? 44).map (·.bytes) = some 16 := by kernel_rfl
  obtain ⟨i, hi, hb⟩ := Option.map_eq_some_iff.1 h
  simpa using run_makeChan (P := Try.prog) (w := w) Try.underlying35 hi .i64 1 (by omega) (by rw [hb]; omega)
theorem mk36 (w : World) (n : Nat) (hn : n ≤ 4096) : (Instr.makeChan 36 (.int .i64 n)).run Try.prog w = .ok (.chan (some w.heap.size)) (w.alloc (.chan n #[] false 0 0 false)) := by
  have h : (Try.prog.info? 40).map (·.bytes) = some 8 := by kernel_rfl
  obtain ⟨i, hi, hb⟩ := Option.map_eq_some_iff.1 h
  simpa using run_makeChan (P := Try.prog) (w := w) Try.underlying36 hi .i64 n (by omega) (by rw [hb]; omega)
theorem mk37 (w : World) : (Instr.makeChan 37 (.int .i64 0)).run Try.prog w = .ok (.chan (some w.heap.size)) (w.alloc (.chan 0 #[] false 0 0 false)) := by
  have h : (Try.prog.info? 52).map (·.bytes) = some 0 := by kernel_rfl
  obtain ⟨i, hi, hb⟩ := Option.map_eq_some_iff.1 h
  simpa using run_makeChan (P := Try.prog) (w := w) Try.underlying37 hi .i64 0 (by omega) (by rw [hb]; omega)

/-- Four channels and the stream that holds them. -/
def W5 (w : World) (A B C D : Obj) (cs : Array Value) : World := ((((w.alloc A).alloc B).alloc C).alloc D).alloc (.cells cs 39)
theorem W5_cell (w : World) (A B C D : Obj) (cs : Array Value) (i : Nat) : (W5 w A B C D cs).cell? ⟨w.heap.size + 1 + 1 + 1 + 1, i, none⟩ = cs[i]? := by
  unfold W5
  rw [World.cell?_alloc_at _ _ _ _ (by simp)]
theorem W5_3 (w : World) (A B C D : Obj) (cs : Array Value) : (W5 w A B C D cs).heap[w.heap.size + 1 + 1 + 1]? = some D := by
  unfold W5
  rw [Below.heap_alloc _ _ _ (by simp)]
  have := heap_alloc_new (((w.alloc A).alloc B).alloc C) D
  simpa only [World.size_alloc] using this
theorem W5_2 (w : World) (A B C D : Obj) (cs : Array Value) : (W5 w A B C D cs).heap[w.heap.size + 1 + 1]? = some C := by
  unfold W5
  rw [Below.heap_alloc _ _ _ (by simp), Below.heap_alloc _ _ _ (by simp)]
  have := heap_alloc_new ((w.alloc A).alloc B) C
  simpa only [World.size_alloc] using this
theorem W5_1 (w : World) (A B C D : Obj) (cs : Array Value) : (W5 w A B C D cs).heap[w.heap.size + 1]? = some B := by
  unfold W5
  rw [Below.heap_alloc _ _ _ (by simp <;> omega), Below.heap_alloc _ _ _ (by simp <;> omega), Below.heap_alloc _ _ _ (by simp <;> omega)]
  have := heap_alloc_new (w.alloc A) B
  simpa only [World.size_alloc] using this
theorem W5_0 (w : World) (A B C D : Obj) (cs : Array Value) : (W5 w A B C D cs).heap[w.heap.size]? = some A := by
  unfold W5
  rw [Below.heap_alloc _ _ _ (by simp <;> omega), Below.heap_alloc _ _ _ (by simp <;> omega), Below.heap_alloc _ _ _ (by simp <;> omega), Below.heap_alloc _ _ _ (by simp)]
  exact heap_alloc_new w A
theorem W5_below (w : World) (A B C D : Obj) (cs : Array Value) : Below w.heap.size w (W5 w A B C D cs) :=
  (((((Below.refl _ w).alloc (Nat.le_refl _) A).alloc (by simp) B).alloc (by simp <;> omega) C).alloc (by simp <;> omega) D).alloc (by simp <;> omega) _

/-- What ZZnewStream leaves. -/
def Made (w : World) (n : Nat) (e : Ending) (w' : World) : Prop := ∃ S c, e = .returned (.pointer (some ⟨S, 0, none⟩)) ∧ w'.cell? ⟨S, 1, none⟩ = some (.chan (some c)) ∧ w'.heap[c]? = some (.chan n #[] false 0 0 false) ∧ w.heap.size ≤ c ∧ Below w.heap.size w w'
theorem made0 {w : World} {n : Nat} {B C D : Obj} {v0 v2 v3 : Value} {e : Ending} (he : e = .returned (.pointer (some ⟨w.heap.size + 1 + 1 + 1 + 1, 0, none⟩))) : Made w n e (((((w.alloc (.chan n #[] false 0 0 false)).alloc B).alloc C).alloc D).alloc (.cells #[v0, .chan (some w.heap.size), v2, v3] 39)).drew :=
  ⟨_, _, he, W5_cell _ _ _ _ _ _ 1, W5_0 _ _ _ _ _ _, Nat.le_refl _, (W5_below _ _ _ _ _ _).drew⟩
theorem made1 {w : World} {n : Nat} {A C D : Obj} {v0 v2 v3 : Value} {e : Ending} (he : e = .returned (.pointer (some ⟨w.heap.size + 1 + 1 + 1 + 1, 0, none⟩))) : Made w n e (((((w.alloc A).alloc (.chan n #[] false 0 0 false)).alloc C).alloc D).alloc (.cells #[v0, .chan (some (w.heap.size + 1)), v2, v3] 39)).drew :=
  ⟨_, _, he, W5_cell _ _ _ _ _ _ 1, W5_1 _ _ _ _ _ _, by omega, (W5_below _ _ _ _ _ _).drew⟩
theorem made2 {w : World} {n : Nat} {A B D : Obj} {v0 v2 v3 : Value} {e : Ending} (he : e = .returned (.pointer (some ⟨w.heap.size + 1 + 1 + 1 + 1, 0, none⟩))) : Made w n e (((((w.alloc A).alloc B).alloc (.chan n #[] false 0 0 false)).alloc D).alloc (.cells #[v0, .chan (some (w.heap.size + 1 + 1)), v2, v3] 39)).drew :=
  ⟨_, _, he, W5_cell _ _ _ _ _ _ 1, W5_2 _ _ _ _ _ _, by omega, (W5_below _ _ _ _ _ _).drew⟩
theorem made3 {w : World} {n : Nat} {A B C : Obj} {v0 v2 v3 : Value} {e : Ending} (he : e = .returned (.pointer (some ⟨w.heap.size + 1 + 1 + 1 + 1, 0, none⟩))) : Made w n e (((((w.alloc A).alloc B).alloc C).alloc (.chan n #[] false 0 0 false)).alloc (.cells #[v0, .chan (some (w.heap.size + 1 + 1 + 1)), v2, v3] 39)).drew :=
  ⟨_, _, he, W5_cell _ _ _ _ _ _ 1, W5_3 _ _ _ _ _ _, by omega, (W5_below _ _ _ _ _ _).drew⟩

set_option maxHeartbeats 2000000 in
theorem new7 (n : Nat) (w : World) (hn : n ≤ 4096) :
    Calls Try.prog 7 #[.int .i64 n] w fun e w' => Made w n e w' := by
  have h35 := mk35
  have h36 := fun w => mk36 w n hn
  have h37 := mk37
  go_enter Try.func7, Try.ntmps7
  go_wp2
  go_region
  all_goals
    go_wp2
    go_ret
    first | (with_reducible refine made0 ?_) | (with_reducible refine made1 ?_) | (with_reducible refine made2 ?_) | (with_reducible refine made3 ?_)
    rfl

end Go.Proofs.Qxb6604364a.Str
