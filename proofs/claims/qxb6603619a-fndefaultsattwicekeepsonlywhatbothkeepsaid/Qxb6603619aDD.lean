import Derived.Test.Qxb6603619aDC
namespace Go.Proofs.Qxb6603619a.Crd
open Go.RowKit
set_option linter.unusedVariables false
set_option linter.unusedSimpArgs false

/-- What dWithin says. -/
def Within (w0 : World) (p : Option Addr) (e : Ending) (w' : World) : Prop :=
  ∃ r, e = .returned (.bool r) ∧ Below w0.heap.size w0 w' ∧ (r = true → ∀ b o, p = some ⟨b, o, none⟩ → ∃ k, ∃ t : T k, k ≤ 65536 ∧ S 65536 k w0 t b o)

theorem below2 (w0 : World) (a b : Obj) : Below w0.heap.size w0 ((w0.alloc a).alloc b) := ((Below.refl _ _).alloc (Nat.le_refl _) _).alloc (by simp [World.size_alloc]) _

theorem ctr0 (w0 : World) (z : Int) : Ctr w0 ((w0.alloc (.cells #[.int .i64 0] 3)).alloc (.cells #[.int .i64 z] 3)) w0.heap.size (w0.heap.size + 1) 0 z := by
  refine ⟨?_, ?_, ?_, ?_, below2 _ _ _⟩
  · go_simp
  · go_simp
  · go_simp
  · go_simp

set_option maxHeartbeats 1000000 in
theorem within5_nil (s : ByteArray) (hs : s.size ≤ 1048576) (w : World) : Calls Try.prog 5 #[.string s, .pointer none] w fun e w' => Within w none e w' := by
  go_enter Try.func5, Try.ntmps5
  go_wp2_with fail
  · go_ret
    exact ⟨false, rfl, below2 _ _ _, fun h => by cases h⟩
  · go_ret
    exact ⟨true, rfl, below2 _ _ _, fun _ b o h => by cases h⟩

set_option maxHeartbeats 1000000 in
theorem within5 (s : ByteArray) (hs : s.size ≤ 1048576) (w : World) (n : Nat) (t : T n) (b o : Nat) (hS : S maxLen n w t b o) : Calls Try.prog 5 #[.string s, .pointer (some ⟨b, o, none⟩)] w fun e w' => Within w (some ⟨b, o, none⟩) e w' := by
  have HS := hid hS
  clear hS
  go_enter Try.func5, Try.ntmps5
  go_wp2_with (go_at_call 11; refine (meas11 n w t b o w.heap.size (w.heap.size + 1) 0 (64 + s.size) _ HS.out (Nat.le_refl _) (by omega) (by omega) (by omega) (by omega) (by omega) (ctr0 _ _)).mono ?_; rintro e w' ⟨r, N1, z1, rfl, hC, hr⟩; have HC := hid hC; have HR := hid hr; clear hC hr)
  · go_ret
    exact ⟨false, rfl, below2 _ _ _, fun h => by cases h⟩
  · go_ret
    refine ⟨r, rfl, HC.out.bel, fun h b' o' e => ?_⟩
    simp only [Option.some.injEq, Addr.mk.injEq, and_true] at e
    obtain ⟨rfl, rfl⟩ := e
    obtain ⟨h1, h2, h3, k, t', rfl, h4⟩ := HR.out h
    exact ⟨k, t', by omega, h4⟩

theorem with12 (df fm : ByteArray) (w : World) : Calls Try.prog 12 #[.string df, .string fm] w fun e w' => e = .returned (.pointer (some ⟨w.heap.size, 0, none⟩)) ∧ w' = w.alloc (.cells (sch (.iface 9 (.string df)) fm (.map none) (.pointer none) (.pointer none) false) 49 (0, 0)) := by
  go_enter Try.func12, Try.ntmps12
  go_wp2_with fail
  go_ret
  exact ⟨rfl, rfl⟩

/-! ### The cells of a crd.Schema -/

structure SchC (w : World) (s : Nat) (vd : Value) (vf : ByteArray) (vp va vi : Value) (pl : Bool) : Prop where
  c1 : w.cell? ⟨s, 1, none⟩ = some vd
  c2 : w.cell? ⟨s, 2, none⟩ = some (.string vf)
  c3 : w.cell? ⟨s, 3, none⟩ = some vp
  c5 : w.cell? ⟨s, 5, none⟩ = some va
  c6 : w.cell? ⟨s, 6, none⟩ = some vi
  c27 : w.cell? ⟨s, 27, none⟩ = some (.bool pl)
  fr : ∀ k, w.frozen? ⟨s, k, none⟩ = false

theorem schC {w : World} {s : Nat} {vd : Value} {vf : ByteArray} {vp va vi : Value} {pl : Bool} (h : w.heap[s]? = some (.cells (sch vd vf vp va vi pl) 49 (0, 0))) : SchC w s vd vf vp va vi pl := by
  refine ⟨?_, ?_, ?_, ?_, ?_, ?_, fun k => ?_⟩
  all_goals first | (simp [World.cell?, h, sch]; done) | (simp [World.frozen?, h, sch]; done)

theorem setCell_heap {w : World} {s k : Nat} {c : Array Value} {e : TypeId} {f : Nat × Nat} (h : w.heap[s]? = some (.cells c e f)) (v : Value) : (w.setCell ⟨s, k, none⟩ v).heap[s]? = some (.cells (c.setIfInBounds k v) e f) := by
  simp [World.setCell, Array.getElem?_modify, h]
theorem sch_set1 {w : World} {s : Nat} {vd : Value} {vf : ByteArray} {vp va vi : Value} {pl : Bool} (h : w.heap[s]? = some (.cells (sch vd vf vp va vi pl) 49 (0, 0))) (v : Value) : (w.setCell ⟨s, 1, none⟩ v).heap[s]? = some (.cells (sch v vf vp va vi pl) 49 (0, 0)) := by
  rw [setCell_heap h]; rfl
theorem sch_set3 {w : World} {s : Nat} {vd : Value} {vf : ByteArray} {vp va vi : Value} {pl : Bool} (h : w.heap[s]? = some (.cells (sch vd vf vp va vi pl) 49 (0, 0))) (v : Value) : (w.setCell ⟨s, 3, none⟩ v).heap[s]? = some (.cells (sch vd vf v va vi pl) 49 (0, 0)) := by
  rw [setCell_heap h]; rfl
theorem sch_set5 {w : World} {s : Nat} {vd : Value} {vf : ByteArray} {vp va vi : Value} {pl : Bool} (h : w.heap[s]? = some (.cells (sch vd vf vp va vi pl) 49 (0, 0))) (v : Value) : (w.setCell ⟨s, 5, none⟩ v).heap[s]? = some (.cells (sch vd vf vp v vi pl) 49 (0, 0)) := by
  rw [setCell_heap h]; rfl
theorem sch_set6 {w : World} {s : Nat} {vd : Value} {vf : ByteArray} {vp va vi : Value} {pl : Bool} (h : w.heap[s]? = some (.cells (sch vd vf vp va vi pl) 49 (0, 0))) (v : Value) : (w.setCell ⟨s, 6, none⟩ v).heap[s]? = some (.cells (sch vd vf vp va v pl) 49 (0, 0)) := by
  rw [setCell_heap h]; rfl
theorem sch_set27 {w : World} {s : Nat} {vd : Value} {vf : ByteArray} {vp va vi : Value} {pl : Bool} (h : w.heap[s]? = some (.cells (sch vd vf vp va vi pl) 49 (0, 0))) (q : Bool) : (w.setCell ⟨s, 27, none⟩ (.bool q)).heap[s]? = some (.cells (sch vd vf vp va vi q) 49 (0, 0)) := by
  rw [setCell_heap h]; rfl

/-! ### What a change of the world leaves -/

theorem MProps.kept {P P' : Nat → Prop} {n : Nat} {w w' : World} {kp md : Bool} {t : Nd (T n)} {vp : Value} (h : MProps P w t (M P n w kp md) vp) (hb : ∀ d, P d → d < w.heap.size → w'.heap[d]? = w.heap[d]?) (hP : ∀ d, P d → d < w.heap.size → P' d) : MProps P' w' t (M P' n w' kp md) vp := by
  rcases h with h | ⟨h1, mb, cnt, sz, B, h2, h0, h3, h4, h5, h6⟩
  · exact .inl h
  · exact .inr ⟨h1, mb, cnt, sz, B, h2, hP _ h0 h4.lt, h3, h4.kept (hb mb h0 h4.lt), fun j hj hl => (h5 j hj hl).kept hb hP, h6⟩

theorem MPtr.kept {P P' : Nat → Prop} {n : Nat} {w w' : World} {kp md : Bool} {x : Option (T n)} {v : Value} (h : MPtr x (M P n w kp md) v) (hb : ∀ d, P d → d < w.heap.size → w'.heap[d]? = w.heap[d]?) (hP : ∀ d, P d → d < w.heap.size → P' d) : MPtr x (M P' n w' kp md) v :=
  h.mono fun a b h => h.kept hb hP

theorem below_put {n : Nat} {w0 w w' : World} {mb : Nat} (h : Below n w0 w) (hg : w.grownBy w' (some mb)) (hm : n ≤ mb) (hn : n ≤ w0.heap.size) : Below n w0 w' :=
  ⟨hg.os.trans h.os, hg.tape.trans h.tape, hg.output.trans h.output, Nat.le_trans h.size hg.size, fun k hk => (hg.block k (by have := h.size; omega) (by simp; omega)).trans (h.block k hk)⟩

end Go.Proofs.Qxb6603619a.Crd
