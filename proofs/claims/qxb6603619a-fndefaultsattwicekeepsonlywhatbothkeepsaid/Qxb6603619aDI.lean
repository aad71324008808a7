import Derived.Test.Qxb6603619aDH
import Derived.Deep.WholeRow
namespace Go.Proofs.Qxb6603619a.Crd
open Go.RowKit
set_option linter.unusedVariables false
set_option linter.unusedSimpArgs false

theorem info49 : (Try.prog.info? 49).map (·.size) = some 29 := by kernel_rfl

theorem load49 {w : World} {s : Nat} {vd : Value} {vf : ByteArray} {vp va vi : Value} {pl : Bool} (h : w.heap[s]? = some (.cells (sch vd vf vp va vi pl) 49 (0, 0))) : (Instr.loadAt 49 (.pointer (some ⟨s, 0, none⟩))).run Try.prog w = .ok (.agg (sch vd vf vp va vi pl)) w := by
  simp only [Instr.loadAt, Instr.sureAddr, Sem.run_bind, Sem.run_pure, Result.andThen]
  exact run_loadVar_row _ _ 49 49 _ (0, 0) _ h Try.underlying49 rfl info49

theorem wpList_store_new {P : Program} {ops : Array Oper} {rest : List Oper} {o : Oper} {a : Act} {w : World} {Q : Exit → Act → World → Prop} (hgd : o.guard = none) (hdst : o.dst = none) (ty : TypeId) (x y : Operand) (ho : o.op = .store ty x y) (c c' : Array Value)
    (hx : a.eval x = .pointer (some ⟨w.heap.size, 0, none⟩)) (hy : a.eval y = .agg c') (hi : (P.info? ty).map (·.size) = some c'.size) (hs : c.size = c'.size) (h1 : c'.all (·.oneCell') = true)
    (h : wpList P ops Q rest a (w.alloc (.cells c' ty))) : wpList P ops Q (o :: rest) a (w.alloc (.cells c ty)) := by
  refine wpList_plain hgd fun K hK => ?_
  have hr := run_storeAt_new (P := P) w ty c c' hi hs h1
  unfold Oper.wp execOp
  simp only [ho, hx, hy, hr, Sem.run_bind, Sem.run_pure, Result.andThen_ok, hdst]
  unfold Oper.upon
  simp only [hdst, Act.put]
  exact hK _ _ h

theorem cellA (w : World) (v u : Value) : ((w.alloc (.cells #[v] 54)).alloc (.cells #[u] 55)).cell? ⟨w.heap.size, 0, none⟩ = some v := by
  go_simp
theorem cellB (w : World) (v u : Value) : ((w.alloc (.cells #[v] 54)).alloc (.cells #[u] 55)).cell? ⟨w.heap.size + 1, 0, none⟩ = some u := by
  go_simp

theorem one_sch {n : Nat} {P : Nat → Prop} {w : World} {kp pl pl' : Bool} {t : Nd (T n)} {sub : T n → Nat → Prop} {s : Nat} {vp va vi : Value} (h : MNode P w kp pl t sub s vp va vi) : (sch (dflt kp t) t.fm vp va vi pl').all (·.oneCell') = true := by
  have h1 : (dflt kp t).oneCell' = true := by unfold dflt; split <;> rfl
  have h2 : vp.oneCell' = true := by
    rcases h.ps with ⟨_, rfl⟩ | ⟨_, mb, cnt, sz, B, rfl, _⟩ <;> rfl
  have h3 : va.oneCell' = true := by
    have := h.vs
    cases ha : t.va with
    | none => rw [ha] at this; have e : va = .pointer none := this; rw [e]; rfl
    | some a => rw [ha] at this; obtain ⟨b, e, _⟩ := this; rw [e]; rfl
  have h4 : vi.oneCell' = true := by
    have := h.is
    cases ha : t.ia with
    | none => rw [ha] at this; have e : vi = .pointer none := this; rw [e]; rfl
    | some a => rw [ha] at this; obtain ⟨b, e, _⟩ := this; rw [e]; rfl
  simp only [Value.oneCell'] at h1 h2 h3 h4
  simp [sch, Value.oneCell', h1, h2, h3, h4]

theorem plain_inv {a b : Bool} (h : true = (a && !b)) : a = true ∧ b = false := by
  cases a <;> cases b <;> simp_all

theorem sch_size (vd : Value) (vf : ByteArray) (vp va vi : Value) (pl : Bool) : (sch vd vf vp va vi pl).size = 29 := rfl

/-! ### The copy under way -/

def PcOf (P : Nat → Prop) (w W0 : World) (d : Nat) : Prop := (P d ∨ w.heap.size ≤ d) ∧ d ≠ W0.heap.size
def P0Of (P : Nat → Prop) (w : World) (d : Nat) : Prop := P d ∧ d < w.heap.size

def Cp {n : Nat} (Pc : Nat → Prop) (W0 wc : World) (t : Nd (T n)) (vd : Value) (k : Bool) (vp va vi : Value) (q1 q2 q3 : Bool) : Prop := ∃ vp' va' vi', wc.heap[W0.heap.size]? = some (.cells (sch vd t.fm vp' va' vi' false) 49 (0, 0)) ∧
  (if q1 then MProps Pc wc t (M Pc n wc k true) vp' else vp' = vp) ∧
  (if q2 then MPtr t.va (M Pc n wc k true) va' else va' = va) ∧
  (if q3 then MPtr t.ia (M Pc n wc k true) vi' else vi' = vi) ∧ Below W0.heap.size W0 wc

theorem Cp.bel {n : Nat} {Pc : Nat → Prop} {W0 wc : World} {t : Nd (T n)} {vd : Value} {k : Bool} {vp va vi : Value} {q1 q2 q3 : Bool} (h : Cp Pc W0 wc t vd k vp va vi q1 q2 q3) : Below W0.heap.size W0 wc := by
  obtain ⟨_, _, _, _, _, _, _, h⟩ := h
  exact h

theorem Cp.lt {n : Nat} {Pc : Nat → Prop} {W0 wc : World} {t : Nd (T n)} {vd : Value} {k : Bool} {vp va vi : Value} {q1 q2 q3 : Bool} (h : Cp Pc W0 wc t vd k vp va vi q1 q2 q3) : W0.heap.size < wc.heap.size := by
  obtain ⟨_, _, _, h, _, _, _, _⟩ := h
  exact (Array.getElem?_eq_some_iff.1 h).1

theorem Cp.start {n : Nat} {Pc : Nat → Prop} {W0 : World} {t : Nd (T n)} {vd : Value} {k : Bool} {vp va vi : Value} : Cp Pc W0 (W0.alloc (.cells (sch vd t.fm vp va vi false) 49)) t vd k vp va vi false false false :=
  ⟨vp, va, vi, heap_alloc_last _ _, rfl, rfl, rfl, (Below.refl _ _).alloc (Nat.le_refl _) _⟩

theorem Cp.setD {n : Nat} {Pc : Nat → Prop} {W0 wc : World} {t : Nd (T n)} {vd : Value} {k : Bool} {vp va vi : Value} (h : Cp Pc W0 wc t vd k vp va vi false false false) (v : Value) : Cp Pc W0 (wc.setCell ⟨W0.heap.size, 1, none⟩ v) t v k vp va vi false false false := by
  obtain ⟨vp', va', vi', h1, h2, h3, h4, h5⟩ := h
  exact ⟨vp', va', vi', sch_set1 h1 _, h2, h3, h4, h5.setCell (Nat.le_refl _) _⟩

theorem Cp.at {n : Nat} {Pc : Nat → Prop} {W0 wc w6 : World} {t : Nd (T n)} {vd : Value} {k : Bool} {vp va vi : Value} {q1 q2 q3 : Bool} (h : Cp Pc W0 wc t vd k vp va vi q1 q2 q3) (hb : Below wc.heap.size wc w6) :
    ∃ x5, w6.cell? ⟨W0.heap.size, 5, none⟩ = some x5 ∧ w6.frozen? ⟨W0.heap.size, 5, none⟩ = false ∧ ∃ x6, w6.cell? ⟨W0.heap.size, 6, none⟩ = some x6 ∧ w6.frozen? ⟨W0.heap.size, 6, none⟩ = false ∧ ∃ x27, w6.cell? ⟨W0.heap.size, 27, none⟩ = some x27 ∧ w6.frozen? ⟨W0.heap.size, 27, none⟩ = false ∧
      ∃ x3, w6.cell? ⟨W0.heap.size, 3, none⟩ = some x3 ∧ w6.frozen? ⟨W0.heap.size, 3, none⟩ = false := by
  obtain ⟨vp, va, vi, h1, h2, h3, h4, h5⟩ := h
  have := schC ((hb.block _ (Array.getElem?_eq_some_iff.1 h1).1).trans h1)
  exact ⟨_, this.c5, this.fr 5, _, this.c6, this.fr 6, _, this.c27, this.fr 27, _, this.c3, this.fr 3⟩

theorem Cp.nil {n : Nat} {Pc : Nat → Prop} {W0 wc : World} {t : Nd (T n)} {vd : Value} {k : Bool} {va vi : Value} (h : Cp Pc W0 wc t vd k (.map none) va vi false false false) (hn : t.mn = true ∧ t.ml = 0) : Cp Pc W0 wc t vd k (.map none) va vi true false false := by
  obtain ⟨vp', va', vi', h1, h2, h3, h4, h5⟩ := h
  exact ⟨vp', va', vi', h1, .inl ⟨hn, h2⟩, h3, h4, h5⟩

theorem Cp.va_none {n : Nat} {Pc : Nat → Prop} {W0 wc : World} {t : Nd (T n)} {vd : Value} {k : Bool} {vp vi : Value} (h : Cp Pc W0 wc t vd k vp (.pointer none) vi true false false) (hn : t.va = none) : Cp Pc W0 wc t vd k vp (.pointer none) vi true true false := by
  obtain ⟨vp', va', vi', h1, h2, h3, h4, h5⟩ := h
  refine ⟨vp', va', vi', h1, h2, ?_, h4, h5⟩
  rw [hn]; exact h3

theorem Cp.ia_none {n : Nat} {Pc : Nat → Prop} {W0 wc : World} {t : Nd (T n)} {vd : Value} {k : Bool} {vp va : Value} (h : Cp Pc W0 wc t vd k vp va (.pointer none) true true false) (hn : t.ia = none) : Cp Pc W0 wc t vd k vp va (.pointer none) true true true := by
  obtain ⟨vp', va', vi', h1, h2, h3, h4, h5⟩ := h
  refine ⟨vp', va', vi', h1, h2, h3, ?_, h5⟩
  rw [hn]; exact h4

theorem Cp.setVa {n : Nat} {Pc Q : Nat → Prop} {W0 wc w6 : World} {t : Nd (T n)} {vd : Value} {k : Bool} {vp va vi : Value} {a : T n} {s6 : Nat} (h : Cp Pc W0 wc t vd k vp va vi true false false) (hc : ∀ d, Pc d → d ≠ W0.heap.size) (hn : t.va = some a) (hm : M Q n w6 k true a s6) (hQ : ∀ d, Q d → Pc d) (hb : Below wc.heap.size wc w6) :
    Cp Pc W0 (w6.setCell ⟨W0.heap.size, 5, none⟩ (.pointer (some ⟨s6, 0, none⟩))) t vd k vp va vi true true false := by
  obtain ⟨vp', va', vi', h1, h2, h3, h4, h5⟩ := h
  have hlt := (Array.getElem?_eq_some_iff.1 h1).1
  have e2 : ∀ d, Pc d → (w6.setCell ⟨W0.heap.size, 5, none⟩ (.pointer (some ⟨s6, 0, none⟩))).heap[d]? = w6.heap[d]? := fun d hd => Below.heap_setCell _ _ _ _ (hc d hd)
  have e1 : ∀ d, Pc d → d < wc.heap.size → (w6.setCell ⟨W0.heap.size, 5, none⟩ (.pointer (some ⟨s6, 0, none⟩))).heap[d]? = wc.heap[d]? := fun d hd hl => (e2 d hd).trans (hb.block d hl)
  refine ⟨vp', _, vi', sch_set5 ((hb.block _ hlt).trans h1) _, ?_, ?_, h4, (h5.trans (hb.mono h5.size)).setCell (Nat.le_refl _) _⟩
  · exact MProps.kept (P := Pc) h2 e1 (fun _ h _ => h)
  · rw [hn]
    exact ⟨s6, rfl, hm.kept (fun d hd hl => e2 d (hQ d hd)) (fun d hd _ => hQ d hd)⟩

theorem Cp.setIa {n : Nat} {Pc Q : Nat → Prop} {W0 wc w6 : World} {t : Nd (T n)} {vd : Value} {k : Bool} {vp va vi : Value} {a : T n} {s6 : Nat} (h : Cp Pc W0 wc t vd k vp va vi true true false) (hc : ∀ d, Pc d → d ≠ W0.heap.size) (hn : t.ia = some a) (hm : M Q n w6 k true a s6) (hQ : ∀ d, Q d → Pc d) (hb : Below wc.heap.size wc w6) :
    Cp Pc W0 (w6.setCell ⟨W0.heap.size, 6, none⟩ (.pointer (some ⟨s6, 0, none⟩))) t vd k vp va vi true true true := by
  obtain ⟨vp', va', vi', h1, h2, h3, h4, h5⟩ := h
  have hlt := (Array.getElem?_eq_some_iff.1 h1).1
  have e2 : ∀ d, Pc d → (w6.setCell ⟨W0.heap.size, 6, none⟩ (.pointer (some ⟨s6, 0, none⟩))).heap[d]? = w6.heap[d]? := fun d hd => Below.heap_setCell _ _ _ _ (hc d hd)
  have e1 : ∀ d, Pc d → d < wc.heap.size → (w6.setCell ⟨W0.heap.size, 6, none⟩ (.pointer (some ⟨s6, 0, none⟩))).heap[d]? = wc.heap[d]? := fun d hd hl => (e2 d hd).trans (hb.block d hl)
  refine ⟨vp', va', _, sch_set6 ((hb.block _ hlt).trans h1) _, ?_, ?_, ?_, (h5.trans (hb.mono h5.size)).setCell (Nat.le_refl _) _⟩
  · exact MProps.kept (P := Pc) h2 e1 (fun _ h _ => h)
  · exact MPtr.kept (P := Pc) h3 e1 (fun _ h _ => h)
  · rw [hn]
    exact ⟨s6, rfl, hm.kept (fun d hd hl => e2 d (hQ d hd)) (fun d hd _ => hQ d hd)⟩

/-! In the loop over the Properties. -/
def Lp {n : Nat} (Pc : Nat → Prop) (W0 wr : World) (t : Nd (T n)) (vd : Value) (k : Bool) (va vi : Value) (mb r : Nat) (D : ByteArray → Bool) (cnt : Nat) : Prop := ∃ sz B, wr.heap[W0.heap.size]? = some (.cells (sch vd t.fm (.map (some mb)) va vi false) 49 (0, 0)) ∧
  FMap wr mb cnt (fun x => if D x then none else pf t.nm t.ml B x) sz ∧ (∀ j, j < t.ml → lastOf t.nm t.ml (t.nm j) = some j → D (t.nm j) = false → M (fun d => Pc d ∧ d ≠ mb ∧ d ≠ r) n wr k true (t.tm j) (B j)) ∧ Below W0.heap.size W0 wr

theorem Lp.start {n : Nat} {Pc : Nat → Prop} {W0 wc w1 : World} {t : Nd (T n)} {vd : Value} {k : Bool} {vp va vi : Value} {D : ByteArray → Bool} {r : Nat} (h : Cp Pc W0 wc t vd k vp va vi false false false)
    (hb : Below ((wc.setCell ⟨W0.heap.size, 3, none⟩ (.map (some wc.heap.size))).alloc (.map #[] 0)).heap.size ((wc.setCell ⟨W0.heap.size, 3, none⟩ (.map (some wc.heap.size))).alloc (.map #[] 0)) w1) (hD : ∀ j, j < t.ml → D (t.nm j) = true) : Lp Pc W0 w1 t vd k va vi wc.heap.size r D 0 := by
  have hlt := h.lt
  obtain ⟨vp', va', vi', h1, h2, h3, h4, h5⟩ := h
  simp only [Bool.false_eq_true, if_false] at h3 h4
  subst h3; subst h4
  have hsz : (wc.setCell ⟨W0.heap.size, 3, none⟩ (.map (some wc.heap.size))).heap.size = wc.heap.size := by simp [World.setCell]
  have hB := h5.setCell (Nat.le_refl _) (.map (some wc.heap.size)) (p := ⟨W0.heap.size, 3, none⟩)
  have hB' := hB.alloc hB.size (.map #[] 0)
  refine ⟨0, fun _ => 0, ?_, ?_, fun j hj _ hd => (by rw [hD j hj] at hd; cases hd), hB'.trans (hb.mono (by simp [hsz]; omega))⟩
  · rw [hb.block _ (by simp [hsz]; omega), Below.heap_alloc _ _ _ (by omega)]
    exact sch_set3 h1 _
  · have := FMap.made (wc.setCell ⟨W0.heap.size, 3, none⟩ (.map (some wc.heap.size)))
    rw [hsz] at this
    refine (this.below hb).congr fun x _ => ?_
    cases hl : lastOf t.nm t.ml x with
    | none => simp [pf, hl]
    | some j =>
      obtain ⟨hj, rfl⟩ := lastOf_lt hl
      simp [hD j hj]

theorem kB1 {w w' : World} {a1 : Addr} {v1 : Value} (h : w.cell? a1 = some v1) (hb : Below w.heap.size w w') : w'.cell? a1 = some v1 := (hb.cell (cell_lt h)).trans h

theorem Lp.done {n : Nat} {Pc : Nat → Prop} {W0 wr : World} {t : Nd (T n)} {vd : Value} {k : Bool} {va vi vp : Value} {mb r : Nat} {D : ByteArray → Bool} {cnt : Nat} (h : Lp Pc W0 wr t vd k va vi mb r D cnt) (hD : ∀ j, j < t.ml → D (t.nm j) = false) (hmb : Pc mb) (hc : cnt ≤ 65536) (hn : t.mn = false) (hnm : ∀ j, j < t.ml → (t.nm j).size ≤ maxLen) : Cp Pc W0 wr t vd k vp va vi true false false := by
  obtain ⟨sz, B, h1, h2, h3, h4⟩ := h
  refine ⟨_, va, vi, h1, .inr ⟨hn, mb, cnt, sz, B, rfl, hmb, hc, h2.congr fun s _ => ?_, fun j hj hl => (h3 j hj hl (hD j hj)).weaken fun d hd _ => hd.1, hnm⟩, rfl, rfl, h4⟩
  cases hl : lastOf t.nm t.ml s with
  | none => simp [pf, hl]
  | some j =>
    obtain ⟨hj, rfl⟩ := lastOf_lt hl
    simp [hD j hj]

theorem pf_put2 {nm : Nat → ByteArray} {ml j : Nat} {B : Nat → Nat} {s6 : Nat} {D : ByteArray → Bool} (hl : lastOf nm ml (nm j) = some j) (x : ByteArray) :
    (if x = nm j then some (.pointer (some ⟨s6, 0, none⟩)) else if D x then none else pf nm ml B x) = if (D x && !decide (x = nm j)) then none else pf nm ml (fun i => if i = j then s6 else B i) x := by
  by_cases h : x = nm j
  · subst h
    simp [pf, hl]
  · simp only [if_neg h, h, decide_false, Bool.not_false, Bool.and_true]
    cases hD : D x with
    | true => rfl
    | false =>
      simp only [Bool.false_eq_true, if_false]
      unfold pf
      cases hx : lastOf nm ml x with
      | none => rfl
      | some i =>
        have := (lastOf_lt hx).2
        have hne : i ≠ j := fun e => h (by rw [← this, e])
        simp [hne]

theorem Lp.step {n : Nat} {Pc Q : Nat → Prop} {W0 wr wx w6 w7 : World} {t : Nd (T n)} {vd : Value} {k : Bool} {va vi : Value} {mb r : Nat} {D : ByteArray → Bool} {cnt sz7 j s6 : Nat} {B : Nat → Nat}
    (hc : ∀ d, Pc d → d ≠ W0.heap.size) (hmb : W0.heap.size < mb) (hr : W0.heap.size < r) (hmr : mb ≠ r)
    (hblk : wr.heap[W0.heap.size]? = some (.cells (sch vd t.fm (.map (some mb)) va vi false) 49 (0, 0))) (hM : ∀ j, j < t.ml → lastOf t.nm t.ml (t.nm j) = some j → D (t.nm j) = false → M (fun d => Pc d ∧ d ≠ mb ∧ d ≠ r) n wr k true (t.tm j) (B j)) (hB : Below W0.heap.size W0 wr)
    (hg1 : wr.grownBy wx (some r)) (hb : Below wx.heap.size wx w6) (hm : M Q n w6 k true (t.tm j) s6) (hQ : ∀ d, Q d → Pc d ∧ d ≠ mb ∧ d ≠ r) (hl : lastOf t.nm t.ml (t.nm j) = some j) 
    (h7 : FMap w7 mb (cnt + 1) (fun x => if x = t.nm j then some (.pointer (some ⟨s6, 0, none⟩)) else if D x then none else pf t.nm t.ml B x) sz7) (hg : w6.grownBy w7 (some mb)) : Lp Pc W0 w7 t vd k va vi mb r (fun x => D x && !decide (x = t.nm j)) (cnt + 1) := by
  have s1 := hg1.size
  have s2 := hb.size
  have hlt := (Array.getElem?_eq_some_iff.1 hblk).1
  have e1 : ∀ d, d ≠ r → d ≠ mb → d < wr.heap.size → w7.heap[d]? = wr.heap[d]? := fun d h1 h2 h3 => by
    rw [hg.block d (by omega) (by simpa using h2), hb.block d (by omega), hg1.block d h3 (by simpa using h1)]
  have hbx : Below W0.heap.size W0 w6 := (below_put hB hg1 (by omega) (Nat.le_refl _)).trans (hb.mono (by have := hB.size; omega))
  refine ⟨sz7, fun i => if i = j then s6 else B i, ?_, h7.congr fun x _ => pf_put2 hl x, fun i hi hli hDi => ?_, below_put hbx hg (by omega) (Nat.le_refl _)⟩
  · rw [e1 _ (by omega) (by omega) hlt]; exact hblk
  · by_cases h : i = j
    · subst h
      simp only [if_true]
      exact hm.kept (fun d hd hlt => hg.block d hlt (by simpa using (hQ d hd).2.1)) (fun d hd _ => hQ d hd)
    · simp only [if_neg h]
      have hne : t.nm i ≠ t.nm j := fun e => h (by rw [e, hl] at hli; simp only [Option.some.injEq] at hli; exact hli.symm)
      simp [hne] at hDi
      exact (hM i hi hli hDi).kept (fun d hd hlt => e1 d hd.2.2 hd.2.1 hlt) (fun d hd _ => hd)

end Go.Proofs.Qxb6603619a.Crd
