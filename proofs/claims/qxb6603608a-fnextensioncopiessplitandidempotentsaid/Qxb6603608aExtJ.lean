import Derived.Test.Qxb6603608aExtI
import Derived.ProofKit
import Derived.OpenShut
import Derived.ChangeOld
import Derived.Deep.Strs
namespace Go.Proofs.Qxb6603608a.Ext
open Go.RowKit Go.ChangeShapes Go.WideShapes Go.ChangeAt Go.Deep
set_option linter.unusedVariables false
set_option linter.unusedSimpArgs false

theorem cells27 : Try.prog.cellsOf 27 = 1 := by kernel_rfl
theorem cells42 : Try.prog.cellsOf 42 = 3 := by kernel_rfl
theorem cells28 : Try.prog.cellsOf 28 = 1 := by kernel_rfl
theorem cells4 : Try.prog.cellsOf 4 = 1 := by kernel_rfl
theorem cells22 : Try.prog.cellsOf 22 = 1 := by kernel_rfl
theorem cells3 : Try.prog.cellsOf 3 = 1 := by kernel_rfl
theorem cells5 : Try.prog.cellsOf 5 = 1 := by kernel_rfl

theorem addr_plain {w : World} {a : Addr} {v : Value} (h : w.cell? a = some v) : a = ⟨a.block, a.off, none⟩ := by
  unfold World.cell? at h
  split at h
  · split at h
    · cases h
    · next hs => obtain ⟨b, o, s⟩ := a; cases s <;> simp_all
  · cases h

section
variable {H : Type} {enc : TypeId × Value → H} {W : World} {spare : Nat → Bool} {held : Bool} {fuel : Nat}

/-- A slice of integers that came in, as the walks are told of it. -/
theorem open_rd {t e : TypeId} {k : IntKind} {c0 : Value} {x : DataW H × List MemPlace} (ht : Try.prog.underlying t = some (.slice e)) (he : Try.prog.underlying e = some (.int k)) (hc : Try.prog.cellsOf e = 1)
    (h : DataW.trod enc Try.prog W 0 spare held fuel t [c0] = some x) : ∃ a l c zs, c0 = .slice a l c ∧ Rd k W a l zs ∧ (a = none → c = 0) ∧ l ≤ maxLen := by
  rcases open_ints ht he hc h with ⟨hcs, _⟩ | ⟨a, l, c, zs, hcs, _, hl, hm, hz, _, hcell, _⟩
  · simp only [List.cons.injEq, and_true] at hcs
    exact ⟨none, 0, 0, [], hcs, Rd.nil, fun _ => rfl, Nat.zero_le _⟩
  · simp only [List.cons.injEq, and_true] at hcs
    have hlz : l ≤ zs.length := by rw [hz]; split <;> omega
    refine ⟨some a, l, c, zs.take l, hcs, ⟨by simp; omega, fun h0 => ?_⟩, fun h => (by cases h), Nat.le_trans hl hm⟩
    have h00 := hcell 0 (by omega)
    rw [show a.add 0 = a from by simp [Addr.add]] at h00
    have hap := addr_plain h00
    refine ⟨a.block, a.off, congrArg some hap, fun i hi => ?_⟩
    have hi' := hcell i (by omega)
    rw [hap, Addr.add_lit] at hi'
    rw [hi']
    simp [List.getD, List.getElem?_take, hi]

theorem open_ext {cs : List Value} {x : DataW H × List MemPlace} (hl : cs.length = 3) (h : DataW.trod enc Try.prog W 0 spare held fuel 42 cs = some x) :
    ∃ (y : X) (z v : List Int), cs = [.slice y.ia y.il y.ic, .bool y.c, .slice y.va y.vl y.vc] ∧ Rd .i64 W y.ia y.il z ∧ Rd .u8 W y.va y.vl v ∧ (y.ia = none → y.ic = 0) ∧ (y.va = none → y.vc = 0) ∧ y.il ≤ maxLen ∧ y.vl ≤ maxLen := by
  match cs, hl with
  | [c0, c1, c2], _ =>
    obtain ⟨y0, y1, y2, n, _, _, h0, h1, h2⟩ := trod_struct3 Try.underlying42 h
    simp only [cells28, cells4, cells22] at h0 h1 h2
    simp at h0 h1 h2
    obtain ⟨ia, il, ic, z, rfl, hz, hzn, hzl⟩ := open_rd Try.underlying28 Try.underlying3 cells3 h0
    obtain ⟨b, hb, _⟩ := DataW.trod_bool Try.underlying4 h1
    obtain ⟨va, vl, vc, v, rfl, hv, hvn, hvl⟩ := open_rd Try.underlying22 Try.underlying5 cells5 h2
    simp only [List.cons.injEq, and_true] at hb
    subst hb
    exact ⟨⟨ia, il, ic, b, va, vl, vc⟩, z, v, rfl, hz, hv, hzn, hvn, hzl, hvl⟩

def xof (t : (Option Addr × Nat × Nat × Bool) × (Option Addr × Nat × Nat) × List Int × List Int) : X := ⟨t.1.1, t.1.2.1, t.1.2.2.1, t.1.2.2.2, t.2.1.1, t.2.1.2.1, t.2.1.2.2⟩

theorem open_args {v0 v1 : Value} {x0 x1 : DataW H × List MemPlace} {fuel' : Nat} (h0 : DataW.trod enc Try.prog W 0 (fun _ => true) held fuel 27 [v0] = some x0) (h1 : DataW.trod enc Try.prog W 0 (fun _ => true) held fuel' 28 [v1] = some x1) :
    ∃ a ao n c lo co E Z V zo, v0 = .slice a n c ∧ v1 = .slice ao lo co ∧ Args W a ao n c lo co E Z V zo := by
  obtain ⟨ao, lo, co, zo, rfl, ho, hon, hol⟩ := open_rd Try.underlying28 Try.underlying3 cells3 h1
  rcases open_slice Try.underlying27 h0 with ⟨hcs, _⟩ | ⟨a, len, cap, m, n, D, Pl, hcs, _, hl, hm, hmm, _, hx⟩
  · simp only [List.cons.injEq, and_true] at hcs
    refine ⟨none, ao, 0, 0, lo, co, fun _ => ⟨none, 0, 0, false, none, 0, 0⟩, fun _ => [], fun _ => [], zo, hcs, rfl, ?_⟩
    exact ⟨Nat.zero_le _, fun _ => rfl, fun h => absurd h (Nat.lt_irrefl _), hol, hon, ho, fun i hi => absurd hi (Nat.not_lt_zero _), fun i hi => absurd hi (Nat.not_lt_zero _), fun i hi => absurd hi (Nat.not_lt_zero _), fun i hi => absurd hi (Nat.not_lt_zero _), fun i hi => absurd hi (Nat.not_lt_zero _)⟩
  · simp only [List.cons.injEq, and_true] at hcs
    simp only [if_true] at hmm
    rw [cells42, hmm] at hx
    have each : ∀ i, i < len → ∃ t : (Option Addr × Nat × Nat × Bool) × (Option Addr × Nat × Nat) × List Int × List Int, (W.cell? (a.add (i * 3)) = some (.slice (xof t).ia (xof t).il (xof t).ic) ∧ W.cell? ((a.add (i * 3)).add 1) = some (.bool (xof t).c) ∧ W.cell? ((a.add (i * 3)).add 2) = some (.slice (xof t).va (xof t).vl (xof t).vc)) ∧
        Rd .i64 W (xof t).ia (xof t).il t.2.2.1 ∧ Rd .u8 W (xof t).va (xof t).vl t.2.2.2 ∧ ((xof t).ia = none → (xof t).ic = 0) ∧ ((xof t).va = none → (xof t).vc = 0) ∧ (xof t).il ≤ maxLen ∧ (xof t).vl ≤ maxLen := by
      intro i hi
      obtain ⟨cs', hc1, hc2⟩ := hx i (by omega)
      obtain ⟨_, hlen, hcell⟩ := World.cells?_some hc1
      obtain ⟨y, z, v, rfl, r⟩ := open_ext hlen hc2
      refine ⟨((y.ia, y.il, y.ic, y.c), (y.va, y.vl, y.vc), z, v), ⟨?_, ?_, ?_⟩, r⟩
      · have := hcell 0 (by omega)
        rw [show (a.add (i * 3)).add 0 = a.add (i * 3) from by simp [Addr.add]] at this
        exact this
      · exact hcell 1 (by omega)
      · exact hcell 2 (by omega)
    obtain ⟨f, hf⟩ := choose_lt each
    refine ⟨some a, ao, len, cap, lo, co, fun i => xof (f i), fun i => (f i).2.2.1, fun i => (f i).2.2.2, zo, hcs, rfl, ?_⟩
    refine ⟨Nat.le_trans hl hm, fun h => (by cases h), fun h0 => ?_, hol, hon, ho, fun i hi => (hf i hi).2.1, fun i hi => (hf i hi).2.2.1, fun i hi => (hf i hi).2.2.2.1, fun i hi => (hf i hi).2.2.2.2.1, fun i hi => (hf i hi).2.2.2.2.2⟩
    have h00 := (hf 0 h0).1.1
    rw [show a.add (0 * 3) = a from by simp [Addr.add]] at h00
    have hap := addr_plain h00
    refine ⟨a.block, a.off, congrArg some hap, fun i hi => ?_⟩
    obtain ⟨c0, c1, c2⟩ := (hf i hi).1
    rw [hap, Addr.add_lit] at c0 c1 c2
    rw [Addr.add_lit] at c1 c2
    exact ⟨c0, c1, c2⟩
end

theorem own : ownKnob Try.prog.godebug = none := by kernel_rfl
theorem laidOut : laidOutB Try.prog = true := by kernel_rfl

end Go.Proofs.Qxb6603608a.Ext
