import Derived.Test.Qxb6603619aRows
import Derived.WalkKit
import Derived.Below
import Derived.WalkSmall
import Derived.Maps.Own
import Derived.Maps.OwnSet
import Derived.Maps.Range
import Derived.Maps.RangeWalk
import Derived.Maps.Ext
import Derived.Maps.Views
namespace Go.Proofs.Qxb6603619a.Crd
open Go.RowKit
open Go.Maps (Keyed)
set_option linter.unusedVariables false
set_option linter.unusedSimpArgs false

/-! ### Maps with string keys, as functions of the key -/

theorem law9 : Keyed Try.prog 9 := Maps.string_keyed Try.underlying9

/-- Every value reads as itself. -/
def RV (v : Value) : Option (DataW Value × List MemPlace) := some (.held v, [])
def ks (s : ByteArray) : Lit := .string s.data.toList

theorem ks_inj {s t : ByteArray} (h : ks s = ks t) : s = t := by
  simp only [ks, Lit.string.injEq] at h
  obtain ⟨⟨a⟩⟩ := s
  obtain ⟨⟨b⟩⟩ := t
  simp at h
  simp [h]

theorem key9 {s : ByteArray} (hs : s.size ≤ maxLen) : keyOf Try.prog 9 (.string s) = some (ks s) := by
  simp [keyOf, mapKey, Try.underlying9, hs, ks]

theorem key9_inv {v : Value} {kl : Lit} (h : keyOf Try.prog 9 v = some kl) : ∃ s : ByteArray, v = .string s ∧ kl = ks s ∧ s.size ≤ maxLen := by
  cases v <;> simp [keyOf, Try.underlying9, mapKey] at h
  exact ⟨_, rfl, h.2.symm, h.1⟩

theorem isKey (s : ByteArray) (hs : s.size ≤ maxLen) : WideAt.IsKeyLit (ks s) := law9.key (key9 hs)

/-- D says of every key what f says. -/
def Says (D : DataW Value) (f : ByteArray → Option Value) : Prop :=
  ∀ s : ByteArray, s.size ≤ maxLen → (f s = none → Maps.has D (ks s) = false) ∧ ∀ v, f s = some v → Maps.has D (ks s) = true ∧ ∀ z, D.atKey (ks s) z = .held v

/-- Block b is a map of at most n entries, sz of them; at key s lies what f says. -/
def FMap (w : World) (b n : Nat) (f : ByteArray → Option Value) (sz : Nat) : Prop := ∃ D : DataW Value, w.ownsMap Try.prog 9 RV b n D ∧ Maps.size D = sz ∧ Says D f

theorem FMap.kept {w w' : World} {b n sz : Nat} {f : ByteArray → Option Value} (h : FMap w b n f sz) (hb : w'.heap[b]? = w.heap[b]?) : FMap w' b n f sz := by
  obtain ⟨D, ⟨es, clock, h1, h2, h3, h4⟩, h5, h6⟩ := h
  exact ⟨D, ⟨es, clock, hb.trans h1, h2, h3, h4⟩, h5, h6⟩

theorem FMap.lt {w : World} {b n sz : Nat} {f : ByteArray → Option Value} (h : FMap w b n f sz) : b < w.heap.size := by
  obtain ⟨D, h1, _⟩ := h
  exact h1.lt

theorem FMap.block {w : World} {b n sz : Nat} {f : ByteArray → Option Value} (h : FMap w b n f sz) : ∃ es clock, w.heap[b]? = some (.map es clock) := by
  obtain ⟨D, ⟨es, clock, h1, _⟩, _⟩ := h
  exact ⟨es, clock, h1⟩

theorem FMap.below {w w' : World} {b n sz : Nat} {f : ByteArray → Option Value} (h : FMap w b n f sz) (hb : Below w.heap.size w w') : FMap w' b n f sz := h.kept (hb.block b h.lt)

theorem FMap.mono {w : World} {b n n' sz : Nat} {f : ByteArray → Option Value} (h : FMap w b n f sz) (hn : n ≤ n') : FMap w b n' f sz := by
  obtain ⟨D, h1, h2⟩ := h
  exact ⟨D, h1.mono hn, h2⟩

theorem FMap.congr {w : World} {b n sz : Nat} {f g : ByteArray → Option Value} (h : FMap w b n f sz) (hfg : ∀ s : ByteArray, s.size ≤ maxLen → f s = g s) : FMap w b n g sz := by
  obtain ⟨D, h1, h2, h3⟩ := h
  exact ⟨D, h1, h2, fun s hs => by rw [← hfg s hs]; exact h3 s hs⟩

theorem FMap.made (w : World) : FMap (w.alloc (.map #[] 0)) w.heap.size 0 (fun _ => none) 0 :=
  ⟨.map [], World.ownsMap_made w _ _ _, rfl, fun s _ => ⟨fun _ => rfl, fun v h => by cases h⟩⟩

theorem says_put {D : DataW Value} {f : ByteArray → Option Value} (hD : Maps.IsMap D) (h : Says D f) {s : ByteArray} (hs : s.size ≤ maxLen) (v : Value) : Says (D.put (ks s) (.held v)) (fun x => if x = s then some v else f x) := by
  intro x hx
  by_cases e : x = s
  · subst e
    refine ⟨fun h => by simp at h, fun u hu => ?_⟩
    simp only [if_true, Option.some.injEq] at hu
    subst hu
    exact ⟨Maps.has_put_same hD (isKey x hx) _, fun z => Maps.atKey_put_same hD (isKey x hx) _ z⟩
  · simp only [if_neg e]
    have hne : ks x ≠ ks s := fun h => e (ks_inj h)
    rw [Maps.has_put_other hne]
    exact ⟨(h x hx).1, fun u hu => ⟨((h x hx).2 u hu).1, fun z => by rw [Maps.atKey_put_other hne]; exact ((h x hx).2 u hu).2 z⟩⟩

theorem isMap_of {w : World} {b n : Nat} {D : DataW Value} (h : w.ownsMap Try.prog 9 RV b n D) : Maps.IsMap D := by
  obtain ⟨es, clock, _, _, _, rfl⟩ := h
  exact ⟨_, rfl⟩

/-- 'm[s] = v'. -/
theorem FMap.update {w : World} {b n sz : Nat} {f : ByteArray → Option Value} (h : FMap w b n f sz) {t e : TypeId} (ht : Try.prog.underlying t = some (.map 9 e)) (hn : n < maxLen) {s : ByteArray} (hs : s.size ≤ maxLen) (v : Value) :
    ∃ w' sz', (Instr.mapUpdate t (.map (some b)) (.string s) v).run Try.prog w = .ok () w' ∧ FMap w' b (n + 1) (fun x => if x = s then some v else f x) sz' ∧ w.grownBy w' (some b) := by
  obtain ⟨D, h1, h2, h3⟩ := h
  obtain ⟨w', r1, r2, r3⟩ := h1.update law9 ht hn (key9 hs) (show RV v = some (.held v, []) from rfl)
  exact ⟨w', _, r1, ⟨_, r2, rfl, says_put (isMap_of h1) h3 hs v⟩, r3⟩

/-- 'v, ok := m[s]', the key being there. -/
theorem FMap.look_ok {w : World} {b n sz : Nat} {f : ByteArray → Option Value} (h : FMap w b n f sz) {t e : TypeId} (ht : Try.prog.underlying t = some (.map 9 e)) {z : Value} (hz : (zeroValue e).run Try.prog w = .ok z w) {s : ByteArray} (hs : s.size ≤ maxLen) {v : Value} (hv : f s = some v) :
    (Instr.lookup t (.map (some b)) (.string s) true).run Try.prog w = .ok (.tuple #[v, .bool true]) w := by
  obtain ⟨D, h1, h2, h3⟩ := h
  obtain ⟨u, ps, hrun, hu⟩ := h1.look_ok law9 ht hz (show RV z = some (.held z, []) from rfl) (key9 hs)
  obtain ⟨q1, q2⟩ := (h3 s hs).2 v hv
  rw [q2] at hu
  simp only [RV, Option.some.injEq, Prod.mk.injEq, DataW.held.injEq] at hu
  rw [hrun, q1, hu.1]

/-- 'm[s]', the key being there. -/
theorem FMap.look {w : World} {b n sz : Nat} {f : ByteArray → Option Value} (h : FMap w b n f sz) {t e : TypeId} (ht : Try.prog.underlying t = some (.map 9 e)) {z : Value} (hz : (zeroValue e).run Try.prog w = .ok z w) {s : ByteArray} (hs : s.size ≤ maxLen) {v : Value} (hv : f s = some v) :
    (Instr.lookup t (.map (some b)) (.string s) false).run Try.prog w = .ok v w := by
  obtain ⟨D, h1, h2, h3⟩ := h
  obtain ⟨u, ps, hrun, hu⟩ := h1.lookup law9 ht hz (show RV z = some (.held z, []) from rfl) (key9 hs)
  obtain ⟨q1, q2⟩ := (h3 s hs).2 v hv
  rw [q2] at hu
  simp only [RV, Option.some.injEq, Prod.mk.injEq, DataW.held.injEq] at hu
  rw [hrun, hu.1]

theorem FMap.len {w : World} {b n sz : Nat} {f : ByteArray → Option Value} (h : FMap w b n f sz) {t e : TypeId} (ht : Try.prog.underlying t = some (.map 9 e)) (ty : TypeId) :
    (Builtin.len_ #[t] ty #[.map (some b)]).run Try.prog w = .ok (.int .i64 sz) w := by
  obtain ⟨D, h1, h2, h3⟩ := h
  rw [h1.len ht ty, h2]

theorem FMap.sz_le {w : World} {b n sz : Nat} {f : ByteArray → Option Value} (h : FMap w b n f sz) : sz ≤ n := by
  obtain ⟨D, h1, h2, h3⟩ := h
  rw [← h2]; exact h1.size_le

/-- A key of a map with string keys is a string's. -/
theorem key_of_has {w : World} {b n : Nat} {D : DataW Value} (h : w.ownsMap Try.prog 9 RV b n D) {kl : Lit} (hk : Maps.has D kl = true) : ∃ s : ByteArray, kl = ks s ∧ s.size ≤ maxLen := by
  obtain ⟨es, clock, hb, F, _, rfl⟩ := h
  obtain ⟨p, hp, hpk⟩ := List.any_eq_true.1 hk
  obtain ⟨x, hx, rfl⟩ := List.mem_map.1 (mem_sorted.1 hp)
  obtain ⟨y, hy⟩ := F.reads x hx
  have hkey := WideElems.rd_key hy
  rw [WideElems.rg_of hy] at hpk
  obtain ⟨s, _, e2, e3⟩ := key9_inv hkey
  have := WideAt.sameKey_eq hpk
  exact ⟨s, by rw [← this, e2], e3⟩

/-- Two maps with the same keys are of one size. -/
theorem FMap.same_size {w w' : World} {b b' n n' sz sz' : Nat} {f g : ByteArray → Option Value} (h : FMap w b n f sz) (h' : FMap w' b' n' g sz') (hfg : ∀ s : ByteArray, s.size ≤ maxLen → (f s).isSome = (g s).isSome) : sz = sz' := by
  obtain ⟨D, h1, h2, h3⟩ := h
  obtain ⟨D', h1', h2', h3'⟩ := h'
  subst h2
  subst h2'
  have hhas : ∀ kl, Maps.has D kl = Maps.has D' kl := by
    intro kl
    cases hk : Maps.has D kl with
    | true =>
      obtain ⟨s, rfl, hs⟩ := key_of_has h1 hk
      cases hf : f s with
      | none => rw [(h3 s hs).1 hf] at hk; cases hk
      | some v =>
        have := hfg s hs
        rw [hf] at this
        cases hg : g s with
        | none => rw [hg] at this; cases this
        | some u => exact (((h3' s hs).2 u hg).1).symm
    | false =>
      cases hk' : Maps.has D' kl with
      | false => rfl
      | true =>
        obtain ⟨s, rfl, hs⟩ := key_of_has h1' hk'
        cases hg : g s with
        | none => rw [(h3' s hs).1 hg] at hk'; cases hk'
        | some v =>
          have := hfg s hs
          rw [hg] at this
          cases hf : f s with
          | none => rw [hf] at this; cases this
          | some u => rw [((h3 s hs).2 u hf).1] at hk; cases hk
  obtain ⟨es, rfl, s1, k1⟩ := h1.canon law9
  obtain ⟨es', rfl, s2, k2⟩ := h1'.canon law9
  have e := Maps.eq_of_mem_rising (H := Value) (l₁ := es.map fun p => (p.1, .nil)) (l₂ := es'.map fun p => (p.1, .nil)) (by rw [List.pairwise_map]; exact s1) (by rw [List.pairwise_map]; exact s2) (by
    have key : ∀ (es es' : List (Lit × DataW Value)), (∀ p ∈ es, WideAt.IsKeyLit p.1) → (∀ kl, Maps.has (.map es) kl = Maps.has (.map es') kl) → ∀ p, p ∈ es.map (fun p => (p.1, (.nil : DataW Value))) → p ∈ es'.map (fun p => (p.1, (.nil : DataW Value))) := by
      intro es es' hk hh p hp
      obtain ⟨q, hq, rfl⟩ := List.mem_map.1 hp
      have : Maps.has (.map es) q.1 = true := List.any_eq_true.2 ⟨q, hq, WideAt.sameKey_self (hk q hq)⟩
      rw [hh] at this
      obtain ⟨q', hq', hqk⟩ := List.any_eq_true.1 this
      exact List.mem_map.2 ⟨q', hq', by rw [WideAt.sameKey_eq hqk]⟩
    exact fun p => ⟨key es es' k1 hhas p, key es' es k2 (fun kl => (hhas kl).symm) p⟩)
  have := congrArg List.length e
  simpa [Maps.size] using this

/-- 'for k, v := range m' under way: 'left s': the entry at s is still to come; cnt of them. -/
def FRng (w : World) (b r n : Nat) (f : ByteArray → Option Value) (left : ByteArray → Bool) (cnt : Nat) : Prop :=
  ∃ (D : DataW Value) (lf : Lit → Bool), w.ranges Try.prog 9 RV b r n D lf cnt ∧ Says D f ∧ ∀ s : ByteArray, s.size ≤ maxLen → left s = lf (ks s)

theorem FRng.kept {w w' : World} {b r n cnt : Nat} {f : ByteArray → Option Value} {left : ByteArray → Bool} {row : Option Nat} (h : FRng w b r n f left cnt) (hg : w.grownBy w' row) (hb : some b ≠ row) (hr : some r ≠ row) : FRng w' b r n f left cnt := by
  obtain ⟨D, lf, h1, h2, h3⟩ := h
  exact ⟨D, lf, h1.kept hg hb hr, h2, h3⟩

theorem FRng.lt {w : World} {b r n cnt : Nat} {f : ByteArray → Option Value} {left : ByteArray → Bool} (h : FRng w b r n f left cnt) : b < w.heap.size ∧ r < w.heap.size := by
  obtain ⟨D, lf, h1, _⟩ := h
  exact ⟨h1.owns.lt, h1.lt⟩

theorem FRng.ne {w : World} {b r n cnt : Nat} {f : ByteArray → Option Value} {left : ByteArray → Bool} (h : FRng w b r n f left cnt) : r ≠ b := by
  obtain ⟨D, lf, h1, _⟩ := h
  exact h1.ne

theorem FRng.left_eq {w : World} {b r n cnt : Nat} {f : ByteArray → Option Value} {left : ByteArray → Bool} (h : FRng w b r n f left cnt) : w.rangeLeft b r = cnt := by
  obtain ⟨D, lf, h1, _⟩ := h
  exact h1.left_eq

theorem grown_below {w w' : World} (h : w.grownBy w' none) : Below w.heap.size w w' := ⟨h.os, h.tape, h.output, h.size, fun k hk => h.block k hk (by simp)⟩

theorem below_grown {w w' : World} (h : Below w.heap.size w w') (row : Option Nat) : w.grownBy w' row := ⟨h.os, h.tape, h.output, h.size, fun k hk _ => h.block k hk⟩

theorem FMap.range {w : World} {b n sz : Nat} {f : ByteArray → Option Value} (h : FMap w b n f sz) {t e : TypeId} (ht : Try.prog.underlying t = some (.map 9 e)) :
    ∃ w', (Instr.range t (.map (some b))).run Try.prog w = .ok (.pointer (some ⟨w.heap.size, 0, none⟩)) w' ∧ FRng w' b w.heap.size n f (fun s => (f s).isSome) sz ∧ w.grownBy w' none ∧ w'.heap.size = w.heap.size + 1 := by
  obtain ⟨D, h1, h2, h3⟩ := h
  obtain ⟨w', r1, r2, r3, r4⟩ := h1.range law9 ht
  rw [h2] at r2
  refine ⟨w', r1, ⟨D, _, r2, h3, fun s hs => ?_⟩, r3, r4⟩
  show (f s).isSome = Maps.has D (ks s)
  cases hf : f s with
  | none => rw [(h3 s hs).1 hf]; rfl
  | some v => rw [((h3 s hs).2 v hf).1]; rfl

theorem FRng.next {w : World} {b r n cnt : Nat} {f : ByteArray → Option Value} {left : ByteArray → Bool} (h : FRng w b r n f left cnt) (ty : TypeId) :
    (cnt = 0 ∧ (∀ s : ByteArray, s.size ≤ maxLen → left s = false) ∧ (Instr.next (.pointer (some ⟨r, 0, none⟩)) false ty).run Try.prog w = .ok (.tuple #[.bool false]) w) ∨
    ∃ (s : ByteArray) (v : Value) (w' : World) (cnt' : Nat), s.size ≤ maxLen ∧ left s = true ∧ f s = some v ∧ (Instr.next (.pointer (some ⟨r, 0, none⟩)) false ty).run Try.prog w = .ok (.tuple #[.bool true, .string s, v]) w' ∧
      FRng w' b r n f (fun x => left x && !decide (x = s)) cnt' ∧ cnt' < cnt ∧ w.grownBy w' (some r) ∧ w'.heap.size = w.heap.size ∧ (Instr.entry (.pointer (some ⟨r, 0, none⟩))).run Try.prog w' = .ok (.tuple #[.string s, v]) w' := by
  obtain ⟨D, lf, h1, h2, h3⟩ := h
  rcases h1.next law9 ty with ⟨h0, hl, hrun⟩ | ⟨key, v, kl, y, w', cnt', hkey, hlk, hv, hat, hrun, hrg, hlt, hgr, hsz, hen⟩
  · exact .inl ⟨h0, fun s hs => by rw [h3 s hs, hl], hrun⟩
  · obtain ⟨s, rfl, rfl, hs⟩ := key9_inv hkey
    simp only [RV, Option.some.injEq] at hv
    subst hv
    refine .inr ⟨s, v, w', cnt', hs, by rw [h3 s hs]; exact hlk, ?_, hrun, ⟨D, _, hrg, h2, fun x hx => ?_⟩, hlt, hgr, hsz, hen⟩
    · cases hf : f s with
      | none =>
        have := (h2 s hs).1 hf
        rw [Maps.has_true_of_atKey hat] at this
        cases this
      | some u =>
        have := ((h2 s hs).2 u hf).2 .nil
        rw [hat] at this
        simp only [DataW.held.injEq] at this
        rw [this]
    · show (left x && !decide (x = s)) = (lf (ks x) && !(ks x).sameKey (ks s))
      rw [h3 x hx]
      by_cases e : x = s
      · subst e
        rw [WideAt.sameKey_self (isKey x hx)]
        simp
      · rw [Maps.sameKey_ne (fun h => e (ks_inj h))]
        simp [e]

end Go.Proofs.Qxb6603619a.Crd
