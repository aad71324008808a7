import Derived.Test.Qxb6603619aDA
import Derived.Deep.Slices
namespace Go.Proofs.Qxb6603619a.Crd
open Go.RowKit
set_option linter.unusedVariables false
set_option linter.unusedSimpArgs false

/-! ### The tree that a DSchema is -/

/-- A node: HasDefault, Default, Format; is Members nil, how many members, their names and schemas; Values; Items. -/
structure Nd (α : Type) where
  hd : Bool
  df : ByteArray
  fm : ByteArray
  mn : Bool
  ml : Nat
  nm : Nat → ByteArray
  tm : Nat → α
  va : Option α
  ia : Option α

/-- Trees of depth at most n. -/
def T : Nat → Type
  | 0 => Unit
  | n + 1 => Nd (T n)

def tdef : (n : Nat) → T n
  | 0 => ()
  | n + 1 => (⟨false, ByteArray.empty, ByteArray.empty, true, 0, fun _ => ByteArray.empty, fun _ => tdef n, none, none⟩ : Nd (T n))

/-- The last index below k with that name. -/
def lastOf (nm : Nat → ByteArray) : Nat → ByteArray → Option Nat
  | 0, _ => none
  | k + 1, s => if nm k = s then some k else lastOf nm k s

theorem lastOf_lt {nm : Nat → ByteArray} : ∀ {k : Nat} {s : ByteArray} {j : Nat}, lastOf nm k s = some j → j < k ∧ nm j = s
  | 0, _, _, h => by cases h
  | k + 1, s, j, h => by
    unfold lastOf at h
    split at h
    · next e => cases h; exact ⟨Nat.lt_succ_self _, e⟩
    · obtain ⟨h1, h2⟩ := lastOf_lt h
      exact ⟨by omega, h2⟩

theorem lastOf_some {nm : Nat → ByteArray} : ∀ {k j : Nat}, j < k → ∃ i, lastOf nm k (nm j) = some i
  | 0, j, h => absurd h (Nat.not_lt_zero _)
  | k + 1, j, h => by
    unfold lastOf
    split
    · exact ⟨k, rfl⟩
    · next e => exact lastOf_some (by rcases Nat.lt_succ_iff_lt_or_eq.1 h with h1 | h1; exact h1; subst h1; exact absurd rfl e)

def optB {α : Type} (f : α → Bool) : Option α → Bool
  | none => false
  | some a => f a

/-- Does the node, or one below it as a map keeps them, give a default? -/
def givesN {α : Type} (t : Nd α) (sub : α → Bool) : Bool :=
  t.hd || (List.range t.ml).any (fun j => decide (lastOf t.nm t.ml (t.nm j) = some j) && sub (t.tm j)) || optB sub t.va || optB sub t.ia

def gives : (n : Nat) → T n → Bool
  | 0, _ => false
  | n + 1, t => givesN (α := T n) t (gives n)

/-- Where a pointer to a subtree leads. -/
def SPtr {α : Type} (x : Option α) (sub : α → Nat → Nat → Prop) (p : Option Addr) : Prop :=
  match x with
  | none => p = none
  | some a => ∃ b o, p = some ⟨b, o, none⟩ ∧ sub a b o

structure SNode {α : Type} (L : Nat) (w : World) (t : Nd α) (sub : α → Nat → Nat → Prop) (b o : Nat) (ma : Option Addr) (mc : Nat) (pv pi : Option Addr) : Prop where
  c0 : w.cell? ⟨b, o, none⟩ = some (.bool t.hd)
  c1 : w.cell? ⟨b, o + 1, none⟩ = some (.string t.df)
  c2 : w.cell? ⟨b, o + 2, none⟩ = some (.string t.fm)
  c3 : w.cell? ⟨b, o + 3, none⟩ = some (.slice ma t.ml mc)
  c4 : w.cell? ⟨b, o + 4, none⟩ = some (.pointer pv)
  c5 : w.cell? ⟨b, o + 5, none⟩ = some (.pointer pi)
  sdf : t.df.size ≤ 140737488355328
  sfm : t.fm.size ≤ 140737488355328
  lml : t.ml ≤ L
  nil : ma.isNone = t.mn
  mem : 0 < t.ml → ∃ mb mo, ma = some ⟨mb, mo, none⟩ ∧ ∀ j, j < t.ml → w.cell? ⟨mb, mo + j * 7, none⟩ = some (.string (t.nm j)) ∧ (t.nm j).size ≤ 140737488355328 ∧ sub (t.tm j) mb (mo + j * 7 + 1)
  vs : SPtr t.va sub pv
  is : SPtr t.ia sub pi

/-- At offset o of block b lies a DSchema that reads as t; each list of members is at most L long. -/
def S (L : Nat) : (n : Nat) → World → T n → Nat → Nat → Prop
  | 0, _, _, _, _ => False
  | n + 1, w, t, b, o => ∃ ma mc pv pi, SNode (α := T n) L w t (S L n w) b o ma mc pv pi

theorem cell_lt {w : World} {a : Addr} {v : Value} (h : w.cell? a = some v) : a.block < w.heap.size := by
  unfold World.cell? at h
  split at h
  · next he => exact (Array.getElem?_eq_some_iff.1 he).1
  · cases h

theorem SPtr.mono {α : Type} {x : Option α} {sub sub' : α → Nat → Nat → Prop} {p : Option Addr} (h : SPtr x sub p) (hs : ∀ a b o, sub a b o → sub' a b o) : SPtr x sub' p := by
  cases x with
  | none => exact h
  | some a =>
    obtain ⟨b, o, e, h'⟩ := h
    exact ⟨b, o, e, hs _ _ _ h'⟩

theorem SNode.below {α : Type} {L : Nat} {w w' : World} {t : Nd α} {sub sub' : α → Nat → Nat → Prop} {b o : Nat} {ma : Option Addr} {mc : Nat} {pv pi : Option Addr} (h : SNode L w t sub b o ma mc pv pi) (hb : Below w.heap.size w w') (hs : ∀ a b o, sub a b o → sub' a b o) : SNode L w' t sub' b o ma mc pv pi := by
  refine ⟨(hb.cell (cell_lt h.c0)).trans h.c0, (hb.cell (cell_lt h.c1)).trans h.c1, (hb.cell (cell_lt h.c2)).trans h.c2, (hb.cell (cell_lt h.c3)).trans h.c3, (hb.cell (cell_lt h.c4)).trans h.c4, (hb.cell (cell_lt h.c5)).trans h.c5, h.sdf, h.sfm, h.lml, h.nil, fun h0 => ?_, h.vs.mono hs, h.is.mono hs⟩
  obtain ⟨mb, mo, e, hm⟩ := h.mem h0
  refine ⟨mb, mo, e, fun j hj => ?_⟩
  obtain ⟨g1, g2, g3⟩ := hm j hj
  exact ⟨(hb.cell (cell_lt g1)).trans g1, g2, hs _ _ _ g3⟩

theorem S.below {L : Nat} : ∀ {n : Nat} {w w' : World} {t : T n} {b o : Nat}, S L n w t b o → Below w.heap.size w w' → S L n w' t b o
  | 0, _, _, _, _, _, h, _ => h
  | n + 1, w, w', t, b, o, ⟨ma, mc, pv, pi, h⟩, hb => ⟨ma, mc, pv, pi, SNode.below h hb fun a b o h => S.below h hb⟩

/-- A reading serves at every greater depth. -/
theorem S.up {L : Nat} {w : World} : ∀ {n : Nat} {t : T n} {b o : Nat}, S L n w t b o → ∃ t' : T (n + 1), S L (n + 1) w t' b o
  | 0, _, _, _, h => h.elim
  | n + 1, t, b, o, ⟨ma, mc, pv, pi, h⟩ => by
    have t0 : Nd (T n) := t
    have opt : ∀ (x : Option (T n)) (p : Option Addr), SPtr x (S L n w) p → ∃ x' : Option (T (n + 1)), SPtr x' (S L (n + 1) w) p := by
      intro x p hx
      cases x with
      | none => exact ⟨none, hx⟩
      | some a =>
        obtain ⟨b, o, e, h'⟩ := hx
        obtain ⟨a', ha'⟩ := S.up h'
        exact ⟨some a', b, o, e, ha'⟩
    obtain ⟨va', hva⟩ := opt _ _ h.vs
    obtain ⟨ia', hia⟩ := opt _ _ h.is
    rcases Nat.eq_zero_or_pos (t : Nd (T n)).ml with hz | hpos
    · exact ⟨(⟨(t : Nd (T n)).hd, (t : Nd (T n)).df, (t : Nd (T n)).fm, (t : Nd (T n)).mn, (t : Nd (T n)).ml, (t : Nd (T n)).nm, fun _ => tdef (n + 1), va', ia'⟩ : Nd (T (n + 1))), ma, mc, pv, pi,
        ⟨h.c0, h.c1, h.c2, h.c3, h.c4, h.c5, h.sdf, h.sfm, h.lml, h.nil, fun h0 => absurd h0 (by show ¬ 0 < (t : Nd (T n)).ml; omega), hva, hia⟩⟩
    · obtain ⟨mb, mo, e, hm⟩ := h.mem hpos
      obtain ⟨f, hf⟩ := @Go.Deep.choose_lt (T (n + 1)) ⟨tdef (n + 1)⟩ (t : Nd (T n)).ml (fun j a => S L (n + 1) w a mb (mo + j * 7 + 1)) (fun j hj => S.up (hm j hj).2.2)
      exact ⟨(⟨(t : Nd (T n)).hd, (t : Nd (T n)).df, (t : Nd (T n)).fm, (t : Nd (T n)).mn, (t : Nd (T n)).ml, (t : Nd (T n)).nm, f, va', ia'⟩ : Nd (T (n + 1))), ma, mc, pv, pi,
        ⟨h.c0, h.c1, h.c2, h.c3, h.c4, h.c5, h.sdf, h.sfm, h.lml, h.nil, fun _ => ⟨mb, mo, e, fun j hj => ⟨(hm j hj).1, (hm j hj).2.1, hf j hj⟩⟩, hva, hia⟩⟩

theorem S.le {L : Nat} {w : World} {n m : Nat} (hnm : n ≤ m) {b o : Nat} (h : ∃ t : T n, S L n w t b o) : ∃ t : T m, S L m w t b o := by
  obtain ⟨d, rfl⟩ := Nat.exists_eq_add_of_le hnm
  clear hnm
  induction d with
  | zero => exact h
  | succ d ih =>
    obtain ⟨t, ht⟩ := ih
    exact S.up ht

/-! ### The crd.Schema that matches it -/

/-- The 29 cells of a crd.Schema. -/
def sch (vd : Value) (vf : ByteArray) (vp va vi : Value) (pl : Bool) : Array Value :=
  #[.int .i64 0, vd, .string vf, vp, .slice none 0 0, va, vi, .bool false, .bool false, .bool false, .bool false, .slice none 0 0, .string ByteArray.empty, .slice none 0 0, .pointer none, .pointer none, .pointer none, .pointer none, .pointer none, .pointer none,
    .string ByteArray.empty, .string ByteArray.empty, .bool false, .bool false, .string ByteArray.empty, .int .i64 0, .slice none 0 0, .bool pl, .bool false]

def dflt {α : Type} (kp : Bool) (t : Nd α) : Value := if kp && t.hd then .iface 9 (.string t.df) else .nilIface

def pf (nm : Nat → ByteArray) (ml : Nat) (B : Nat → Nat) (s : ByteArray) : Option Value := (lastOf nm ml s).map fun j => .pointer (some ⟨B j, 0, none⟩)

def MPtr {α : Type} (x : Option α) (sub : α → Nat → Prop) (v : Value) : Prop :=
  match x with
  | none => v = .pointer none
  | some a => ∃ b, v = .pointer (some ⟨b, 0, none⟩) ∧ sub a b

def MProps {α : Type} (P : Nat → Prop) (w : World) (t : Nd α) (sub : α → Nat → Prop) (vp : Value) : Prop :=
  ((t.mn = true ∧ t.ml = 0) ∧ vp = .map none) ∨ (t.mn = false ∧ ∃ mb cnt sz B, vp = .map (some mb) ∧ P mb ∧ cnt ≤ 65536 ∧ FMap w mb cnt (pf t.nm t.ml B) sz ∧ (∀ j, j < t.ml → lastOf t.nm t.ml (t.nm j) = some j → sub (t.tm j) (B j)) ∧ ∀ j, j < t.ml → (t.nm j).size ≤ maxLen)

structure MNode {α : Type} (P : Nat → Prop) (w : World) (kp pl : Bool) (t : Nd α) (sub : α → Nat → Prop) (s : Nat) (vp va vi : Value) : Prop where
  blk : w.heap[s]? = some (.cells (sch (dflt kp t) t.fm vp va vi pl) 49 (0, 0))
  own : P s
  ps : MProps P w t sub vp
  vs : MPtr t.va sub va
  is : MPtr t.ia sub vi

/-- Block s is a crd.Schema of t's shape, t's defaults in it where kp; its plain marks: unset (md false), or set where nothing below gives a default. P holds of all its blocks. -/
def M (P : Nat → Prop) : (n : Nat) → World → Bool → Bool → T n → Nat → Prop
  | 0, _, _, _, _, _ => False
  | n + 1, w, kp, md, t, s => ∃ vp va vi, MNode (α := T n) P w kp (md && !(kp && gives (n + 1) t)) t (M P n w kp md) s vp va vi

theorem MPtr.mono {α : Type} {x : Option α} {sub sub' : α → Nat → Prop} {v : Value} (h : MPtr x sub v) (hs : ∀ a b, sub a b → sub' a b) : MPtr x sub' v := by
  cases x with
  | none => exact h
  | some a =>
    obtain ⟨b, e, h'⟩ := h
    exact ⟨b, e, hs _ _ h'⟩

/-- Where the blocks that it lies in are as they were. -/
theorem M.kept {P P' : Nat → Prop} : ∀ {n : Nat} {w w' : World} {kp md : Bool} {t : T n} {s : Nat}, M P n w kp md t s → (∀ d, P d → d < w.heap.size → w'.heap[d]? = w.heap[d]?) → (∀ d, P d → d < w.heap.size → P' d) → M P' n w' kp md t s
  | 0, _, _, _, _, _, _, h, _, _ => h
  | n + 1, w, w', kp, md, t, s, ⟨vp, va, vi, h⟩, hb, hP => by
    refine ⟨vp, va, vi, ⟨(hb s h.own (Array.getElem?_eq_some_iff.1 h.blk).1).trans h.blk, hP _ h.own (Array.getElem?_eq_some_iff.1 h.blk).1, ?_, h.vs.mono fun a b h => M.kept h hb hP, h.is.mono fun a b h => M.kept h hb hP⟩⟩
    rcases h.ps with h | ⟨h1, mb, cnt, sz, B, h2, h0, h3, h4, h5, h6⟩
    · exact .inl h
    · exact .inr ⟨h1, mb, cnt, sz, B, h2, hP _ h0 h4.lt, h3, h4.kept (hb mb h0 h4.lt), fun j hj hl => M.kept (h5 j hj hl) hb hP, h6⟩

theorem M.below {P : Nat → Prop} {n : Nat} {w w' : World} {kp md : Bool} {t : T n} {s : Nat} (h : M P n w kp md t s) (hb : Below w.heap.size w w') : M P n w' kp md t s :=
  h.kept (fun d _ hd => hb.block d hd) (fun _ h _ => h)

theorem M.weaken {P P' : Nat → Prop} {n : Nat} {w : World} {kp md : Bool} {t : T n} {s : Nat} (h : M P n w kp md t s) (hP : ∀ d, P d → d < w.heap.size → P' d) : M P' n w kp md t s :=
  h.kept (fun d _ hd => rfl) hP

theorem M.lt {P : Nat → Prop} : ∀ {n : Nat} {w : World} {kp md : Bool} {t : T n} {s : Nat}, M P n w kp md t s → s < w.heap.size
  | 0, _, _, _, _, _, h => h.elim
  | n + 1, w, kp, md, t, s, ⟨vp, va, vi, h⟩ => (Array.getElem?_eq_some_iff.1 h.blk).1

end Go.Proofs.Qxb6603619a.Crd
