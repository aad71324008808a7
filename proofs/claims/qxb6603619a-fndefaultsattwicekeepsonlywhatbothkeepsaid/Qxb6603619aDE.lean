import Derived.Test.Qxb6603619aDD
import Derived.Deep.Cut
import Derived.Deep.CutRange
import Derived.Deep.RegionHeld3
import Derived.Deep.DrawnRows
namespace Go.Proofs.Qxb6603619a.Crd
open Go.RowKit
set_option linter.unusedVariables false
set_option linter.unusedSimpArgs false

/-- dBuild under way: the new Schema's block; its Properties, AdditionalProperties and Items, as far as they are made. -/
def Bd {n : Nat} (w wc : World) (t : Nd (T n)) (q1 q2 q3 : Bool) : Prop := ∃ vp va vi, wc.heap[w.heap.size]? = some (.cells (sch (dflt true t) t.fm vp va vi false) 49 (0, 0)) ∧
  (if q1 then MProps (w.heap.size < ·) wc t (M (w.heap.size < ·) n wc true false) vp else vp = .map none) ∧
  (if q2 then MPtr t.va (M (w.heap.size < ·) n wc true false) va else va = .pointer none) ∧
  (if q3 then MPtr t.ia (M (w.heap.size < ·) n wc true false) vi else vi = .pointer none) ∧ Below w.heap.size w wc

/-- In the loop over the members. -/
def BdL {n : Nat} (w wr : World) (t : Nd (T n)) (k : Nat) : Prop := ∃ sz B, wr.heap[w.heap.size]? = some (.cells (sch (dflt true t) t.fm (.map (some (w.heap.size + 1))) (.pointer none) (.pointer none) false) 49 (0, 0)) ∧
  FMap wr (w.heap.size + 1) k (pf t.nm k B) sz ∧ (∀ j, j < k → M (w.heap.size + 1 < ·) n wr true false (t.tm j) (B j)) ∧ Below w.heap.size w wr

theorem make42 (n : Int) (w : World) : (Instr.makeMap 42 (some (.int .i64 n))).run Try.prog w = .ok (.map (some w.heap.size)) (w.alloc (.map #[] 0)) := by
  simp [Instr.makeMap, run_underlying Try.underlying42, asInt, asIntOf, Result.andThen]

theorem Bd.blk0 {n : Nat} {w wc : World} {t : Nd (T n)} (h : Bd w wc t false false false) : wc.heap[w.heap.size]? = some (.cells (sch (dflt true t) t.fm (.map none) (.pointer none) (.pointer none) false) 49 (0, 0)) := by
  obtain ⟨vp, va, vi, h1, h2, h3, h4, h5⟩ := h
  simp only [Bool.false_eq_true, if_false] at h2 h3 h4
  subst h2; subst h3; subst h4
  exact h1

theorem Bd.bel {n : Nat} {w wc : World} {t : Nd (T n)} {q1 q2 q3 : Bool} (h : Bd w wc t q1 q2 q3) : Below w.heap.size w wc := by
  obtain ⟨vp, va, vi, h1, h2, h3, h4, h5⟩ := h
  exact h5

theorem Bd.at6 {n : Nat} {w wc w6 : World} {t : Nd (T n)} {q1 q2 q3 : Bool} (h : Bd w wc t q1 q2 q3) (hb : Below wc.heap.size wc w6) :
    ∃ x5, w6.cell? ⟨w.heap.size, 5, none⟩ = some x5 ∧ w6.frozen? ⟨w.heap.size, 5, none⟩ = false ∧ ∃ x6, w6.cell? ⟨w.heap.size, 6, none⟩ = some x6 ∧ w6.frozen? ⟨w.heap.size, 6, none⟩ = false := by
  obtain ⟨vp, va, vi, h1, h2, h3, h4, h5⟩ := h
  have := schC ((hb.block _ (Array.getElem?_eq_some_iff.1 h1).1).trans h1)
  exact ⟨_, this.c5, this.fr 5, _, this.c6, this.fr 6⟩

theorem Bd.va_none {n : Nat} {w wc : World} {t : Nd (T n)} (h : Bd w wc t true false false) (hn : t.va = none) : Bd w wc t true true false := by
  obtain ⟨vp, va, vi, h1, h2, h3, h4, h5⟩ := h
  refine ⟨vp, va, vi, h1, h2, ?_, h4, h5⟩
  rw [hn]; exact h3

theorem Bd.ia_none {n : Nat} {w wc : World} {t : Nd (T n)} (h : Bd w wc t true true false) (hn : t.ia = none) : Bd w wc t true true true := by
  obtain ⟨vp, va, vi, h1, h2, h3, h4, h5⟩ := h
  refine ⟨vp, va, vi, h1, h2, h3, ?_, h5⟩
  rw [hn]; exact h4

theorem Bd.setVa {n : Nat} {w wc w6 : World} {t : Nd (T n)} {a : T n} {s6 : Nat} (h : Bd w wc t true false false) (hn : t.va = some a) (hm : M (wc.heap.size ≤ ·) n w6 true false a s6) (hb : Below wc.heap.size wc w6) : Bd w (w6.setCell ⟨w.heap.size, 5, none⟩ (.pointer (some ⟨s6, 0, none⟩))) t true true false := by
  obtain ⟨vp, va, vi, h1, h2, h3, h4, h5⟩ := h
  have hlt := (Array.getElem?_eq_some_iff.1 h1).1
  have hs6 := hb.size
  have e2 : ∀ d, w.heap.size < d → (w6.setCell ⟨w.heap.size, 5, none⟩ (.pointer (some ⟨s6, 0, none⟩))).heap[d]? = w6.heap[d]? := fun d hd => Below.heap_setCell _ _ _ _ (by show d ≠ w.heap.size; omega)
  have e1 : ∀ d, w.heap.size < d → d < wc.heap.size → (w6.setCell ⟨w.heap.size, 5, none⟩ (.pointer (some ⟨s6, 0, none⟩))).heap[d]? = wc.heap[d]? := fun d hd hl => (e2 d hd).trans (hb.block d hl)
  refine ⟨vp, _, vi, sch_set5 ((hb.block _ hlt).trans h1) _, ?_, ?_, h4, (h5.trans (hb.mono h5.size)).setCell (Nat.le_refl _) _⟩
  · exact MProps.kept (P := (w.heap.size < ·)) h2 e1 (fun _ h _ => h)
  · rw [hn]
    exact ⟨s6, rfl, hm.kept (fun d hd hl => e2 d (by omega)) (fun d hd _ => by omega)⟩

theorem Bd.setIa {n : Nat} {w wc w6 : World} {t : Nd (T n)} {a : T n} {s6 : Nat} (h : Bd w wc t true true false) (hn : t.ia = some a) (hm : M (wc.heap.size ≤ ·) n w6 true false a s6) (hb : Below wc.heap.size wc w6) : Bd w (w6.setCell ⟨w.heap.size, 6, none⟩ (.pointer (some ⟨s6, 0, none⟩))) t true true true := by
  obtain ⟨vp, va, vi, h1, h2, h3, h4, h5⟩ := h
  have hlt := (Array.getElem?_eq_some_iff.1 h1).1
  have hs6 := hb.size
  have e2 : ∀ d, w.heap.size < d → (w6.setCell ⟨w.heap.size, 6, none⟩ (.pointer (some ⟨s6, 0, none⟩))).heap[d]? = w6.heap[d]? := fun d hd => Below.heap_setCell _ _ _ _ (by show d ≠ w.heap.size; omega)
  have e1 : ∀ d, w.heap.size < d → d < wc.heap.size → (w6.setCell ⟨w.heap.size, 6, none⟩ (.pointer (some ⟨s6, 0, none⟩))).heap[d]? = wc.heap[d]? := fun d hd hl => (e2 d hd).trans (hb.block d hl)
  refine ⟨vp, va, _, sch_set6 ((hb.block _ hlt).trans h1) _, ?_, ?_, ?_, (h5.trans (hb.mono h5.size)).setCell (Nat.le_refl _) _⟩
  · exact MProps.kept (P := (w.heap.size < ·)) h2 e1 (fun _ h _ => h)
  · exact MPtr.kept (P := (w.heap.size < ·)) h3 e1 (fun _ h _ => h)
  · rw [hn]
    exact ⟨s6, rfl, hm.kept (fun d hd hl => e2 d (by omega)) (fun d hd _ => by omega)⟩

theorem Bd.done {n : Nat} {w wc : World} {t : Nd (T n)} (h : Bd w wc t true true true) : M (w.heap.size ≤ ·) (n + 1) wc true false t w.heap.size := by
  obtain ⟨vp, va, vi, h1, h2, h3, h4, h5⟩ := h
  exact ⟨vp, va, vi, ⟨h1, Nat.le_refl _, MProps.kept (P := (w.heap.size < ·)) h2 (fun _ _ _ => rfl) (fun d hd _ => Nat.le_of_lt hd), MPtr.kept (P := (w.heap.size < ·)) h3 (fun _ _ _ => rfl) (fun d hd _ => Nat.le_of_lt hd), MPtr.kept (P := (w.heap.size < ·)) h4 (fun _ _ _ => rfl) (fun d hd _ => Nat.le_of_lt hd)⟩⟩

theorem Bd.nil {n : Nat} {w wc : World} {t : Nd (T n)} (h : Bd w wc t false false false) (hn : t.mn = true ∧ t.ml = 0) : Bd w wc t true false false := by
  obtain ⟨vp, va, vi, h1, h2, h3, h4, h5⟩ := h
  simp only [Bool.false_eq_true, if_false] at h2
  exact ⟨vp, va, vi, h1, .inl ⟨hn, h2⟩, h3, h4, h5⟩

theorem BdL.done {n : Nat} {w wr : World} {t : Nd (T n)} (h : BdL w wr t t.ml) (hl : t.ml ≤ 65536) (hn : t.mn = false) (hnm : ∀ j, j < t.ml → (t.nm j).size ≤ maxLen) : Bd w wr t true false false := by
  obtain ⟨sz, B, h1, h2, h3, h4⟩ := h
  exact ⟨_, _, _, h1, .inr ⟨hn, w.heap.size + 1, t.ml, sz, B, rfl, Nat.lt_succ_self _, hl, h2, fun j hj _ => (h3 j hj).weaken fun d hd _ => (by omega), hnm⟩, rfl, rfl, h4⟩

theorem SNode.mem' {α : Type} {L : Nat} {w : World} {t : Nd α} {sub : α → Nat → Nat → Prop} {b o mc : Nat} {ad : Addr} {pv pi : Option Addr} (h : SNode L w t sub b o (some ad) mc pv pi) (h0 : 0 < t.ml) :
    ∃ mb mo, ad = ⟨mb, mo, none⟩ ∧ ∀ j, j < t.ml → w.cell? ⟨mb, mo + j * 7, none⟩ = some (.string (t.nm j)) ∧ (t.nm j).size ≤ 140737488355328 ∧ sub (t.tm j) mb (mo + j * 7 + 1) := by
  obtain ⟨mb, mo, e, hm⟩ := h.mem h0
  exact ⟨mb, mo, by simpa using e, hm⟩

theorem SNode.nms {α : Type} {L : Nat} {w : World} {t : Nd α} {sub : α → Nat → Nat → Prop} {b o mc : Nat} {ma : Option Addr} {pv pi : Option Addr} (h : SNode L w t sub b o ma mc pv pi) : ∀ j, j < t.ml → (t.nm j).size ≤ maxLen := by
  intro j hj
  obtain ⟨mb, mo, e, hm⟩ := h.mem (by omega)
  have := (hm j hj).2.1
  unfold maxLen; omega

theorem SNode.ml0 {α : Type} {L : Nat} {w : World} {t : Nd α} {sub : α → Nat → Nat → Prop} {b o mc : Nat} {pv pi : Option Addr} (h : SNode L w t sub b o none mc pv pi) : t.ml = 0 := by
  rcases Nat.eq_zero_or_pos t.ml with h0 | h0
  · exact h0
  · obtain ⟨mb, mo, e, hm⟩ := h.mem h0
    cases e

theorem dflt_yes {α : Type} {t : Nd α} (h : t.hd = true) : dflt true t = .iface 9 (.string t.df) := by simp [dflt, h]
theorem dflt_no {α : Type} {t : Nd α} (h : t.hd = false) : dflt true t = .nilIface := by simp [dflt, h]

theorem Bd.start {n : Nat} {w wc : World} {t : Nd (T n)} {v : Value} (hv : dflt true t = v) (h : wc.heap = w.heap.push (.cells (sch v t.fm (.map none) (.pointer none) (.pointer none) false) 49 (0, 0))) (hb : Below w.heap.size w wc) : Bd w wc t false false false ∧ Hid (wc.heap.size = w.heap.size + 1) := by
  refine ⟨⟨_, _, _, ?_, rfl, rfl, rfl, hb⟩, hid ?_⟩
  · rw [h, hv]; simp
  · rw [h]; simp

theorem BdL.start {n : Nat} {w wc : World} {t : Nd (T n)} (h : Bd w wc t false false false) (hs : wc.heap.size = w.heap.size + 1) : BdL w ((wc.setCell ⟨w.heap.size, 3, none⟩ (.map (some (w.heap.size + 1)))).alloc (.map #[] 0)) t 0 := by
  obtain ⟨vp, va, vi, h1, h2, h3, h4, h5⟩ := h
  simp only [Bool.false_eq_true, if_false] at h2 h3 h4
  subst h2; subst h3; subst h4
  have hb := h5.setCell (Nat.le_refl _) (.map (some (w.heap.size + 1))) (p := ⟨w.heap.size, 3, none⟩)
  refine ⟨0, fun _ => 0, ?_, ?_, fun j hj => absurd hj (Nat.not_lt_zero _), hb.alloc hb.size _⟩
  · rw [Below.heap_alloc _ _ _ (by simp [World.setCell]; omega)]; exact sch_set3 h1 _
  · have := FMap.made (wc.setCell ⟨w.heap.size, 3, none⟩ (.map (some (w.heap.size + 1))))
    rw [show (wc.setCell ⟨w.heap.size, 3, none⟩ (.map (some (w.heap.size + 1)))).heap.size = w.heap.size + 1 by simp [World.setCell]; exact hs] at this
    exact this.congr fun s _ => by simp [pf, lastOf]

theorem kB2 {w w' : World} {a1 a2 : Addr} {v1 v2 : Value} (h : w.cell? a1 = some v1 ∧ w.cell? a2 = some v2) (hb : Below w.heap.size w w') : w'.cell? a1 = some v1 ∧ w'.cell? a2 = some v2 :=
  ⟨(hb.cell (cell_lt h.1)).trans h.1, (hb.cell (cell_lt h.2)).trans h.2⟩

theorem kB3 {w w' : World} {a1 a2 a3 : Addr} {v1 v2 v3 : Value} (h : w.cell? a1 = some v1 ∧ w.cell? a2 = some v2 ∧ w.cell? a3 = some v3) (hb : Below w.heap.size w w') : w'.cell? a1 = some v1 ∧ w'.cell? a2 = some v2 ∧ w'.cell? a3 = some v3 :=
  ⟨(hb.cell (cell_lt h.1)).trans h.1, (hb.cell (cell_lt h.2.1)).trans h.2.1, (hb.cell (cell_lt h.2.2)).trans h.2.2⟩

theorem cell_grown {w w' : World} {a : Addr} {v : Value} {mb : Nat} (h : w.cell? a = some v) (hg : w.grownBy w' (some mb)) (hne : a.block ≠ mb) : w'.cell? a = some v := by
  rw [World.cell?_of_block (w := w) (hg.block _ (cell_lt h) (by simpa using hne))]; exact h

theorem kG3 {w w' : World} {a1 a2 a3 : Addr} {v1 v2 v3 : Value} {mb : Nat} (h : w.cell? a1 = some v1 ∧ w.cell? a2 = some v2 ∧ w.cell? a3 = some v3) (hg : w.grownBy w' (some mb)) (h1 : a1.block ≠ mb) (h2 : a2.block ≠ mb) (h3 : a3.block ≠ mb) : w'.cell? a1 = some v1 ∧ w'.cell? a2 = some v2 ∧ w'.cell? a3 = some v3 :=
  ⟨cell_grown h.1 hg h1, cell_grown h.2.1 hg h2, cell_grown h.2.2 hg h3⟩

theorem pf_put {nm : Nat → ByteArray} {k : Nat} {B : Nat → Nat} {s6 : Nat} (x : ByteArray) : (if x = nm k then some (.pointer (some ⟨s6, 0, none⟩)) else pf nm k B x) = pf nm (k + 1) (fun j => if j = k then s6 else B j) x := by
  unfold pf
  simp only [lastOf]
  by_cases h : x = nm k
  · subst h; simp
  · have h' : ¬ nm k = x := fun e => h e.symm
    simp only [if_neg h, if_neg h']
    cases hl : lastOf nm k x with
    | none => rfl
    | some j =>
      have := (lastOf_lt hl).1
      simp [show j ≠ k by omega]

theorem BdL.step {n : Nat} {w wr wx w6 w7 : World} {t : Nd (T n)} {k s6 sz sz7 : Nat} {B : Nat → Nat} (hx : wx.heap = wr.heap)
    (hblk : wr.heap[w.heap.size]? = some (.cells (sch (dflt true t) t.fm (.map (some (w.heap.size + 1))) (.pointer none) (.pointer none) false) 49 (0, 0)))
    (hF : FMap wr (w.heap.size + 1) k (pf t.nm k B) sz) (hM : ∀ j, j < k → M (w.heap.size + 1 < ·) n wr true false (t.tm j) (B j)) (hB : Below w.heap.size w wr)
    (hm : M (wx.heap.size ≤ ·) n w6 true false (t.tm k) s6) (hb : Below wx.heap.size wx w6) 
    (h7 : FMap w7 (w.heap.size + 1) (k + 1) (fun x => if x = t.nm k then some (.pointer (some ⟨s6, 0, none⟩)) else pf t.nm k B x) sz7) (hg : w6.grownBy w7 (some (w.heap.size + 1))) (hxb : Below w.heap.size w wx) : BdL w w7 t (k + 1) := by
  have hlt := hF.lt
  have hsx : wx.heap.size = wr.heap.size := by rw [hx]
  have hs6 := hb.size
  have e6 : ∀ d, d < wr.heap.size → w6.heap[d]? = wr.heap[d]? := fun d hd => by rw [hb.block d (by omega), hx]
  have e7 : ∀ d, d ≠ w.heap.size + 1 → d < w6.heap.size → w7.heap[d]? = w6.heap[d]? := fun d hd hl => hg.block d hl (by simpa using hd)
  refine ⟨sz7, fun j => if j = k then s6 else B j, ?_, h7.congr fun s _ => pf_put s, fun j hj => ?_, below_put (hxb.trans (hb.mono (by omega))) hg (by omega) (Nat.le_refl _)⟩
  · rw [e7 _ (by omega) (by omega), e6 _ (by omega)]; exact hblk
  · by_cases h : j = k
    · subst h
      simp only [if_true]
      exact hm.kept (fun d hd hl => e7 d (by omega) hl) (fun d hd _ => by omega)
    · simp only [if_neg h]
      exact (hM j (by omega)).kept (fun d hd hl => (e7 d (by omega) (by omega)).trans (e6 d hl)) (fun d hd _ => hd)

set_option maxRecDepth 100000 in
set_option maxHeartbeats 4000000 in
theorem build6 : ∀ (n : Nat) (t : T n) (b o : Nat) (w : World), S 65536 n w t b o →
    Calls Try.prog 6 #[.pointer (some ⟨b, o, none⟩)] w fun e w' => ∃ s, e = .returned (.pointer (some ⟨s, 0, none⟩)) ∧ M (w.heap.size ≤ ·) n w' true false t s ∧ Below w.heap.size w w' := by
  intro n
  induction n with
  | zero => intro t b o w h; exact h.elim
  | succ n ih =>
    intro t b o w hS
    have HI := hid ih
    clear ih
    obtain ⟨ma, mc, pv, pi, hn⟩ := hS
    have HN := hid hn
    have c0 := hn.c0
    have c1 := hn.c1
    have c2 := hn.c2
    clear hn
    go_enter Try.func6, Try.ntmps6
    go_upto_if 8 with fail
    go_cut [3] from 5 (fun v wc => v = .pointer (some ⟨w.heap.size, 0, none⟩) ∧ Bd (n := n) w wc t false false false ∧ Hid (wc.heap.size = w.heap.size + 1))
    case first =>
      cases hhd : (t : Nd (T n)).hd with
      | true =>
        rw [hhd] at c0
        have HHD := hid hhd
        clear hhd
        go_wp2_with fail
        go_region_held3 (fun w' => w'.cell? ⟨b, o + 1, none⟩ = some (.string (t : Nd (T n)).df) ∧ w'.cell? ⟨b, o + 2, none⟩ = some (.string (t : Nd (T n)).fm)) (first | exact kB2 ⟨c1, c2⟩ ((Below.refl _ _).drew) | exact kB2 ⟨c1, c2⟩ (((Below.refl _ _).drew).alloc (Nat.le_refl _) _))
          (first | (go_at_call 12; refine (with12 _ _ _).mono ?_; rintro e w' ⟨rfl, rfl⟩))
        go_wp2_with fail
        go_meet
        case rel => exact ⟨rfl, Bd.start (dflt_yes HHD.out) rfl (((Below.refl _ _).alloc (Nat.le_refl _) _).drew)⟩
      | false =>
        rw [hhd] at c0
        have HHD := hid hhd
        clear hhd
        go_wp2_with fail
        go_meet
        case rel =>
          exact ⟨rfl, Bd.start (dflt_no HHD.out) rfl ((Below.refl _ _).alloc (Nat.le_refl _) _)⟩
    case rest =>
      obtain ⟨rfl, hB, hsz⟩ := hcut
      have HB := hid hB
      have hbel : Below w.heap.size w wc := by obtain ⟨_, _, _, _, _, _, _, h⟩ := hB; exact h
      have HBel := hid hbel
      have d3 := (hbel.cell (cell_lt HN.out.c3)).trans HN.out.c3
      have HD3 := hid d3
      clear c0 c1 c2 hbel hB
      have hq := fun (w : World) (a : Option Addr) (n c n' c' : Nat) => run_neq_slice_nil_any (P := Try.prog) w 37 51 a n c n' c' Try.underlying37
      obtain ⟨l, hl⟩ : ∃ l, l = (t : Nd (T n)).ml := ⟨_, rfl⟩
      rw [← hl] at d3
      have HL := hid hl
      clear hl
      go_upto_if 28 with fail
      go_cut [] from 4 (fun wc => Bd (n := n) w wc t true false false)
      case first =>
        cases ma with
        | none =>
          go_wp2_with fail
          go_meet
          case rel => exact HB.out.nil ⟨by rw [← HN.out.nil]; rfl, HN.out.ml0⟩
        | some ad =>
          have hmm := make42
          have hS := hid HB.out.blk0
          have s3 := (schC hS.out).c3
          have sf := (schC hS.out).fr 3
          have HBL := hid (BdL.start HB.out hsz.out)
          have hwc := hsz.out
          go_wp2_with fail
          clear hS s3 sf hwc hmm
          go_loopw [4] (fun i wr => ∃ k : Nat, k ≤ l ∧ i = .int .i64 k ∧ BdL (n := n) w wr t k) (fun i _ => l - (intOf i).toNat)
          case atStart => exact ⟨0, Nat.zero_le _, rfl, HBL.out⟩
          case round =>
            obtain ⟨k, hk, rfl, hL⟩ := hrel
            have HBr := hid hL
            have hbel : Below w.heap.size w wr := by obtain ⟨_, _, _, _, _, h⟩ := hL; exact h
            have d3 : wr.cell? ⟨b, o + 3, none⟩ = some (.slice (some ad) l mc) := by rw [HL.out]; exact (hbel.cell (cell_lt HN.out.c3)).trans HN.out.c3
            have HBe := hid hbel
            clear hL hbel
            by_cases hlt : k < l
            · obtain ⟨mb, mo, rfl, hm⟩ := HN.out.mem' (by rw [← HL.out]; omega)
              obtain ⟨g1, g2, g3⟩ := hm k (by rw [← HL.out]; exact hlt)
              have f1 := (HBe.out.cell (cell_lt g1)).trans g1
              have g3' := S.below g3 HBe.out
              have G3 := hid g3'
              have hb1 : b ≠ w.heap.size + 1 := by have := cell_lt HN.out.c3; simp at this; omega
              have hb2 : mb ≠ w.heap.size + 1 := by have := cell_lt g1; simp at this; omega
              obtain ⟨sz, B, hblk, hF, hM, hbel⟩ := HBr.out
              have s3 := (schC hblk).c3
              have HBlk := hid hblk
              have HF := hid hF
              have HM := hid hM
              have hn9 : (t : Nd (T n)).ml ≤ 65536 := HN.out.lml
              have hk7 : (k : Int) < 70000 := by rw [← HL.out] at hn9; omega
              have hkm : k < maxLen := by unfold maxLen; omega
              have HKm := hid hkm
              have hnk : ((t : Nd (T n)).nm k).size ≤ maxLen := by unfold maxLen; omega
              have HNk := hid hnk
              have hlt' : (k : Int) < (l : Int) := by omega
              have K0 : wr.cell? ⟨w.heap.size, 3, none⟩ = some (.map (some (w.heap.size + 1))) ∧ wr.cell? ⟨b, o + 3, none⟩ = some (.slice (some ⟨mb, mo, none⟩) l mc) ∧ wr.cell? ⟨mb, mo + k * 7, none⟩ = some (.string ((t : Nd (T n)).nm k)) := ⟨s3, d3, f1⟩
              have HK0 := hid K0
              clear hblk hF hM hm g1 g2 g3 g3' hn9 hkm hnk K0 hbel
              go_wp2_with fail
              go_region_held3 (fun w' => w'.cell? ⟨w.heap.size, 3, none⟩ = some (.map (some (w.heap.size + 1))) ∧ w'.cell? ⟨b, o + 3, none⟩ = some (.slice (some ⟨mb, mo, none⟩) l mc) ∧ w'.cell? ⟨mb, mo + k * 7, none⟩ = some (.string ((t : Nd (T n)).nm k)))
                (first | exact kB3 HK0.out ((Below.refl _ _).drew) | exact kB3 (kB3 HK0.out ((Below.refl _ _).drew)) b6 | exact kG3 (kB3 (kB3 HK0.out ((Below.refl _ _).drew)) b6) hg7 (by simp) hb1 hb2)
                (first | (go_at_call 6; refine (HI.out ((t : Nd (T n)).tm k) mb (mo + k * 7 + 1) _ (S.below G3.out ((Below.refl _ _).drew))).mono ?_; rintro e w6 ⟨s6, rfl, m6, b6⟩; have M6 := hid m6; obtain ⟨w7, sz7, hup, hf7, hg7⟩ := FMap.update (HF.out.kept (b6.block _ HF.out.lt)) Try.underlying42 HKm.out HNk.out (.pointer (some ⟨s6, 0, none⟩)); have HF7 := hid hf7; clear m6 hf7))
              go_wp2_with fail
              go_roundw
              case rel => (repeat apply Exists.intro); exact ⟨⟨k + 1, by omega, by go_num, BdL.step (wr := wr) (wx := wr.drew) rfl HBlk.out HF.out HM.out HBe.out M6.out b6 HF7.out hg7 HBe.out.drew⟩, rfl⟩
              case measure => simp [intOf]; omega
            · have hkl : k = l := by omega
              subst hkl
              go_wp2_with fail
              go_meet
              case rel => exact BdL.done (by rw [← HL.out]; exact HBr.out) HN.out.lml (by rw [← HN.out.nil]; rfl) HN.out.nms
      case rest =>
        have HB1 := hid hcut
        have hbel1 := hcut.bel
        have HBel1 := hid hbel1
        have d4 := (hbel1.cell (cell_lt HN.out.c4)).trans HN.out.c4
        clear hcut hbel1 d3 hq
        go_upto_if 71 with fail
        go_cut [] from 67 (fun wc => Bd (n := n) w wc t true true false)
        case first =>
          cases hva : (t : Nd (T n)).va with
          | none =>
            have hp := HN.out.vs
            rw [hva] at hp
            have hp' : pv = none := hp
            subst hp'
            have HVa := hid hva
            clear hp hva
            go_wp2_with fail
            go_meet
            case rel => exact HB1.out.va_none HVa.out
          | some av =>
            have hp := HN.out.vs
            rw [hva] at hp
            obtain ⟨bv, ov, rfl, hsv⟩ := hp
            have HSv := hid (S.below hsv HBel1.out)
            have HVa := hid hva
            clear hva hsv
            go_wp2_with (go_at_call 6; refine (HI.out av bv ov _ HSv.out).mono ?_; rintro e w6 ⟨s6, rfl, m6, b6⟩; have M6 := hid m6; have B6 := hid b6; obtain ⟨x5, h5, f5, x6, h6, f6⟩ := HB1.out.at6 b6; clear m6 b6)
            go_meet
            case rel => exact HB1.out.setVa HVa.out M6.out B6.out
        case rest =>
          have HB2 := hid hcut
          have hbel2 := hcut.bel
          have HBel2 := hid hbel2
          have d5 := (hbel2.cell (cell_lt HN.out.c5)).trans HN.out.c5
          clear hcut hbel2 d4
          go_upto_if 84 with fail
          go_cut [] from 67 (fun wc => Bd (n := n) w wc t true true true)
          case first =>
            cases hia : (t : Nd (T n)).ia with
            | none =>
              have hp := HN.out.is
              rw [hia] at hp
              have hp' : pi = none := hp
              subst hp'
              have HIa := hid hia
              clear hp hia
              go_wp2_with fail
              go_meet
              case rel => exact HB2.out.ia_none HIa.out
            | some av =>
              have hp := HN.out.is
              rw [hia] at hp
              obtain ⟨bv, ov, rfl, hsv⟩ := hp
              have HSv := hid (S.below hsv HBel2.out)
              have HIa := hid hia
              clear hia hsv
              go_wp2_with (go_at_call 6; refine (HI.out av bv ov _ HSv.out).mono ?_; rintro e w6 ⟨s6, rfl, m6, b6⟩; have M6 := hid m6; have B6 := hid b6; obtain ⟨x5, h5, f5, x6, h6, f6⟩ := HB2.out.at6 b6; clear m6 b6)
              go_meet
              case rel => exact HB2.out.setIa HIa.out M6.out B6.out
          case rest =>
            go_wp2_with fail
            go_ret
            exact ⟨_, rfl, hcut.done, hcut.bel⟩

end Go.Proofs.Qxb6603619a.Crd
