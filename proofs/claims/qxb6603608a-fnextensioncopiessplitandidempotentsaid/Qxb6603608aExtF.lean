import Derived.Test.Qxb6603608aExtE
import Derived.Deep.RegionHeld3
import Derived.Deep.DrawnRows
namespace Go.Proofs.Qxb6603608a.Ext
open Go.RowKit
set_option linter.unusedVariables false
set_option linter.unusedSimpArgs false
attribute [local go_sem ↓] Go.wp_at_zero Go.wp_at_succ

/-- An extension whose Id reads z and whose Value reads v; within the law's bounds. -/
structure Good (w : World) (x : X) (z v : List Int) : Prop where
  id : Rd .i64 w x.ia x.il z
  val : Rd .u8 w x.va x.vl v
  inil : x.ia = none → x.ic = 0
  vnil : x.va = none → x.vc = 0
  ile : x.il ≤ 131072
  vle : x.vl ≤ 1048576

theorem Good.below {w w' : World} {x : X} {z v : List Int} (h : Good w x z v) (hb : Below w.heap.size w w') : Good w' x z v :=
  ⟨h.id.below hb, h.val.below hb, h.inil, h.vnil, h.ile, h.vle⟩

theorem XRow.below {w w' : World} {N : Nat} {t : TypeId} {n k : Nat} {E : Nat → X} (h : XRow w N t n k E) (hb : Below w.heap.size w w') : XRow w' N t n k E :=
  World.rowIs.of_block h (hb.block _ (World.rowIs.lt h))

theorem XRow.congr {w : World} {N : Nat} {t : TypeId} {n k : Nat} {E E' : Nat → X} (h : XRow w N t n k E) (he : ∀ j, j < k → E j = E' j) : XRow w N t n k E' := by
  refine World.rowIs.congr h fun j hj => ?_
  by_cases hjk : j < k * 3
  · rw [if_pos hjk, if_pos hjk]
    unfold xc
    rw [he (j / 3) (by omega)]
  · rw [if_neg hjk, if_neg hjk]

theorem Below.two {w w1 w2 : World} (h : Below w.heap.size w w1) (k : Below w1.heap.size w1 w2) : Below w.heap.size w w2 := h.trans (k.mono h.size)

/-- What the drawn region of cloneExts keeps: the three source cells; nothing below w's size has turned. -/
theorem sk {w w1 w2 : World} {b o1 o2 o3 : Nat} {v1 v2 v3 : Value} (hb : b < w.heap.size) (h : w1.cell? ⟨b, o1, none⟩ = some v1 ∧ w1.cell? ⟨b, o2, none⟩ = some v2 ∧ w1.cell? ⟨b, o3, none⟩ = some v3 ∧ Below w.heap.size w w1) (k : Below w.heap.size w1 w2) :
    w2.cell? ⟨b, o1, none⟩ = some v1 ∧ w2.cell? ⟨b, o2, none⟩ = some v2 ∧ w2.cell? ⟨b, o3, none⟩ = some v3 ∧ Below w.heap.size w w2 :=
  ⟨(k.cell (by exact hb)).trans h.1, (k.cell (by exact hb)).trans h.2.1, (k.cell (by exact hb)).trans h.2.2.1, h.2.2.2.trans k⟩

theorem sk' {w w1 w2 : World} {b o1 o2 o3 : Nat} {v1 v2 v3 : Value} (hb : b < w.heap.size) (h : w1.cell? ⟨b, o1, none⟩ = some v1 ∧ w1.cell? ⟨b, o2, none⟩ = some v2 ∧ w1.cell? ⟨b, o3, none⟩ = some v3 ∧ Below w.heap.size w w1) (k : Below w1.heap.size w1 w2) :
    w2.cell? ⟨b, o1, none⟩ = some v1 ∧ w2.cell? ⟨b, o2, none⟩ = some v2 ∧ w2.cell? ⟨b, o3, none⟩ = some v3 ∧ Below w.heap.size w w2 := sk hb h (k.mono h.2.2.2.size)

theorem sk3 {w w1 : World} {b o1 o2 o3 : Nat} {v1 v2 v3 : Value} {k1 k2 k3 : Nat} {u1 u2 u3 : Value} (hb : b < w.heap.size) (h : w1.cell? ⟨b, o1, none⟩ = some v1 ∧ w1.cell? ⟨b, o2, none⟩ = some v2 ∧ w1.cell? ⟨b, o3, none⟩ = some v3 ∧ Below w.heap.size w w1) :
    (((w1.setCell ⟨w.heap.size, k1, none⟩ u1).setCell ⟨w.heap.size, k2, none⟩ u2).setCell ⟨w.heap.size, k3, none⟩ u3).cell? ⟨b, o1, none⟩ = some v1 ∧ (((w1.setCell ⟨w.heap.size, k1, none⟩ u1).setCell ⟨w.heap.size, k2, none⟩ u2).setCell ⟨w.heap.size, k3, none⟩ u3).cell? ⟨b, o2, none⟩ = some v2 ∧
      (((w1.setCell ⟨w.heap.size, k1, none⟩ u1).setCell ⟨w.heap.size, k2, none⟩ u2).setCell ⟨w.heap.size, k3, none⟩ u3).cell? ⟨b, o3, none⟩ = some v3 ∧ Below w.heap.size w (((w1.setCell ⟨w.heap.size, k1, none⟩ u1).setCell ⟨w.heap.size, k2, none⟩ u2).setCell ⟨w.heap.size, k3, none⟩ u3) :=
  sk hb h (((((Below.refl _ w1).setCell (p := ⟨w.heap.size, k1, none⟩) (Nat.le_refl _) u1).setCell (p := ⟨w.heap.size, k2, none⟩) (Nat.le_refl _) u2).setCell (p := ⟨w.heap.size, k3, none⟩) (Nat.le_refl _) u3))

theorem xr {w w' : World} {N : Nat} {t : TypeId} {n k : Nat} {E : Nat → X} (hb : Below w.heap.size w w') (h : XRow w N t n k E) : XRow w' N t n k E := h.below hb

theorem x0_noint (j : Nat) (kk : IntKind) (q : Int) : x0 j ≠ .int kk q := by unfold x0; split <;> simp
theorem xc_noint (E : Nat → X) (j : Nat) (kk : IntKind) (q : Int) : xc E j ≠ .int kk q := by unfold xc; split <;> (try split) <;> simp

/-- A row of extensions holds no integers: integers read elsewhere stand when it is written. -/
theorem Rd.other {W W' : World} {N : Nat} {t : TypeId} {n k : Nat} {E : Nat → X} {kk : IntKind} {a : Option Addr} {l : Nat} {z : List Int} (hrow : XRow W N t n k E) (hr : Rd kk W a l z) (ho : ∀ b, b ≠ N → W'.heap[b]? = W.heap[b]?) : Rd kk W' a l z := by
  refine ⟨hr.1, fun h0 => ?_⟩
  obtain ⟨b, off, e, hc⟩ := hr.2 h0
  refine ⟨b, off, e, fun i hi => ?_⟩
  have hci := hc i hi
  by_cases hbN : b = N
  · subst hbN
    exfalso
    obtain ⟨c, hb, hn, hcc⟩ := hrow
    simp only [World.cell?, hb] at hci
    simp at hci
    have hlt : off + i < n * 3 := by
      have := (Array.getElem?_eq_some_iff.1 hci).1
      omega
    rw [hcc _ hlt] at hci
    simp only [Option.some.injEq] at hci
    split at hci
    · exact xc_noint _ _ _ _ hci
    · exact x0_noint _ _ _ hci
  · rw [World.cell?_of_block (w := W) (w' := W') (ho b hbN)]
    exact hci

theorem Good.other {W W' : World} {N : Nat} {t : TypeId} {n k : Nat} {E : Nat → X} {x : X} {z v : List Int} (hrow : XRow W N t n k E) (hr : Good W x z v) (ho : ∀ b, b ≠ N → W'.heap[b]? = W.heap[b]?) : Good W' x z v :=
  ⟨hr.id.other hrow ho, hr.val.other hrow ho, hr.inil, hr.vnil, hr.ile, hr.vle⟩

theorem step13 {w W : World} {n k : Nat} {E' : Nat → X} {Z V : Nat → List Int} {x : X} (hrow : XRow W w.heap.size 42 n k E') (hgk : ∀ j, j < k → Good W (E' j) (Z j) (V j)) (hnew : Good W x (Z k) (V k)) (hb : Below w.heap.size w W) :
    ∃ E'' : Nat → X, XRow (((W.setCell ⟨w.heap.size, k * 3, none⟩ (.slice x.ia x.il x.ic)).setCell ⟨w.heap.size, k * 3 + 1, none⟩ (.bool x.c)).setCell ⟨w.heap.size, k * 3 + 2, none⟩ (.slice x.va x.vl x.vc)) w.heap.size 42 n (k + 1) E'' ∧
      (∀ j, j < k + 1 → Good (((W.setCell ⟨w.heap.size, k * 3, none⟩ (.slice x.ia x.il x.ic)).setCell ⟨w.heap.size, k * 3 + 1, none⟩ (.bool x.c)).setCell ⟨w.heap.size, k * 3 + 2, none⟩ (.slice x.va x.vl x.vc)) (E'' j) (Z j) (V j)) ∧
      Below w.heap.size w (((W.setCell ⟨w.heap.size, k * 3, none⟩ (.slice x.ia x.il x.ic)).setCell ⟨w.heap.size, k * 3 + 1, none⟩ (.bool x.c)).setCell ⟨w.heap.size, k * 3 + 2, none⟩ (.slice x.va x.vl x.vc)) := by
  have ho : ∀ b, b ≠ w.heap.size → (((W.setCell ⟨w.heap.size, k * 3, none⟩ (.slice x.ia x.il x.ic)).setCell ⟨w.heap.size, k * 3 + 1, none⟩ (.bool x.c)).setCell ⟨w.heap.size, k * 3 + 2, none⟩ (.slice x.va x.vl x.vc)).heap[b]? = W.heap[b]? := fun b hbn => by
    rw [Below.heap_setCell _ _ _ _ hbn, Below.heap_setCell _ _ _ _ hbn, Below.heap_setCell _ _ _ _ hbn]
  refine ⟨fun j => if j = k then x else E' j, ?_, fun j hj => ?_, ((hb.setCell (Nat.le_refl _) _).setCell (Nat.le_refl _) _).setCell (Nat.le_refl _) _⟩
  · have := xrow_step (hrow.congr (E' := fun j => if j = k then x else E' j) (fun j hj => by rw [if_neg (by omega)]))
    simpa using this
  · by_cases e : j = k
    · subst e
      simp only [if_pos]
      exact hnew.other hrow ho
    · simp only [if_neg e]
      exact (hgk j (by omega)).other hrow ho

theorem rdS1 {w w1 : World} {x : X} {z v : List Int} {p q r : Prop} (hg : Good w x z v) (h : p ∧ q ∧ r ∧ Below w.heap.size w w1) : Rd .i64 w1 x.ia x.il z := hg.id.below h.2.2.2
theorem rdS2 {w w1 : World} {x : X} {z v : List Int} {p q r : Prop} (hg : Good w x z v) (h : p ∧ q ∧ r ∧ Below w.heap.size w w1) : Rd .u8 w1 x.va x.vl v := hg.val.below h.2.2.2

set_option maxHeartbeats 4000000 in
theorem clone13 (x : Addr) (n c : Nat) (E : Nat → X) (Z V : Nat → List Int) (w : World) (hn : n ≤ 65536) (hx : XAt w (some x) n E) (hg : ∀ i, i < n → Good w (E i) (Z i) (V i)) :
    Calls Try.prog 13 #[.slice (some x) n c] w fun e w' => ∃ E' : Nat → X, e = .returned (.slice (some ⟨w.heap.size, 0, none⟩) n n) ∧
      XRow w' w.heap.size 42 n n E' ∧ (∀ i, i < n → Good w' (E' i) (Z i) (V i)) ∧ Below w.heap.size w w' := by
  have q27 : ∀ (w : World) (a : Option Addr) (n c n' c' : Nat), (binOp .eql 27 (.slice a n c) (.slice none n' c')).run Try.prog w = .ok (.bool a.isNone) w := fun w a n c n' c' => Lib.run_eql_slice_nil w _ _ a n c n' c' Try.underlying27
  have hmk := make3 27 42 Try.underlying27 info42 n hn
  go_enter Try.func13, Try.ntmps13
  go_wp2
  go_loopw [12] (fun i wr => ∃ (k : Nat) (E' : Nat → X), k ≤ n ∧ i = .int .i64 k ∧ XRow wr w.heap.size 42 n k E' ∧ (∀ j, j < k → Good wr (E' j) (Z j) (V j)) ∧ Below w.heap.size w wr) (fun i _ => n - (intOf i).toNat)
  case atStart => exact ⟨0, E, Nat.zero_le _, rfl, madeCells_x _ _ _ _, fun j hj => absurd hj (Nat.not_lt_zero _), (Below.refl _ _).alloc (Nat.le_refl _) _⟩
  case round =>
    obtain ⟨k, E', hk, rfl, hrow, hgk, hb⟩ := hrel
    by_cases hlt : k < n
    · obtain ⟨b, off, ex, hcell⟩ := hx (by omega)
      simp only [Option.some.injEq] at ex
      subst ex
      obtain ⟨g1, g2, g3⟩ := hcell k hlt
      have f1 := (hb.cell (cell_lt g1)).trans g1
      have f2 := (hb.cell (cell_lt g2)).trans g2
      have f3 := (hb.cell (cell_lt g3)).trans g3
      have hG := hg k hlt
      have hrow0 : XRow wr.drew w.heap.size 42 n k E' := World.rowIs.drew hrow
      have ile : (E k).il ≤ 1048576 := by have := hG.ile; omega
      have hbb : b < w.heap.size := cell_lt g1
      have hbN : b ≠ w.heap.size := by omega
      have hlt' : (k : Int) < (n : Int) := by omega
      have hk0 : (0 : Int) ≤ (k : Int) := by omega
      clear g1 g2 g3 hcell hx
      have HG : Hid (∀ i, i < n → Good w (E i) (Z i) (V i)) := hg
      have HGk : Hid (∀ j, j < k → Good wr (E' j) (Z j) (V j)) := hgk
      clear hg hgk
      go_wp2
      go_region_held3 (fun w' => w'.cell? ⟨b, off + k * 3, none⟩ = some (.slice (E k).ia (E k).il (E k).ic) ∧ w'.cell? ⟨b, off + k * 3 + 1, none⟩ = some (.bool (E k).c) ∧ w'.cell? ⟨b, off + k * 3 + 2, none⟩ = some (.slice (E k).va (E k).vl (E k).vc) ∧ Below w.heap.size w w') (first | exact sk hbb ⟨f1, f2, f3, hb⟩ ((Below.refl _ _).drew) | exact sk' hbb (by assumption) (by assumption) | exact sk3 hbb (by assumption) | (trace_state; fail))
        (first
          | (go_at_call 14; refine (clone14 _ _ _ (Z k) _ ?_ ?_ ?_).mono ?_; exact hG.inil; exact ile; exact rdS1 hG (by assumption); rintro e w14 ⟨a14, c14, rfl, n14, m14, r14, b14⟩; have x14 := xr b14 (by assumption); have y14a := World.rowIs.cell x14 (i := k * 3) (by omega); have y14b := World.rowIs.cell x14 (i := k * 3 + 1) (by omega); have y14c := World.rowIs.cell x14 (i := k * 3 + 2) (by omega); have z14a := World.rowIs.frozen x14 (k * 3); have z14b := World.rowIs.frozen x14 (k * 3 + 1); have z14c := World.rowIs.frozen x14 (k * 3 + 2))
          | (go_at_call 8; refine (clone8 _ _ _ (V k) _ ?_ ?_ ?_).mono ?_; exact hG.vnil; exact hG.vle; exact rdS2 hG (by assumption); rintro e w8 ⟨a8, c8, rfl, n8, m8, r8, b8⟩; have x8 := xr b8 (by assumption); have y8a := World.rowIs.cell x8 (i := k * 3) (by omega); have y8b := World.rowIs.cell x8 (i := k * 3 + 1) (by omega); have y8c := World.rowIs.cell x8 (i := k * 3 + 2) (by omega); have z8a := World.rowIs.frozen x8 (k * 3); have z8b := World.rowIs.frozen x8 (k * 3 + 1); have z8c := World.rowIs.frozen x8 (k * 3 + 2)))
      all_goals
        go_wp2
        go_roundw
        case rel =>
          have hbx : Below wr.heap.size wr w8 := Below.two (w := wr) (w1 := w14) ⟨b14.os, b14.tape, b14.output, b14.size, b14.block⟩ b8
          obtain ⟨E'', e1, e2, e3⟩ := step13 (x := ⟨a14, (E k).il, c14, (E k).c, a8, (E k).vl, c8⟩) x8 (fun j hj => (HGk.out j hj).below hbx) ⟨r14.below b8, r8, m14, m8, hG.ile, hG.vle⟩ (hb.trans (hbx.mono hb.size))
          exact ⟨k + 1, E'', by omega, by go_num, e1, e2, e3⟩
        case measure => simp [intOf]; omega
    · have : k = n := by omega
      subst this
      go_wp2
      go_ret
      exact ⟨E', rfl, hrow, hgk, hb⟩

end Go.Proofs.Qxb6603608a.Ext
