import Derived.Test.Qxb6603619aDJ
namespace Go.Proofs.Qxb6603619a.Crd
open Go.RowKit
set_option linter.unusedVariables false
set_option linter.unusedSimpArgs false

/-- The 6 cells of a crd.Version. -/
def ver (nm : ByteArray) (a b c : Bool) (s : Nat) (d : Bool) : Array Value := #[.string nm, .bool a, .bool b, .bool c, .pointer (some ⟨s, 0, none⟩), .bool d]

structure VerC (w : World) (v : Nat) (nm : ByteArray) (a b c : Bool) (s : Nat) (d : Bool) : Prop where
  c0 : w.cell? ⟨v, 0, none⟩ = some (.string nm)
  c1 : w.cell? ⟨v, 1, none⟩ = some (.bool a)
  c2 : w.cell? ⟨v, 2, none⟩ = some (.bool b)
  c3 : w.cell? ⟨v, 3, none⟩ = some (.bool c)
  c4 : w.cell? ⟨v, 4, none⟩ = some (.pointer (some ⟨s, 0, none⟩))
  c5 : w.cell? ⟨v, 5, none⟩ = some (.bool d)
  fr : ∀ k, w.frozen? ⟨v, k, none⟩ = false

theorem verC {w : World} {v : Nat} {nm : ByteArray} {a b c : Bool} {s : Nat} {d : Bool} (h : w.heap[v]? = some (.cells (ver nm a b c s d) 28 (0, 0))) : VerC w v nm a b c s d := by
  refine ⟨?_, ?_, ?_, ?_, ?_, ?_, fun k => ?_⟩
  all_goals first | (simp [World.cell?, h, ver]; done) | (simp [World.frozen?, h, ver]; done)

theorem ver_set {w : World} {v : Nat} {nm : ByteArray} {a b c : Bool} {s : Nat} {d : Bool} (h : w.heap[v]? = some (.cells (ver nm a b c s d) 28 (0, 0))) (s' : Nat) : (w.setCell ⟨v, 4, none⟩ (.pointer (some ⟨s', 0, none⟩))).heap[v]? = some (.cells (ver nm a b c s' d) 28 (0, 0)) := by
  rw [setCell_heap h]; rfl

/-- A Version whose Schema is t's. -/
structure VM (n : Nat) (w : World) (t : T n) (k md : Bool) (v : Nat) (nm : ByteArray) (a b c : Bool) (s : Nat) (d : Bool) : Prop where
  blk : w.heap[v]? = some (.cells (ver nm a b c s d) 28 (0, 0))
  sch : M (fun _ => True) n w k md t s

theorem VM.below {n : Nat} {w w' : World} {t : T n} {k md : Bool} {v : Nat} {nm : ByteArray} {a b c : Bool} {s : Nat} {d : Bool} (h : VM n w t k md v nm a b c s d) (hb : Below w.heap.size w w') : VM n w' t k md v nm a b c s d :=
  ⟨(hb.block _ (Array.getElem?_eq_some_iff.1 h.blk).1).trans h.blk, h.sch.below hb⟩

/-- What DefaultsAt leaves. -/
def VPost (n : Nat) (k : Bool) (t : T n) (pl : Bool) (nm : ByteArray) (a b c : Bool) (s : Nat) (d : Bool) (w : World) (e : Ending) (w' : World) : Prop :=
  ∃ v' s', e = .returned (.pointer (some ⟨v', 0, none⟩)) ∧ w.heap.size ≤ v' ∧ VM n w' t k true v' nm a b c s' d ∧ Below w.heap.size w w' ∧ (pl = true → s' = s) ∧ (pl = false → w.heap.size ≤ s')

set_option maxRecDepth 100000 in
set_option maxHeartbeats 2000000 in
theorem ver13 {n : Nat} (hn : n ≤ 65536) (t : T n) (w : World) (k1 k2 md : Bool) (v kb s : Nat) (nm : ByteArray) (a b c d : Bool) (hv : VM n w t k1 md v nm a b c s d) (hk : w.cell? ⟨kb, 0, none⟩ = some (.bool k2)) :
    Calls Try.prog 13 #[.pointer (some ⟨v, 0, none⟩), atV kb] w fun e w' => VPost n (k1 && k2) t (md && !(k1 && gives n t)) nm a b c s d w e w' := by
  have hC := verC hv.blk
  have c0 := hC.c0
  have c1 := hC.c1
  have c2 := hC.c2
  have c3 := hC.c3
  have c4 := hC.c4
  have c5 := hC.c5
  have HV := hid hv
  have HK := hid hk
  have hvl : v < w.heap.size := (Array.getElem?_eq_some_iff.1 hv.blk).1
  clear hC hv hk
  unfold atV
  go_enter Try.func13, Try.ntmps13
  go_upto_region 2 with fail
  obtain ⟨W, hW⟩ : ∃ W, W = w.alloc (.cells (ver nm a b c s d) 28) := ⟨_, rfl⟩
  have hW' : w.alloc (Obj.cells #[Value.string nm, Value.bool a, Value.bool b, Value.bool c, Value.pointer (some ⟨s, 0, none⟩), Value.bool d] 28) = W := hW.symm
  rw [hW']
  have bW : Below w.heap.size w W := by rw [hW]; exact (Below.refl _ _).alloc (Nat.le_refl _) _
  have hsz : W.heap.size = w.heap.size + 1 := by rw [hW]; simp [World.size_alloc]
  have hblk : W.heap[w.heap.size]? = some (.cells (ver nm a b c s d) 28 (0, 0)) := by rw [hW]; exact heap_alloc_last _ _
  obtain ⟨x, hx⟩ : ∃ x, x = w.heap.size := ⟨_, rfl⟩
  rw [← hx] at hblk ⊢
  have HX := hid hx
  have HS := hid hsz
  have HBl := hid hblk
  have HB := hid bW
  have d4 := (bW.cell (cell_lt c4)).trans c4
  have H17 := hid (deft17 n t (fun d => d < w.heap.size) W k1 k2 md s kb 0 0 none [] (HV.out.sch.kept (fun d _ hd => bW.block d hd) (fun d _ hd => hd)) ((bW.cell (cell_lt HK.out)).trans HK.out) (Pl.nil0 _) (by omega))
  clear hW hW' bW hsz hblk hx c0 c1 c2 c3 c4 c5
  unfold atV at H17
  go_wp2_with (go_at_call 17; refine H17.out.mono ?_; rintro e w6 ⟨s', rfl, m6, b6, p1, p2⟩; have M6 := hid m6; have B6 := hid b6; have P1 := hid p1; have P2 := hid p2; have hC6 := verC ((b6.block _ (Array.getElem?_eq_some_iff.1 HBl.out).1).trans HBl.out); have g4 := hC6.c4; have f4 := hC6.fr 4; clear m6 b6 p1 p2 hC6)
  go_ret
  have hxl := (Array.getElem?_eq_some_iff.1 HBl.out).1
  have hbw := HB.out.trans (B6.out.mono HB.out.size)
  have hx := HX.out
  have hs := HS.out
  refine ⟨x, s', rfl, by omega, ⟨ver_set ((B6.out.block _ hxl).trans HBl.out) _, M6.out.kept (fun d hd hl => Below.heap_setCell _ _ _ _ (by show d ≠ x; omega)) (fun _ _ _ => trivial)⟩, hbw.setCell (by show w.heap.size ≤ x; omega) _, P1.out, fun h => by have := P2.out h; omega⟩

set_option maxHeartbeats 2000000 in
theorem all7 {n : Nat} (hn : n ≤ 65536) (t : T n) (w : World) (k1 k2 md : Bool) (v s : Nat) (nm : ByteArray) (a b c d : Bool) (hv : VM n w t k1 md v nm a b c s d) :
    Calls Try.prog 7 #[.pointer (some ⟨v, 0, none⟩), .bool k2] w fun e w' => VPost n (k1 && k2) t (md && !(k1 && gives n t)) nm a b c s d w e w' := by
  have HV := hid hv
  clear hv
  go_enter Try.func7, Try.ntmps7
  go_wp2_with (go_at_call 13; refine (ver13 hn t _ k1 k2 md v w.heap.size s nm a b c d (HV.out.below ((Below.refl _ _).alloc (Nat.le_refl _) _)) (by go_simp)).mono ?_; rintro e w6 ⟨v', s', rfl, hge, m6, b6, p1, p2⟩; have HG := hid hge; have M6 := hid m6; have B6 := hid b6; have P1 := hid p1; have P2 := hid p2; clear hge m6 b6 p1 p2)
  go_ret
  have hs : (w.alloc (.cells #[.bool k2] 4)).heap.size = w.heap.size + 1 := by simp [World.size_alloc]
  have hb0 : Below w.heap.size w (w.alloc (.cells #[.bool k2] 4)) := (Below.refl _ _).alloc (Nat.le_refl _) _
  have hg := HG.out
  rw [hs] at hg
  refine ⟨v', s', rfl, by omega, M6.out, hb0.trans (B6.out.mono hb0.size), P1.out, fun h => by have := P2.out h; rw [hs] at this; omega⟩

theorem same8 (w : World) (v s : Nat) (nm : ByteArray) (a b c d : Bool) (hv : VerC w v nm a b c s d) : Calls Try.prog 8 #[.pointer (some ⟨v, 0, none⟩), .string nm, .bool a, .bool b, .bool c, .bool d] w fun e w' => e = .returned (.bool true) ∧ w' = w := by
  have c0 := hv.c0
  have c1 := hv.c1
  have c2 := hv.c2
  have c3 := hv.c3
  have c5 := hv.c5
  clear hv
  go_enter Try.func8, Try.ntmps8
  go_wp2_with fail
  go_ret
  exact ⟨rfl, rfl⟩

end Go.Proofs.Qxb6603619a.Crd
