import Derived.Test.Qxb6603619aDE
import Derived.OwnWalk
import Derived.Lib.Walk
import Derived.Lib.AppendZerosOnto
import Derived.Shelf.Spec.SlicesGrow
namespace Go.Proofs.Qxb6603619a.Crd
open Go.RowKit
set_option linter.unusedVariables false
set_option linter.unusedSimpArgs false

def stepZ : Value := .agg #[.int .i64 0, .string ByteArray.empty]
theorem info65' : (Try.prog.info? 65).map (fun i => (i.zero, i.size, i.bytes)) = some (some stepZ, 2, 24) := by kernel_rfl
theorem info65 : ∃ i : TypeInfo, Try.prog.info? 65 = some i ∧ i.zero = some stepZ ∧ i.size = 2 ∧ i.bytes = 24 := by
  have h := info65'
  cases hi : Try.prog.info? 65 with
  | none => rw [hi] at h; cases h
  | some i =>
    rw [hi] at h
    simp only [Option.map_some, Option.some.injEq, Prod.mk.injEq] at h
    exact ⟨i, rfl, h.1, h.2.1, h.2.2⟩

/-- The cells of a Place are there. -/
structure Pl (w : World) (ao : Option Addr) (n c : Nat) (xs : List Value) : Prop where
  len : xs.length = n * 2
  nil : ao = none → n = 0 ∧ c = 0
  cell : ∀ ad, ao = some ad → ∀ j u, xs[j]? = some u → w.cell? (ad.add j) = some u
  one : ∀ u ∈ xs, u.oneCell' = true

theorem Pl.below {w w' : World} {ao : Option Addr} {n c : Nat} {xs : List Value} (h : Pl w ao n c xs) (hb : Below w.heap.size w w') : Pl w' ao n c xs :=
  ⟨h.len, h.nil, fun ad e j u hj => (hb.cell (cell_lt (h.cell ad e j u hj))).trans (h.cell ad e j u hj), h.one⟩

theorem Pl.nil0 (w : World) : Pl w none 0 0 [] := ⟨rfl, fun _ => ⟨rfl, rfl⟩, fun _ h => (by cases h), fun u hu => (by cases hu)⟩

theorem Pl.grown {w w' : World} {ao : Option Addr} {n c g : Nat} {xs : List Value} (h : Pl w ao n c xs) (hg : w.grownBy w' (some g)) (hne : ∀ ad, ao = some ad → ad.block ≠ g) : Pl w' ao n c xs :=
  ⟨h.len, h.nil, fun ad e j u hj => cell_grown (h.cell ad e j u hj) hg (by have := hne ad e; unfold Addr.add; split <;> simpa using this), h.one⟩

theorem pl_of_owns {w : World} {base g n cap : Nat} {xs : List Value} (h : w.ownsRow base 65 2 (.slice (some ⟨g, 0, none⟩) n cap) n xs) (h1 : ∀ u ∈ xs, u.oneCell' = true) : Pl w (some ⟨g, 0, none⟩) n cap xs := by
  obtain ⟨hl, h2⟩ := h
  rcases h2 with ⟨h2, _⟩ | ⟨g', cap', cur, hv, hb, hg, hn, hc, hs, ht⟩
  · cases h2
  · simp only [Value.slice.injEq, Option.some.injEq, Addr.mk.injEq, and_true, true_and] at hv
    obtain ⟨rfl, rfl⟩ := hv
    refine ⟨hl, fun h => (by cases h), fun ad e j u hj => ?_, h1⟩
    simp only [Option.some.injEq] at e
    subst e
    have : cur.toList[j]? = some u := by
      rw [← ht] at hj
      rw [List.getElem?_take] at hj
      split at hj
      · exact hj
      · cases hj
    have hadd : (⟨g, 0, none⟩ : Addr).add j = ⟨g, j, none⟩ := by
      unfold Addr.add
      split
      · next h => rw [h]
      · simp
    rw [hadd]
    simp [World.cell?, hg]
    simpa using this

set_option maxHeartbeats 2000000 in
theorem grow21 (n : Nat) (w : World) (hn : 0 < n) (hn' : n ≤ 100000) : Calls Try.prog 21 #[.slice none 0 0, .int .i64 n] w fun e w' =>
    ∃ cap, e = .returned (.slice (some ⟨w.heap.size, 0, none⟩) 0 cap) ∧ n ≤ cap ∧ w'.ownsRow w.heap.size 65 2 (.slice (some ⟨w.heap.size, 0, none⟩) 0 cap) 0 [] ∧ Below w.heap.size w w' ∧ w'.heap.size = w.heap.size + 1 := by
  obtain ⟨i, hi, hz, hs, hb⟩ := info65
  have hrz : ∀ ty, (Builtin.append_ #[54, 3] ty #[.slice none 0 0, .int .i64 n]).run Try.prog w =
      .ok (.slice (some ⟨w.heap.size, 0, none⟩) n (grownCap w n 0 65)) (w.drew.alloc (.cells ((#[] : Array Value) ++ Builtin.zeroCells stepZ.cells n ++ Builtin.zeroCells stepZ.cells (grownCap w n 0 65 - n)) 65)) := fun ty => by
    have h := Lib.run_append_grow_zeros (P := Try.prog) w 54 3 ty 65 i stepZ .i64 .i64 Try.underlying54 Try.underlying3 hi hz none 0 0 [] (run_firstCells_none w.drew i.size 0 0 0) n hn (by omega) (by omega) (by omega) (by rw [hb]; omega)
      (by rw [hb]; simp [Builtin.nextslicecap]; split <;> omega)
    simpa using h
  have hG := grownCap_ge w n 0 65
  have hG' := grownCap_le_maxLen w n 0 65 (by unfold maxLen; omega)
  obtain ⟨G, hGe⟩ : ∃ G, G = grownCap w n 0 65 := ⟨_, rfl⟩
  rw [← hGe] at hrz hG hG'
  have hG63 : G ≤ 9223372036854775807 := by unfold maxLen at hG'; omega
  obtain ⟨cs, hcs⟩ : ∃ cs : Array Value, cs = (#[] : Array Value) ++ Builtin.zeroCells stepZ.cells n ++ Builtin.zeroCells stepZ.cells (G - n) := ⟨_, rfl⟩
  have hcz : cs.size = G * 2 := by
    rw [hcs]
    simp [Builtin.zeroCells, stepZ, Value.cells]
    omega
  have HCz := hid hcz
  rw [← hcs] at hrz
  clear hcs hcz
  have hn0 : (n : Int) > 0 := by omega
  have hn1 : (n : Int) ≤ 100000 := by omega
  have HG' := hid hG'
  clear hi hz hs hb hGe hG'
  go_enter Try.func21, Try.ntmps21
  go_wp2_with (at_builtin; refine Lib.wpList_append_run _ rfl _ _ _ _ rfl _ _ rfl rfl _ _ (hrz _) ?_)
  go_ret
  refine ⟨G, rfl, hG, ⟨rfl, .inr ⟨_, G, cs, rfl, Nat.le_refl _, ?_, Nat.zero_le _, HG'.out, HCz.out, by simp⟩⟩, ((Below.refl _ _).alloc (Nat.le_refl _) _).drew, by simp [World.size_alloc]⟩
  exact (MapKept.heap_alloc w _).1

/-- The new row under way. -/
structure Grw (w wz : World) (g l cap : Nat) (zs : List Value) : Prop where
  own : wz.ownsRow g 65 2 (.slice (some ⟨g, 0, none⟩) l cap) l zs
  one : ∀ u ∈ zs, u.oneCell' = true
  bel : Below g w wz

set_option maxHeartbeats 4000000 in
theorem concat19 (w : World) (r n c c2 : Nat) (ao : Option Addr) (ad2 : Addr) (xs ys : List Value) (hn : n ≤ 70000) (h0 : w.cell? ⟨r, 0, none⟩ = some (.slice ao n c)) (h1 : w.cell? ⟨r, 1, none⟩ = some (.slice (some ad2) 1 c2)) (hx : Pl w ao n c xs) (hy : Pl w (some ad2) 1 c2 ys) :
    Calls Try.prog 19 #[.slice (some ⟨r, 0, none⟩) 2 2] w fun e w' => ∃ g cap zs, e = .returned (.slice (some ⟨g, 0, none⟩) (n + 1) cap) ∧ Pl w' (some ⟨g, 0, none⟩) (n + 1) cap zs ∧ Below w.heap.size w w' := by
  have HX := hid hx
  have HY := hid hy
  have hni : (n : Int) ≤ 70000 := by omega
  clear hx hy
  go_enter Try.func19, Try.ntmps19
  go_wp2_with fail
  go_loopw [3, 11] (fun z i wr => ∃ k : Nat, k ≤ 2 ∧ i = .int .i64 k ∧ z = .int .i64 (if k = 0 then 0 else if k = 1 then (n : Int) else (n : Int) + 1) ∧ wr = w) (fun _ i _ => 2 - (intOf i).toNat)
  case atStart => exact ⟨0, by omega, rfl, rfl, rfl⟩
  case round =>
    obtain ⟨k, hk, rfl, rfl, rfl⟩ := hrel
    rcases (by omega : k = 0 ∨ k = 1 ∨ k = 2) with rfl | rfl | rfl
    · go_wp2_with fail
      go_roundw
      case rel => exact ⟨1, by omega, by go_num, by simp, by simp⟩
      case measure => simp [intOf]
    · go_wp2_with fail
      go_roundw
      case rel => exact ⟨2, by omega, by go_num, by simp, by simp⟩
      case measure => simp [intOf]
    · go_wp2_with (go_at_call 21; refine (grow21 (n + 1) _ (by omega) (by omega)).mono ?_; rintro e w1 ⟨cap, rfl, hcap, hown, hbel, -⟩; have HO := hid hown; have HB := hid hbel; clear hown hbel)
      obtain ⟨W, rfl⟩ : ∃ W, W = wr := ⟨_, rfl⟩
      obtain ⟨g, hg⟩ : ∃ g, g = W.heap.size := ⟨_, rfl⟩
      rw [← hg] at HO HB ⊢
      have HGe := hid hg
      have H0 := hid h0
      have H1 := hid h1
      clear hg h0 h1 hk
      go_loopw [6, 27] (fun v i wz => ∃ (k : Nat) (zs : List Value), k ≤ 2 ∧ i = .int .i64 k ∧ v = .slice (some ⟨g, 0, none⟩) (if k = 0 then 0 else if k = 1 then n else n + 1) cap ∧ Grw W wz g (if k = 0 then 0 else if k = 1 then n else n + 1) cap zs) (fun _ i _ => 2 - (intOf i).toNat)
      case atStart => exact ⟨0, [], by omega, rfl, rfl, HO.out, fun u hu => (by cases hu), HB.out⟩
      case round =>
        obtain ⟨k, zs, hk, rfl, rfl, hgw⟩ := hrel
        have HGw := hid hgw
        have hbw : Below W.heap.size W wr := by rw [← HGe.out]; exact hgw.bel
        have z0 := (hbw.cell (cell_lt H0.out)).trans H0.out
        have z1 := (hbw.cell (cell_lt H1.out)).trans H1.out
        have PX := hid (HX.out.below hbw)
        have PY := hid (HY.out.below hbw)
        clear hgw hbw
        obtain ⟨i, hi, hz, hs, hb⟩ := info65
        rcases (by omega : k = 0 ∨ k = 1 ∨ k = 2) with rfl | rfl | rfl
        · go_wp2_with (at_builtin; refine wpList_append_fits_any _ rfl _ _ 54 rfl g 65 i 2 Try.underlying54 hi hs g 0 cap zs rfl HGw.out.own ao n c xs rfl PX.out.len PX.out.nil PX.out.cell PX.out.one (by omega) ?_; intro w2 hown2 hgr; have HO2 := hid hown2; have HGr := hid hgr; clear hown2 hgr)
          go_roundw
          case rel => exact ⟨1, zs ++ xs, by omega, by go_num, by simp, by simpa using HO2.out, List.forall_mem_append.2 ⟨HGw.out.one, PX.out.one⟩, below_put HGw.out.bel HGr.out (Nat.le_refl _) (by rw [HGe.out]; exact Nat.le_refl _)⟩
          case measure => simp [intOf]
        · go_wp2_with (at_builtin; refine wpList_append_fits_any _ rfl _ _ 54 rfl g 65 i 2 Try.underlying54 hi hs g n cap zs rfl HGw.out.own (some ad2) 1 c2 ys rfl PY.out.len PY.out.nil PY.out.cell PY.out.one (by omega) ?_; intro w2 hown2 hgr; have HO2 := hid hown2; have HGr := hid hgr; clear hown2 hgr)
          go_roundw
          case rel => exact ⟨2, zs ++ ys, by omega, by go_num, by simp, by simpa using HO2.out, List.forall_mem_append.2 ⟨HGw.out.one, PY.out.one⟩, below_put HGw.out.bel HGr.out (Nat.le_refl _) (by rw [HGe.out]; exact Nat.le_refl _)⟩
          case measure => simp [intOf]
        · go_wp2_with fail
          go_ret
          exact ⟨g, cap, zs, rfl, pl_of_owns HGw.out.own HGw.out.one, by have := HGw.out.bel; rw [HGe.out] at this; exact this⟩

end Go.Proofs.Qxb6603619a.Crd
