import Derived.Test.Qxb6603619aDF
import Derived.Laws.IdiomRangeMap
namespace Go.Proofs.Qxb6603619a.Crd
open Go.RowKit
set_option linter.unusedVariables false
set_option linter.unusedSimpArgs false

/-! ### What gives a default -/

theorem any_or4 (kp a b c d : Bool) : (kp && (a || b || c || d)) = (kp && a || kp && b || kp && c || kp && d) := by
  cases kp <;> simp

theorem gv_hd {n : Nat} {kp : Bool} {t : Nd (T n)} (h : (kp && t.hd) = true) : (kp && gives (n + 1) t) = true := by
  simp only [gives, givesN] 
  rw [any_or4, h]; simp

theorem gv_mem {n : Nat} {kp : Bool} {t : Nd (T n)} {j : Nat} (hj : j < t.ml) (hl : lastOf t.nm t.ml (t.nm j) = some j) (h : (kp && gives n (t.tm j)) = true) : (kp && gives (n + 1) t) = true := by
  simp only [Bool.and_eq_true] at h ⊢
  refine ⟨h.1, ?_⟩
  simp only [gives, givesN, Bool.or_eq_true, List.any_eq_true, List.mem_range, Bool.and_eq_true, decide_eq_true_eq]
  exact .inl (.inl (.inr ⟨j, hj, hl, h.2⟩))

theorem gv_va {n : Nat} {kp : Bool} {t : Nd (T n)} {a : T n} (ha : t.va = some a) (h : (kp && gives n a) = true) : (kp && gives (n + 1) t) = true := by
  simp only [Bool.and_eq_true] at h ⊢
  refine ⟨h.1, ?_⟩
  simp only [gives, givesN, Bool.or_eq_true, ha, optB]
  exact .inl (.inr h.2)

theorem gv_ia {n : Nat} {kp : Bool} {t : Nd (T n)} {a : T n} (ha : t.ia = some a) (h : (kp && gives n a) = true) : (kp && gives (n + 1) t) = true := by
  simp only [Bool.and_eq_true] at h ⊢
  refine ⟨h.1, ?_⟩
  simp only [gives, givesN, Bool.or_eq_true, ha, optB]
  exact .inr h.2

def kids {n : Nat} (kp : Bool) (t : Nd (T n)) : Prop := ∀ j, j < t.ml → lastOf t.nm t.ml (t.nm j) = some j → (kp && gives n (t.tm j)) = false
def opts {n : Nat} (kp : Bool) (x : Option (T n)) : Prop := ∀ a, x = some a → (kp && gives n a) = false

theorem gv_no {n : Nat} {kp : Bool} {t : Nd (T n)} (h1 : (kp && t.hd) = false) (h2 : kids kp t) (h3 : opts kp t.va) (h4 : opts kp t.ia) : (kp && gives (n + 1) t) = false := by
  cases kp with
  | false => rfl
  | true =>
    simp only [Bool.true_and] at h1 ⊢
    have a2 : (List.range t.ml).any (fun j => decide (lastOf t.nm t.ml (t.nm j) = some j) && gives n (t.tm j)) = false := by
      rw [List.any_eq_false]
      intro j hj
      have hj := List.mem_range.1 hj
      by_cases hl : lastOf t.nm t.ml (t.nm j) = some j
      · have := h2 j hj hl
        simp only [Bool.true_and] at this
        simp [this]
      · simp [hl]
    have a3 : optB (gives n) t.va = false := by
      cases hv : t.va with
      | none => rfl
      | some a => have := h3 a hv; simpa [optB] using this
    have a4 : optB (gives n) t.ia = false := by
      cases hv : t.ia with
      | none => rfl
      | some a => have := h4 a hv; simpa [optB] using this
    simp only [gives, givesN]
    rw [h1, a2, a3, a4]; rfl

theorem M.plain {P : Nat → Prop} {n : Nat} {w : World} {kp : Bool} {t : T n} {s : Nat} (h : M P n w kp true t s) : w.cell? ⟨s, 27, none⟩ = some (.bool (!(kp && gives n t))) := by
  cases n with
  | zero => exact h.elim
  | succ n =>
    obtain ⟨vp, va, vi, h⟩ := h
    have := (schC h.blk).c27
    simpa using this

/-! ### Over the Properties -/

/-- 'for _, sub := range s.Properties' under way. -/
def ItM {n : Nat} (P : Nat → Prop) (kp md : Bool) (t : Nd (T n)) (vp : Value) (r : Nat) (D : ByteArray → Bool) (m : Nat) (wr : World) : Prop :=
  ∃ mb cnt B, vp = .map (some mb) ∧ P mb ∧ FRng wr mb r cnt (pf t.nm t.ml B) D m ∧ (∀ j, j < t.ml → lastOf t.nm t.ml (t.nm j) = some j → M P n wr kp md (t.tm j) (B j)) ∧ ∀ j, j < t.ml → (t.nm j).size ≤ maxLen

def ItS {n : Nat} (P : Nat → Prop) (kp md : Bool) (t : Nd (T n)) (vp : Value) (r : Nat) (D : ByteArray → Bool) (m : Nat) (wr : World) : Prop :=
  (t.ml = 0 ∧ ∀ ty, (Instr.next (.pointer (some ⟨r, 0, none⟩)) false ty).run Try.prog wr = .ok (.tuple #[.bool false]) wr) ∨ ItM P kp md t vp r D m wr

theorem ItS.start {n : Nat} {w : World} {P : Nat → Prop} {kp md : Bool} {t : Nd (T n)} {vp : Value} (h : MProps P w t (M P n w kp md) vp) :
    ∃ w1 D m, (Instr.range 42 vp).run Try.prog w = .ok (.pointer (some ⟨w.heap.size, 0, none⟩)) w1 ∧ ItS (fun d => P d ∧ d < w.heap.size) kp md t vp w.heap.size D m w1 ∧ Below w.heap.size w w1 ∧ (∀ j, j < t.ml → D (t.nm j) = true) ∧ m ≤ 65536 := by
  rcases h with ⟨⟨h1, h2⟩, rfl⟩ | ⟨h1, mb, cnt, sz, B, rfl, h0, h3, h4, h5, h6⟩
  · exact ⟨_, fun _ => true, 0, run_range_nilMap (P := Try.prog) w 42 9 25 Try.underlying42, .inl ⟨h2, fun ty => run_next_nilMap w ty 0 0 #[]⟩, (Below.refl _ _).alloc (Nat.le_refl _) _, fun _ _ => rfl, by omega⟩
  · obtain ⟨w1, r1, r2, r3, r4⟩ := h4.range (t := 42) (e := 25) Try.underlying42
    have hb := grown_below r3
    refine ⟨w1, _, sz, r1, .inr ⟨mb, cnt, B, rfl, ⟨h0, h4.lt⟩, r2, fun j hj hl => (h5 j hj hl).kept (fun d _ hd => hb.block d hd) (fun d hp hd => ⟨hp, hd⟩), h6⟩, hb, fun j hj => ?_, Nat.le_trans h4.sz_le h3⟩
    obtain ⟨i, hi⟩ := lastOf_some (nm := t.nm) hj
    simp [pf, hi]

theorem ItM.kept {n : Nat} {P : Nat → Prop} {kp md : Bool} {t : Nd (T n)} {vp : Value} {r m : Nat} {D : ByteArray → Bool} {wr w' : World} {row : Option Nat} (h : ItM P kp md t vp r D m wr) (hg : wr.grownBy w' row) (hr : some r ≠ row) (hP : ∀ d, P d → some d ≠ row) : ItM P kp md t vp r D m w' := by
  obtain ⟨mb, cnt, B, rfl, h0, h3, h5, h6⟩ := h
  exact ⟨mb, cnt, B, rfl, h0, h3.kept hg (hP _ h0) hr, fun j hj hl => (h5 j hj hl).kept (fun d hd hl => hg.block d hl (hP d hd)) (fun _ h _ => h), h6⟩

theorem ItS.next {n : Nat} {P : Nat → Prop} {kp md : Bool} {t : Nd (T n)} {vp : Value} {r m : Nat} {D : ByteArray → Bool} {wr : World} (h : ItS P kp md t vp r D m wr) (hr : ∀ d, P d → d ≠ r) (ty : TypeId) :
    ((Instr.next (.pointer (some ⟨r, 0, none⟩)) false ty).run Try.prog wr = .ok (.tuple #[.bool false]) wr ∧ ∀ j, j < t.ml → D (t.nm j) = false) ∨
    ∃ j s w' m', m' < m ∧ j < t.ml ∧ lastOf t.nm t.ml (t.nm j) = some j ∧ D (t.nm j) = true ∧ (t.nm j).size ≤ maxLen ∧ (Instr.next (.pointer (some ⟨r, 0, none⟩)) false ty).run Try.prog wr = .ok (.tuple #[.bool true, .string (t.nm j), .pointer (some ⟨s, 0, none⟩)]) w' ∧
      (Instr.entry (.pointer (some ⟨r, 0, none⟩))).run Try.prog w' = .ok (.tuple #[.string (t.nm j), .pointer (some ⟨s, 0, none⟩)]) w' ∧ M P n w' kp md (t.tm j) s ∧
      ItM P kp md t vp r (fun x => D x && !decide (x = t.nm j)) m' w' ∧ wr.grownBy w' (some r) ∧ r < wr.heap.size := by
  rcases h with ⟨h1, h2⟩ | ⟨mb, cnt, B, rfl, h0, h3, h5, h6⟩
  · exact .inl ⟨h2 ty, fun j hj => by omega⟩
  · rcases h3.next ty with ⟨g1, g2, g3⟩ | ⟨s, v, w', cnt', g1, g2, g3, g4, g5, g6, g7, g8, g9⟩
    · exact .inl ⟨g3, fun j hj => g2 _ (h6 j hj)⟩
    · have hf := g3
      unfold pf at hf
      cases hl : lastOf t.nm t.ml s with
      | none => rw [hl] at hf; cases hf
      | some j =>
        rw [hl] at hf
        simp only [Option.map_some, Option.some.injEq] at hf
        obtain ⟨hj, rfl⟩ := lastOf_lt hl
        subst hf
        have hM : ∀ j, j < t.ml → lastOf t.nm t.ml (t.nm j) = some j → M P n w' kp md (t.tm j) (B j) := fun j hj hl => (h5 j hj hl).kept (fun d hd hlt => g7.block d hlt (by simpa using hr d hd)) (fun _ h _ => h)
        exact .inr ⟨j, B j, w', cnt', g6, hj, hl, g2, g1, g4, g9, hM j hj hl, ⟨mb, cnt, B, rfl, h0, g5, hM, h6⟩, g7, h3.lt.2⟩

theorem below_range {w wr w' : World} {r : Nat} (h : Below w.heap.size w wr) (hg : wr.grownBy w' (some r)) (hr : w.heap.size ≤ r) : Below w.heap.size w w' := below_put h hg hr (Nat.le_refl _)

theorem MPtr.shape {α : Type} {x : Option α} {sub : α → Nat → Prop} {v : Value} (h : MPtr x sub v) : ∃ p, v = .pointer p := by
  cases x with
  | none => exact ⟨_, h⟩
  | some a =>
    obtain ⟨b, e, h'⟩ := h
    exact ⟨_, e⟩

theorem MPtr.plain {P : Nat → Prop} {n : Nat} {w : World} {kp : Bool} {x : Option (T n)} {v : Value} (h : MPtr x (M P n w kp true) v) : (x = none ∧ v = .pointer none) ∨ ∃ a s, x = some a ∧ v = .pointer (some ⟨s, 0, none⟩) ∧ w.cell? ⟨s, 27, none⟩ = some (.bool (!(kp && gives n a))) := by
  cases x with
  | none => exact .inl ⟨rfl, h⟩
  | some a =>
    obtain ⟨b, e, h'⟩ := h
    exact .inr ⟨a, b, rfl, e, h'.plain⟩

set_option maxRecDepth 100000 in
set_option maxHeartbeats 4000000 in
theorem noDef20 {n : Nat} {P : Nat → Prop} (w : World) (kp pl : Bool) (t : Nd (T n)) (s : Nat) (vp va vi : Value) (hb : w.heap[s]? = some (.cells (sch (dflt kp t) t.fm vp va vi pl) 49 (0, 0))) (hp : MProps P w t (M P n w kp true) vp) (hv : MPtr t.va (M P n w kp true) va) (hi : MPtr t.ia (M P n w kp true) vi) :
    Calls Try.prog 20 #[.pointer (some ⟨s, 0, none⟩)] w fun e w' => e = .returned (.bool (!(kp && gives (n + 1) t))) ∧ Below w.heap.size w w' := by
  obtain ⟨pa, rfl⟩ := hv.shape
  obtain ⟨pj, rfl⟩ := hi.shape
  have hC := schC hb
  have c1 := hC.c1
  have c3 := hC.c3
  have c5 := hC.c5
  have c6 := hC.c6
  obtain ⟨w1, D, m, hr, hit, hbel, hD, -⟩ := ItS.start hp
  have HP := hid hp
  have HV := hid hv
  have HI := hid hi
  have HIt := hid hit
  have HBel := hid hbel
  have HDs := hid hD
  have HC := hid hC
  clear hp hv hi hit hbel hD hC hb
  cases hk : (kp && t.hd) with
  | true =>
    have HK := hid hk
    rw [dflt, if_pos hk] at c1
    rw [gv_hd hk]
    clear hk
    go_enter Try.func20, Try.ntmps20
    go_wp2_with fail
    go_ret
    exact ⟨rfl, Below.refl _ _⟩
  | false =>
    have HK := hid hk
    rw [dflt, if_neg (by rw [hk]; simp)] at c1
    clear hk
    go_enter Try.func20, Try.ntmps20
    go_wp2_with fail
    go_loopg [] m (fun g wr => ∃ D', ItS (fun d => P d ∧ d < w.heap.size) kp true t vp w.heap.size D' g wr ∧ Below w.heap.size w wr ∧ ∀ j, j < t.ml → lastOf t.nm t.ml (t.nm j) = some j → D' (t.nm j) = false → (kp && gives n (t.tm j)) = false)
    case atStart => exact ⟨D, HIt.out, HBel.out, fun j hj _ h => by rw [HDs.out j hj] at h; cases h⟩
    case round =>
      obtain ⟨D', hit, hbel, hseen⟩ := hrel
      have HB := hid hbel
      have HSe := hid hseen
      rcases hit.next (fun d hd => by omega) 0 with ⟨hn0, hdone⟩ | ⟨j, s', w', m', hm, hj, hl, hDj, hsz, hn0, hen, hM, hit', hg', -⟩
      · have hkids : kids kp t := fun j hj hl => hseen j hj hl (hdone j hj)
        have HKi := hid hkids
        have d5 := (hbel.cell (cell_lt c5)).trans c5
        have d6 := (hbel.cell (cell_lt c6)).trans c6
        have HVr := hid (MPtr.kept (P' := P) HV.out (fun d _ hd => hbel.block d hd) (fun _ h _ => h))
        have HIr := hid (MPtr.kept (P' := P) HI.out (fun d _ hd => hbel.block d hd) (fun _ h _ => h))
        clear hit hbel hseen hdone hkids c1 c3 c5 c6 hr
        go_wp2_with fail
        go_region
        obtain ⟨W2, hW2⟩ : ∃ W2, W2 = (wr.alloc (Obj.cells #[Value.pointer pa, Value.pointer pj] 25)).drew := ⟨_, rfl⟩
        rw [← hW2]
        have hb2 : Below wr.heap.size wr W2 := by rw [hW2]; exact ((Below.refl _ _).alloc (Nat.le_refl _) _).drew
        have HB2 : Hid (Below w.heap.size w W2) := hid (HB.out.trans (hb2.mono HB.out.size))
        obtain ⟨x, hx⟩ : ∃ x, x = wr.heap.size := ⟨_, rfl⟩
        have e0 : W2.cell? ⟨x, 0, none⟩ = some (.pointer pa) := by rw [hW2, hx]; go_simp
        have e1 : W2.cell? ⟨x, 1, none⟩ = some (.pointer pj) := by rw [hW2, hx]; go_simp
        have PV := hid (MPtr.plain (MPtr.kept (P' := P) HVr.out (fun d _ hd => hb2.block d hd) (fun _ h _ => h)))
        have PI := hid (MPtr.plain (MPtr.kept (P' := P) HIr.out (fun d _ hd => hb2.block d hd) (fun _ h _ => h)))
        rw [← hx]
        clear hW2 hx hb2 HVr HIr d5 d6 hn0
        go_wp2_with fail
        go_loopg [36] 2 (fun g i wz => ∃ k : Nat, k ≤ 2 ∧ g = 2 - k ∧ i = .int .i64 k ∧ wz = W2 ∧ (1 ≤ k → opts kp t.va) ∧ (2 ≤ k → opts kp t.ia))
        case atStart => exact ⟨0, by omega, rfl, rfl, rfl, fun h => absurd h (by omega), fun h => absurd h (by omega)⟩
        case round =>
          obtain ⟨k, hk, rfl, rfl, hwz, h1, h2⟩ := hrel
          subst hwz
          rcases (by omega : k = 0 ∨ k = 1 ∨ k = 2) with rfl | rfl | rfl
          · rcases PV.out with ⟨hx0, hx1⟩ | ⟨a, s', hx0, hx1, hx2⟩
            · simp only [Value.pointer.injEq] at hx1
              subst hx1
              have HX0 := hid hx0
              have H1 := hid h1
              clear h1 h2 hx0
              go_wp2_with fail
              go_roundg 1
              case measure => omega
              case rel =>
                have h1 := H1.out
                exact ⟨1, by omega, rfl, by go_num, by simp, fun _ => (fun a h => by rw [HX0.out] at h; cases h), fun h => absurd h (by omega)⟩
            · simp only [Value.pointer.injEq] at hx1
              subst hx1
              have HX0 := hid hx0
              have H1 := hid h1
              clear h1 h2 hx0
              cases hg : (kp && gives n a) with
              | true =>
                have HG := hid hg
                rw [hg] at hx2
                clear hg
                go_wp2_with fail
                go_ret
                exact ⟨by rw [gv_va HX0.out HG.out]; rfl, HB2.out⟩
              | false =>
                have HG := hid hg
                rw [hg] at hx2
                clear hg
                go_wp2_with fail
                go_roundg 1
                case measure => omega
                case rel =>
                  have h1 := H1.out
                  exact ⟨1, by omega, rfl, by go_num, by simp, fun _ => (fun a h => by rw [HX0.out] at h; simp only [Option.some.injEq] at h; rw [← h]; exact HG.out), fun h => absurd h (by omega)⟩
          · rcases PI.out with ⟨hx0, hx1⟩ | ⟨a, s', hx0, hx1, hx2⟩
            · simp only [Value.pointer.injEq] at hx1
              subst hx1
              have HX0 := hid hx0
              have H1 := hid h1
              clear h1 h2 hx0
              go_wp2_with fail
              go_roundg 0
              case measure => omega
              case rel =>
                have h1 := H1.out
                exact ⟨2, by omega, rfl, by go_num, by simp, fun _ => h1 (by omega), fun _ => (fun a h => by rw [HX0.out] at h; cases h)⟩
            · simp only [Value.pointer.injEq] at hx1
              subst hx1
              have HX0 := hid hx0
              have H1 := hid h1
              clear h1 h2 hx0
              cases hg : (kp && gives n a) with
              | true =>
                have HG := hid hg
                rw [hg] at hx2
                clear hg
                go_wp2_with fail
                go_ret
                exact ⟨by rw [gv_ia HX0.out HG.out]; rfl, HB2.out⟩
              | false =>
                have HG := hid hg
                rw [hg] at hx2
                clear hg
                go_wp2_with fail
                go_roundg 0
                case measure => omega
                case rel =>
                  have h1 := H1.out
                  exact ⟨2, by omega, rfl, by go_num, by simp, fun _ => h1 (by omega), fun _ => (fun a h => by rw [HX0.out] at h; simp only [Option.some.injEq] at h; rw [← h]; exact HG.out)⟩
          · have H1 := hid (h1 (by omega))
            have H2 := hid (h2 (by omega))
            clear h1 h2
            go_wp2_with fail
            go_ret
            exact ⟨by rw [gv_no HK.out HKi.out H1.out H2.out]; rfl, HB2.out⟩
      · have c27 := hM.plain
        have HIt' := hid hit'
        have HB' := hid (below_range hbel hg' (Nat.le_refl _))
        have HL := hid hl
        clear hit hbel hseen hM hit' hg' hl hDj
        cases hg : (kp && gives n (t.tm j)) with
        | true =>
          have HG := hid hg
          rw [hg] at c27
          clear hg
          go_wp2_with fail
          go_ret
          refine ⟨by rw [gv_mem hj HL.out HG.out]; rfl, HB'.out⟩
        | false =>
          have HG := hid hg
          rw [hg] at c27
          clear hg
          go_wp2_with fail
          go_roundg m'
          case measure => exact hm
          case rel =>
            refine ⟨_, .inr HIt'.out, HB'.out, fun i hi hli hDi => ?_⟩
            by_cases e : t.nm i = t.nm j
            · have hq := HL.out
              rw [← e, hli] at hq
              simp only [Option.some.injEq] at hq
              subst hq
              exact HG.out
            · simp [e] at hDi
              exact HSe.out i hi hli hDi

end Go.Proofs.Qxb6603619a.Crd
