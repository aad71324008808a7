import Derived.Test.Qxb6603619aDG
import Derived.Laws.EntriesVeiled
namespace Go.Proofs.Qxb6603619a.Crd
open Go.RowKit
set_option linter.unusedVariables false
set_option linter.unusedSimpArgs false

/-- Where nothing gives a default, a tree serves for every keep below its own. -/
theorem M.rekeep {P P' : Nat → Prop} {w : World} {k1 k2 : Bool} (hP : ∀ d, P d → P' d) : ∀ {n : Nat} {t : T n} {s : Nat}, (k1 && gives n t) = false → M P n w k1 true t s → M P' n w (k1 && k2) true t s
  | 0, _, _, _, h => h
  | n + 1, t, s, hg, ⟨vp, va, vi, h⟩ => by
    have hg' : ((k1 && k2) && gives (n + 1) t) = false := by
      cases k1 <;> cases k2 <;> simp_all
    have hd : dflt k1 (t : Nd (T n)) = dflt (k1 && k2) (t : Nd (T n)) := by
      have : (k1 && (t : Nd (T n)).hd) = false := by
        cases hh : (k1 && (t : Nd (T n)).hd) with
        | false => rfl
        | true => rw [gv_hd hh] at hg; cases hg
      have h2 : ((k1 && k2) && (t : Nd (T n)).hd) = false := by
        cases k1 <;> cases k2 <;> simp_all
      unfold dflt
      rw [this, h2]
    refine ⟨vp, va, vi, ⟨?_, hP _ h.own, ?_, ?_, ?_⟩⟩
    · have := h.blk
      rw [hg] at this
      rw [hg', ← hd]
      exact this
    · rcases h.ps with h' | ⟨h1, mb, cnt, sz, B, h2, h0, h3, h4, h5, h6⟩
      · exact .inl h'
      · refine .inr ⟨h1, mb, cnt, sz, B, h2, hP _ h0, h3, h4, fun j hj hl => M.rekeep hP ?_ (h5 j hj hl), h6⟩
        cases hh : (k1 && gives n ((t : Nd (T n)).tm j)) with
        | false => rfl
        | true => rw [gv_mem hj hl hh] at hg; cases hg
    · have h' := h.vs
      cases hv : (t : Nd (T n)).va with
      | none => rw [hv] at h'; exact h'
      | some a =>
        rw [hv] at h'
        obtain ⟨b, e, h''⟩ := h'
        refine ⟨b, e, M.rekeep hP ?_ h''⟩
        cases hh : (k1 && gives n a) with
        | false => rfl
        | true => rw [gv_va hv hh] at hg; cases hg
    · have h' := h.is
      cases hv : (t : Nd (T n)).ia with
      | none => rw [hv] at h'; exact h'
      | some a =>
        rw [hv] at h'
        obtain ⟨b, e, h''⟩ := h'
        refine ⟨b, e, M.rekeep hP ?_ h''⟩
        cases hh : (k1 && gives n a) with
        | false => rfl
        | true => rw [gv_ia hv hh] at hg; cases hg

theorem keep14 (v : Value) (kb : Nat) (k2 : Bool) (w : World) (h : w.cell? ⟨kb, 0, none⟩ = some (.bool k2)) : Calls Try.prog 14 #[v, .pointer (some ⟨kb, 0, none⟩)] w fun e w' => e = .returned (.bool k2) ∧ w' = w := by
  go_enter Try.func14, Try.ntmps14
  go_wp2_with fail
  go_ret
  exact ⟨rfl, rfl⟩

def atV (kb : Nat) : Value := .func (.func 14) #[] #[.pointer (some ⟨kb, 0, none⟩)]

/-- What defaultsAt leaves. -/
def DPost (P : Nat → Prop) (n : Nat) (k : Bool) (t : T n) (pl : Bool) (s : Nat) (w : World) (e : Ending) (w' : World) : Prop :=
  ∃ s', e = .returned (.pointer (some ⟨s', 0, none⟩)) ∧ M (fun d => P d ∨ w.heap.size ≤ d) n w' k true t s' ∧ Below w.heap.size w w' ∧ (pl = true → s' = s) ∧ (pl = false → w.heap.size ≤ s')

def Deft (n : Nat) : Prop := ∀ (t : T n) (P : Nat → Prop) (w : World) (k1 k2 md : Bool) (s kb pn pc : Nat) (ao : Option Addr) (xs : List Value), M P n w k1 md t s → w.cell? ⟨kb, 0, none⟩ = some (.bool k2) → Pl w ao pn pc xs → pn + n ≤ 65600 →
  Calls Try.prog 17 #[.pointer (some ⟨s, 0, none⟩), .slice ao pn pc, atV kb] w fun e w' => DPost P n (k1 && k2) t (md && !(k1 && gives n t)) s w e w'

theorem kB4 {w w' : World} {a1 a2 a3 a4 : Addr} {v1 v2 v3 v4 : Value} (h : w.cell? a1 = some v1 ∧ w.cell? a2 = some v2 ∧ w.cell? a3 = some v3 ∧ w.cell? a4 = some v4) (hb : Below w.heap.size w w') : w'.cell? a1 = some v1 ∧ w'.cell? a2 = some v2 ∧ w'.cell? a3 = some v3 ∧ w'.cell? a4 = some v4 :=
  ⟨(hb.cell (cell_lt h.1)).trans h.1, (hb.cell (cell_lt h.2.1)).trans h.2.1, (hb.cell (cell_lt h.2.2.1)).trans h.2.2.1, (hb.cell (cell_lt h.2.2.2)).trans h.2.2.2⟩

/-- The world in which slices.Concat is called. -/
def W18 (W0 : World) (ao : Option Addr) (pn pc : Nat) (sk : Int) (sn : ByteArray) : World :=
  ((W0.alloc (.cells #[.int .i64 sk, .string sn] 65)).alloc (.cells #[.slice ao pn pc, .slice (some ⟨W0.heap.size, 0, none⟩) 1 1] 54)).drew

theorem bel18 {w W0 w19 : World} {ao : Option Addr} {pn pc : Nat} {sk : Int} {sn : ByteArray} (h : Below w.heap.size w W0) (hb : Below (W18 W0 ao pn pc sk sn).heap.size (W18 W0 ao pn pc sk sn) w19) : Below w.heap.size w w19 := by
  have h1 : Below W0.heap.size W0 (W18 W0 ao pn pc sk sn) := (((Below.refl _ _).alloc (Nat.le_refl _) _).alloc (by simp [World.size_alloc]) _).drew
  exact (h.trans (h1.mono h.size)).trans (hb.mono (Nat.le_trans h.size h1.size))

theorem rows18 (W0 : World) (ao : Option Addr) (pn pc : Nat) (xs : List Value) (sk : Int) (sn : ByteArray) (hpn : pn ≤ 70000) (hP : Pl W0 ao pn pc xs) :
    Calls Try.prog 19 #[.slice (some ⟨W0.heap.size + 1, 0, none⟩) 2 2] (W18 W0 ao pn pc sk sn) fun e w' => ∃ g cap zs, e = .returned (.slice (some ⟨g, 0, none⟩) (pn + 1) cap) ∧ Pl w' (some ⟨g, 0, none⟩) (pn + 1) cap zs ∧ Below (W18 W0 ao pn pc sk sn).heap.size (W18 W0 ao pn pc sk sn) w' := by
  have h1 : Below W0.heap.size W0 (W18 W0 ao pn pc sk sn) := (((Below.refl _ _).alloc (Nat.le_refl _) _).alloc (by simp [World.size_alloc]) _).drew
  refine concat19 _ _ pn pc 1 ao ⟨W0.heap.size, 0, none⟩ xs [.int .i64 sk, .string sn] hpn ?_ ?_ (hP.below h1) ⟨rfl, fun h => (by cases h), ?_, ?_⟩
  · unfold W18; go_simp
  · unfold W18; go_simp
  · intro ad e j u hj
    simp only [Option.some.injEq] at e
    subst e
    match j, hj with
    | 0, hj =>
      simp only [List.getElem?_cons_zero, Option.some.injEq] at hj
      subst hj
      unfold W18 Addr.add; go_simp
    | 1, hj =>
      simp only [List.getElem?_cons_succ, List.getElem?_cons_zero, Option.some.injEq] at hj
      subst hj
      unfold W18 Addr.add; go_simp
    | j + 2, hj => simp at hj
  · intro u hu
    simp only [List.mem_cons, List.not_mem_nil, or_false] at hu
    rcases hu with rfl | rfl <;> rfl

set_option maxRecDepth 100000 in
set_option maxHeartbeats 4000000 in
theorem below18 {n : Nat} (hI : Deft n) (t : T n) (P : Nat → Prop) (w : World) (k1 k2 md : Bool) (s kb pn pc pb ab : Nat) (ao : Option Addr) (xs : List Value) (sk : Int) (sn : ByteArray) (hM : M P n w k1 md t s) (hk : w.cell? ⟨kb, 0, none⟩ = some (.bool k2)) (hP : Pl w ao pn pc xs) (hpn : pn + 1 + n ≤ 65600)
    (h1 : w.cell? ⟨pb, 0, none⟩ = some (.slice ao pn pc)) (h2 : w.cell? ⟨ab, 0, none⟩ = some (atV kb)) :
    Calls Try.prog 18 #[.agg #[.int .i64 sk, .string sn], .pointer (some ⟨s, 0, none⟩), .pointer (some ⟨pb, 0, none⟩), .pointer (some ⟨ab, 0, none⟩)] w fun e w' => DPost P n (k1 && k2) t (md && !(k1 && gives n t)) s w e w' := by
  have HM := hid hM
  have HK := hid hk
  have HP := hid hP
  have HI := hid hI
  clear hM hk hP hI
  go_enter Try.func18, Try.ntmps18
  go_wp2_with fail
  obtain ⟨W0, hW0⟩ : ∃ W0, W0 = w.alloc (Obj.cells #[Value.int IntKind.i64 sk, Value.string sn] 65) := ⟨_, rfl⟩
  obtain ⟨sb, hsb⟩ : ∃ sb, sb = w.heap.size := ⟨_, rfl⟩
  have b0 : Below w.heap.size w W0 := by rw [hW0]; exact (Below.refl _ _).alloc (Nat.le_refl _) _
  have K0 : W0.cell? ⟨pb, 0, none⟩ = some (.slice ao pn pc) ∧ W0.cell? ⟨ab, 0, none⟩ = some (atV kb) ∧ W0.cell? ⟨sb, 0, none⟩ = some (.int .i64 sk) ∧ W0.cell? ⟨sb, 1, none⟩ = some (.string sn) :=
    ⟨(b0.cell (cell_lt h1)).trans h1, (b0.cell (cell_lt h2)).trans h2, by rw [hW0, hsb]; go_simp, by rw [hW0, hsb]; go_simp⟩
  have HB0 := hid b0
  have HK0 := hid K0
  have HP0 := hid (HP.out.below b0)
  rw [← hW0, ← hsb]
  clear hW0 hsb b0 h1 h2 K0
  have hc19 := rows18 W0 ao pn pc xs sk sn (by omega) HP0.out
  have HC19 := hid hc19
  clear hc19
  go_region_held3 (fun w' => w'.cell? ⟨pb, 0, none⟩ = some (.slice ao pn pc) ∧ w'.cell? ⟨ab, 0, none⟩ = some (atV kb) ∧ w'.cell? ⟨sb, 0, none⟩ = some (.int .i64 sk) ∧ w'.cell? ⟨sb, 1, none⟩ = some (.string sn))
    (first | exact kB4 HK0.out ((Below.refl _ _).drew) | exact kB4 (by assumption) b19 | exact kB4 (by assumption) ((Below.refl _ _).alloc (Nat.le_refl _) _) | exact kB4 HK0.out (((Below.refl _ _).alloc (Nat.le_refl _) _).drew) | exact kB4 HK0.out ((((Below.refl _ _).alloc (Nat.le_refl _) _).alloc (by simp [World.size_alloc]) _).drew) | exact kB4 (by assumption) b17)
    (first
      | (go_at_call 19; refine (HC19.out).mono ?_; rintro e w19 ⟨g, cap, zs, rfl, hpl, b19⟩; have HPl := hid hpl; clear hpl)
      | (go_at_call 17; refine (HI.out t P w19 k1 k2 md s kb (pn + 1) cap (some ⟨g, 0, none⟩) zs (HM.out.below (bel18 HB0.out b19)) (((bel18 HB0.out b19).cell (cell_lt HK.out)).trans HK.out) HPl.out (by omega)).mono ?_; rintro e w17 ⟨s', rfl, hm17, b17, p1, p2⟩; have HP1 := hid p1; have HP2 := hid p2; clear p1 p2; have HM17 := hid hm17; clear hm17))
  go_wp2_with fail
  go_ret
  have hb := bel18 HB0.out b19
  exact ⟨s', rfl, HM17.out.weaken (fun d hd _ => by
    rcases hd with h | h
    · exact .inl h
    · exact .inr (by have := hb.size; omega)), hb.trans (b17.mono hb.size), HP1.out, fun h => Nat.le_trans hb.size (HP2.out h)⟩

end Go.Proofs.Qxb6603619a.Crd
