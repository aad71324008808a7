import Derived.Test.Qxb6603619aDO
import Derived.ProofKit
import Derived.OpenShut
import Derived.ChangeOld
import Derived.SizedLaws
import Derived.Deep.Strs
namespace Go.Proofs.Qxb6603619a.Crd
open Go.RowKit Go.ChangeShapes Go.WideShapes Go.ChangeAt Go.Deep
set_option linter.unusedVariables false
set_option linter.unusedSimpArgs false

theorem cells9 : Try.prog.cellsOf 9 = 1 := by kernel_rfl
theorem cells4 : Try.prog.cellsOf 4 = 1 := by kernel_rfl
theorem cells22 : Try.prog.cellsOf 22 = 1 := by kernel_rfl
theorem cells37 : Try.prog.cellsOf 37 = 1 := by kernel_rfl
theorem cells39 : Try.prog.cellsOf 39 = 6 := by kernel_rfl
theorem cells51 : Try.prog.cellsOf 51 = 7 := by kernel_rfl

theorem addr_plain {w : World} {a : Addr} {v : Value} (h : w.cell? a = some v) : a = ⟨a.block, a.off, none⟩ := by
  unfold World.cell? at h
  split at h
  · split at h
    · cases h
    · next hs => obtain ⟨b, o, s⟩ := a; cases s <;> simp_all
  · cases h

section
variable {H : Type} {enc : TypeId × Value → H} {W : World} {spare : Nat → Bool} {held : Bool}

def Fits (d : DataW H) (t : TypeId) : Prop := (d.weights Try.prog t).all (· ≤ reachBytes) = true

theorem fits_all {e : TypeId} : ∀ {ds : List (DataW H)}, (DataW.weightsAll Try.prog e ds).all (· ≤ reachBytes) = true → ∀ d ∈ ds, Fits d e
  | [], _, d, hd => by cases hd
  | d0 :: ds, h, d, hd => by
    simp only [DataW.weightsAll, List.all_append, Bool.and_eq_true] at h
    rcases List.mem_cons.1 hd with rfl | hd
    · exact h.1
    · exact fits_all h.2 d hd

theorem str_size {s : ByteArray} {t : TypeId} (h : Fits (H := H) (.lit (.string s.data.toList)) t) : s.size ≤ 140737488355328 := by
  simp only [Fits, DataW.weights, List.all_cons, List.all_nil, Bool.and_true, decide_eq_true_eq] at h
  have := reachBytes_lt
  have e : s.data.toList.length = s.size := Array.length_toList
  omega

theorem agg6 {d0 d1 d2 d3 d4 d5 : DataW H} (h : Fits (.agg [d0, d1, d2, d3, d4, d5]) 39) : Fits d1 9 ∧ Fits d2 9 ∧ Fits d3 37 ∧ Fits d4 22 ∧ Fits d5 22 := by
  simp [Fits, DataW.weights, Try.underlying39, DataW.weightsEach, List.all_append, Bool.and_eq_true] at h ⊢
  exact ⟨h.2.1, h.2.2.1, h.2.2.2.1, h.2.2.2.2.1, h.2.2.2.2.2⟩

theorem agg2 {d0 d1 : DataW H} (h : Fits (.agg [d0, d1]) 51) : Fits d0 9 ∧ Fits d1 39 := by
  simp [Fits, DataW.weights, Try.underlying51, DataW.weightsEach, List.all_append, Bool.and_eq_true] at h ⊢
  exact ⟨h.1, h.2⟩

theorem fits_ptr {d : DataW H} (h : Fits (.ptr d) 22) : Fits d 39 := by
  simpa [Fits, DataW.weights, Try.underlying22] using h

theorem fits_slice {es rs : List (DataW H)} (h : Fits (.slice es rs) 37) : ∀ d ∈ es, Fits d 51 := by
  simp only [Fits, DataW.weights, Try.underlying37, List.all_cons, List.all_append, Bool.and_eq_true] at h
  exact fits_all h.2.1

theorem plainA {W : World} {a : Addr} {cs : List Value} {n : Nat} (hn : 0 < n) (hl : cs.length = n) (h : ∀ i, i < n → W.cell? (a.add i) = cs[i]?) : a = ⟨a.block, a.off, none⟩ ∧ ∀ i, i < n → W.cell? ⟨a.block, a.off + i, none⟩ = cs[i]? := by
  have h0 := h 0 hn
  rw [show a.add 0 = a from by simp [Addr.add], List.getElem?_eq_getElem (by omega)] at h0
  have hap := addr_plain h0
  refine ⟨hap, fun i hi => ?_⟩
  have := h i hi
  rw [hap, Addr.add_lit] at this
  exact this

theorem plainB {W : World} {a : Addr} {cs : List Value} {i : Nat} (hl : cs.length = 7) (h : ∀ j, j < 7 → W.cell? ((a.add (i * 7)).add j) = cs[j]?) : ∀ j, j < 7 → W.cell? ⟨a.block, a.off + i * 7 + j, none⟩ = cs[j]? := by
  obtain ⟨h1, h2⟩ := plainA (by omega) hl h
  have e1 : (a.add (i * 7)).block = a.block := by unfold Addr.add; split <;> rfl
  have e2 : (a.add (i * 7)).off = a.off + i * 7 := by
    unfold Addr.add
    split
    · next h => rw [h]; rfl
    · rfl
  intro j hj
  have := h2 j hj
  rw [e1, e2] at this
  exact this

theorem plain0 {W : World} {a : Addr} {cs : List Value} (hl : cs.length = 7) (h : ∀ j, j < 7 → W.cell? ((a.add (0 * 7)).add j) = cs[j]?) : a = ⟨a.block, a.off, none⟩ := by
  rw [show a.add (0 * 7) = a from by simp [Addr.add]] at h
  exact (plainA (by omega) hl h).1

set_option maxHeartbeats 2000000 in
theorem readS : ∀ (m : Nat) (cs : List Value) (b o : Nat) (x : DataW H × List MemPlace), (∀ i, i < 6 → W.cell? ⟨b, o + i, none⟩ = cs[i]?) → DataW.trod enc Try.prog W 0 spare held m 39 cs = some x → Fits x.1 39 → ∃ t : T m, S maxLen m W t b o := by
  intro m
  induction m using Nat.strongRecOn with
  | ind m ih =>
    intro cs b o x hc h hw
    obtain ⟨xs, k, rfl, rfl, hl, hlen, hf⟩ := DataW.trod_struct Try.underlying39 h
    rw [cells39] at hl
    match xs, hlen, cs, hl with
    | [y0, y1, y2, y3, y4, y5], _, [c0, c1, c2, c3, c4, c5], _ =>
      obtain ⟨w1, w2, w3, w4, w5⟩ := agg6 hw
      have h0 := hf 0 _ rfl
      have h1 := hf 1 _ rfl
      have h2 := hf 2 _ rfl
      have h3 := hf 3 _ rfl
      have h4 := hf 4 _ rfl
      have h5 := hf 5 _ rfl
      simp [cells4, cells9, cells37, cells22] at h0 h1 h2 h3 h4 h5
      obtain ⟨hd, e0, _⟩ := DataW.trod_bool Try.underlying4 h0
      obtain ⟨df, e1, r1, _⟩ := DataW.trod_string Try.underlying9 h1
      obtain ⟨fm, e2, r2, _⟩ := DataW.trod_string Try.underlying9 h2
      simp only [List.cons.injEq, and_true] at e0 e1 e2
      subst e0 e1 e2
      rw [r1] at w1
      rw [r2] at w2
      have ptr : ∀ (c : Value) (y : DataW H × List MemPlace), DataW.trod enc Try.prog W 0 spare held k 22 [c] = some y → Fits y.1 22 → ∃ p, c = .pointer p ∧ ∃ x : Option (T k), SPtr x (S maxLen k W) p := by
        intro c y h hw
        rcases DataW.trod_pointer Try.underlying22 h with ⟨e, _⟩ | ⟨a, cs', y', n, hk, e, rfl, hcs, hy⟩
        · simp only [List.cons.injEq, and_true] at e
          exact ⟨none, e, none, rfl⟩
        · simp only [List.cons.injEq, and_true] at e
          rw [cells39] at hcs
          obtain ⟨_, hlen, hcell⟩ := World.cells?_some hcs
          obtain ⟨hap, hcell'⟩ := plainA (by omega) hlen hcell
          obtain ⟨t', ht'⟩ := ih n (by omega) cs' a.block a.off y' hcell' hy (fits_ptr hw)
          obtain ⟨t'', h''⟩ := S.le (by omega : n ≤ k) ⟨t', ht'⟩
          exact ⟨some a, e, some t'', a.block, a.off, congrArg some hap, h''⟩
      obtain ⟨pv, rfl, va, hva⟩ := ptr c4 y4 h4 w4
      obtain ⟨pi, rfl, ia, hia⟩ := ptr c5 y5 h5 w5
      have q0 := hc 0 (by omega)
      have q1 := hc 1 (by omega)
      have q2 := hc 2 (by omega)
      have q3 := hc 3 (by omega)
      have q4 := hc 4 (by omega)
      have q5 := hc 5 (by omega)
      simp only [List.getElem?_cons_zero, List.getElem?_cons_succ, Nat.add_zero] at q0 q1 q2 q3 q4 q5
      rcases DataW.trod_slice Try.underlying37 h3 with ⟨e3, r3⟩ | ⟨a, len, cap, elems, rest, k2, hk2, e3, r3, _, hlc, hcm, hel, hx, _⟩
      · simp only [List.cons.injEq, and_true] at e3
        subst e3
        exact ⟨(⟨hd, df, fm, true, 0, fun _ => ByteArray.empty, fun _ => tdef k, va, ia⟩ : Nd (T k)), none, 0, pv, pi, ⟨q0, q1, q2, q3, q4, q5, str_size w1, str_size w2, Nat.zero_le _, rfl, fun h => absurd h (Nat.lt_irrefl _), hva, hia⟩⟩
      · simp only [List.cons.injEq, and_true] at e3
        subst e3
        rw [r3] at w3
        rw [cells51] at hx
        have each : ∀ i, i < len → ∃ z : ByteArray × T k, W.cell? ⟨a.block, a.off + i * 7, none⟩ = some (.string z.1) ∧ z.1.size ≤ 140737488355328 ∧ S maxLen k W z.2 a.block (a.off + i * 7 + 1) := by
          intro i hi
          have hxi := hx i hi
          have hie : i < elems.length := by omega
          rw [List.getElem?_eq_getElem hie] at hxi
          obtain ⟨cs', hcs, hy⟩ := Option.bind_eq_some_iff.1 hxi
          obtain ⟨_, hlen', hcell⟩ := World.cells?_some hcs
          have hfe : Fits (elems[i]).1 51 := fits_slice w3 _ (List.mem_map.2 ⟨elems[i], List.getElem_mem hie, rfl⟩)
          obtain ⟨zs, k3, hk3, hz, hl3, hlen3, hf3⟩ := DataW.trod_struct Try.underlying51 hy
          match zs, hlen3, cs', hlen' with
          | [z0, z1], _, [d0, d1, d2, d3, d4, d5, d6], _ =>
            rw [hz] at hfe
            obtain ⟨v0, v1⟩ := agg2 hfe
            have g0 := hf3 0 _ rfl
            have g1 := hf3 1 _ rfl
            simp [cells9, cells39] at g0 g1
            obtain ⟨nm, e5, r5, _⟩ := DataW.trod_string Try.underlying9 g0
            simp only [List.cons.injEq, and_true] at e5
            subst e5
            rw [r5] at v0
            have hcell' := plainB rfl hcell
            obtain ⟨t', ht'⟩ := ih k3 (by omega) _ a.block (a.off + i * 7 + 1) z1 (fun j hj => by
              have := hcell' (j + 1) (by omega)
              rw [show a.off + i * 7 + 1 + j = a.off + i * 7 + (j + 1) by omega, this]
              rfl) g1 v1
            obtain ⟨t'', h''⟩ := S.le (by omega : k3 ≤ k) ⟨t', ht'⟩
            exact ⟨(nm, t''), by simpa using hcell' 0 (by omega), str_size v0, h''⟩
        have hap : 0 < len → a = ⟨a.block, a.off, none⟩ := fun h0 => by
          have hxi := hx 0 h0
          have hie : 0 < elems.length := by omega
          rw [List.getElem?_eq_getElem hie] at hxi
          obtain ⟨cs', hcs, hy⟩ := Option.bind_eq_some_iff.1 hxi
          obtain ⟨_, hlen', hcell⟩ := World.cells?_some hcs
          exact plain0 hlen' hcell
        obtain ⟨f, hf⟩ := @Go.Deep.choose_lt (ByteArray × T k) ⟨(ByteArray.empty, tdef k)⟩ len (fun i z => W.cell? ⟨a.block, a.off + i * 7, none⟩ = some (.string z.1) ∧ z.1.size ≤ 140737488355328 ∧ S maxLen k W z.2 a.block (a.off + i * 7 + 1)) each
        exact ⟨(⟨hd, df, fm, false, len, fun i => (f i).1, fun i => (f i).2, va, ia⟩ : Nd (T k)), some a, cap, pv, pi, ⟨q0, q1, q2, q3, q4, q5, str_size w1, str_size w2, Nat.le_trans hlc hcm, rfl, fun h => ⟨a.block, a.off, congrArg some (hap h), fun j hj => hf j hj⟩, hva, hia⟩⟩

theorem open_root {fuel : Nat} {p : Option Addr} {x : DataW H × List MemPlace} (h : DataW.trod enc Try.prog W 0 spare held fuel 22 [.pointer p] = some x) (hw : Fits x.1 22) : p = none ∨ ∃ n, ∃ t : T n, ∃ b o, p = some ⟨b, o, none⟩ ∧ S maxLen n W t b o := by
  rcases DataW.trod_pointer Try.underlying22 h with ⟨e, _⟩ | ⟨a, cs', y', n, hk, e, rfl, hcs, hy⟩
  · simp only [List.cons.injEq, Value.pointer.injEq, and_true] at e
    exact .inl e
  · simp only [List.cons.injEq, Value.pointer.injEq, and_true] at e
    subst e
    rw [cells39] at hcs
    obtain ⟨_, hlen, hcell⟩ := World.cells?_some hcs
    obtain ⟨hap, hcell'⟩ := plainA (by omega) hlen hcell
    obtain ⟨t', ht'⟩ := readS n cs' a.block a.off y' hcell' hy (fits_ptr hw)
    exact .inr ⟨n, t', a.block, a.off, congrArg some hap, ht'⟩

theorem openB {b0 : Nat} {v : Value} {d : DataW H} {ps : List MemPlace} (hval : Value.okWide Try.prog W .any b0 4 v) (hd : DataW.Trod enc Try.prog W 0 spare held 4 v d ps) : ∃ b, v = .bool b ∧ d = .lit (.bool b) ∧ ps = [] := by
  obtain ⟨b, rfl⟩ := okWide_bool Try.underlying4 hval
  obtain ⟨fuel, hf⟩ := hd
  obtain ⟨b', h, hx⟩ := DataW.trod_bool Try.underlying4 hf
  simp [Value.cells] at h
  subst h
  simp only [Prod.mk.injEq] at hx
  exact ⟨b, rfl, hx.1, hx.2⟩
end

end Go.Proofs.Qxb6603619a.Crd
