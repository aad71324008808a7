import Derived.Test.Qxb6603608aExtF
import Derived.Deep.AppendLies
import Derived.ArgAppend
namespace Go.Proofs.Qxb6603608a.Ext
open Go.RowKit
set_option linter.unusedVariables false
set_option linter.unusedSimpArgs false

/-- The indices below k that match. -/
def ms (m : Nat → Bool) (k : Nat) : List Nat := (List.range k).filter m
theorem ms_yes {m : Nat → Bool} {k : Nat} (h : m k = true) : ms m (k + 1) = ms m k ++ [k] := by simp [ms, List.range_succ, List.filter_append, h]
theorem ms_no {m : Nat → Bool} {k : Nat} (h : m k = false) : ms m (k + 1) = ms m k := by simp [ms, List.range_succ, List.filter_append, h]
theorem ms_le (m : Nat → Bool) (k : Nat) : (ms m k).length ≤ k := by
  have := List.length_filter_le m (List.range k); simpa [ms] using this
theorem ms_lt {m : Nat → Bool} {k j : Nat} (h : j < (ms m k).length) : (ms m k).getD j 0 < k ∧ m ((ms m k).getD j 0) = true := by
  have hm : (ms m k)[j] ∈ ms m k := List.getElem_mem h
  have e : (ms m k).getD j 0 = (ms m k)[j] := by simp [List.getD, h]
  rw [e]
  have h2 := List.mem_filter.1 (show (ms m k)[j] ∈ (List.range k).filter m from hm)
  exact ⟨by simpa using h2.1, h2.2⟩

/-- The matched extensions among the first k. -/
def R (m : Nat → Bool) (E : Nat → X) (k : Nat) (j : Nat) : X := E ((ms m k).getD j 0)

/-- The cells of the listed extensions, one after the other. -/
def cellsOf (E : Nat → X) (l : List Nat) : List Value := l.flatMap fun i => [.slice (E i).ia (E i).il (E i).ic, .bool (E i).c, .slice (E i).va (E i).vl (E i).vc]

theorem cellsOf_snoc (E : Nat → X) (l : List Nat) (i : Nat) : cellsOf E (l ++ [i]) = cellsOf E l ++ [.slice (E i).ia (E i).il (E i).ic, .bool (E i).c, .slice (E i).va (E i).vl (E i).vc] := by simp [cellsOf]
theorem cellsOf_length (E : Nat → X) (l : List Nat) : (cellsOf E l).length = l.length * 3 := by
  induction l with
  | nil => rfl
  | cons a l ih => simp only [cellsOf, List.flatMap_cons, List.length_append, List.length_cons, List.length_nil] at ih ⊢; omega
theorem cellsOf_at (E : Nat → X) (l : List Nat) (j : Nat) (h : j < l.length) :
    (cellsOf E l)[j * 3]? = some (.slice (E (l.getD j 0)).ia (E (l.getD j 0)).il (E (l.getD j 0)).ic) ∧ (cellsOf E l)[j * 3 + 1]? = some (.bool (E (l.getD j 0)).c) ∧ (cellsOf E l)[j * 3 + 2]? = some (.slice (E (l.getD j 0)).va (E (l.getD j 0)).vl (E (l.getD j 0)).vc) := by
  induction l generalizing j with
  | nil => simp at h
  | cons a l ih =>
    cases j with
    | zero => simp [cellsOf]
    | succ j =>
      have := ih j (by simpa using h)
      have e : ∀ t, (cellsOf E (a :: l))[(j + 1) * 3 + t]? = (cellsOf E l)[j * 3 + t]? := by
        intro t
        show ([_, _, _] ++ cellsOf E l)[(j + 1) * 3 + t]? = _
        rw [List.getElem?_append_right (by simp; omega)]
        congr 1
        simp
        omega
      have e0 := e 0
      simp only [Nat.add_zero] at e0
      rw [e0, e 1, e 2]
      simpa using this

/-- What extensionCopies' variable 'copies' holds behind k extensions: nil; the one match, where it lies; or a row of its own. -/
def Copies (wr : World) (B : Nat) (b off : Nat) (E : Nat → X) (m : Nat → Bool) (k : Nat) (v : Value) : Prop :=
  (ms m k = [] ∧ v = .slice none 0 0) ∨ (∃ i, ms m k = [i] ∧ v = .slice (some ⟨b, off + i * 3, none⟩) 1 1) ∨ (2 ≤ (ms m k).length ∧ wr.ownsRow B 46 3 v (ms m k).length (cellsOf E (ms m k)))

theorem news3 (w : World) (a b c : Value) (t : TypeId) : ∀ j u, [a, b, c][j]? = some u → (w.alloc (.cells #[a, b, c] t)).cell? ((⟨w.heap.size, 0, none⟩ : Addr).add j) = some u := by
  intro j u h
  rw [Addr.add_lit, World.cell?_alloc_at _ _ _ _ rfl]
  rw [← h]
  simp

theorem owns_base {w : World} {B B' : Nat} {e : TypeId} {size : Nat} {v : Value} {n : Nat} {xs : List Value} (h : w.ownsRow B e size v n xs) (hB : B' ≤ B) : w.ownsRow B' e size v n xs := by
  obtain ⟨h1, h2⟩ := h
  refine ⟨h1, ?_⟩
  rcases h2 with h2 | ⟨g, cap, cur, hv, hb, r⟩
  · exact .inl h2
  · exact .inr ⟨g, cap, cur, hv, Nat.le_trans hB hb, r⟩

theorem one3 (x : X) : ∀ u ∈ [Value.slice x.ia x.il x.ic, .bool x.c, .slice x.va x.vl x.vc], u.oneCell' = true := by
  intro u hu
  simp at hu
  rcases hu with rfl | rfl | rfl <;> rfl

theorem olds3 {w : World} {b o : Nat} {x : X} (h1 : w.cell? ⟨b, o, none⟩ = some (.slice x.ia x.il x.ic)) (h2 : w.cell? ⟨b, o + 1, none⟩ = some (.bool x.c)) (h3 : w.cell? ⟨b, o + 2, none⟩ = some (.slice x.va x.vl x.vc)) :
    ∀ j u, [Value.slice x.ia x.il x.ic, .bool x.c, .slice x.va x.vl x.vc][j]? = some u → w.cell? ⟨b, o + j, none⟩ = some u := by
  intro j u h
  match j, h with
  | 0, h => simp at h; subst h; exact h1
  | 1, h => simp at h; subst h; exact h2
  | 2, h => simp at h; subst h; exact h3

set_option maxHeartbeats 2000000 in
theorem copies22 (b off n c : Nat) (E : Nat → X) (ao : Option Addr) (lo co : Nat) (zo : List Int) (m : Nat → Bool) (w : World) (hn : n ≤ 65536) (hnc : n ≤ c) (hc : c ≤ maxLen) (hlo : lo ≤ 1048576) (hx : XAt w (some ⟨b, off, none⟩) n E) (ho : Rd .i64 w ao lo zo)
    (hm : ∀ i, i < n → ∃ z, Rd .i64 w (E i).ia (E i).il z ∧ (E i).il ≤ 1048576 ∧ m i = eqB z zo) :
    Calls Try.prog 22 #[.slice (some ⟨b, off, none⟩) n c, .slice ao lo co] w fun e w' => ∃ v, e = .returned v ∧ Copies w' w.heap.size b off E m n v ∧ Below w.heap.size w w' := by
  unfold maxLen at hc
  have q37 : ∀ (w : World) (a : Option Addr) (n c n' c' : Nat), (binOp .eql 37 (.slice a n c) (.slice none n' c')).run Try.prog w = .ok (.bool a.isNone) w := fun w a n c n' c' => Lib.run_eql_slice_nil w _ _ a n c n' c' Try.underlying37
  obtain ⟨i0, hi, hz0, hz1, hz2⟩ := info_parts info46
  go_enter Try.func22, Try.ntmps22
  go_wp2
  go_loopw [5, 9] (fun v i wr => ∃ k : Nat, k ≤ n ∧ i = .int .i64 k ∧ Copies wr w.heap.size b off E m k v ∧ Below w.heap.size w wr) (fun _ i _ => n - (intOf i).toNat)
  case atStart => exact ⟨0, Nat.zero_le _, rfl, .inl ⟨rfl, rfl⟩, Below.refl _ _⟩
  case round =>
    rename_i v0 _
    obtain ⟨k, hk, rfl, hcop, hb⟩ := hrel
    by_cases hlt : k < n
    · obtain ⟨b', off', ex, hcell⟩ := hx (by omega)
      simp only [Option.some.injEq, Addr.mk.injEq, and_true] at ex
      obtain ⟨rfl, rfl⟩ := ex
      obtain ⟨g1, g2, g3⟩ := hcell k hlt
      have f1 := (hb.cell (cell_lt g1)).trans g1
      have f2 := (hb.cell (cell_lt g2)).trans g2
      have f3 := (hb.cell (cell_lt g3)).trans g3
      obtain ⟨z, hz, hzl, hmz⟩ := hm k hlt
      have hlt' : (k : Int) < (n : Int) := by omega
      have hz' := hz.below hb
      have ho' := ho.below hb
      have HM : Hid (m k = eqB z zo) := hmz
      have HC : Hid (∀ i, i < n → w.cell? ⟨b, off + i * 3, none⟩ = some (.slice (E i).ia (E i).il (E i).ic) ∧ w.cell? ⟨b, off + i * 3 + 1, none⟩ = some (.bool (E i).c) ∧ w.cell? ⟨b, off + i * 3 + 2, none⟩ = some (.slice (E i).va (E i).vl (E i).vc)) := hcell
      clear hmz hcell g1 g2 g3 hx hm
      cases hmk : m k with
      | false =>
        have hq : eqB z zo = false := HM.out.symm.trans hmk
        go_wp2_with (go_at_call 24; refine (same24 _ _ _ _ _ _ z zo _ hz' ho' hzl hlo).mono ?_; rintro e w' ⟨rfl, q, rfl⟩)
        go_roundw
        case rel => exact ⟨k + 1, by omega, by go_num, by unfold Copies at hcop ⊢; rw [ms_no hmk]; exact hcop, below_drewN hb q⟩
        case measure => simp [intOf]; omega
      | true =>
        have hq : eqB z zo = true := HM.out.symm.trans hmk
        have HK : Hid (m k = true) := hmk
        clear hmk
        rcases hcop with ⟨e0, rfl⟩ | ⟨i, e1, rfl⟩ | ⟨e2, hown⟩
        · go_wp2_with (go_at_call 24; refine (same24 _ _ _ _ _ _ z zo _ hz' ho' hzl hlo).mono ?_; rintro e w' ⟨rfl, q, rfl⟩)
          go_roundw
          case rel => exact ⟨k + 1, by omega, by go_num, .inr (.inl ⟨k, by rw [ms_yes HK.out, e0]; rfl, rfl⟩), below_drewN hb q⟩
          case measure => simp [intOf]; omega
        · have hik : i < k := by
            have := (ms_lt (m := m) (k := k) (j := 0) (by rw [e1]; simp)).1
            rw [e1] at this
            simpa using this
          obtain ⟨p1, p2, p3⟩ := HC.out i (by omega)
          have r1 := (hb.cell (cell_lt p1)).trans p1
          have r2 := (hb.cell (cell_lt p2)).trans p2
          have r3 := (hb.cell (cell_lt p3)).trans p3
          have hbl : b < wr.heap.size := cell_lt r1
          have E1 : Hid (ms m k = [i]) := e1
          clear e1 p1 p2 p3
          go_wp2_with (first | (go_at_call 24; refine (same24 _ _ _ _ _ _ z zo _ hz' ho' hzl hlo).mono ?_; rintro e w' ⟨rfl, q, rfl⟩) | (at_builtin; refine wpList_append_arg _ rfl (.tmp 12) (.tmp 17) 37 rfl 46 i0 _ 3 56 Try.underlying37 hi hz0 hz1 hz2 rfl (by decide) b (off + i * 3) 1 1 [.slice (E i).ia (E i).il (E i).ic, .bool (E i).c, .slice (E i).va (E i).vl (E i).vc] rfl rfl ?_ ⟨wr.heap.size, 0, none⟩ 1 1 [.slice (E k).ia (E k).il (E k).ic, .bool (E k).c, .slice (E k).va (E k).vl (E k).vc] rfl rfl ?_ (one3 _) ?_ (by decide) (by decide) ?_ ?_))
          · exact olds3 ((World.cell?_alloc_past (w := wr.drewN q) _ _ _ hbl).trans r1) ((World.cell?_alloc_past (w := wr.drewN q) _ _ _ hbl).trans r2) ((World.cell?_alloc_past (w := wr.drewN q) _ _ _ hbl).trans r3)
          · exact news3 (wr.drewN q) _ _ _ _
          · intro h; omega
          · intro v' w1 hown' hgrow'
            go_wp2
            go_roundw
            case rel =>
              have hsz := hb.size
              refine ⟨k + 1, by omega, by go_num, .inr (.inr ⟨by rw [ms_yes HK.out, E1.out]; simp, ?_⟩), ((below_drewN hb q).alloc hsz _).grown hgrow' (by simp; omega) (fun _ h => by cases h)⟩
              rw [ms_yes HK.out, E1.out]
              exact owns_base hown' (by omega)
            case measure => simp [intOf]; omega
        · obtain ⟨g, cap, rfl, hgB, hgl⟩ := hown.form (by omega)
          have hrl := ms_le m k
          have hsz := hb.size
          go_wp2_with (first | (go_at_call 24; refine (same24 _ _ _ _ _ _ z zo _ hz' ho' hzl hlo).mono ?_; rintro e w' ⟨rfl, q, rfl⟩) | (at_builtin; refine wpList_append_lies _ rfl (.tmp 12) (.tmp 17) 37 rfl w.heap.size 46 i0 _ 3 56 Try.underlying37 hi hz0 hz1 hz2 rfl (by decide) _ (ms m k).length (cellsOf E (ms m k)) rfl ?_ ⟨wr.heap.size, 0, none⟩ 1 1 [.slice (E k).ia (E k).il (E k).ic, .bool (E k).c, .slice (E k).va (E k).vl (E k).vc] rfl rfl ?_ (one3 _) (by decide) ?_ ?_ ?_ _ rfl ?_))
          · exact World.ownsRow.alloc (w := wr.drewN q) hown _
          · exact news3 (wr.drewN q) _ _ _ _
          · unfold maxLen; omega
          · omega
          · simp; omega
          · intro g' cap' w1 hown' hgrow' hat' hlt2
            go_wp2
            go_roundw
            case rel =>
              refine ⟨k + 1, by omega, by go_num, .inr (.inr ⟨by rw [ms_yes HK.out]; simp; omega, ?_⟩), ((below_drewN hb q).alloc hsz _).grown hgrow' (by simp; omega) (fun r h => ?_)⟩
              · rw [ms_yes HK.out, cellsOf_snoc, List.length_append]
                exact hown'
              · simp [Value.ownBlock] at h; omega
            case measure => simp [intOf]; omega
    · have : k = n := by omega
      subst this
      go_wp2
      go_ret
      exact ⟨_, rfl, hcop, hb⟩

end Go.Proofs.Qxb6603608a.Ext
