import Derived.Test.Qxb6603619aDI
namespace Go.Proofs.Qxb6603619a.Crd
open Go.RowKit
set_option linter.unusedVariables false
set_option linter.unusedSimpArgs false

theorem dflt_t {α : Type} {kp : Bool} {t : Nd α} (h : (kp && t.hd) = true) : dflt kp t = .iface 9 (.string t.df) := by rw [dflt, if_pos h]
theorem dflt_f {α : Type} {kp : Bool} {t : Nd α} (h : (kp && t.hd) = false) : dflt kp t = .nilIface := by rw [dflt, if_neg (by rw [h]; simp)]
theorem MProps.map {n : Nat} {P : Nat → Prop} {w : World} {t : Nd (T n)} {sub : T n → Nat → Prop} {mb : Nat} (h : MProps P w t sub (.map (some mb))) : t.mn = false ∧ (∀ j, j < t.ml → (t.nm j).size ≤ maxLen) ∧ ∃ cnt sz B, FMap w mb cnt (pf t.nm t.ml B) sz := by
  rcases h with ⟨_, h⟩ | ⟨h1, mb, cnt, sz, B, h, h0, h3, h4, h5, h6⟩
  · cases h
  · simp only [Value.map.injEq, Option.some.injEq] at h
    subst h
    exact ⟨h1, h6, cnt, sz, B, h4⟩

theorem pcOf {P : Nat → Prop} {w W0 wc : World} (h0 : Below w.heap.size w W0) (h1 : W0.heap.size < wc.heap.size) (h2 : Below W0.heap.size W0 wc) {d : Nat} (hd : P0Of P w d ∨ wc.heap.size ≤ d) : PcOf P w W0 d := by
  have := h0.size
  rcases hd with hd | hd
  · exact ⟨.inl hd.1, by have := hd.2; omega⟩
  · exact ⟨.inr (by omega), by omega⟩

theorem Cp.fin {n : Nat} {Pc P' : Nat → Prop} {W0 wc w6 : World} {t : Nd (T n)} {k : Bool} {vp va vi : Value} (h : Cp Pc W0 wc t (dflt k t) k vp va vi true true true) (hc : ∀ d, Pc d → d ≠ W0.heap.size) (hb : Below wc.heap.size wc w6) (hP : ∀ d, Pc d → P' d) (hP0 : P' W0.heap.size) :
    M P' (n + 1) (w6.setCell ⟨W0.heap.size, 27, none⟩ (.bool (!(k && gives (n + 1) t)))) k true t W0.heap.size := by
  obtain ⟨vp', va', vi', h1, h2, h3, h4, h5⟩ := h
  have hlt := (Array.getElem?_eq_some_iff.1 h1).1
  have e1 : ∀ d, Pc d → d < wc.heap.size → (w6.setCell ⟨W0.heap.size, 27, none⟩ (.bool (!(k && gives (n + 1) t)))).heap[d]? = wc.heap[d]? := fun d hd hl => (Below.heap_setCell _ _ _ _ (hc d hd)).trans (hb.block d hl)
  refine ⟨vp', va', vi', ⟨?_, hP0, MProps.kept (P := Pc) h2 e1 (fun d h _ => hP d h), MPtr.kept (P := Pc) h3 e1 (fun d h _ => hP d h), MPtr.kept (P := Pc) h4 e1 (fun d h _ => hP d h)⟩⟩
  rw [Bool.true_and]
  exact sch_set27 ((hb.block _ hlt).trans h1) _

theorem MProps.shape {α : Type} {P : Nat → Prop} {w : World} {t : Nd α} {sub : α → Nat → Prop} {vp : Value} (h : MProps P w t sub vp) : ∃ m, vp = .map m := by
  rcases h with ⟨_, h⟩ | ⟨_, mb, cnt, sz, B, h, _⟩ <;> exact ⟨_, h⟩

set_option maxRecDepth 100000 in
set_option maxHeartbeats 4000000 in
theorem deft17 : ∀ n, Deft n := by
  intro n
  induction n with
  | zero => intro t P w k1 k2 md s kb pn pc ao xs h; exact h.elim
  | succ n ih =>
    intro t P w k1 k2 md s kb pn pc ao xs hM hk hPl hpn
    have HI := hid ih
    clear ih
    have HM := hid hM
    obtain ⟨vp, va, vi, hn⟩ := hM
    have HN := hid hn
    have HK := hid hk
    have HPl := hid hPl
    have c27 := (schC hn.blk).c27
    clear hn hk hPl
    obtain ⟨pl, hpl⟩ : ∃ pl, pl = (md && !(k1 && gives (n + 1) t)) := ⟨_, rfl⟩
    have HPlain := hid hpl
    rw [← hpl] at c27
    clear hpl
    have e27 := ((below2 w (Obj.cells #[Value.slice ao pn pc] 54) (Obj.cells #[Value.func (.func 14) #[] #[.pointer (some ⟨kb, 0, none⟩)]] 55)).cell (cell_lt c27)).trans c27
    clear c27
    unfold atV
    cases pl with
    | true =>
      go_enter Try.func17, Try.ntmps17
      go_wp2_with fail
      go_ret
      have hq := HPlain.out
      obtain ⟨hmd, hg⟩ := plain_inv hq
      subst hmd
      have hb := below2 w (Obj.cells #[Value.slice ao pn pc] 54) (Obj.cells #[Value.func (.func 14) #[] #[.pointer (some ⟨kb, 0, none⟩)]] 55)
      exact ⟨s, rfl, M.rekeep (fun d h => .inl h) hg (HM.out.below hb), hb, fun _ => rfl, fun h => (by rw [← HPlain.out] at h; cases h)⟩
    | false =>
      go_enter Try.func17, Try.ntmps17
      go_upto_region 3 with fail
      obtain ⟨W0, hW0⟩ : ∃ W0, W0 = (w.alloc (Obj.cells #[Value.slice ao pn pc] 54)).alloc (Obj.cells #[Value.func (.func 14) #[] #[.pointer (some ⟨kb, 0, none⟩)]] 55) := ⟨_, rfl⟩
      rw [← hW0]
      obtain ⟨pb, hpb⟩ : ∃ pb, pb = w.heap.size := ⟨_, rfl⟩
      rw [← hpb]
      obtain ⟨ab, hab⟩ : ∃ ab, ab = pb + 1 := ⟨_, rfl⟩
      rw [← hab]
      have b0 : Below w.heap.size w W0 := by rw [hW0]; exact below2 _ _ _
      have hp0 : W0.cell? ⟨pb, 0, none⟩ = some (.slice ao pn pc) := by rw [hW0, hpb]; exact cellA w _ _
      have ha0 : W0.cell? ⟨ab, 0, none⟩ = some (atV kb) := by rw [hW0, hab, hpb]; exact cellB w _ _
      have HB0 := hid b0
      have HPB := hid hp0
      have HAB := hid ha0
      have hblk := (b0.block s (Array.getElem?_eq_some_iff.1 HN.out.blk).1).trans HN.out.blk
      rw [← HPlain.out] at hblk
      have HBlk := hid hblk
      clear hW0 hpb hab b0 hp0 ha0 e27
      have hP0 : Hid (MProps (P0Of P w) W0 (t : Nd (T n)) (M (P0Of P w) n W0 k1 md) vp) := hid (MProps.kept HN.out.ps (fun d _ hd => HB0.out.block d hd) (fun d h hd => ⟨h, hd⟩))
      have hV0 : Hid (MPtr (t : Nd (T n)).va (M (P0Of P w) n W0 k1 md) va) := hid (MPtr.kept HN.out.vs (fun d _ hd => HB0.out.block d hd) (fun d h hd => ⟨h, hd⟩))
      have hI0 : Hid (MPtr (t : Nd (T n)).ia (M (P0Of P w) n W0 k1 md) vi) := hid (MPtr.kept HN.out.is (fun d _ hd => HB0.out.block d hd) (fun d h hd => ⟨h, hd⟩))
      have hk0 := (HB0.out.cell (cell_lt HK.out)).trans HK.out
      have HK0 := hid hk0
      have HPl0 := hid (HPl.out.below HB0.out)
      clear hk0
      go_cut [7] from 11 (fun v wc => v = .pointer (some ⟨W0.heap.size, 0, none⟩) ∧ wc = W0.alloc (.cells (sch (dflt k1 (t : Nd (T n))) (t : Nd (T n)).fm vp va vi false) 49))
      case first =>
        have H1 : (sch (dflt k1 (t : Nd (T n))) (t : Nd (T n)).fm vp va vi false).all (·.oneCell') = true := one_sch HN.out
        go_wp2_with (first | (refine wpList_load_row rfl 49 _ rfl s rfl 49 _ (0, 0) _ HBlk.out Try.underlying49 rfl info49 ?_) | (refine wpList_store_new rfl rfl 49 _ _ rfl _ (sch (dflt k1 (t : Nd (T n))) (t : Nd (T n)).fm vp va vi false) rfl rfl info49 rfl H1 ?_))
        go_meet
        case rel => exact ⟨rfl, rfl⟩
      case rest =>
        obtain ⟨rfl, hwc⟩ := hcut
        have HC0 : Hid (Cp (PcOf P w W0) W0 wc (t : Nd (T n)) (dflt k1 (t : Nd (T n))) (k1 && k2) vp va vi false false false) := hid (by rw [hwc]; exact Cp.start)
        have hcc : SchC wc W0.heap.size (dflt k1 (t : Nd (T n))) (t : Nd (T n)).fm vp va vi false := schC (by rw [hwc]; exact heap_alloc_last _ _)
        have d1 := hcc.c1
        have f1 := hcc.fr 1
        have hpw := (HC0.out.bel.cell (cell_lt HPB.out)).trans HPB.out
        have haw := (HC0.out.bel.cell (cell_lt HAB.out)).trans HAB.out
        have hkw := (HC0.out.bel.cell (cell_lt HK0.out)).trans HK0.out
        unfold atV at haw
        clear hwc hcc hblk
        obtain ⟨c, hc⟩ : ∃ c, c = W0.heap.size := ⟨_, rfl⟩
        rw [← hc] at d1 f1 ⊢
        have HCc := hid hc
        clear hc
        go_step
        go_step
        go_cut [] from 11 (fun wx => Cp (PcOf P w W0) W0 wx (t : Nd (T n)) (dflt (k1 && k2) (t : Nd (T n))) (k1 && k2) vp va vi false false false)
        case first =>
          cases hh : (k1 && (t : Nd (T n)).hd) with
          | false =>
            have e1 : dflt k1 (t : Nd (T n)) = .nilIface := dflt_f hh
            have e2 : dflt (k1 && k2) (t : Nd (T n)) = .nilIface := dflt_f (by rw [Bool.and_right_comm, hh]; rfl)
            rw [e1] at d1
            have E12 := hid (e2.trans e1.symm)
            clear hh e1 e2
            go_wp2_with fail
            go_meet
            case rel => rw [E12.out]; exact HC0.out
          | true =>
            have e1 : dflt k1 (t : Nd (T n)) = .iface 9 (.string (t : Nd (T n)).df) := dflt_t hh
            rw [e1] at d1
            cases hk2 : k2 with
            | false =>
              have E2 : Hid (dflt (k1 && k2) (t : Nd (T n)) = .nilIface) := hid (dflt_f (by rw [hk2, Bool.and_false]; rfl))
              rw [hk2] at hkw
              clear hh e1 hk2
              go_wp2_with (go_at_call 14; refine (keep14 _ kb false _ hkw).mono ?_; rintro e w' ⟨rfl, rfl⟩)
              go_meet
              case rel => rw [E2.out, HCc.out]; exact HC0.out.setD .nilIface
            | true =>
              rw [hk2] at hkw
              have E12 : Hid (dflt (k1 && k2) (t : Nd (T n)) = dflt k1 (t : Nd (T n))) := hid (by rw [hk2, Bool.and_true])
              clear hh e1 hk2
              go_wp2_with (go_at_call 14; refine (keep14 _ kb true _ hkw).mono ?_; rintro e w' ⟨rfl, rfl⟩)
              go_meet
              case rel => rw [E12.out]; exact HC0.out
        case rest =>
          have HC1 := hid hcut
          have hb1 := hcut.bel
          have HBw := hid hb1
          clear hcut d1 f1 hpw haw hkw
          obtain ⟨pm, hpm⟩ := HN.out.ps.shape
          subst hpm
          have hblk1 := (hb1.block s (Array.getElem?_eq_some_iff.1 HBlk.out).1).trans HBlk.out
          have s3 := (schC hblk1).c3
          have HS := hid (schC hblk1)
          have hq := run_neq_map_nil (P := Try.prog) wc 42 9 25 pm Try.underlying42
          clear hb1 hblk1
          go_upto_if 34 with fail
          go_cut [] from 9 (fun wx => Cp (PcOf P w W0) W0 wx (t : Nd (T n)) (dflt (k1 && k2) (t : Nd (T n))) (k1 && k2) (.map pm) va vi true false false)
          case first =>
            cases pm with
            | none =>
              have hnil : (t : Nd (T n)).mn = true ∧ (t : Nd (T n)).ml = 0 := by
                rcases HN.out.ps with ⟨h, _⟩ | ⟨_, mb, cnt, sz, B, h, _⟩
                · exact h
                · cases h
              have HNil := hid hnil
              clear hnil
              go_wp2_with fail
              go_meet
              case rel => exact HC1.out.nil HNil.out
            | some mo =>
              obtain ⟨hmn, hnms, mcnt, msz, mB, hmF⟩ := HN.out.ps.map
              have hBw' : Below w.heap.size w wc := HB0.out.trans (HBw.out.mono HB0.out.size)
              have hlen := fun ty => (hmF.below hBw').len (t := 42) (e := 25) Try.underlying42 ty
              have HMn := hid hmn
              have HNms := hid hnms
              have hclt := HC1.out.lt
              obtain ⟨x5, -, -, x6, -, -, x27, -, -, x3, g3, gf3⟩ := HC1.out.at (Below.refl _ _)
              have B3 : Below W0.heap.size W0 ((wc.setCell ⟨W0.heap.size, 3, none⟩ (.map (some wc.heap.size))).alloc (.map #[] 0)) := (HBw.out.setCell (Nat.le_refl _) _).alloc (HBw.out.setCell (Nat.le_refl _) _).size _
              have e3 := (schC ((B3.block s (Array.getElem?_eq_some_iff.1 HBlk.out).1).trans HBlk.out)).c3
              obtain ⟨w1, D, m, hr, hit, hb1, hD, hm⟩ := ItS.start (MProps.kept (P' := P0Of P w) hP0.out (w' := (wc.setCell ⟨W0.heap.size, 3, none⟩ (.map (some wc.heap.size))).alloc (.map #[] 0)) (fun d hd hl => B3.block d hl) (fun _ h _ => h))
              have HLp := hid (Lp.start (r := wc.heap.size + 1) HC1.out hb1 hD)
              have hmm := make42
              have hs3 : ((wc.setCell ⟨W0.heap.size, 3, none⟩ (.map (some wc.heap.size))).alloc (.map #[] 0)).heap.size = wc.heap.size + 1 := by simp [World.setCell, World.size_alloc]
              rw [hs3] at hr hit
              rw [← HCc.out] at g3 gf3 e3 hr
              have HIt := hid hit
              have HM0 := hid hm
              have HW := hid hBw'
              have HLt := hid hclt
              have hslt : s < W0.heap.size := (Array.getElem?_eq_some_iff.1 HBlk.out).1
              rw [← HCc.out] at hclt hslt
              have hslt' : s < wc.heap.size := by omega
              have hsc : s ≠ c := by omega
              clear hit hm hD hb1 B3 hmF hmn hnms hs3 hBw'
              go_wp2_with fail
              have hwc0 := HB0.out.size
              rw [← HCc.out] at hwc0
              obtain ⟨mb, hmb⟩ : ∃ mb, mb = wc.heap.size := ⟨_, rfl⟩
              rw [← hmb] at HIt HLp hclt ⊢
              clear hmb g3 gf3 e3 hr hlen hmm hq s3 hslt hslt' hsc HLt
              go_loopg [] m (fun g wr => ∃ D' cnt, ItS (fun d => P0Of P w d ∧ d < mb + 1) k1 md (t : Nd (T n)) (.map (some mo)) (mb + 1) D' g wr ∧ Lp (PcOf P w W0) W0 wr (t : Nd (T n)) (dflt (k1 && k2) (t : Nd (T n))) (k1 && k2) va vi mb (mb + 1) D' cnt ∧ cnt + g ≤ 65536)
              case atStart => exact ⟨D, 0, HIt.out, HLp.out, by have := HM0.out; omega⟩
              case round =>
                obtain ⟨D', cnt, hit, hlp, hcnt⟩ := hrel
                have HLp' := hid hlp
                rcases hit.next (fun d hd => by have := hd.2; have := hd.1.2; omega) 0 with ⟨hn0, hdone⟩ | ⟨j, s', w', m', hm, hj, hl, hDj, hsz, hn0, hen, hMj, hit', hg', hrl⟩
                · have HDo := hid hdone
                  clear hit hlp hdone
                  go_wp2_with fail
                  go_meet
                  case rel => exact HLp'.out.done HDo.out ⟨.inr (by omega), by rw [← HCc.out]; omega⟩ (by omega) HMn.out HNms.out
                · obtain ⟨sz, B, hblk, hF, hMs, hB3⟩ := hlp
                  have hBx : Below W0.heap.size W0 w' := below_put hB3 hg' (by rw [← HCc.out]; omega) (Nat.le_refl _)
                  have c3 : w'.cell? ⟨c, 3, none⟩ = some (.map (some mb)) := by
                    rw [HCc.out]
                    exact cell_grown (schC hblk).c3 hg' (by show W0.heap.size ≠ mb + 1; rw [← HCc.out]; omega)
                  have hF' := hF.kept (hg'.block mb hF.lt (by simp))
                  have HF' := hid hF'
                  have HBlk3 := hid hblk
                  have HMs := hid hMs
                  have HB3 := hid hB3
                  have HBx := hid hBx
                  have HMj := hid hMj
                  have HIt' := hid hit'
                  have HG' := hid hg'
                  have HLj := hid hl
                  have HSz := hid hsz
                  have HCn := hid hcnt
                  have HRl := hid hrl
                  have HC3 := hid c3
                  have hx1 := hid ((hBx.cell (cell_lt HPB.out)).trans HPB.out)
                  have hx2 := hid ((hBx.cell (cell_lt HAB.out)).trans HAB.out)
                  have hx3 := hid ((hBx.cell (cell_lt HK0.out)).trans HK0.out)
                  have hx4 := hid (HPl0.out.below hBx)
                  clear hblk hF hMs hB3 hBx hF' hMj hit' hg' hl hsz hit hrl hDj c3
                  go_wp2_with fail
                  go_region_held3 (fun wx => wx.cell? ⟨c, 3, none⟩ = some (.map (some mb)))
                    (first | exact kB1 HC3.out ((Below.refl _ _).drew) | exact kB1 (kB1 HC3.out ((Below.refl _ _).drew)) b6 | exact cell_grown (kB1 (kB1 HC3.out ((Below.refl _ _).drew)) b6) hg7 (by show c ≠ mb; omega))
                    (first | (go_at_call 18; refine (below18 HI.out ((t : Nd (T n)).tm j) (fun d => P0Of P w d ∧ d < mb + 1) w'.drew k1 k2 md s' kb pn pc pb ab ao xs 0 ((t : Nd (T n)).nm j) (HMj.out.below (Below.refl _ _).drew) hx3.out (hx4.out.below (Below.refl _ _).drew) (by omega) hx1.out hx2.out).mono ?_; rintro e w6 ⟨s6, rfl, m6, b6, -⟩; have M6 := hid m6; obtain ⟨w7, sz7, hup, hf7, hg7⟩ := FMap.update (HF'.out.kept (b6.block _ HF'.out.lt)) Try.underlying42 (by unfold maxLen; omega) HSz.out (.pointer (some ⟨s6, 0, none⟩)); have HF7 := hid hf7; clear m6 hf7))
                  go_wp2_with fail
                  go_roundg m'
                  case measure => exact hm
                  case rel =>
                    have hb6 : Below w'.heap.size w' w6 := ((Below.refl _ _).drew).trans b6
                    have hrl' := HRl.out
                    have hgs := HG'.out.size
                    refine ⟨_, cnt + 1, .inr ((HIt'.out.kept (below_grown hb6 none) (by simp) (fun d _ => by simp)).kept hg7 (by simp) (fun d hd => by have := hd.1.2; simp; omega)), ?_, by omega⟩
                    refine Lp.step (Q := fun d => (P0Of P w d ∧ d < mb + 1) ∨ w'.drew.heap.size ≤ d) (fun d hd => hd.2) (by rw [← HCc.out]; omega) (by rw [← HCc.out]; omega) (by omega) HBlk3.out HMs.out HB3.out ⟨HG'.out.os, HG'.out.tape, HG'.out.output, HG'.out.size, HG'.out.block⟩ hb6 M6.out (fun d hd => ?_) HLj.out HF7.out hg7
                    rcases hd with hd | hd
                    · have h1 := hd.1.2
                      exact ⟨⟨.inl hd.1.1, by rw [← HCc.out]; omega⟩, by omega, by omega⟩
                    · have h1 : w'.heap.size ≤ d := hd
                      exact ⟨⟨.inr (by omega), by rw [← HCc.out]; omega⟩, by omega, by omega⟩
          case rest =>
            have HC2 := hid hcut
            have hb2 := hcut.bel
            have HBw2 := hid hb2
            have HLt2 := hid hcut.lt
            clear hcut s3 hq
            obtain ⟨pv, hpv⟩ := HN.out.vs.shape
            obtain ⟨pi, hpi⟩ := HN.out.is.shape
            subst hpv
            subst hpi
            have s5 := (schC ((hb2.block s (Array.getElem?_eq_some_iff.1 HBlk.out).1).trans HBlk.out)).c5
            clear hb2
            go_upto_if 64 with fail
            go_cut [] from 9 (fun wx => Cp (PcOf P w W0) W0 wx (t : Nd (T n)) (dflt (k1 && k2) (t : Nd (T n))) (k1 && k2) (.map pm) (.pointer pv) (.pointer pi) true true false)
            case first =>
              cases hva : (t : Nd (T n)).va with
              | none =>
                have hp := HN.out.vs
                rw [hva] at hp
                have hp' : Value.pointer pv = .pointer none := hp
                simp only [Value.pointer.injEq] at hp'
                subst hp'
                have HVa := hid hva
                clear hp hva
                go_wp2_with fail
                go_meet
                case rel => exact HC2.out.va_none HVa.out
              | some av =>
                have hp := hV0.out
                rw [hva] at hp
                obtain ⟨bv, e, hmv⟩ := hp
                simp only [Value.pointer.injEq] at e
                subst e
                have HMv := hid (hmv.below HBw2.out)
                have hx1 := hid ((HBw2.out.cell (cell_lt HPB.out)).trans HPB.out)
                have hx2 := hid ((HBw2.out.cell (cell_lt HAB.out)).trans HAB.out)
                have hx3 := hid ((HBw2.out.cell (cell_lt HK0.out)).trans HK0.out)
                have hx4 := hid (HPl0.out.below HBw2.out)
                have HVa := hid hva
                clear hva hmv
                go_wp2_with (go_at_call 18; refine (below18 HI.out av (P0Of P w) wc k1 k2 md bv kb pn pc pb ab ao xs 2 _ HMv.out hx3.out hx4.out (by omega) hx1.out hx2.out).mono ?_; rintro e w6 ⟨s6, rfl, m6, b6, -⟩; have M6 := hid m6; have B6 := hid b6; obtain ⟨x5, h5, f5, -⟩ := HC2.out.at b6; rw [← HCc.out] at h5 f5; clear m6 b6)
                go_meet
                case rel =>
                  rw [HCc.out]
                  exact HC2.out.setVa (fun d hd => hd.2) HVa.out M6.out (fun d hd => pcOf HB0.out HLt2.out HBw2.out hd) B6.out
            case rest =>
              have HC4 := hid hcut
              have hb4 := hcut.bel
              have HBw4 := hid hb4
              have HLt4 := hid hcut.lt
              have s6 := (schC ((hb4.block s (Array.getElem?_eq_some_iff.1 HBlk.out).1).trans HBlk.out)).c6
              clear hcut s5 hb4
              go_upto_if 77 with fail
              go_cut [] from 9 (fun wx => Cp (PcOf P w W0) W0 wx (t : Nd (T n)) (dflt (k1 && k2) (t : Nd (T n))) (k1 && k2) (.map pm) (.pointer pv) (.pointer pi) true true true)
              case first =>
                cases hia : (t : Nd (T n)).ia with
                | none =>
                  have hp := HN.out.is
                  rw [hia] at hp
                  have hp' : Value.pointer pi = .pointer none := hp
                  simp only [Value.pointer.injEq] at hp'
                  subst hp'
                  have HIa := hid hia
                  clear hp hia
                  go_wp2_with fail
                  go_meet
                  case rel => exact HC4.out.ia_none HIa.out
                | some av =>
                  have hp := hI0.out
                  rw [hia] at hp
                  obtain ⟨bv, e, hmv⟩ := hp
                  simp only [Value.pointer.injEq] at e
                  subst e
                  have HMv := hid (hmv.below HBw4.out)
                  have hx1 := hid ((HBw4.out.cell (cell_lt HPB.out)).trans HPB.out)
                  have hx2 := hid ((HBw4.out.cell (cell_lt HAB.out)).trans HAB.out)
                  have hx3 := hid ((HBw4.out.cell (cell_lt HK0.out)).trans HK0.out)
                  have hx4 := hid (HPl0.out.below HBw4.out)
                  have HIa := hid hia
                  clear hia hmv
                  go_wp2_with (go_at_call 18; refine (below18 HI.out av (P0Of P w) wc k1 k2 md bv kb pn pc pb ab ao xs 1 _ HMv.out hx3.out hx4.out (by omega) hx1.out hx2.out).mono ?_; rintro e w6 ⟨s6, rfl, m6, b6, -⟩; have M6 := hid m6; have B6 := hid b6; obtain ⟨x5, -, -, x6, h6, f6, -⟩ := HC4.out.at b6; rw [← HCc.out] at h6 f6; clear m6 b6)
                  go_meet
                  case rel =>
                    rw [HCc.out]
                    exact HC4.out.setIa (fun d hd => hd.2) HIa.out M6.out (fun d hd => pcOf HB0.out HLt4.out HBw4.out hd) B6.out
              case rest =>
                have HC5 := hid hcut
                obtain ⟨vp', va', vi', y1, y2, y3, y4, y5⟩ := hcut
                rw [← HCc.out] at y1
                have hnd := noDef20 wc (k1 && k2) false (t : Nd (T n)) c vp' va' vi' y1 y2 y3 y4
                have HNd := hid hnd
                have Y1 := hid y1
                clear hnd y1 y2 y3 y4 y5 s6
                go_wp2_with (go_at_call 20; refine HNd.out.mono ?_; rintro e w6 ⟨rfl, b6⟩; have B6 := hid b6; obtain ⟨x5, -, -, x6, -, -, x27, h27, f27, -⟩ := HC5.out.at b6; rw [← HCc.out] at h27 f27; clear b6)
                go_ret
                have hs0 := HB0.out.size
                have hbw := (HB0.out.trans (HC5.out.bel.mono hs0)).trans (B6.out.mono (Nat.le_trans hs0 HC5.out.bel.size))
                refine ⟨c, rfl, ?_, hbw.setCell (by show w.heap.size ≤ c; rw [HCc.out]; exact hs0) _, fun h => (by rw [← HPlain.out] at h; cases h), fun _ => by rw [HCc.out]; exact hs0⟩
                rw [HCc.out, show (!k1 || !k2 || !gives (n + 1) t) = !((k1 && k2) && gives (n + 1) t) by cases k1 <;> cases k2 <;> rfl]
                exact HC5.out.fin (fun d hd => hd.2) B6.out (fun d hd => hd.1) (.inr hs0)

end Go.Proofs.Qxb6603619a.Crd
