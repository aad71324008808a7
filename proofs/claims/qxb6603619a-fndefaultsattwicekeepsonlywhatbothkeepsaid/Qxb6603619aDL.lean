import Derived.Test.Qxb6603619aDK
namespace Go.Proofs.Qxb6603619a.Crd
open Go.RowKit
set_option linter.unusedVariables false
set_option linter.unusedSimpArgs false

theorem ptrs {n : Nat} {P : Nat → Prop} {L : Nat} {w : World} {kp md : Bool} {x : Option (T n)} {p : Option Addr} {v : Value} (hs : SPtr x (S L n w) p) (hm : MPtr x (M P n w kp md) v) :
    (p = none ∧ v = .pointer none) ∨ ∃ a b o s, p = some ⟨b, o, none⟩ ∧ v = .pointer (some ⟨s, 0, none⟩) ∧ S L n w a b o ∧ M P n w kp md a s := by
  cases x with
  | none => exact .inl ⟨hs, hm⟩
  | some a =>
    obtain ⟨b, o, e, h⟩ := hs
    obtain ⟨s, e', h'⟩ := hm
    exact .inr ⟨a, b, o, s, e, e', h, h'⟩

theorem MProps.shape' {α : Type} {P : Nat → Prop} {w : World} {t : Nd α} {sub : α → Nat → Prop} {vp : Value} (h : MProps P w t sub vp) : ∃ m, vp = .map m := by
  rcases h with ⟨_, h⟩ | ⟨_, mb, cnt, sz, B, h, _⟩ <;> exact ⟨_, h⟩

theorem MProps.all {n : Nat} {P : Nat → Prop} {w : World} {t : Nd (T n)} {sub : T n → Nat → Prop} {mb : Nat} (h : MProps P w t sub (.map (some mb))) : ∃ cnt sz B, FMap w mb cnt (pf t.nm t.ml B) sz ∧ (∀ j, j < t.ml → lastOf t.nm t.ml (t.nm j) = some j → sub (t.tm j) (B j)) ∧ ∀ j, j < t.ml → (t.nm j).size ≤ maxLen := by
  rcases h with ⟨_, h⟩ | ⟨h1, mb, cnt, sz, B, h, h0, h3, h4, h5, h6⟩
  · cases h
  · simp only [Value.map.injEq, Option.some.injEq] at h
    subst h
    exact ⟨cnt, sz, B, h4, h5, h6⟩

theorem MProps.isNone {α : Type} {P : Nat → Prop} {w : World} {t : Nd α} {sub : α → Nat → Prop} {pm : Option Nat} (h : MProps P w t sub (.map pm)) : pm.isNone = t.mn := by
  rcases h with ⟨h1, h⟩ | ⟨h1, mb, cnt, sz, B, h, _⟩
  · simp only [Value.map.injEq] at h
    rw [h, h1.1]; rfl
  · simp only [Value.map.injEq] at h
    rw [h, h1]; rfl

set_option maxRecDepth 100000 in
set_option maxHeartbeats 8000000 in
theorem match9 : ∀ (n : Nat) (t : T n) (P : Nat → Prop) (b o s : Nat) (kp md : Bool) (w : World), S 65536 n w t b o → M P n w kp md t s →
    Calls Try.prog 9 #[.pointer (some ⟨b, o, none⟩), .pointer (some ⟨s, 0, none⟩), .bool kp] w fun e w' => e = .returned (.bool true) ∧ Below w.heap.size w w' := by
  intro n
  induction n with
  | zero => intro t P b o s kp md w h; exact h.elim
  | succ n ih =>
    intro t P b o s kp md w hS hM
    have HI := hid ih
    clear ih
    obtain ⟨ma, mc, pv, pi, hn⟩ := hS
    obtain ⟨vp, va, vi, hm⟩ := hM
    have HN := hid hn
    have HM := hid hm
    have HC := hid (schC hm.blk)
    obtain ⟨g, hg⟩ : ∃ g, g = (kp && (t : Nd (T n)).hd) := ⟨_, rfl⟩
    obtain ⟨str, hstr⟩ : ∃ str, str = if g then (t : Nd (T n)).df else ByteArray.empty := ⟨_, rfl⟩
    have H15 : Hid (Calls Try.prog 15 #[.pointer (some ⟨s, 0, none⟩)] w fun e w' => e = .returned (.tuple #[.string str, .bool g, .bool g]) ∧ Below w.heap.size w w') := hid (by
      rw [hstr, hg]
      exact def15 w s _ _ (schC hm.blk).c1)
    have HG := hid hg
    have HStr := hid hstr
    clear hn hm hg hstr
    go_enter Try.func9, Try.ntmps9
    go_upto_region 3 with fail
    go_cut [7, 8, 9] from 14 (fun a b c wx => a = .string str ∧ b = .bool g ∧ c = .bool g ∧ Below w.heap.size w wx)
    case first => as_aux_lemma =>
      go_wp2_with (go_at_call 15; refine H15.out.mono ?_; rintro e w' ⟨rfl, hb⟩; have HB := hid hb; clear hb)
      go_meet
      case rel => exact ⟨rfl, rfl, rfl, HB.out⟩
    case rest =>
    obtain ⟨rfl, rfl, rfl, hb1⟩ := hcut
    have HB1 := hid hb1
    have c0 := (hb1.cell (cell_lt HN.out.c0)).trans HN.out.c0
    have c1 := (hb1.cell (cell_lt HN.out.c1)).trans HN.out.c1
    clear hb1
    go_step
    go_step
    go_cut [] from 7 (fun wx => Below w.heap.size w wx)
    case first => as_aux_lemma =>
      have q1 := HG.out
      have q2 := HStr.out
      cases hh : (t : Nd (T n)).hd <;> rw [hh] at c0 q1 <;> cases kp <;> simp only [Bool.and_self, Bool.and_true, Bool.and_false, Bool.false_and, Bool.true_and] at q1 <;> subst q1 <;> (try simp only [if_true, Bool.false_eq_true, if_false] at q2) <;> subst q2 <;> clear hh HG HStr H15
      all_goals (go_wp2_with fail; go_meet; exact HB1.out)
    case rest =>
    -- the format
    have HB2 := hid hcut
    have k2 := hid ((hcut.cell (cell_lt HN.out.c2)).trans HN.out.c2)
    have c2 := (hcut.cell (cell_lt HN.out.c2)).trans HN.out.c2
    have e2 := (hcut.cell (cell_lt HC.out.c2)).trans HC.out.c2
    clear hcut c0 c1
    go_step
    go_step
    go_cut [] from 7 (fun wx => Below w.heap.size w wx)
    case first => as_aux_lemma =>
      go_wp2_with fail
      go_quiet (fail)
      go_wp2_with fail
      go_meet
      case rel => exact below_drewN HB2.out _
    case rest =>
    -- both nil or neither
    have HB3 := hid hcut
    have c3 := (hcut.cell (cell_lt HN.out.c3)).trans HN.out.c3
    have e3 := (hcut.cell (cell_lt HC.out.c3)).trans HC.out.c3
    obtain ⟨pm, hpm⟩ := HM.out.ps.shape'
    subst hpm
    have hq1 := fun (w : World) (a : Option Addr) (n c n' c' : Nat) => Lib.run_eql_slice_nil (P := Try.prog) w 37 51 a n c n' c' Try.underlying37
    have hq2 := fun (w : World) (r : Option Nat) => run_eql_map_nil (P := Try.prog) w 42 9 25 r Try.underlying42
    have hnn : pm.isNone = ma.isNone := by rw [HN.out.nil]; exact HM.out.ps.isNone
    have HNN := hid hnn
    clear hcut c2 e2 hnn
    go_step
    go_step
    go_cut [] from 7 (fun wx => Below w.heap.size w wx)
    case first => as_aux_lemma =>
      have hnn := HNN.out
      cases pm <;> cases ma <;> simp only [Option.isNone_none, Option.isNone_some, reduceCtorEq] at hnn <;> clear HNN
      all_goals (go_wp2_with fail; go_quiet (fail); go_wp2_with fail; go_meet; exact below_drewN HB3.out _)
    case rest =>
    -- the members
    have HB4 := hid hcut
    have c3 := (hcut.cell (cell_lt HN.out.c3)).trans HN.out.c3
    have e3 := (hcut.cell (cell_lt HC.out.c3)).trans HC.out.c3
    clear hcut
    go_step
    go_step
    go_cut [] from 7 (fun wx => Below w.heap.size w wx)
    case first => as_aux_lemma =>
      have HB4' := HB4
      cases ma with
      | none =>
        have hq3 := fun (w : World) (a : Option Addr) (n c n' c' : Nat) => run_neq_slice_nil_any (P := Try.prog) w 37 51 a n c n' c' Try.underlying37
        go_wp2_with fail
        go_meet
        case rel => exact HB4.out
      | some ad =>
        have hq3 := fun (w : World) (a : Option Addr) (n c n' c' : Nat) => run_neq_slice_nil_any (P := Try.prog) w 37 51 a n c n' c' Try.underlying37
        obtain ⟨mo, hpm⟩ : ∃ mo, pm = some mo := by
          have := HNN.out
          cases pm with
          | none => simp at this
          | some m => exact ⟨m, rfl⟩
        subst hpm
        obtain ⟨l, hl⟩ : ∃ l, l = (t : Nd (T n)).ml := ⟨_, rfl⟩
        have HL := hid hl
        rw [← hl] at c3
        obtain ⟨mcnt, msz, B, hF, hMs, hnms⟩ := HM.out.ps.all
        have hFw := hF.below HB4.out
        have hlen42 := fun ty => hFw.len (t := 42) (e := 25) Try.underlying42 ty
        have H16 := hid (last16 wc (some ad) l mc (t : Nd (T n)).nm (by rw [hl]; exact HN.out.lml) (fun h0 => by
          obtain ⟨mb, mo, e, hm⟩ := HN.out.mem (by rw [← hl]; exact h0)
          exact ⟨mb, mo, e, fun j hj => (HB4.out.cell (cell_lt (hm j (by rw [← hl]; exact hj)).1)).trans (hm j (by rw [← hl]; exact hj)).1⟩) (fun j hj => hnms j (by rw [← hl]; exact hj)))
        have HF := hid hF
        have HMs := hid hMs
        have HNms := hid hnms
        have hl6 : (l : Int) ≤ 65536 := by have := HN.out.lml; rw [← hl] at this; omega
        clear hl hF hFw hMs hnms
        go_wp2_with (go_at_call 16; refine H16.out.mono ?_; rintro e w16 ⟨lb, lsz, rfl, hlF, b16⟩; have HB16 := hid (HB4.out.trans (b16.mono HB4.out.size)); have hlen58 := fun ty => hlF.len (t := 58) (e := 3) Try.underlying58 ty; have c3' := (b16.cell (cell_lt c3)).trans c3; have e3' := (b16.cell (cell_lt e3)).trans e3; have hlen42' := fun ty => (HF.out.below HB16.out).len (t := 42) (e := 25) Try.underlying42 ty; have hsz : msz = lsz := FMap.same_size HF.out hlF (fun x _ => by rw [HL.out]; unfold pf li; cases lastOf (t : Nd (T n)).nm (t : Nd (T n)).ml x <;> rfl); have HLF := hid hlF; subst hsz; clear hlF b16 hlen42)
        go_loopw [11] (fun i wr => ∃ k : Nat, k ≤ l ∧ i = .int .i64 k ∧ Below w16.heap.size w16 wr) (fun i _ => l - (intOf i).toNat)
        case atStart => exact ⟨0, Nat.zero_le _, rfl, Below.refl _ _⟩
        case round =>
          obtain ⟨k, hk, rfl, hb⟩ := hrel
          have HBk := hid hb
          have HBr := hid (HB16.out.trans (hb.mono HB16.out.size))
          have r3 := (hb.cell (cell_lt c3')).trans c3'
          have q3 := (hb.cell (cell_lt e3')).trans e3'
          have HLr := hid (HLF.out.below hb)
          have HFr := hid (HF.out.below HBr.out)
          clear hb c3' e3' c3 e3 hlen58 hlen42' hq1 hq2 hq3
          by_cases hlt : k < l
          · obtain ⟨mb, mo', rfl, hm⟩ := HN.out.mem' (by rw [← HL.out]; omega)
            obtain ⟨g1, g2, g3⟩ := hm k (by rw [← HL.out]; exact hlt)
            have f1 := (HBr.out.cell (cell_lt g1)).trans g1
            have HSk := hid (S.below g3 HBr.out)
            have hnk := HNms.out k (by rw [← HL.out]; exact hlt)
            obtain ⟨j, hj⟩ := lastOf_some (nm := (t : Nd (T n)).nm) (k := l) hlt
            have hlook := HLr.out.look (t := 58) (e := 3) Try.underlying58 (Try.zeroValue3 wr) hnk (v := .int .i64 (j : Int)) (by unfold li; rw [hj]; rfl)
            have hlt' : (k : Int) < (l : Int) := by omega
            have hjl := (lastOf_lt hj).1
            have HJ := hid hj
            have HNk := hid hnk
            clear hm g1 g2 g3 hnk hj
            by_cases hjk : j = k
            · subst hjk
              have hlook2 := fun q => FMap.look_ok (w := wr.drewN q) (HFr.out.kept rfl) (t := 42) (e := 25) Try.underlying42 (Try.zeroValue25 (wr.drewN q)) HNk.out (v := .pointer (some ⟨B j, 0, none⟩)) (by unfold pf; rw [← HL.out, HJ.out]; rfl)
              have HMk := hid ((HMs.out j (by rw [← HL.out]; exact hlt) (by rw [← HL.out]; exact HJ.out)).below HBr.out)
              go_wp2_with fail
              go_quiet (fail)
              go_wp2_with (go_at_call 9; refine (HI.out _ P mb (mo' + j * 7 + 1) (B j) kp md _ (S.below HSk.out (below_drewN (Below.refl _ _) _)) (HMk.out.below (below_drewN (Below.refl _ _) _))).mono ?_; rintro e w9 ⟨rfl, b9⟩; have HB9 := hid b9; clear b9)
              go_roundw
              case rel => exact ⟨j + 1, by omega, by go_num, HBk.out.trans (((below_drewN (Below.refl _ _) _).trans HB9.out).mono HBk.out.size)⟩
              case measure => simp [intOf]; omega
            · have hjk' : ¬ ((j : Int) = (k : Int)) := by omega
              go_wp2_with fail
              go_roundw
              case rel => exact ⟨k + 1, by omega, by go_num, HBk.out⟩
              case measure => simp [intOf]; omega
          · have hkl : k = l := by omega
            subst hkl
            go_wp2_with fail
            go_meet
            case rel => exact HBr.out
    case rest =>
    -- Values: both nil or neither
    have HB5 := hid hcut
    have c4 := (hcut.cell (cell_lt HN.out.c4)).trans HN.out.c4
    have e5 := (hcut.cell (cell_lt HC.out.c5)).trans HC.out.c5
    clear hcut
    go_step
    go_step
    go_cut [] from 7 (fun wx => Below w.heap.size w wx)
    case first => as_aux_lemma =>
      rcases ptrs HN.out.vs HM.out.vs with ⟨h1, h2⟩ | ⟨a, bb, oo, ss, h1, h2, h3, h4⟩
      · subst h1
        rw [h2] at e5
        clear h2
        go_wp2_with fail
        go_quiet (fail)
        go_wp2_with fail
        go_meet
        case rel => exact below_drewN HB5.out _
      · subst h1
        rw [h2] at e5
        clear h2 h3 h4
        go_wp2_with fail
        go_quiet (fail)
        go_wp2_with fail
        go_meet
        case rel => exact below_drewN HB5.out _
    case rest =>
    have HB5' := hid hcut
    have c4 := (hcut.cell (cell_lt HN.out.c4)).trans HN.out.c4
    have e5 := (hcut.cell (cell_lt HC.out.c5)).trans HC.out.c5
    clear hcut
    go_step
    go_step
    go_cut [] from 7 (fun wx => Below w.heap.size w wx)
    case first => as_aux_lemma =>
      rcases ptrs HN.out.vs HM.out.vs with ⟨h1, h2⟩ | ⟨a, bb, oo, ss, h1, h2, h3, h4⟩
      · subst h1
        clear h2
        go_wp2_with fail
        go_quiet (fail)
        go_wp2_with fail
        go_meet
        case rel => exact below_drewN HB5'.out _
      · subst h1
        rw [h2] at e5
        have H3 := hid (S.below h3 HB5'.out)
        have H4 := hid (h4.below HB5'.out)
        have K0 := hid (And.intro c4 e5)
        clear h2 h3 h4
        go_wp2_with fail
        go_region_held3 (fun w' => w'.cell? ⟨b, o + 4, none⟩ = some (.pointer (some ⟨bb, oo, none⟩)) ∧ w'.cell? ⟨s, 5, none⟩ = some (.pointer (some ⟨ss, 0, none⟩)))
          (first | exact kB2 K0.out ((Below.refl _ _).drew) | exact kB2 (kB2 K0.out ((Below.refl _ _).drew)) b9)
          (first | (go_at_call 9; refine (HI.out a P bb oo ss kp md _ (S.below H3.out (Below.refl _ _).drew) (H4.out.below (Below.refl _ _).drew)).mono ?_; rintro e w9 ⟨rfl, b9⟩))
        go_wp2_with fail
        go_meet
        case rel => exact HB5'.out.trans ((((Below.refl _ _).drew).trans b9).mono HB5'.out.size)
    case rest =>
    -- Items: both nil or neither
    have HB6 := hid hcut
    have c5 := (hcut.cell (cell_lt HN.out.c5)).trans HN.out.c5
    have e6 := (hcut.cell (cell_lt HC.out.c6)).trans HC.out.c6
    clear hcut
    go_step
    go_step
    go_cut [] from 7 (fun wx => Below w.heap.size w wx)
    case first => as_aux_lemma =>
      rcases ptrs HN.out.is HM.out.is with ⟨h1, h2⟩ | ⟨a, bb, oo, ss, h1, h2, h3, h4⟩
      · subst h1
        rw [h2] at e6
        clear h2
        go_wp2_with fail
        go_quiet (fail)
        go_wp2_with fail
        go_meet
        case rel => exact below_drewN HB6.out _
      · subst h1
        rw [h2] at e6
        clear h2 h3 h4
        go_wp2_with fail
        go_quiet (fail)
        go_wp2_with fail
        go_meet
        case rel => exact below_drewN HB6.out _
    case rest =>
    have HB6' := hid hcut
    have c5 := (hcut.cell (cell_lt HN.out.c5)).trans HN.out.c5
    have e6 := (hcut.cell (cell_lt HC.out.c6)).trans HC.out.c6
    clear hcut
    go_step
    go_step
    go_cut [] from 7 (fun wx => Below w.heap.size w wx)
    case first => as_aux_lemma =>
      rcases ptrs HN.out.is HM.out.is with ⟨h1, h2⟩ | ⟨a, bb, oo, ss, h1, h2, h3, h4⟩
      · subst h1
        clear h2
        go_wp2_with fail
        go_quiet (fail)
        go_wp2_with fail
        go_meet
        case rel => exact below_drewN HB6'.out _
      · subst h1
        rw [h2] at e6
        have H3 := hid (S.below h3 HB6'.out)
        have H4 := hid (h4.below HB6'.out)
        have K0 := hid (And.intro c5 e6)
        clear h2 h3 h4
        go_wp2_with fail
        go_region_held3 (fun w' => w'.cell? ⟨b, o + 5, none⟩ = some (.pointer (some ⟨bb, oo, none⟩)) ∧ w'.cell? ⟨s, 6, none⟩ = some (.pointer (some ⟨ss, 0, none⟩)))
          (first | exact kB2 K0.out ((Below.refl _ _).drew) | exact kB2 (kB2 K0.out ((Below.refl _ _).drew)) b9)
          (first | (go_at_call 9; refine (HI.out a P bb oo ss kp md _ (S.below H3.out (Below.refl _ _).drew) (H4.out.below (Below.refl _ _).drew)).mono ?_; rintro e w9 ⟨rfl, b9⟩))
        go_wp2_with fail
        go_meet
        case rel => exact HB6'.out.trans ((((Below.refl _ _).drew).trans b9).mono HB6'.out.size)
    case rest =>
    go_wp2_with fail
    go_ret
    exact ⟨rfl, hcut⟩

end Go.Proofs.Qxb6603619a.Crd
