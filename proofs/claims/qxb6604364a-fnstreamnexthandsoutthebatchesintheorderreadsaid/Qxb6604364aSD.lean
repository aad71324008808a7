import Derived.Test.Qxb6604364aSC
namespace Go.Proofs.Qxb6604364a.Str
open Go.RowKit Go.Conc
set_option linter.unusedVariables false
set_option linter.unusedSimpArgs false

theorem chan_alloc {w : World} {c : Nat} {o o' : Obj} (h : w.heap[c]? = some o) : (w.alloc o').heap[c]? = some o := by
  have hlt : c < w.heap.size := (Array.getElem?_eq_some_iff.1 h).1
  rw [Below.heap_alloc _ _ _ hlt]; exact h

set_option maxRecDepth 100000 in
/-- ZZstreamPut: a new batch's address goes to the end of the buffer. -/
theorem put8 (S c cap : Nat) (buf : Array Value) (s r : Nat) (a : Option Addr) (l cp : Nat) (w : World) (h1 : w.cell? ⟨S, 1, none⟩ = some (.chan (some c))) (hc : w.heap[c]? = some (.chan cap buf false s r false)) (hroom : buf.size < cap) :
    Calls Try.prog 8 #[.pointer (some ⟨S, 0, none⟩), .slice a l cp] w fun e w' => e = .returned (.tuple #[]) ∧ w' = (w.alloc (.cells #[.slice a l cp, .slice none 0 0, .slice none 0 0, .nilIface] 46)).setChan c cap (buf.push (.pointer (some ⟨w.heap.size, 0, none⟩))) false (s + 1) r false := by
  refine calls_of_loneTo fun cs => ?_
  have e : Frame.enter Try.prog 8 #[.pointer (some ⟨S, 0, none⟩), .slice a l cp] .normal = (base 8).at ⟨#[.pointer (some ⟨S, 0, none⟩), .slice a l cp, undef, undef, undef, undef, undef, undef, undef, undef, undef], []⟩ [.code (Try.f8.body.getD .skip)] := by
    simp [Frame.enter, Frame.at, Try.func8, base, Try.f8]
  rw [e]
  refine LoneTo.goes (n := 8) ?_
  simp only [Try.f8, Option.getD_some]
  s_reg
  s_op
  s_op
  s_op
  s_op
  s_op
  s_op
  s_op
  s_stop
  refine LoneTo.step (step_lone_send_room (c := c) (cap := cap) (buf := buf) (s := s) (r := r) (tm := false) (stepG_comm (cases := #[scase c (.pointer (some ⟨w.heap.size, 0, none⟩)) (.tuple #[])]) (blocking := true) (shape := .send) (w' := w.alloc (.cells #[.slice a l cp, .slice none 0 0, .slice none 0 0, .nilIface] 46)) rfl rfl (by decide) (by simp [execOp, scase, Act.eval])) (chan_alloc hc) hroom) ?_
  rw [Frame.finish_at]
  walk_nrm
  refine LoneTo.goes (n := 2) ?_
  s_c stepG_region_end
  s_c stepG_end
  s_stop
  exact LoneTo.done ⟨.returned (.tuple #[]), _, rfl, ⟨rfl, rfl⟩, rfl, rfl, rfl, rfl, _, Try.func8, by simp [results, Try.f8, Frame.at]⟩

theorem method_done (w : World) : (method (103 + Made.depth) 57 (.agg #[]) "Done").run Try.prog w = .ok (33, .agg #[]) w := by kernel_rfl
theorem name33 : (Try.f33.name == "runtime.NumGoroutine") = false := by kernel_rfl
theorem body33 : Try.f33.body.isNone = false := by kernel_rfl

theorem run_invoke {ρ : Operand → Value} {o : Oper} {w : World} (hop : o.op = .call { callee := .invoke (.tmp 11) "Done", args := #[], argTypes := #[] }) (hv : ρ (.tmp 11) = .iface 57 (.agg #[])) :
    (execOp ρ o).run Try.prog w = .ok (.enter 33 #[.agg #[]]) w := by
  have h1 : ¬ Try.f33.name = "runtime.NumGoroutine" := by simpa using name33
  have h2 : ¬ Try.f33.body = none := by
    intro h
    have := body33
    rw [h] at this
    simp at this
  unfold execOp
  simp [hop, resolve, invoke, hv, callMethod, method_done, callFunc, Try.func33, h1, h2]

theorem done33 (w : World) : Calls Try.prog 33 #[.agg #[]] w fun e w' => e = .returned (.chan none) ∧ Below w.heap.size w w' := by
  go_enter Try.func33, Try.ntmps33
  go_wp2
  go_ret
  exact ⟨rfl, (Below.refl _ _).alloc (Nat.le_refl _) _⟩

/-- A call by its contract, in the machine of one. -/
theorem lone_call {P : Program} {Q : Goroutine → World → Prop} {b : Frame} {a : Act} {k : List Item} {cs : List Frame} {w : World} {ops : Array Oper} {i : Nat} {rest : List Nat} {o : Oper} {f : FuncId} {args : Array Value} {v : Value} {R : World → Prop}
    (ho : ops[i]? = some o) (hw : Region.wanted o (yielded ops a.tmps) = true) (hk : b.kind ≠ .early) (hr : (execOp a.eval o).run P w = .ok (.enter f args) w) (hC : Calls P f args w (fun e w' => e = .returned v ∧ R w'))
    (h : ∀ w', R w' → LoneTo P Q (G (b.at (a.put o.dst v) (.inRegion ops rest :: k)) cs) w') : LoneTo P Q (G (b.at a (.inRegion ops (i :: rest) :: k)) cs) w := by
  obtain ⟨e, w', fr, ⟨rfl, hR⟩, hs, hf, hl⟩ := hC (b.at a (.inRegion ops (i :: rest) :: k) :: cs)
  have h1 : step P (solo (G (b.at a (.inRegion ops (i :: rest) :: k)) cs) w) = .next (solo (G (Frame.enter P f args .normal) (b.at a (.inRegion ops (i :: rest) :: k) :: cs)) w) := step_solo_go rfl (stepG_enter ho hw hk hr)
  have h2 := step_leave_returned (c := b.at a (.inRegion ops (i :: rest) :: k)) (cs := cs) hl
  rw [Frame.finish_at, ho] at h2
  obtain ⟨g2, w2, hs2, hq⟩ := h w' hR
  exact ⟨g2, w2, Steps.head h1 (Steps.trans hs (Steps.head h2 hs2)), hq⟩

theorem res_rn0 (a : Nat) (z z' v : Value) (ok : Bool) : commResult #[rcase a z, { chan := .chan none, send := none, zero := z' }] .select ((0 : Nat) : Int) v ok = .tuple #[goInt 0, .bool ok, v, z'] := by
  simp [commResult, rcase, List.zipIdx_cons]

set_option maxRecDepth 100000 in
set_option maxHeartbeats 1000000 in
/-- next, under the background context: the eldest batch. -/
theorem next13 (S c cap : Nat) (buf : Array Value) (s r : Nat) (v : Value) (w : World) (h1 : w.cell? ⟨S, 1, none⟩ = some (.chan (some c))) (hc : w.heap[c]? = some (.chan cap buf false s r false)) (hv : buf[0]? = some v) :
    Calls Try.prog 13 #[.pointer (some ⟨S, 0, none⟩), .iface 57 (.agg #[])] w fun e w' => e = .returned (.tuple #[v, .bool true]) ∧ ∃ w1, Below w.heap.size w w1 ∧ w' = w1.setChan c cap (buf.extract 1 buf.size) false s (r + 1) false := by
  refine calls_of_loneTo fun cs => ?_
  have e : Frame.enter Try.prog 13 #[.pointer (some ⟨S, 0, none⟩), .iface 57 (.agg #[])] .normal = (base 13).at ⟨#[.pointer (some ⟨S, 0, none⟩), .iface 57 (.agg #[]), undef, undef, undef, undef, undef, undef, undef, undef, undef, undef, undef, undef, undef, undef, undef, undef, undef], []⟩ [.code (Try.f13.body.getD .skip)] := by
    simp [Frame.enter, Frame.at, Try.func13, base, Try.f13]
  rw [e]
  refine LoneTo.goes (n := 14) ?_
  simp only [Try.f13, Option.getD_some]
  s_c stepG_seq
  s_reg
  s_op
  s_op
  s_c stepG_region_end
  s_c stepG_seq
  s_c stepG_seq
  s_reg
  s_op
  s_op
  s_op
  s_op
  s_c stepG_region_end
  s_reg
  s_stop
  refine LoneTo.goes (n := 1) ?_
  s_op
  s_stop
  refine lone_call (v := .chan none) (R := fun w' => Below w.heap.size w w') rfl rfl (by decide) (run_invoke rfl rfl) (done33 w) ?_
  intro w1 hb1
  have hc1 : w1.heap[c]? = some (.chan cap buf false s r false) := (hb1.block c (Array.getElem?_eq_some_iff.1 hc).1).trans hc
  walk_nrm
  refine LoneTo.goes (n := 3) ?_
  s_c stepG_region_end
  s_c stepG_seq
  s_reg
  s_stop
  refine LoneTo.step (step_lone_sel_recv_buf (k := 0) (c := c) (z := .pointer none) (cap := cap) (buf := buf) (closed := false) (s := s) (r := r) (tm := false)
    (stepG_comm (cases := #[rcase c (.pointer none), { chan := .chan none, send := none, zero := .agg #[] }]) (blocking := true) (shape := .select) (w' := w1) rfl rfl (by decide) (by simp [go_sem, execOp, rcase, Act.eval]))
    rfl (fun m c' hm hc' => ?_) hc1 ((Array.getElem?_eq_some_iff.1 hv).1)) ?_
  · rcases m with _ | _ | m
    · exact absurd rfl hm
    · simp only [List.getElem?_toArray, List.getElem?_cons_succ, List.getElem?_cons_zero, Option.some.injEq] at hc'
      subst hc'
      exact noWay_nil none
    · simp at hc'
  have hgd : buf.getD 0 undef = v := by
    obtain ⟨h0, e0⟩ := Array.getElem?_eq_some_iff.1 hv
    simp [Array.getD, h0, e0]
  rw [Frame.finish_at, res_rn0, hgd]
  walk_nrm
  refine LoneTo.goes (n := 16) ?_
  s_op
  s_op
  s_op
  s_c stepG_region_end
  s_c stepG_block
  s_cond true
  s_c stepG_seq
  s_reg
  s_op
  s_op
  s_c stepG_region_end
  s_c stepG_seq
  s_reg
  s_op
  s_op
  s_op
  s_stop
  refine LoneTo.goes (n := 2) ?_
  s_c stepG_region_end
  s_c stepG_ret'
  s_stop
  exact LoneTo.done ⟨.returned (.tuple #[v, .bool true]), _, rfl, ⟨rfl, w1, hb1, rfl⟩, rfl, rfl, rfl, rfl, _, Try.func13, by simp [results, Try.f13, Frame.at]⟩

theorem bg14 (w : World) : Calls Try.prog 14 #[] w fun e w' => e = .returned (.iface 57 (.agg #[])) ∧ w' = w := by
  go_enter Try.func14, Try.ntmps14
  go_wp2
  go_ret
  exact ⟨rfl, rfl⟩

theorem setChan_cell {w : World} {c cap : Nat} {buf : Array Value} {cl : Bool} {s r : Nat} {tm : Bool} {a : Addr} (h : a.block ≠ c) : (w.setChan c cap buf cl s r tm).cell? a = w.cell? a := by
  refine World.cell?_of_block (w := w) ?_
  simp only [World.setChan]
  rw [Array.getElem?_setIfInBounds_ne (fun e => h e.symm)]

theorem chan_ne {w : World} {c cap : Nat} {buf : Array Value} {cl : Bool} {s r : Nat} {tm : Bool} {a : Addr} {v : Value} (hc : w.heap[c]? = some (.chan cap buf cl s r tm)) (h : w.cell? a = some v) : a.block ≠ c := by
  rintro rfl
  simp [World.cell?, hc] at h

set_option maxHeartbeats 400000 in
theorem next9 (S c cap : Nat) (buf : Array Value) (s r B : Nat) (a : Option Addr) (l cp : Nat) (w : World) (h1 : w.cell? ⟨S, 1, none⟩ = some (.chan (some c))) (hc : w.heap[c]? = some (.chan cap buf false s r false)) (hv : buf[0]? = some (.pointer (some ⟨B, 0, none⟩))) (hB : w.cell? ⟨B, 0, none⟩ = some (.slice a l cp)) :
    Calls Try.prog 9 #[.pointer (some ⟨S, 0, none⟩)] w fun e w' => e = .returned (.tuple #[.slice a l cp, .bool true]) ∧ ∃ w1, Below w.heap.size w w1 ∧ w' = w1.setChan c cap (buf.extract 1 buf.size) false s (r + 1) false := by
  go_enter Try.func9, Try.ntmps9
  go_wp2_with fail
  refine (bg14 w).mono ?_
  rintro e w' ⟨rfl, rfl⟩
  go_wp2_with fail
  refine (next13 S c cap buf s r _ _ h1 hc hv).mono ?_
  rintro e w2 ⟨rfl, w1, hb1, rfl⟩
  have hB1 : w1.cell? ⟨B, 0, none⟩ = some (.slice a l cp) := (hb1.cell (cell_lt hB)).trans hB
  have hB2 : (w1.setChan c cap (buf.extract 1 buf.size) false s (r + 1) false).cell? ⟨B, 0, none⟩ = some (.slice a l cp) := (setChan_cell (chan_ne hc hB)).trans hB1
  obtain ⟨W, hW⟩ : ∃ W, W = w1.setChan c cap (buf.extract 1 buf.size) false s (r + 1) false := ⟨_, rfl⟩
  rw [← hW] at hB2 ⊢
  have HW : Hid (W = w1.setChan c cap (buf.extract 1 buf.size) false s (r + 1) false) := hW
  clear hW
  go_wp2_with fail
  go_ret2
  exact ⟨rfl, w1, hb1, HW.out⟩

end Go.Proofs.Qxb6604364a.Str
