import Derived.Test.Qxb6614088aRows
import Derived.WalkKit
import Derived.Conc.LoneCalls
import Derived.Conc.LoneSelect
import Derived.Conc.LoneSelectN
import Derived.Deep.QuietTactic
import Derived.BigQuiet
namespace Go.Proofs.Qxb6614088a.Sess
open Go.Conc Go.RowKit

theorem info45 : ∃ i, Try.prog.info? 45 = some i ∧ i.bytes = 0 := by
  have h : (Try.prog.info? 45).map (·.bytes) = some 0 := by kernel_rfl
  obtain ⟨i, hi, hb⟩ := Option.map_eq_some_iff.1 h
  exact ⟨i, hi, hb⟩
theorem mk1 (w : World) : (Instr.makeChan 37 (.int .i64 1)).run Try.prog w = .ok (.chan (some w.heap.size)) (w.alloc (.chan 1 #[] false 0 0 false)) := by
  obtain ⟨i, hi, hb⟩ := info45
  simpa using run_makeChan (P := Try.prog) (w := w) Try.underlying37 hi .i64 1 (by omega) (by rw [hb]; omega)

set_option maxRecDepth 100000 in
/-- signal, the channel having room. -/
theorem signal_room (c s r : Nat) (w : World) (hc : w.heap[c]? = some (.chan 1 #[] false s r false)) :
    Calls Try.prog 16 #[.chan (some c)] w fun e w' => e = .returned (.tuple #[]) ∧ w' = w.setChan c 1 #[.agg #[]] false (s + 1) r false := by
  refine calls_of_loneTo fun cs => ?_
  have e : Frame.enter Try.prog 16 #[.chan (some c)] .normal = (base 16).at ⟨#[.chan (some c), undef, undef, undef, undef, undef, undef], []⟩ [.code (Try.f16.body.getD .skip)] := by
    simp [Frame.enter, Frame.at, Try.func16, base, Try.f16]
  rw [e]
  refine LoneTo.goes (n := 10) ?_
  simp only [Try.f16, Option.getD_some]
  s_c stepG_seq
  s_c stepG_seq
  s_reg
  s_op
  s_c stepG_region_end
  s_reg
  s_op
  s_c stepG_region_end
  s_c stepG_seq
  s_reg
  s_stop
  refine LoneTo.step (step_lone_select_send_room (c := c) (v := .agg #[]) (z' := .agg #[]) (cap := 1) (buf := #[]) (s := s) (r := r) (tm := false)
    (stepG_comm (cases := #[scase c (.agg #[]) (.agg #[])]) (blocking := false) (shape := .select) (w' := w) rfl rfl (by decide) (by simp [go_sem, execOp, scase, Act.eval]))
    hc (by simp)) ?_
  rw [Frame.finish_at]
  walk_nrm
  refine LoneTo.goes (n := 8) ?_
  s_op
  s_op
  s_c stepG_region_end
  s_c stepG_block
  s_cond true
  s_c stepG_skip
  s_c stepG_inBlock
  s_c stepG_end
  s_stop
  exact LoneTo.done ⟨.returned (.tuple #[]), _, rfl, ⟨rfl, rfl⟩, rfl, rfl, rfl, rfl, _, Try.func16, by simp [results, Try.f16, Frame.at]⟩

set_option maxRecDepth 100000 in
/-- signal, the channel being signalled already. -/
theorem signal_full (c s r : Nat) (w : World) (hc : w.heap[c]? = some (.chan 1 #[.agg #[]] false s r false)) :
    Calls Try.prog 16 #[.chan (some c)] w fun e w' => e = .returned (.tuple #[]) ∧ w' = w := by
  refine calls_of_loneTo fun cs => ?_
  have e : Frame.enter Try.prog 16 #[.chan (some c)] .normal = (base 16).at ⟨#[.chan (some c), undef, undef, undef, undef, undef, undef], []⟩ [.code (Try.f16.body.getD .skip)] := by
    simp [Frame.enter, Frame.at, Try.func16, base, Try.f16]
  rw [e]
  refine LoneTo.goes (n := 10) ?_
  simp only [Try.f16, Option.getD_some]
  s_c stepG_seq
  s_c stepG_seq
  s_reg
  s_op
  s_c stepG_region_end
  s_reg
  s_op
  s_c stepG_region_end
  s_c stepG_seq
  s_reg
  s_stop
  refine LoneTo.step (step_lone_select_send_full (c := c) (v := .agg #[]) (z' := .agg #[]) (cap := 1) (buf := #[.agg #[]]) (s := s) (r := r) (tm := false)
    (stepG_comm (cases := #[scase c (.agg #[]) (.agg #[])]) (blocking := false) (shape := .select) (w' := w) rfl rfl (by decide) (by simp [go_sem, execOp, scase, Act.eval]))
    hc (by simp)) ?_
  rw [Frame.finish_at]
  walk_nrm
  refine LoneTo.goes (n := 8) ?_
  s_op
  s_op
  s_c stepG_region_end
  s_c stepG_block
  s_cond false
  s_c stepG_skip
  s_c stepG_inBlock
  s_c stepG_end
  s_stop
  exact LoneTo.done ⟨.returned (.tuple #[]), _, rfl, ⟨rfl, rfl⟩, rfl, rfl, rfl, rfl, _, Try.func16, by simp [results, Try.f16, Frame.at]⟩

set_option maxRecDepth 100000 in
/-- ZZTakeQueued, nothing being there. -/
theorem take_none (b c s r : Nat) (w : World) (hq : w.cell? ⟨b, 7, none⟩ = some (.chan (some c))) (hc : w.heap[c]? = some (.chan 1 #[] false s r false)) :
    Calls Try.prog 11 #[.pointer (some ⟨b, 0, none⟩)] w fun e w' => e = .returned (.tuple #[]) ∧ w' = w := by
  refine calls_of_loneTo fun cs => ?_
  have e : Frame.enter Try.prog 11 #[.pointer (some ⟨b, 0, none⟩)] .normal = (base 11).at ⟨#[.pointer (some ⟨b, 0, none⟩), undef, undef, undef, undef, undef, undef, undef, undef], []⟩ [.code (Try.f11.body.getD .skip)] := by
    simp [Frame.enter, Frame.at, Try.func11, base, Try.f11]
  rw [e]
  refine LoneTo.goes (n := 9) ?_
  simp only [Try.f11, Option.getD_some]
  s_c stepG_seq
  s_reg
  s_op
  s_op
  s_op
  s_op
  s_c stepG_region_end
  s_c stepG_seq
  s_reg
  s_stop
  refine LoneTo.step (step_lone_select_default (c := c) (z := .agg #[]) (cap := 1) (s := s) (r := r) (tm := false)
    (stepG_comm (cases := #[rcase c (.agg #[])]) (blocking := false) (shape := .select) (w' := w) rfl rfl (by decide) (by simp [go_sem, execOp, rcase, Act.eval]))
    hc) ?_
  rw [Frame.finish_at]
  walk_nrm
  refine LoneTo.goes (n := 8) ?_
  s_op
  s_op
  s_c stepG_region_end
  s_c stepG_block
  s_cond false
  s_c stepG_skip
  s_c stepG_inBlock
  s_c stepG_end
  s_stop
  exact LoneTo.done ⟨.returned (.tuple #[]), _, rfl, ⟨rfl, rfl⟩, rfl, rfl, rfl, rfl, _, Try.func11, by simp [results, Try.f11, Frame.at]⟩

set_option maxRecDepth 100000 in
/-- ZZTakeQueued, a wake-up being there. -/
theorem take_some (b c s r : Nat) (w : World) (hq : w.cell? ⟨b, 7, none⟩ = some (.chan (some c))) (hc : w.heap[c]? = some (.chan 1 #[.agg #[]] false s r false)) :
    Calls Try.prog 11 #[.pointer (some ⟨b, 0, none⟩)] w fun e w' => e = .returned (.tuple #[]) ∧ w' = w.setChan c 1 #[] false s (r + 1) false := by
  refine calls_of_loneTo fun cs => ?_
  have e : Frame.enter Try.prog 11 #[.pointer (some ⟨b, 0, none⟩)] .normal = (base 11).at ⟨#[.pointer (some ⟨b, 0, none⟩), undef, undef, undef, undef, undef, undef, undef, undef], []⟩ [.code (Try.f11.body.getD .skip)] := by
    simp [Frame.enter, Frame.at, Try.func11, base, Try.f11]
  rw [e]
  refine LoneTo.goes (n := 9) ?_
  simp only [Try.f11, Option.getD_some]
  s_c stepG_seq
  s_reg
  s_op
  s_op
  s_op
  s_op
  s_c stepG_region_end
  s_c stepG_seq
  s_reg
  s_stop
  refine LoneTo.step (step_lone_select_recv_buf (c := c) (z := .agg #[]) (cap := 1) (buf := #[.agg #[]]) (closed := false) (s := s) (r := r) (tm := false)
    (stepG_comm (cases := #[rcase c (.agg #[])]) (blocking := false) (shape := .select) (w' := w) rfl rfl (by decide) (by simp [go_sem, execOp, rcase, Act.eval]))
    hc (by simp)) ?_
  rw [Frame.finish_at]
  walk_nrm
  refine LoneTo.goes (n := 8) ?_
  s_op
  s_op
  s_c stepG_region_end
  s_c stepG_block
  s_cond true
  s_c stepG_skip
  s_c stepG_inBlock
  s_c stepG_end
  s_stop
  exact LoneTo.done ⟨.returned (.tuple #[]), _, rfl, ⟨rfl, rfl⟩, rfl, rfl, rfl, rfl, _, Try.func11, by simp [results, Try.f11, Frame.at]⟩

/-- What lies in the channel: one wake-up, or none. -/
def bufOf (q : Bool) : Array Value := if q then #[.agg #[]] else #[]
/-- How many wake-ups. -/
def numOf (q : Bool) : Int := if q then 1 else 0

/-- The session's struct lies in block b, its channel in block c. -/
structure At (w : World) (b c : Nat) (d cl du q : Bool) : Prop where
  ne : b ≠ c
  dr : w.cell? ⟨b, 31, none⟩ = some (.bool d)
  clo : w.cell? ⟨b, 30, none⟩ = some (.bool cl)
  due : w.cell? ⟨b, 25, none⟩ = some (.bool du)
  que : w.cell? ⟨b, 7, none⟩ = some (.chan (some c))
  fz : w.frozen? ⟨b, 31, none⟩ = false
  ch : ∃ s r, w.heap[c]? = some (.chan 1 (bufOf q) false s r false)

/-- Only blocks b and c may have turned. -/
structure Kept (b c : Nat) (w w' : World) : Prop where
  os : w'.os = w.os
  tape : w'.tape = w.tape
  output : w'.output = w.output
  size : w'.heap.size = w.heap.size
  block : ∀ k, k ≠ b → k ≠ c → w'.heap[k]? = w.heap[k]?

theorem Kept.refl (b c : Nat) (w : World) : Kept b c w w := ⟨rfl, rfl, rfl, rfl, fun _ _ _ => rfl⟩
theorem Kept.trans {b c : Nat} {x y z : World} (h : Kept b c x y) (k : Kept b c y z) : Kept b c x z :=
  ⟨k.os.trans h.os, k.tape.trans h.tape, k.output.trans h.output, k.size.trans h.size, fun i h1 h2 => (k.block i h1 h2).trans (h.block i h1 h2)⟩
theorem Kept.below {b c B : Nat} {w w' : World} (h : Kept b c w w') (hb : B ≤ b) (hc : B ≤ c) : Below B w w' :=
  ⟨h.os, h.tape, h.output, by rw [h.size]; exact Nat.le_refl _, fun k hk => h.block k (by omega) (by omega)⟩
theorem Kept.setCell (b c o : Nat) (w : World) (v : Value) : Kept b c w (w.setCell ⟨b, o, none⟩ v) :=
  ⟨rfl, rfl, rfl, by simp [World.setCell], fun k h1 _ => Below.heap_setCell _ _ _ _ h1⟩
theorem Kept.setChan (b c cap : Nat) (buf : Array Value) (cl : Bool) (s r : Nat) (tm : Bool) (w : World) : Kept b c w (w.setChan c cap buf cl s r tm) :=
  ⟨rfl, rfl, rfl, size_setChan _ _ _ _ _ _ _ _, fun k _ h2 => by simp only [World.setChan]; rw [Array.getElem?_setIfInBounds_ne (by omega)]⟩

/-- Another session is as it was. -/
theorem At.other {w w' : World} {b c b' c' : Nat} {d cl du q : Bool} (h : At w b c d cl du q) (k : Kept b' c' w w') (h1 : b ≠ b') (h2 : b ≠ c') (h3 : c ≠ b') (h4 : c ≠ c') : At w' b c d cl du q := by
  have e := k.block b h1 h2
  have e' := k.block c h3 h4
  obtain ⟨s, r, hs⟩ := h.ch
  exact ⟨h.ne, (World.cell?_of_block (w := w) e).trans h.dr, (World.cell?_of_block (w := w) e).trans h.clo, (World.cell?_of_block (w := w) e).trans h.due, (World.cell?_of_block (w := w) e).trans h.que,
    (World.frozen?_of_block (w := w) e).trans h.fz, s, r, e'.trans hs⟩

theorem lt_of_heap {w : World} {c : Nat} {o : Obj} (h : w.heap[c]? = some o) : c < w.heap.size := by
  rcases Nat.lt_or_ge c w.heap.size with h' | h'
  · exact h'
  · simp [Array.getElem?_eq_none h'] at h

theorem At.chan {w : World} {b c : Nat} {d cl du q q' : Bool} {s r : Nat} (h : At w b c d cl du q) : At (w.setChan c 1 (bufOf q') false s r false) b c d cl du q' := by
  have e : (w.setChan c 1 (bufOf q') false s r false).heap[b]? = w.heap[b]? := by
    simp only [World.setChan]; rw [Array.getElem?_setIfInBounds_ne (fun x => h.ne x.symm)]
  obtain ⟨s', r', hs⟩ := h.ch
  exact ⟨h.ne, (World.cell?_of_block (w := w) e).trans h.dr, (World.cell?_of_block (w := w) e).trans h.clo, (World.cell?_of_block (w := w) e).trans h.due, (World.cell?_of_block (w := w) e).trans h.que,
    (World.frozen?_of_block (w := w) e).trans h.fz, s, r, heap_setChan _ _ _ _ _ _ _ _ (lt_of_heap hs)⟩

theorem At.set {w : World} {b c : Nat} {d cl du q : Bool} (h : At w b c d cl du q) (d' : Bool) : At (w.setCell ⟨b, 31, none⟩ (.bool d')) b c d' cl du q := by
  obtain ⟨s', r', hs⟩ := h.ch
  refine ⟨h.ne, World.cell?_setCell_same _ _ _ h.dr, ?_, ?_, ?_, ?_, s', r', ?_⟩
  · rw [World.cell?_setCell_other _ _ _ _ (by simp)]; exact h.clo
  · rw [World.cell?_setCell_other _ _ _ _ (by simp)]; exact h.due
  · rw [World.cell?_setCell_other _ _ _ _ (by simp)]; exact h.que
  · simp [h.fz]
  · rw [Below.heap_setCell _ _ _ _ (fun x => h.ne x.symm)]; exact hs

theorem signal_any (w : World) (b c : Nat) (d cl du q : Bool) (h : At w b c d cl du q) :
    Calls Try.prog 16 #[.chan (some c)] w fun e w' => e = .returned (.tuple #[]) ∧ At w' b c d cl du true ∧ Kept b c w w' := by
  obtain ⟨s, r, hs⟩ := h.ch
  cases q with
  | false =>
    refine (signal_room c s r w hs).mono ?_
    rintro e w' ⟨rfl, rfl⟩
    exact ⟨rfl, h.chan (q' := true), Kept.setChan _ _ _ _ _ _ _ _ _⟩
  | true =>
    refine (signal_full c s r w hs).mono ?_
    rintro e w' ⟨rfl, rfl⟩
    exact ⟨rfl, h, Kept.refl _ _ _⟩

theorem take_any (w : World) (b c : Nat) (d cl du q : Bool) (h : At w b c d cl du q) :
    Calls Try.prog 11 #[.pointer (some ⟨b, 0, none⟩)] w fun e w' => e = .returned (.tuple #[]) ∧ At w' b c d cl du false ∧ Kept b c w w' := by
  obtain ⟨s, r, hs⟩ := h.ch
  cases q with
  | false =>
    refine (take_none b c s r w h.que hs).mono ?_
    rintro e w' ⟨rfl, rfl⟩
    exact ⟨rfl, h, Kept.refl _ _ _⟩
  | true =>
    refine (take_some b c s r w h.que hs).mono ?_
    rintro e w' ⟨rfl, rfl⟩
    exact ⟨rfl, h.chan (q' := false), Kept.setChan _ _ _ _ _ _ _ _ _⟩

theorem sigq_any (w : World) (b c : Nat) (d cl du q : Bool) (h : At w b c d cl du q) :
    Calls Try.prog 7 #[.pointer (some ⟨b, 0, none⟩)] w fun e w' => e = .returned (.tuple #[]) ∧ At w' b c d cl du true ∧ Kept b c w w' := by
  have hq := h.que
  go_enter Try.func7, Try.ntmps7
  go_wp2_with fail
  refine (signal_any w b c d cl du q h).mono ?_
  rintro e w' ⟨rfl, h', k⟩
  go_wp2
  go_end0
  exact ⟨rfl, h', k⟩

theorem drain17 (w : World) (b c : Nat) (d cl du q : Bool) (h : At w b c d cl du q) :
    Calls Try.prog 17 #[.pointer (some ⟨b, 0, none⟩)] w fun e w' => e = .returned (.tuple #[]) ∧ At w' b c true cl du true ∧ Kept b c w w' := by
  have hq := h.que
  have hd := h.dr
  have hf := h.fz
  have h2 := h.set true
  go_enter Try.func17, Try.ntmps17
  go_wp2_with fail
  refine (signal_any _ b c true cl du q h2).mono ?_
  rintro e w' ⟨rfl, h', k⟩
  go_wp2
  go_end0
  exact ⟨rfl, h', (Kept.setCell _ _ _ _ _).trans k⟩

theorem drain_any (w : World) (b c : Nat) (d cl du q : Bool) (h : At w b c d cl du q) :
    Calls Try.prog 8 #[.pointer (some ⟨b, 0, none⟩)] w fun e w' => e = .returned (.tuple #[]) ∧ At w' b c true cl du true ∧ Kept b c w w' := by
  go_enter Try.func8, Try.ntmps8
  go_wp2_with fail
  refine (drain17 _ b c d cl du q h).mono ?_
  rintro e w' ⟨rfl, h', k⟩
  go_wp2
  go_end0
  exact ⟨rfl, h', k⟩

theorem new_any (w : World) (d cl du : Bool) :
    Calls Try.prog 6 #[.bool d, .bool cl, .bool du] w fun e w' => e = .returned (.pointer (some ⟨w.heap.size + 1, 0, none⟩)) ∧ At w' (w.heap.size + 1) w.heap.size d cl du false ∧ Below w.heap.size w w' ∧ w'.heap.size = w.heap.size + 2 := by
  have hmc := mk1
  go_enter Try.func6, Try.ntmps6
  go_wp2
  go_ret
  refine ⟨rfl, ⟨by omega, ?_, ?_, ?_, ?_, ?_, 0, 0, ?_⟩, ?_, by simp⟩
  · simp [go_sem]
  · simp [go_sem]
  · simp [go_sem]
  · simp [go_sem]
  · simp [go_sem]
  · rw [Below.heap_alloc _ _ _ (by simp)]; exact heap_alloc_new w _
  · exact ((Below.refl _ w).alloc (Nat.le_refl _) _).alloc (by simp) _

theorem state_any (w : World) (b c : Nat) (d cl du q : Bool) (h : At w b c d cl du q) :
    Calls Try.prog 9 #[.pointer (some ⟨b, 0, none⟩)] w fun e w' => e = .returned (.tuple #[.bool d, .bool cl, .bool du, .int .i64 (numOf q)]) ∧ ∃ n, w' = w.drewN n := by
  have hq := h.que
  have hd := h.dr
  have hcl := h.clo
  have hdu := h.due
  obtain ⟨s, r, hs⟩ := h.ch
  have hlen : ∀ (n : Nat) ty, (Builtin.len_ #[37] ty #[.chan (some c)]).run Try.prog (w.drewN n) = .ok (.int .i64 (numOf q)) (w.drewN n) := fun n ty => by
    rw [run_len_chan (P := Try.prog) (w := w.drewN n) 37 ty Try.underlying37 (by simpa using hs)]
    cases q <;> rfl
  clear hs h
  go_enter Try.func9, Try.ntmps9
  go_wp2
  go_quiet (fail)
  go_wp2
  exact bodyPost_ret (v := .tuple #[.bool d, .bool cl, .bool du, .int .i64 (numOf q)]) (by simp [results, Try.results9, go_sem]) rfl ⟨rfl, nq, rfl⟩
end Go.Proofs.Qxb6614088a.Sess
