import Derived.Test.Qxb6614239aCover
import Derived.Deep.Slices
import Derived.Deep.SlicePairs
import Derived.WalkKit
import Derived.ProofKit
import Derived.OpenShut
import Derived.ShutString
namespace Go.Proofs.Qxb6614239a.fnSpansCoverIffEachSpanStartsWhereThoseBeforeReach
open Go.ChangeShapes Go.WideShapes Go.ChangeAt Go.RowKit Go.Deep
set_option linter.unusedVariables false

theorem own : ownKnob Try.prog.godebug = none := by kernel_rfl
theorem laidOut : laidOutB Try.prog = true := by kernel_rfl
theorem cells48 : Try.prog.cellsOf 48 = 4 := by kernel_rfl
theorem cells32 : Try.prog.cellsOf 32 = 1 := by kernel_rfl
theorem cells3 : Try.prog.cellsOf 3 = 1 := by kernel_rfl

/-- A cell that is there lies at a plain address. -/
theorem plain_of_cell {w : World} {x : Addr} {v : Value} (h : w.cell? x = some v) : x = ⟨x.block, x.off, none⟩ := by
  obtain ⟨b, o, s⟩ := x
  cases s with
  | none => rfl
  | some s =>
    unfold World.cell? at h
    split at h
    · simp at h
    · cases h

theorem add_at (b o j : Nat) : (⟨b, o, none⟩ : Addr).add j = ⟨b, o + j, none⟩ := by
  unfold Addr.add
  split
  · rename_i h; subst h; rfl
  · rfl

set_option maxRecDepth 100000 in
/-- The slice of spans opened. -/
theorem open_spans {H : Type} {enc : TypeId × Value → H} {w : World} {base fuel : Nat} {held : Bool} {a : Option Addr} {len cap : Nat} {x : DataW H × List MemPlace}
    (h : DataW.trod enc Try.prog w base (fun _ => true) held fuel 45 [.slice a len cap] = some x) :
    ∃ F C AF AC : Nat → Int, Cover.Spans w F C AF AC a len ∧ Hid (∀ k, k < len → 0 ≤ F k ∧ F k < 18446744073709551616 ∧ C k ≤ 9223372036854775807 ∧ 0 ≤ AF k ∧ AF k < 18446744073709551616 ∧ AC k ≤ 9223372036854775807) := by
  rcases open_slice Try.underlying45 h with ⟨hcs, _⟩ | ⟨y, l, c, m, n, D, Pl, hcs, _, hl, _, hm, _, hx⟩
  · simp only [List.cons.injEq, Value.slice.injEq, and_true] at hcs
    obtain ⟨rfl, rfl, rfl⟩ := hcs
    exact ⟨fun _ => 0, fun _ => 0, fun _ => 0, fun _ => 0, fun k hk => absurd hk (Nat.not_lt_zero k), fun k hk => absurd hk (Nat.not_lt_zero k)⟩
  · simp only [List.cons.injEq, Value.slice.injEq, and_true] at hcs
    obtain ⟨rfl, rfl, rfl⟩ := hcs
    simp only [if_true] at hm
    subst hm
    have each : ∀ i, i < len → ∃ q : Int × Int × Int × Int, (w.cell? (y.add (i * 4)) = some (.int .u64 q.1) ∧ w.cell? (y.add (i * 4 + 1)) = some (.int .i64 q.2.1) ∧ w.cell? (y.add (i * 4 + 2)) = some (.int .u64 q.2.2.1) ∧ w.cell? (y.add (i * 4 + 3)) = some (.int .i64 q.2.2.2)) ∧
        (0 ≤ q.1 ∧ q.1 < 18446744073709551616 ∧ q.2.1 ≤ 9223372036854775807 ∧ 0 ≤ q.2.2.1 ∧ q.2.2.1 < 18446744073709551616 ∧ q.2.2.2 ≤ 9223372036854775807) := by
      intro i hi
      obtain ⟨cs', h1, h2⟩ := hx i (by omega)
      rw [cells48] at h1
      obtain ⟨_, hlen, hcell⟩ := World.cells?_some h1
      obtain ⟨xs, k, hk, hxy, _, hxl, hf⟩ := DataW.trod_struct Try.underlying48 h2
      match xs, hxl, cs', hlen with
      | [y0, y1, y2, y3], _, [v0, v1, v2, v3], _ =>
        have g0 := hf 0 _ rfl
        have g1 := hf 1 _ rfl
        have g2 := hf 2 _ rfl
        have g3 := hf 3 _ rfl
        simp [cells32, cells3] at g0 g1 g2 g3
        obtain ⟨z0, e0, _, w0⟩ := DataW.trod_int Try.underlying32 g0
        obtain ⟨z1, e1, _, w1⟩ := DataW.trod_int Try.underlying3 g1
        obtain ⟨z2, e2, _, w2⟩ := DataW.trod_int Try.underlying32 g2
        obtain ⟨z3, e3, _, w3⟩ := DataW.trod_int Try.underlying3 g3
        simp at e0 e1 e2 e3
        subst e0 e1 e2 e3
        have f0 := hcell 0 (by omega)
        have f1 := hcell 1 (by omega)
        have f2 := hcell 2 (by omega)
        have f3 := hcell 3 (by omega)
        rw [add_add] at f0 f1 f2 f3
        have k0 := bounds_u64 w0
        have k1 := bounds_i64 w1
        have k2 := bounds_u64 w2
        have k3 := bounds_i64 w3
        exact ⟨(z0, z1, z2, z3), ⟨by simpa using f0, by simpa using f1, by simpa using f2, by simpa using f3⟩, k0.1, Int.lt_of_le_of_lt k0.2 (by decide), k1.2, k2.1, Int.lt_of_le_of_lt k2.2 (by decide), k3.2⟩
    obtain ⟨q, hq⟩ := choose_lt each
    refine ⟨fun i => (q i).1, fun i => (q i).2.1, fun i => (q i).2.2.1, fun i => (q i).2.2.2, fun k hk => ?_, fun k hk => (hq k hk).2⟩
    have hy := plain_of_cell (hq 0 (by omega)).1.1
    rw [show y.add (0 * 4) = y by simp [Addr.add]] at hy
    obtain ⟨⟨f0, f1, f2, f3⟩, _⟩ := hq k hk
    rw [hy, add_at] at f0 f1 f2 f3
    exact ⟨y.block, y.off, by rw [← hy], f0, by rw [Nat.add_assoc]; exact f1, by rw [Nat.add_assoc]; exact f2, by rw [Nat.add_assoc]; exact f3⟩

set_option maxRecDepth 100000 in
theorem lifted (os : Os) (started : os.Started) (H : Type) (enc : TypeId × Value → H) :
    ReturnsInHanded {} Try.checked os 6 .any (Rows.fnSpansCoverIffEachSpanStartsWhereThoseBeforeReachSpec.pre6 enc Try.prog Try.f6 Rows.fnSpansCoverIffEachSpanStartsWhereThoseBeforeReachRow.domain false) (Rows.fnSpansCoverIffEachSpanStartsWhereThoseBeforeReachSpec.post enc Try.prog Try.f6 false true false false) := by
  refine returnsInHanded_of_change (C := Try.checked) own started (by kernel_rfl) Try.func6
    (ChangeSpec.witness6 (enc := enc) (C := Try.checked) false ⟨#[], #[.int .u64 0, .int .u64 0, .int .i64 0, .slice none 0 0], []⟩ 8 (by kernel_rfl) (by kernel_rfl) (by kernel_rfl) (by kernel_rfl)) ?_
  intro W base args ds gs before hval0 hW hcnd _
  have hval : ∀ (j : Nat) t v, Try.f6.params[j]? = some t → args[j]? = some v → Value.okWide Try.prog W .any base t v := hval0
  have hW' := hW
  obtain ⟨p, q, hA0, hV, rfl, hfz, hnd⟩ := hW
  have hA : DataW.TrodAll enc Try.prog W 0 (fun _ => true) true Try.f6.params.toList args.toList ds p := hA0
  rw [Try.params6] at hA hval
  obtain ⟨v0, vs0, d0, ds0, p0, q0, hargs, rfl, rfl, h0, r0⟩ := trodAll_cons hA
  obtain ⟨v1, vs1, d1, ds1, p1, q1, rfl, rfl, rfl, h1, r1⟩ := trodAll_cons r0
  obtain ⟨v2, vs2, d2, ds2, p2, q2, rfl, rfl, rfl, h2, r2⟩ := trodAll_cons r1
  obtain ⟨v3, vs3, d3, ds3, p3, q3, rfl, rfl, rfl, h3, r3⟩ := trodAll_cons r2
  obtain ⟨rfl, rfl, rfl⟩ := trodAll_nil r3
  obtain rfl : args = #[v0, v1, v2, v3] := by cases args; simp_all
  obtain ⟨rfl, rfl⟩ := trodVars_none hV
  obtain ⟨a0, rfl, rfl, rfl, w0⟩ := open_int Try.underlying32 (hval 0 32 v0 rfl rfl) h0
  obtain ⟨a1, rfl, rfl, rfl, w1⟩ := open_int Try.underlying32 (hval 1 32 v1 rfl rfl) h1
  obtain ⟨a2, rfl, rfl, rfl, w2⟩ := open_int Try.underlying3 (hval 2 3 v2 rfl rfl) h2
  obtain ⟨a3, len3, cap3, rfl⟩ := okWide_slice Try.underlying45 (hval 3 45 v3 rfl rfl)
  have k3 := h3
  have lt3 : ∀ x ∈ p3, x.block < W.heap.size := by obtain ⟨m, hm⟩ := k3; exact DataW.trod_lt m _ _ _ hm
  obtain ⟨F, C, AF, AC, hS, hN⟩ : ∃ F C AF AC : Nat → Int, Cover.Spans W F C AF AC a3 len3 ∧ Hid (∀ k, k < len3 → 0 ≤ F k ∧ F k < 18446744073709551616 ∧ C k ≤ 9223372036854775807 ∧ 0 ≤ AF k ∧ AF k < 18446744073709551616 ∧ AC k ≤ 9223372036854775807) := by
    obtain ⟨fuel, hf⟩ := h3
    exact open_spans (by simpa [Value.cells] using hf)
  clear hA0 hval0
  have g0 := bounds_u64 w0
  have g1 := bounds_u64 w1
  have g2 := bounds_i64 w2
  refine (Cover.walk a0 a1 a2 F C AF AC a3 len3 cap3 W hS g0.1 (Int.lt_of_le_of_lt g0.2 (by decide)) g1.1 (Int.lt_of_le_of_lt g1.2 (by decide)) g2.1 g2.2 hN).mono fun e W' ⟨he, bel⟩ => ?_
  subst he
  exact ⟨_, rfl, _, _, _, [], _, [], hW', trodAll_mk1 (shut_bool Try.underlying4 _), (trodAll_cons_mk (shut_int Try.underlying32 w0) (trodAll_cons_mk (shut_int Try.underlying32 w1) (trodAll_cons_mk (shut_int Try.underlying3 w2) (trodAll_cons_mk (Below.trod laidOut (by kernel_rfl) (of_decide_eq_true (by kernel_rfl)) k3 bel lt3) trodAll_mk0)))), rfl, bel.frame _, fun h => by cases h⟩

theorem over : Rows.fnSpansCoverIffEachSpanStartsWhereThoseBeforeReachRow.holds Try.pinned (OpenSpec.ofChange Rows.fnSpansCoverIffEachSpanStartsWhereThoseBeforeReachSpec) :=
  OpenClaim.holds_of_wide 6 Try.f6 rfl rfl rfl rfl rfl rfl rfl ⟨rfl, rfl, rfl, rfl, rfl⟩ rfl rfl rfl rfl rfl (by kernel_rfl) Try.func6 (by kernel_rfl)
    (of_decide_eq_true (by kernel_rfl)) (by unfold Func.isWrapper; first | (rw [if_pos (by decide +kernel)]; kernel_rfl) | (rw [if_neg (by decide +kernel)]; exact ⟨rfl, rfl⟩))
    (fun os started H enc _ => lifted os started H enc)

/-- The statement. -/
theorem proved : Rows.FnSpansCoverIffEachSpanStartsWhereThoseBeforeReachSaid :=
  over
end Go.Proofs.Qxb6614239a.fnSpansCoverIffEachSpanStartsWhereThoseBeforeReach
