import Derived.Test.Qxb6614088aSess
namespace Go.Proofs.Qxb6614088a.DrainTwice
open Go.Conc Go.RowKit Go.Proofs.Qxb6614088a.Sess

theorem Below.drewN {B : Nat} {a w : World} (h : Below B a w) (n : Nat) : Below B a (w.drewN n) := ⟨h.os, h.tape, h.output, h.size, h.block⟩

theorem At.drewN {w : World} {b c : Nat} {d cl du q : Bool} (h : At w b c d cl du q) (n : Nat) : At (w.drewN n) b c d cl du q :=
  ⟨h.ne, h.dr, h.clo, h.due, h.que, h.fz, h.ch⟩

theorem At.below {w w' : World} {b c B : Nat} {d cl du q : Bool} (h : At w b c d cl du q) (k : Below B w w') (h1 : b < B) (h2 : c < B) : At w' b c d cl du q := by
  have e := k.block b h1
  have e' := k.block c h2
  obtain ⟨s, r, hs⟩ := h.ch
  exact ⟨h.ne, (World.cell?_of_block (w := w) e).trans h.dr, (World.cell?_of_block (w := w) e).trans h.clo, (World.cell?_of_block (w := w) e).trans h.due, (World.cell?_of_block (w := w) e).trans h.que,
    (World.frozen?_of_block (w := w) e).trans h.fz, s, r, e'.trans hs⟩

/-- A new session, its blocks by names. -/
theorem new_ex (w : World) (d cl du : Bool) :
    Calls Try.prog 6 #[.bool d, .bool cl, .bool du] w fun e w' => ∃ b c, e = .returned (.pointer (some ⟨b, 0, none⟩)) ∧ At w' b c d cl du false ∧ Below w.heap.size w w' ∧ w.heap.size ≤ b ∧ w.heap.size ≤ c ∧ b < w'.heap.size ∧ c < w'.heap.size :=
  (new_any w d cl du).mono fun _ _ ⟨he, h, k, hs⟩ => ⟨_, _, he, h, k, by omega, by omega, by omega, by omega⟩

/-- Behind the signals, whether or not they were made: two sessions, each in the state that the arguments say. -/
theorem walk (a0 a1 a2 a3 : Bool) (w : World) :
    Calls Try.prog 3 #[.bool a0, .bool a1, .bool a2, .bool a3] w fun e w' => e = .returned (.bool true) ∧ Below w.heap.size w w' := by
  go_enter Try.func3, Try.ntmps3
  go_wp2_with fail
  refine (new_ex w a0 a1 a2).mono ?_
  rintro e w1 ⟨b, c, rfl, h1, k1, hb, hc, hb', hc'⟩
  go_wp2_with fail
  refine (new_ex w1 a0 a1 a2).mono ?_
  rintro e w2 ⟨b2, c2, rfl, h2, k2, hb2, hc2, hb2', hc2'⟩
  replace h1 := At.below h1 k2 hb' hc'
  replace k1 := k1.trans (k2.mono (B' := w.heap.size) (by omega))
  clear k2
  cases a3 with
  | false =>
    go_wp2_with fail
    refine (drain_any w2 b c a0 a1 a2 false h1).mono ?_
    rintro e w3 ⟨rfl, h1, k⟩
    replace h2 := h2.other k (by omega) (by omega) (by omega) (by omega)
    replace k1 := k1.trans (k.below hb hc)
    clear k
    go_wp2_with fail
    refine (drain_any w3 b2 c2 a0 a1 a2 false h2).mono ?_
    rintro e w4 ⟨rfl, h2, k⟩
    replace h1 := h1.other k (by omega) (by omega) (by omega) (by omega)
    replace k1 := k1.trans (k.below (by omega) (by omega))
    clear k
    go_wp2_with fail
    refine (drain_any w4 b2 c2 true a1 a2 true h2).mono ?_
    rintro e w5 ⟨rfl, h2, k⟩
    replace h1 := h1.other k (by omega) (by omega) (by omega) (by omega)
    replace k1 := k1.trans (k.below (by omega) (by omega))
    clear k
    go_wp2_with fail
    refine (state_any w5 b c true a1 a2 true h1).mono ?_
    rintro e w6 ⟨rfl, n, rfl⟩
    go_wp2_with fail
    refine (state_any _ b2 c2 true a1 a2 true (At.drewN h2 n)).mono ?_
    rintro e w6 ⟨rfl, m, rfl⟩
    simp only [numOf]
    go_wp2
    go_ret
    exact ⟨rfl, Below.drewN k1 (n + m)⟩
  | true =>
    go_wp2_with fail
    refine (sigq_any w2 b c a0 a1 a2 false h1).mono ?_
    rintro e v3 ⟨rfl, h1, k⟩
    replace h2 := h2.other k (by omega) (by omega) (by omega) (by omega)
    replace k1 := k1.trans (k.below hb hc)
    clear k
    go_wp2_with fail
    refine (sigq_any v3 b2 c2 a0 a1 a2 false h2).mono ?_
    rintro e v4 ⟨rfl, h2, k⟩
    replace h1 := h1.other k (by omega) (by omega) (by omega) (by omega)
    replace k1 := k1.trans (k.below (by omega) (by omega))
    clear k
    go_wp2_with fail
    refine (drain_any v4 b c a0 a1 a2 true h1).mono ?_
    rintro e w3 ⟨rfl, h1, k⟩
    replace h2 := h2.other k (by omega) (by omega) (by omega) (by omega)
    replace k1 := k1.trans (k.below hb hc)
    clear k
    go_wp2_with fail
    refine (drain_any w3 b2 c2 a0 a1 a2 true h2).mono ?_
    rintro e w4 ⟨rfl, h2, k⟩
    replace h1 := h1.other k (by omega) (by omega) (by omega) (by omega)
    replace k1 := k1.trans (k.below (by omega) (by omega))
    clear k
    go_wp2_with fail
    refine (drain_any w4 b2 c2 true a1 a2 true h2).mono ?_
    rintro e w5 ⟨rfl, h2, k⟩
    replace h1 := h1.other k (by omega) (by omega) (by omega) (by omega)
    replace k1 := k1.trans (k.below (by omega) (by omega))
    clear k
    go_wp2_with fail
    refine (state_any w5 b c true a1 a2 true h1).mono ?_
    rintro e w6 ⟨rfl, n, rfl⟩
    go_wp2_with fail
    refine (state_any _ b2 c2 true a1 a2 true (At.drewN h2 n)).mono ?_
    rintro e w6 ⟨rfl, m, rfl⟩
    simp only [numOf]
    go_wp2
    go_ret
    exact ⟨rfl, Below.drewN k1 (n + m)⟩
end Go.Proofs.Qxb6614088a.DrainTwice
