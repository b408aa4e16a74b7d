import Derived.Test.Qxb6614239aCq
namespace Go.Proofs.Qxb6614239a.Cover
open Go.RowKit

theorem rowsOf_length (F C AF AC : Nat → Int) (n : Nat) : (rowsOf F C AF AC n).length = n * 10 := by
  induction n with
  | zero => rfl
  | succ n ih => unfold rowsOf; rw [List.length_append, ih]; simp [cellsOf]; omega

theorem rowsOf_get (F C AF AC : Nat → Int) (n k i : Nat) (hk : k < n) (hi : i < 10) : (rowsOf F C AF AC n)[k * 10 + i]? = (cellsOf (F k) (C k) (AF k) (AC k))[i]? := by
  induction n with
  | zero => omega
  | succ n ih =>
    unfold rowsOf
    by_cases e : k = n
    · subst e
      rw [List.getElem?_append_right (by rw [rowsOf_length]; omega), rowsOf_length]
      congr 1
      omega
    · rw [List.getElem?_append_left (by rw [rowsOf_length]; omega)]
      exact ih (by omega)

/-- Where the spans' cells lie. -/
def Rows (w : World) (g : Nat) (F C AF AC : Nat → Int) (n : Nat) : Prop :=
  ∀ k, k < n → w.cell? ⟨g, k * 10, none⟩ = some (.pointer none) ∧ w.cell? ⟨g, k * 10 + 1, none⟩ = some (.int .u64 (F k)) ∧ w.cell? ⟨g, k * 10 + 2, none⟩ = some (.int .i64 (C k)) ∧ w.cell? ⟨g, k * 10 + 3, none⟩ = some (.int .u64 (AF k)) ∧ w.cell? ⟨g, k * 10 + 4, none⟩ = some (.int .i64 (AC k)) ∧
    w.cell? ⟨g, k * 10 + 5, none⟩ = some (.int .i64 0) ∧ w.cell? ⟨g, k * 10 + 6, none⟩ = some (.int .i64 0) ∧ w.cell? ⟨g, k * 10 + 7, none⟩ = some (.int .i64 0) ∧ w.cell? ⟨g, k * 10 + 8, none⟩ = some (.int .u8 0) ∧ w.cell? ⟨g, k * 10 + 9, none⟩ = some (.int .i64 0)

theorem rows_of {w : World} {b n : Nat} {v : Value} {F C AF AC : Nat → Int} (h : w.ownsRow (b + 1) 94 10 v n (rowsOf F C AF AC n)) :
    ∃ a cap, v = .slice a n cap ∧ ∀ k, k < n → ∃ g, a = some ⟨g, 0, none⟩ ∧ Rows w g F C AF AC n := by
  obtain ⟨hl, ⟨rfl, rfl⟩ | ⟨g, cap, cur, rfl, _, hg, _, _, _, htake⟩⟩ := h
  · exact ⟨none, 0, rfl, fun k hk => absurd hk (Nat.not_lt_zero k)⟩
  · refine ⟨some ⟨g, 0, none⟩, cap, rfl, fun _ _ => ⟨g, rfl, fun k hk => ?_⟩⟩
    have key : ∀ i, i < 10 → w.cell? ⟨g, k * 10 + i, none⟩ = (cellsOf (F k) (C k) (AF k) (AC k))[i]? := by
      intro i hi
      rw [← rowsOf_get F C AF AC n k i hk hi, ← htake, List.getElem?_take_of_lt (by omega)]
      simp [World.cell?, hg]
    exact ⟨by simpa [cellsOf] using key 0 (by omega), by simpa [cellsOf] using key 1 (by omega), by simpa [cellsOf] using key 2 (by omega), by simpa [cellsOf] using key 3 (by omega), by simpa [cellsOf] using key 4 (by omega),
      by simpa [cellsOf] using key 5 (by omega), by simpa [cellsOf] using key 6 (by omega), by simpa [cellsOf] using key 7 (by omega), by simpa [cellsOf] using key 8 (by omega), by simpa [cellsOf] using key 9 (by omega)⟩

theorem Rows.below {w w' : World} {g n : Nat} {F C AF AC : Nat → Int} (h : Rows w g F C AF AC n) (k : Below w.heap.size w w') : Rows w' g F C AF AC n := by
  intro i hi
  obtain ⟨c0, c1, c2, c3, c4, c5, c6, c7, c8, c9⟩ := h i hi
  exact ⟨(k.cell (lt_of_cell c0)).trans c0, (k.cell (lt_of_cell c1)).trans c1, (k.cell (lt_of_cell c2)).trans c2, (k.cell (lt_of_cell c3)).trans c3, (k.cell (lt_of_cell c4)).trans c4,
    (k.cell (lt_of_cell c5)).trans c5, (k.cell (lt_of_cell c6)).trans c6, (k.cell (lt_of_cell c7)).trans c7, (k.cell (lt_of_cell c8)).trans c8, (k.cell (lt_of_cell c9)).trans c9⟩

theorem Below.drewN {B : Nat} {a w : World} (h : Below B a w) (n : Nat) : Below B a (w.drewN n) := ⟨h.os, h.tape, h.output, h.size, h.block⟩
theorem nx_skip {f c : Nat → Int} {s x : Int} {k : Nat} (h : nx f c s k = some x) (hc : ¬ (0 < c k ∧ x < f k + c k)) : nx f c s (k + 1) = some x := by
  show (match nx f c s k with | none => none | some x => if 0 < c k ∧ x < f k + c k then (if x < f k then none else some (f k + c k)) else some x) = _
  rw [h]; simp only [hc, if_false]
theorem nx_move {f c : Nat → Int} {s x : Int} {k : Nat} (h : nx f c s k = some x) (hc : 0 < c k ∧ x < f k + c k) (hf : ¬ x < f k) : nx f c s (k + 1) = some (f k + c k) := by
  show (match nx f c s k with | none => none | some x => if 0 < c k ∧ x < f k + c k then (if x < f k then none else some (f k + c k)) else some x) = _
  rw [h]; simp only [hc, hf, if_true, if_false, and_self]
theorem nx_fail {f c : Nat → Int} {s x : Int} {k : Nat} (h : nx f c s k = some x) (hc : 0 < c k ∧ x < f k + c k) (hf : x < f k) : nx f c s (k + 1) = none := by
  show (match nx f c s k with | none => none | some x => if 0 < c k ∧ x < f k + c k then (if x < f k then none else some (f k + c k)) else some x) = _
  rw [h]; simp only [hc, hf, if_true, and_self]
theorem covers_fail1 {f c af ac : Nat → Int} {s l h : Int} {k n : Nat} (hk : k + 1 ≤ n) (e : nx f c s (k + 1) = none) : covers f c af ac s l h n = false := by
  unfold covers; rw [nx_none_mono hk e]
theorem covers_fail2 {f c af ac : Nat → Int} {s l h : Int} {k n : Nat} (hk : k + 1 ≤ n) (e : nx af ac s (k + 1) = none) : covers f c af ac s l h n = false := by
  unfold covers; rw [nx_none_mono hk e]; cases nx f c s n <;> rfl

set_option maxRecDepth 100000 in
set_option maxHeartbeats 1600000 in
theorem cover32 (w : World) (b cap n : Nat) (a : Option Addr) (base last acked : Int) (F C AF AC : Nat → Int)
    (sp : w.cell? ⟨b, 1, none⟩ = some (.slice a n cap)) (c5 : w.cell? ⟨b, 5, none⟩ = some (.int .u64 base)) (c6 : w.cell? ⟨b, 6, none⟩ = some (.int .u64 last)) (c7 : w.cell? ⟨b, 7, none⟩ = some (.int .i64 acked))
    (HR : Hid (∀ k, k < n → ∃ g, a = some ⟨g, 0, none⟩ ∧ Rows w g F C AF AC n)) (hn : n ≤ 1024)
    (b0 : 0 ≤ base) (b1 : base + 1 < 18446744073709551616) (l0 : 0 ≤ last) (l1 : last + 1 < 18446744073709551616) (a0 : 0 ≤ acked) (a1 : base + acked + 1 < 18446744073709551616)
    (HB : Hid (∀ k, k < n → 0 ≤ F k ∧ F k < 18446744073709551616 ∧ (0 < C k → F k + C k < 18446744073709551616)))
    (HA : Hid (∀ k, k < n → 0 ≤ AF k ∧ AF k < 18446744073709551616 ∧ (0 < AC k → AF k + AC k < 18446744073709551616))) :
    Calls Try.prog 32 #[.pointer (some ⟨b, 0, none⟩)] w fun e w' => e = .returned (.bool (covers F C AF AC (base + 1) (last + 1) (base + acked + 1) n)) ∧ Below w.heap.size w w' := by
  go_enter Try.func32, Try.ntmps32
  go_wp2_with fail
  go_quiet (fail)
  go_wp2_with fail
  have bel0 : Below w.heap.size w (w.drewN nq) := ⟨rfl, rfl, rfl, Nat.le_refl _, fun _ _ => rfl⟩
  go_loopw [3, 4, 22] (fun x y i wr => ∃ (k : Nat) (X Y : Int), k ≤ n ∧ i = .int .i64 k ∧ x = .int .u64 X ∧ y = .int .u64 Y ∧ Hid (nx F C (base + 1) k = some X) ∧ Hid (nx AF AC (base + 1) k = some Y) ∧
    0 ≤ X ∧ X < 18446744073709551616 ∧ 0 ≤ Y ∧ Y < 18446744073709551616 ∧ Below w.heap.size w wr) (fun _ _ i _ => n - (intOf i).toNat)
  case atStart => exact ⟨0, _, _, Nat.zero_le _, rfl, rfl, rfl, rfl, rfl, by omega, by omega, by omega, by omega, bel0⟩
  case round =>
    clear bel0
    obtain ⟨k, X, Y, hk, rfl, rfl, rfl, hX, hY, x0, x1, y0, y1, k1⟩ := hrel
    by_cases hlt : k < n
    · obtain ⟨g, rfl, hr⟩ := HR.out k hlt
      obtain ⟨p0, p1, p2⟩ := HB.out k hlt
      obtain ⟨q0, q1, q2⟩ := HA.out k hlt
      obtain ⟨r0, r1, r2, r3, r4, r5, r6, r7, r8, r9⟩ := hr.below k1 k hlt
      clear hr
      by_cases hc : 0 < C k
      case neg =>
        have e1 : Hid (nx F C (base + 1) (k + 1) = some X) := nx_skip hX.out (by omega)
        by_cases hd : 0 < AC k
        case neg =>
          have e2 : Hid (nx AF AC (base + 1) (k + 1) = some Y) := nx_skip hY.out (by omega)
          go_wp2_with (first
            | (go_at_call 36; refine (end_any _ (F k) (C k) _ (by simp [go_sem]) (by simp [go_sem]) p0 (by omega) (by omega)).mono ?_; rintro e w2 ⟨rfl, m1, rfl⟩)
            | (go_at_call 37; refine (ackEnd_any _ (AF k) (AC k) _ (by simp [go_sem]) (by simp [go_sem]) q0 (by omega) (by omega)).mono ?_; rintro e w2 ⟨rfl, m2, rfl⟩))
          go_roundw
          case rel => exact ⟨k + 1, X, Y, by omega, by go_num, rfl, rfl, e1, e2, by omega, by omega, by omega, by omega, by first | exact k1.alloc k1.size _ | exact Below.drewN (k1.alloc k1.size _) _⟩
          case measure => simp [intOf]; omega
        replace q2 := q2 hd
        by_cases hg : Y < AF k + AC k
        case neg =>
          have e2 : Hid (nx AF AC (base + 1) (k + 1) = some Y) := nx_skip hY.out (by omega)
          go_wp2_with (first
            | (go_at_call 36; refine (end_any _ (F k) (C k) _ (by simp [go_sem]) (by simp [go_sem]) p0 (by omega) (by omega)).mono ?_; rintro e w2 ⟨rfl, m1, rfl⟩)
            | (go_at_call 37; refine (ackEnd_any _ (AF k) (AC k) _ (by simp [go_sem]) (by simp [go_sem]) q0 (by omega) (by omega)).mono ?_; rintro e w2 ⟨rfl, m2, rfl⟩))
          go_roundw
          case rel => exact ⟨k + 1, X, Y, by omega, by go_num, rfl, rfl, e1, e2, by omega, by omega, by omega, by omega, by first | exact k1.alloc k1.size _ | exact Below.drewN (k1.alloc k1.size _) _⟩
          case measure => simp [intOf]; omega
        by_cases hh : Y < AF k
        case neg =>
          have e2 : Hid (nx AF AC (base + 1) (k + 1) = some (AF k + AC k)) := nx_move hY.out ⟨hd, hg⟩ hh
          go_wp2_with (first
            | (go_at_call 36; refine (end_any _ (F k) (C k) _ (by simp [go_sem]) (by simp [go_sem]) p0 (by omega) (by omega)).mono ?_; rintro e w2 ⟨rfl, m1, rfl⟩)
            | (go_at_call 37; refine (ackEnd_any _ (AF k) (AC k) _ (by simp [go_sem]) (by simp [go_sem]) q0 (by omega) (by omega)).mono ?_; rintro e w2 ⟨rfl, m2, rfl⟩))
          go_roundw
          case rel => exact ⟨k + 1, X, (AF k + AC k), by omega, by go_num, rfl, rfl, e1, e2, by omega, by omega, by omega, by omega, by first | exact k1.alloc k1.size _ | exact Below.drewN (k1.alloc k1.size _) _⟩
          case measure => simp [intOf]; omega
        have e2 : Hid (covers F C AF AC (base + 1) (last + 1) (base + acked + 1) n = false) := covers_fail2 hlt (nx_fail hY.out ⟨hd, hg⟩ hh)
        go_wp2_with (first
          | (go_at_call 36; refine (end_any _ (F k) (C k) _ (by simp [go_sem]) (by simp [go_sem]) p0 (by omega) (by omega)).mono ?_; rintro e w2 ⟨rfl, m1, rfl⟩)
          | (go_at_call 37; refine (ackEnd_any _ (AF k) (AC k) _ (by simp [go_sem]) (by simp [go_sem]) q0 (by omega) (by omega)).mono ?_; rintro e w2 ⟨rfl, m2, rfl⟩))
        go_ret
        exact ⟨by rw [e2.out]; rfl, by first | exact k1.alloc k1.size _ | exact Below.drewN (k1.alloc k1.size _) _⟩
      replace p2 := p2 hc
      by_cases he : X < F k + C k
      case neg =>
        have e1 : Hid (nx F C (base + 1) (k + 1) = some X) := nx_skip hX.out (by omega)
        by_cases hd : 0 < AC k
        case neg =>
          have e2 : Hid (nx AF AC (base + 1) (k + 1) = some Y) := nx_skip hY.out (by omega)
          go_wp2_with (first
            | (go_at_call 36; refine (end_any _ (F k) (C k) _ (by simp [go_sem]) (by simp [go_sem]) p0 (by omega) (by omega)).mono ?_; rintro e w2 ⟨rfl, m1, rfl⟩)
            | (go_at_call 37; refine (ackEnd_any _ (AF k) (AC k) _ (by simp [go_sem]) (by simp [go_sem]) q0 (by omega) (by omega)).mono ?_; rintro e w2 ⟨rfl, m2, rfl⟩))
          go_roundw
          case rel => exact ⟨k + 1, X, Y, by omega, by go_num, rfl, rfl, e1, e2, by omega, by omega, by omega, by omega, by first | exact k1.alloc k1.size _ | exact Below.drewN (k1.alloc k1.size _) _⟩
          case measure => simp [intOf]; omega
        replace q2 := q2 hd
        by_cases hg : Y < AF k + AC k
        case neg =>
          have e2 : Hid (nx AF AC (base + 1) (k + 1) = some Y) := nx_skip hY.out (by omega)
          go_wp2_with (first
            | (go_at_call 36; refine (end_any _ (F k) (C k) _ (by simp [go_sem]) (by simp [go_sem]) p0 (by omega) (by omega)).mono ?_; rintro e w2 ⟨rfl, m1, rfl⟩)
            | (go_at_call 37; refine (ackEnd_any _ (AF k) (AC k) _ (by simp [go_sem]) (by simp [go_sem]) q0 (by omega) (by omega)).mono ?_; rintro e w2 ⟨rfl, m2, rfl⟩))
          go_roundw
          case rel => exact ⟨k + 1, X, Y, by omega, by go_num, rfl, rfl, e1, e2, by omega, by omega, by omega, by omega, by first | exact k1.alloc k1.size _ | exact Below.drewN (k1.alloc k1.size _) _⟩
          case measure => simp [intOf]; omega
        by_cases hh : Y < AF k
        case neg =>
          have e2 : Hid (nx AF AC (base + 1) (k + 1) = some (AF k + AC k)) := nx_move hY.out ⟨hd, hg⟩ hh
          go_wp2_with (first
            | (go_at_call 36; refine (end_any _ (F k) (C k) _ (by simp [go_sem]) (by simp [go_sem]) p0 (by omega) (by omega)).mono ?_; rintro e w2 ⟨rfl, m1, rfl⟩)
            | (go_at_call 37; refine (ackEnd_any _ (AF k) (AC k) _ (by simp [go_sem]) (by simp [go_sem]) q0 (by omega) (by omega)).mono ?_; rintro e w2 ⟨rfl, m2, rfl⟩))
          go_roundw
          case rel => exact ⟨k + 1, X, (AF k + AC k), by omega, by go_num, rfl, rfl, e1, e2, by omega, by omega, by omega, by omega, by first | exact k1.alloc k1.size _ | exact Below.drewN (k1.alloc k1.size _) _⟩
          case measure => simp [intOf]; omega
        have e2 : Hid (covers F C AF AC (base + 1) (last + 1) (base + acked + 1) n = false) := covers_fail2 hlt (nx_fail hY.out ⟨hd, hg⟩ hh)
        go_wp2_with (first
          | (go_at_call 36; refine (end_any _ (F k) (C k) _ (by simp [go_sem]) (by simp [go_sem]) p0 (by omega) (by omega)).mono ?_; rintro e w2 ⟨rfl, m1, rfl⟩)
          | (go_at_call 37; refine (ackEnd_any _ (AF k) (AC k) _ (by simp [go_sem]) (by simp [go_sem]) q0 (by omega) (by omega)).mono ?_; rintro e w2 ⟨rfl, m2, rfl⟩))
        go_ret
        exact ⟨by rw [e2.out]; rfl, by first | exact k1.alloc k1.size _ | exact Below.drewN (k1.alloc k1.size _) _⟩
      by_cases hf : X < F k
      case neg =>
        have e1 : Hid (nx F C (base + 1) (k + 1) = some (F k + C k)) := nx_move hX.out ⟨hc, he⟩ hf
        by_cases hd : 0 < AC k
        case neg =>
          have e2 : Hid (nx AF AC (base + 1) (k + 1) = some Y) := nx_skip hY.out (by omega)
          go_wp2_with (first
            | (go_at_call 36; refine (end_any _ (F k) (C k) _ (by simp [go_sem]) (by simp [go_sem]) p0 (by omega) (by omega)).mono ?_; rintro e w2 ⟨rfl, m1, rfl⟩)
            | (go_at_call 37; refine (ackEnd_any _ (AF k) (AC k) _ (by simp [go_sem]) (by simp [go_sem]) q0 (by omega) (by omega)).mono ?_; rintro e w2 ⟨rfl, m2, rfl⟩))
          go_roundw
          case rel => exact ⟨k + 1, (F k + C k), Y, by omega, by go_num, rfl, rfl, e1, e2, by omega, by omega, by omega, by omega, by first | exact k1.alloc k1.size _ | exact Below.drewN (k1.alloc k1.size _) _⟩
          case measure => simp [intOf]; omega
        replace q2 := q2 hd
        by_cases hg : Y < AF k + AC k
        case neg =>
          have e2 : Hid (nx AF AC (base + 1) (k + 1) = some Y) := nx_skip hY.out (by omega)
          go_wp2_with (first
            | (go_at_call 36; refine (end_any _ (F k) (C k) _ (by simp [go_sem]) (by simp [go_sem]) p0 (by omega) (by omega)).mono ?_; rintro e w2 ⟨rfl, m1, rfl⟩)
            | (go_at_call 37; refine (ackEnd_any _ (AF k) (AC k) _ (by simp [go_sem]) (by simp [go_sem]) q0 (by omega) (by omega)).mono ?_; rintro e w2 ⟨rfl, m2, rfl⟩))
          go_roundw
          case rel => exact ⟨k + 1, (F k + C k), Y, by omega, by go_num, rfl, rfl, e1, e2, by omega, by omega, by omega, by omega, by first | exact k1.alloc k1.size _ | exact Below.drewN (k1.alloc k1.size _) _⟩
          case measure => simp [intOf]; omega
        by_cases hh : Y < AF k
        case neg =>
          have e2 : Hid (nx AF AC (base + 1) (k + 1) = some (AF k + AC k)) := nx_move hY.out ⟨hd, hg⟩ hh
          go_wp2_with (first
            | (go_at_call 36; refine (end_any _ (F k) (C k) _ (by simp [go_sem]) (by simp [go_sem]) p0 (by omega) (by omega)).mono ?_; rintro e w2 ⟨rfl, m1, rfl⟩)
            | (go_at_call 37; refine (ackEnd_any _ (AF k) (AC k) _ (by simp [go_sem]) (by simp [go_sem]) q0 (by omega) (by omega)).mono ?_; rintro e w2 ⟨rfl, m2, rfl⟩))
          go_roundw
          case rel => exact ⟨k + 1, (F k + C k), (AF k + AC k), by omega, by go_num, rfl, rfl, e1, e2, by omega, by omega, by omega, by omega, by first | exact k1.alloc k1.size _ | exact Below.drewN (k1.alloc k1.size _) _⟩
          case measure => simp [intOf]; omega
        have e2 : Hid (covers F C AF AC (base + 1) (last + 1) (base + acked + 1) n = false) := covers_fail2 hlt (nx_fail hY.out ⟨hd, hg⟩ hh)
        go_wp2_with (first
          | (go_at_call 36; refine (end_any _ (F k) (C k) _ (by simp [go_sem]) (by simp [go_sem]) p0 (by omega) (by omega)).mono ?_; rintro e w2 ⟨rfl, m1, rfl⟩)
          | (go_at_call 37; refine (ackEnd_any _ (AF k) (AC k) _ (by simp [go_sem]) (by simp [go_sem]) q0 (by omega) (by omega)).mono ?_; rintro e w2 ⟨rfl, m2, rfl⟩))
        go_ret
        exact ⟨by rw [e2.out]; rfl, by first | exact k1.alloc k1.size _ | exact Below.drewN (k1.alloc k1.size _) _⟩
      have e1 : Hid (covers F C AF AC (base + 1) (last + 1) (base + acked + 1) n = false) := covers_fail1 hlt (nx_fail hX.out ⟨hc, he⟩ hf)
      go_wp2_with (first
        | (go_at_call 36; refine (end_any _ (F k) (C k) _ (by simp [go_sem]) (by simp [go_sem]) p0 (by omega) (by omega)).mono ?_; rintro e w2 ⟨rfl, m1, rfl⟩)
        | (go_at_call 37; refine (ackEnd_any _ (AF k) (AC k) _ (by simp [go_sem]) (by simp [go_sem]) q0 (by omega) (by omega)).mono ?_; rintro e w2 ⟨rfl, m2, rfl⟩))
      go_ret
      exact ⟨by rw [e1.out]; rfl, by first | exact k1.alloc k1.size _ | exact Below.drewN (k1.alloc k1.size _) _⟩
    · obtain rfl : n = k := by omega
      have d5 := (k1.cell (lt_of_cell c5)).trans c5
      have d6 := (k1.cell (lt_of_cell c6)).trans c6
      have d7 := (k1.cell (lt_of_cell c7)).trans c7
      have e1 : Hid (covers F C AF AC (base + 1) (last + 1) (base + acked + 1) n = (X == last + 1 && Y == base + acked + 1)) := by
        show covers F C AF AC (base + 1) (last + 1) (base + acked + 1) n = _
        unfold covers; rw [hX.out, hY.out]
      clear sp c5 c6 c7
      cases hq : (X == last + 1) with
      | false =>
        have e2 : Hid (covers F C AF AC (base + 1) (last + 1) (base + acked + 1) n = false) := by
          show covers F C AF AC (base + 1) (last + 1) (base + acked + 1) n = false
          rw [e1.out, hq, Bool.false_and]
        go_wp2_with fail
        go_ret
        exact ⟨by rw [e2.out]; rfl, k1⟩
      | true =>
        have e2 : Hid (covers F C AF AC (base + 1) (last + 1) (base + acked + 1) n = (Y == base + acked + 1)) := by
          show covers F C AF AC (base + 1) (last + 1) (base + acked + 1) n = _
          rw [e1.out, hq, Bool.true_and]
        go_wp2_with fail
        refine (head_any b base acked _ d5 d7 b0 a0 a1).mono ?_
        rintro e w2 ⟨rfl, m, rfl⟩
        go_wp2_with fail
        go_ret
        exact ⟨by rw [e2.out]; rfl, Below.drewN k1 _⟩

theorem cover_any (w : World) (B b : Nat) (v : Value) (n : Nat) (base last acked : Int) (F C AF AC : Nat → Int) (h : Cq w B b v base last acked F C AF AC n) (hn : n ≤ 1024)
    (b0 : 0 ≤ base) (b1 : base + 1 < 18446744073709551616) (l0 : 0 ≤ last) (l1 : last + 1 < 18446744073709551616) (a0 : 0 ≤ acked) (a1 : base + acked + 1 < 18446744073709551616)
    (HB : Hid (∀ k, k < n → 0 ≤ F k ∧ F k < 18446744073709551616 ∧ (0 < C k → F k + C k < 18446744073709551616)))
    (HA : Hid (∀ k, k < n → 0 ≤ AF k ∧ AF k < 18446744073709551616 ∧ (0 < AC k → AF k + AC k < 18446744073709551616))) :
    Calls Try.prog 26 #[.pointer (some ⟨b, 0, none⟩)] w fun e w' => e = .returned (.bool (covers F C AF AC (base + 1) (last + 1) (base + acked + 1) n)) ∧ Below w.heap.size w w' := by
  obtain ⟨a, cap, rfl, hr⟩ := rows_of h.own
  go_enter Try.func26, Try.ntmps26
  go_wp2_with fail
  refine (cover32 w b cap n a base last acked F C AF AC h.sp h.c5 h.c6 h.c7 hr hn b0 b1 l0 l1 a0 a1 HB HA).mono ?_
  rintro e w' ⟨rfl, k⟩
  go_wp2_with fail
  go_ret
  exact ⟨rfl, k⟩
end Go.Proofs.Qxb6614239a.Cover
