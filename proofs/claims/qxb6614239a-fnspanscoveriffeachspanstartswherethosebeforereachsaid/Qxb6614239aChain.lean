import Derived.Test.Qxb6614239aCoverLeaf
namespace Go.Proofs.Qxb6614239a.Cover
open Go.RowKit

/-- What the walk is told of the slice of spans that came in. -/
def Spans (w : World) (F C AF AC : Nat → Int) (a : Option Addr) (len : Nat) : Prop :=
  ∀ k, k < len → ∃ yb yo, a = some ⟨yb, yo, none⟩ ∧ w.cell? ⟨yb, yo + k * 4, none⟩ = some (.int .u64 (F k)) ∧ w.cell? ⟨yb, yo + k * 4 + 1, none⟩ = some (.int .i64 (C k)) ∧
    w.cell? ⟨yb, yo + k * 4 + 2, none⟩ = some (.int .u64 (AF k)) ∧ w.cell? ⟨yb, yo + k * 4 + 3, none⟩ = some (.int .i64 (AC k))

theorem lt_of_cell {w : World} {x : Addr} {v : Value} (h : w.cell? x = some v) : x.block < w.heap.size := by
  unfold World.cell? at h
  rcases Nat.lt_or_ge x.block w.heap.size with h' | h'
  · exact h'
  · simp [Array.getElem?_eq_none h'] at h

theorem Spans.below {w w' : World} {F C AF AC : Nat → Int} {a : Option Addr} {len : Nat} (h : Spans w F C AF AC a len) (k : Below w.heap.size w w') : Spans w' F C AF AC a len := by
  intro i hi
  obtain ⟨yb, yo, hy, c0, c1, c2, c3⟩ := h i hi
  exact ⟨yb, yo, hy, (k.cell (lt_of_cell c0)).trans c0, (k.cell (lt_of_cell c1)).trans c1, (k.cell (lt_of_cell c2)).trans c2, (k.cell (lt_of_cell c3)).trans c3⟩

theorem ok_skip {f c : Nat → Int} {s : Int} {k : Nat} (h : ok f c s k = true) (hc : c k ≤ 0) : ok f c s (k + 1) = true := by simp [ok, h, hc]
theorem ok_low {f c : Nat → Int} {s : Int} {k : Nat} (h : ok f c s k = true) (hc : f k ≤ s) : ok f c s (k + 1) = true := by simp [ok, h, hc]
theorem ok_touch {f c : Nat → Int} {s : Int} {k : Nat} (h : ok f c s k = true) (hc : holds f c (f k - 1) k = true) : ok f c s (k + 1) = true := by simp [ok, h, hc]
theorem chain_fail {f c : Nat → Int} {s l : Int} {k n : Nat} (hk : k < n) (h1 : 0 < c k) (h2 : s < f k) (h3 : holds f c (f k - 1) k = false) : chain f c s l n = false := by
  have h4 : ok f c s (k + 1) = false := by
    have g1 : ¬ c k ≤ 0 := by omega
    have g2 : ¬ f k ≤ s := by omega
    simp [ok, h3, g1, g2]
  unfold chain
  cases ho : ok f c s n with
  | false => rfl
  | true =>
    have := ok_mono (show k + 1 ≤ n by omega) ho
    rw [h4] at this; cases this
theorem top_keep {f c : Nat → Int} {s : Int} {k : Nat} (h : ¬ (0 < c k ∧ top f c s k < f k + c k)) : top f c s (k + 1) = top f c s k := by
  show (if _ then _ else _) = _
  rw [if_neg h]
theorem top_move {f c : Nat → Int} {s : Int} {k : Nat} (h : 0 < c k ∧ top f c s k < f k + c k) : top f c s (k + 1) = f k + c k := by
  show (if _ then _ else _) = _
  rw [if_pos h]
theorem holds_yes {f c : Nat → Int} {x : Int} {k : Nat} (h : 0 < c k ∧ f k ≤ x ∧ x < f k + c k) : holds f c x (k + 1) = true := by simp [holds, h]
theorem holds_no {f c : Nat → Int} {x : Int} {k : Nat} (h : ¬ (0 < c k ∧ f k ≤ x ∧ x < f k + c k)) : holds f c x (k + 1) = holds f c x k := by
  show (holds f c x k || decide _) = _
  rw [decide_eq_false h, Bool.or_false]

set_option maxRecDepth 100000 in
set_option maxHeartbeats 1600000 in
theorem chain_any (F C AF AC f c : Nat → Int) (a : Option Addr) (len cap : Nat) (acks : Bool) (s l : Int) (w : World) (HS : Spans w F C AF AC a len) (hl : len ≤ 1024) (hs : 0 ≤ s) (hs' : s < 18446744073709551616)
    (HP : Hid (∀ k w, Calls Try.prog 33 #[.agg #[.int .u64 (F k), .int .i64 (C k), .int .u64 (AF k), .int .i64 (AC k)], .bool acks] w fun e w' => e = .returned (.tuple #[.int .u64 (f k), .int .i64 (c k)]) ∧ Below w.heap.size w w'))
    (HB : Hid (∀ k, k < len → 0 ≤ f k ∧ f k < 18446744073709551616 ∧ (0 < c k → f k + c k < 18446744073709551616))) :
    Calls Try.prog 27 #[.slice a len cap, .bool acks, .int .u64 s, .int .u64 l] w fun e w' => e = .returned (.bool (chain f c s l len)) ∧ Below w.heap.size w w' := by
  go_enter Try.func27, Try.ntmps27
  go_wp2_with fail
  go_loopw [9, 10] (fun t i wr => ∃ k : Nat, k ≤ len ∧ i = .int .i64 k ∧ t = .int .u64 (top f c s k) ∧ Hid (ok f c s k = true) ∧ Below w.heap.size w wr) (fun _ i _ => len - (intOf i).toNat)
  case atStart => exact ⟨0, Nat.zero_le _, rfl, rfl, rfl, Below.refl _ _⟩
  case round =>
    obtain ⟨k, hk, rfl, rfl, hok, k1⟩ := hrel
    have HS1 := HS.below k1
    by_cases hlt : k < len
    · obtain ⟨b1, b2, b3⟩ := HB.out k hlt
      have ht := top_ge (f := f) (c := c) (s := s) k
      obtain ⟨yb, yo, rfl, c0, c1, c2, c3⟩ := HS1 k hlt
      by_cases hc : 0 < c k
      case neg =>
        have e1 : Hid (top f c s (k + 1) = top f c s k) := top_keep (by omega)
        have e2 : Hid (ok f c s (k + 1) = true) := ok_skip hok.out (by omega)
        go_wp2_with fail
        refine (HP.out k _).mono ?_
        rintro e w2 ⟨rfl, k2⟩
        replace k1 := k1.trans (k2.mono k1.size)
        clear k2 c0 c1 c2 c3 HS1
        go_wp2_with fail
        go_roundw
        case rel => exact ⟨k + 1, by omega, by go_num, by rw [e1.out], e2, k1⟩
        case measure => simp [intOf]; omega
      replace b3 := b3 hc
      by_cases hf : s < f k
      case neg =>
        have e2 : Hid (ok f c s (k + 1) = true) := ok_low hok.out (by omega)
        by_cases he : top f c s k < f k + c k
        · have e1 : Hid (top f c s (k + 1) = f k + c k) := top_move ⟨hc, he⟩
          go_wp2_with fail
          refine (HP.out k _).mono ?_
          rintro e w2 ⟨rfl, k2⟩
          replace k1 := k1.trans (k2.mono k1.size)
          clear k2 c0 c1 c2 c3 HS1
          go_wp2_with fail
          go_roundw
          case rel => exact ⟨k + 1, by omega, by go_num, by rw [e1.out], e2, k1⟩
          case measure => simp [intOf]; omega
        · have e1 : Hid (top f c s (k + 1) = top f c s k) := top_keep (by omega)
          go_wp2_with fail
          refine (HP.out k _).mono ?_
          rintro e w2 ⟨rfl, k2⟩
          replace k1 := k1.trans (k2.mono k1.size)
          clear k2 c0 c1 c2 c3 HS1
          go_wp2_with fail
          go_roundw
          case rel => exact ⟨k + 1, by omega, by go_num, by rw [e1.out], e2, k1⟩
          case measure => simp [intOf]; omega
      by_cases he : top f c s k < f k + c k
      case' pos => have e1 : Hid (top f c s (k + 1) = f k + c k) := top_move ⟨hc, he⟩
      case' neg => have e1 : Hid (top f c s (k + 1) = top f c s k) := top_keep (by omega)
      all_goals
        go_wp2_with fail
        refine (HP.out k _).mono ?_
        rintro e w2 ⟨rfl, k2⟩
        replace k1 := k1.trans (k2.mono k1.size)
        clear k2 c0 c1 c2 c3 HS1
        go_wp2_with fail
        go_loopw [14, 15] (fun t i wv => ∃ j : Nat, j ≤ k ∧ i = .int .i64 j ∧ t = .bool (holds f c (f k - 1) j) ∧ Below w.heap.size w wv) (fun _ i _ => k - (intOf i).toNat)
        case atStart => exact ⟨0, Nat.zero_le _, rfl, rfl, k1⟩
        case round =>
          clear k1
          obtain ⟨j, hj, rfl, rfl, k1⟩ := hrel
          have HS1 := HS.below k1
          by_cases hlt2 : j < k
          · obtain ⟨p1, p2, p3⟩ := HB.out j (by omega)
            obtain ⟨yb2, yo2, ey, c0, c1, c2, c3⟩ := HS1 j (by omega)
            simp only [Option.some.injEq, Addr.mk.injEq, and_true] at ey
            obtain ⟨rfl, rfl⟩ := ey
            go_wp2_with fail
            refine (HP.out j _).mono ?_
            rintro e w3 ⟨rfl, k2⟩
            replace k1 := k1.trans (k2.mono k1.size)
            clear k2 c0 c1 c2 c3 HS1
            go_wp2_with fail
            all_goals
              go_roundw
              case rel => exact ⟨j + 1, by omega, by go_num, by first | rw [holds_yes (by omega)] | rw [holds_no (by omega)], k1⟩
              case measure => simp [intOf]; omega
          · obtain rfl : k = j := by omega
            clear HS1
            cases hA : holds f c (f k - 1) k with
            | true =>
              have e2 : Hid (ok f c s (k + 1) = true) := ok_touch hok.out hA
              clear hA
              go_wp2_with fail
              go_roundw
              case rel => exact ⟨k + 1, by omega, by go_num, by rw [e1.out], e2, k1⟩
              case measure => simp [intOf]; omega
            | false =>
              have e2 : Hid (chain f c s l len = false) := chain_fail hlt hc hf hA
              clear hA
              go_wp2_with fail
              go_ret
              exact ⟨by rw [e2.out]; rfl, k1⟩
    · obtain rfl : len = k := by omega
      have e2 : Hid (chain f c s l len = (top f c s len == l)) := by
        show (ok f c s len && _) = _
        rw [hok.out, Bool.true_and]
      go_wp2_with fail
      go_ret
      exact ⟨by rw [e2.out]; rfl, k1⟩
end Go.Proofs.Qxb6614239a.Cover
