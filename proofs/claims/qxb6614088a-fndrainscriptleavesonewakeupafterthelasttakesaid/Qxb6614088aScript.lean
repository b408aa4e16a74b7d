import Derived.Test.Qxb6614088aDrainTwice
namespace Go.Proofs.Qxb6614088a.Script
open Go.Conc Go.RowKit Go.Proofs.Qxb6614088a.Sess Go.Proofs.Qxb6614088a.DrainTwice

/-! ### The plain law -/
/-- The last index below k at which B is v; -1 where there is none. -/
def last (B : Nat → Bool) (v : Bool) : Nat → Int
  | 0 => -1
  | k + 1 => if B k = v then (k : Int) else last B v k

theorem last_bd (B : Nat → Bool) (v : Bool) (k : Nat) : -1 ≤ last B v k ∧ last B v k < k := by
  induction k with
  | zero => simp [last]
  | succ k ih => unfold last; split <;> omega

theorem last_yes (B : Nat → Bool) (v : Bool) (k : Nat) (h : B k = v) : last B v (k + 1) = k := by simp [last, h]
theorem last_no (B : Nat → Bool) (v : Bool) (k : Nat) (h : B k ≠ v) : last B v (k + 1) = last B v k := by simp [last, h]

/-- Is it draining? -/
def dOf (d : Bool) (L : Int) : Bool := d || decide (0 ≤ L)
/-- Is a wake-up pending? -/
def qOf (p : Bool) (L T : Int) : Bool := decide (T < L) || (!decide (0 ≤ T) && !decide (0 ≤ L) && p)
theorem dOf_at (d : Bool) (k : Nat) : dOf d k = true := by simp [dOf]
theorem qOf_drain (p : Bool) (k : Nat) (T : Int) (h : T < k) : qOf p k T = true := by simp [qOf, h]
theorem qOf_take (p : Bool) (k : Nat) (L : Int) (h : L < k) : qOf p L k = false := by
  have h1 : ¬ (k : Int) < L := by omega
  simp [qOf, h1]

/-! ### The walks -/
theorem bytes_yes (d p : Bool) (a : Option Addr) (len cap : Nat) (w : World) (h : len ≤ 1048576) :
    Calls Try.prog 10 #[.bool d, .bool p, .slice a len cap] w fun e w' => e = .returned (.bool true) ∧ w' = w := by
  go_enter Try.func10, Try.ntmps10
  go_wp2
  go_ret
  exact ⟨rfl, rfl⟩
theorem bytes_no (d p : Bool) (a : Option Addr) (len cap : Nat) (w : World) (h : 1048576 < len) :
    Calls Try.prog 10 #[.bool d, .bool p, .slice a len cap] w fun e w' => e = .returned (.bool false) ∧ w' = w := by
  go_enter Try.func10, Try.ntmps10
  go_wp2
  go_ret
  exact ⟨rfl, rfl⟩

theorem lt_of_cell {w : World} {x : Addr} {v : Value} (h : w.cell? x = some v) : x.block < w.heap.size := by
  unfold World.cell? at h
  rcases Nat.lt_or_ge x.block w.heap.size with h' | h'
  · exact h'
  · simp [Array.getElem?_eq_none h'] at h

set_option maxHeartbeats 1600000 in
theorem walk (d p : Bool) (a : Option Addr) (len cap : Nat) (B : Nat → Bool) (w : World)
    (hB : ∀ k, k < len → ∃ x, a = some x ∧ w.cell? (x.add k) = some (.bool (B k))) :
    Calls Try.prog 4 #[.bool d, .bool p, .slice a len cap] w fun e w' => e = .returned (.bool true) ∧ Below w.heap.size w w' := by
  have HB : Hid (∀ k, k < len → ∃ x, a = some x ∧ w.cell? (x.add k) = some (.bool (B k))) := hB
  clear hB
  by_cases h1 : 1048576 < len
  · go_enter Try.func4, Try.ntmps4
    go_wp2_with fail
    refine (bytes_no d p a len cap w h1).mono ?_
    rintro e w ⟨rfl, rfl⟩
    go_wp2_with fail
    go_ret
    exact ⟨rfl, Below.refl _ _⟩
  have h1' : len ≤ 1048576 := by omega
  clear h1
  by_cases h2 : 65536 < len
  · go_enter Try.func4, Try.ntmps4
    go_wp2_with fail
    refine (bytes_yes d p a len cap w h1').mono ?_
    rintro e w ⟨rfl, rfl⟩
    go_wp2_with fail
    go_ret
    exact ⟨rfl, Below.refl _ _⟩
  have h2' : len ≤ 65536 := by omega
  clear h2
  go_enter Try.func4, Try.ntmps4
  go_wp2_with fail
  refine (bytes_yes d p a len cap w h1').mono ?_
  rintro e w ⟨rfl, rfl⟩
  clear h1'
  go_wp2_with fail
  refine (new_ex _ d false false).mono ?_
  rintro e w1 ⟨b, c, rfl, g1, k1, hb, hc, hb', hc'⟩
  clear hb' hc'
  cases p with
  | false =>
    go_wp2_with fail
    go_loopw [8, 9, 10] (fun ld lt i wr => ∃ k : Nat, k ≤ len ∧ i = .int .i64 k ∧ ld = .int .i64 (last B true k) ∧ lt = .int .i64 (last B false k) ∧
      At wr b c (dOf d (last B true k)) false false (qOf false (last B true k) (last B false k)) ∧ Below w.heap.size w wr) (fun _ _ i _ => len - (intOf i).toNat)
    case atStart => exact ⟨0, Nat.zero_le _, rfl, rfl, rfl, by simpa [dOf, qOf, last] using g1, k1⟩
    case round =>
      clear g1 k1
      obtain ⟨k, hk, rfl, rfl, rfl, g1, k1⟩ := hrel
      have hL := last_bd B true k
      have hT := last_bd B false k
      by_cases hlt : k < len
      · obtain ⟨x, rfl, hx⟩ := HB.out k hlt
        have hx' : wr.cell? (x.add k) = some (.bool (B k)) := (k1.cell (lt_of_cell hx)).trans hx
        clear hx
        cases hBk : B k with
        | true =>
          rw [hBk] at hx'
          have e1 : Hid (last B true (k + 1) = k) := last_yes _ _ _ hBk
          have e2 : Hid (last B false (k + 1) = last B false k) := last_no _ _ _ (by simp [hBk])
          clear hBk
          go_wp2_with fail
          refine (drain_any wr b c _ _ _ _ g1).mono ?_
          rintro e wr2 ⟨rfl, g2, k2⟩
          clear g1
          replace k1 := k1.trans (k2.below hb hc)
          clear k2
          go_wp2_with fail
          go_roundw
          case rel => exact ⟨k + 1, by omega, by go_num, by rw [e1.out], by rw [e2.out], by rw [e1.out, e2.out, dOf_at, qOf_drain _ _ _ hT.2]; exact g2, k1⟩
          case measure => simp [intOf]; omega
        | false =>
          rw [hBk] at hx'
          have e1 : Hid (last B true (k + 1) = last B true k) := last_no _ _ _ (by simp [hBk])
          have e2 : Hid (last B false (k + 1) = k) := last_yes _ _ _ hBk
          clear hBk
          go_wp2_with fail
          refine (take_any wr b c _ _ _ _ g1).mono ?_
          rintro e wr2 ⟨rfl, g2, k2⟩
          clear g1
          replace k1 := k1.trans (k2.below hb hc)
          clear k2
          go_wp2_with fail
          go_roundw
          case rel => exact ⟨k + 1, by omega, by go_num, by rw [e1.out], by rw [e2.out], by rw [e1.out, e2.out, qOf_take _ _ _ hL.2]; exact g2, k1⟩
          case measure => simp [intOf]; omega
      · have hke : k = len := by omega
        subst hke
        generalize last B true k = L at *
        generalize last B false k = T at *
        clear HB
        cases d <;> by_cases l0 : 0 ≤ L <;> by_cases tl : T < L <;> by_cases t0 : 0 ≤ T
        all_goals try (exfalso; omega)
        all_goals
          simp [dOf, qOf, l0, tl, t0] at g1
          go_wp2_with fail
          refine (state_any wr b c _ _ _ _ g1).mono ?_
          rintro e wq ⟨rfl, n, rfl⟩
          simp only [numOf]
          go_wp2
          go_ret
          exact ⟨rfl, Below.drewN k1 n⟩
  | true =>
    go_wp2_with fail
    refine (sigq_any w1 b c d false false false g1).mono ?_
    rintro e w1 ⟨rfl, g1, k⟩
    replace k1 := k1.trans (k.below hb hc)
    clear k
    go_wp2_with fail
    go_loopw [8, 9, 10] (fun ld lt i wr => ∃ k : Nat, k ≤ len ∧ i = .int .i64 k ∧ ld = .int .i64 (last B true k) ∧ lt = .int .i64 (last B false k) ∧
      At wr b c (dOf d (last B true k)) false false (qOf true (last B true k) (last B false k)) ∧ Below w.heap.size w wr) (fun _ _ i _ => len - (intOf i).toNat)
    case atStart => exact ⟨0, Nat.zero_le _, rfl, rfl, rfl, by simpa [dOf, qOf, last] using g1, k1⟩
    case round =>
      clear g1 k1
      obtain ⟨k, hk, rfl, rfl, rfl, g1, k1⟩ := hrel
      have hL := last_bd B true k
      have hT := last_bd B false k
      by_cases hlt : k < len
      · obtain ⟨x, rfl, hx⟩ := HB.out k hlt
        have hx' : wr.cell? (x.add k) = some (.bool (B k)) := (k1.cell (lt_of_cell hx)).trans hx
        clear hx
        cases hBk : B k with
        | true =>
          rw [hBk] at hx'
          have e1 : Hid (last B true (k + 1) = k) := last_yes _ _ _ hBk
          have e2 : Hid (last B false (k + 1) = last B false k) := last_no _ _ _ (by simp [hBk])
          clear hBk
          go_wp2_with fail
          refine (drain_any wr b c _ _ _ _ g1).mono ?_
          rintro e wr2 ⟨rfl, g2, k2⟩
          clear g1
          replace k1 := k1.trans (k2.below hb hc)
          clear k2
          go_wp2_with fail
          go_roundw
          case rel => exact ⟨k + 1, by omega, by go_num, by rw [e1.out], by rw [e2.out], by rw [e1.out, e2.out, dOf_at, qOf_drain _ _ _ hT.2]; exact g2, k1⟩
          case measure => simp [intOf]; omega
        | false =>
          rw [hBk] at hx'
          have e1 : Hid (last B true (k + 1) = last B true k) := last_no _ _ _ (by simp [hBk])
          have e2 : Hid (last B false (k + 1) = k) := last_yes _ _ _ hBk
          clear hBk
          go_wp2_with fail
          refine (take_any wr b c _ _ _ _ g1).mono ?_
          rintro e wr2 ⟨rfl, g2, k2⟩
          clear g1
          replace k1 := k1.trans (k2.below hb hc)
          clear k2
          go_wp2_with fail
          go_roundw
          case rel => exact ⟨k + 1, by omega, by go_num, by rw [e1.out], by rw [e2.out], by rw [e1.out, e2.out, qOf_take _ _ _ hL.2]; exact g2, k1⟩
          case measure => simp [intOf]; omega
      · have hke : k = len := by omega
        subst hke
        generalize last B true k = L at *
        generalize last B false k = T at *
        clear HB
        cases d <;> by_cases l0 : 0 ≤ L <;> by_cases tl : T < L <;> by_cases t0 : 0 ≤ T
        all_goals try (exfalso; omega)
        all_goals
          simp [dOf, qOf, l0, tl, t0] at g1
          go_wp2_with fail
          refine (state_any wr b c _ _ _ _ g1).mono ?_
          rintro e wq ⟨rfl, n, rfl⟩
          simp only [numOf]
          go_wp2
          go_ret
          exact ⟨rfl, Below.drewN k1 n⟩
end Go.Proofs.Qxb6614088a.Script
