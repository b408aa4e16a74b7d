import Derived.Test.Qxb6614088aConv
namespace Go.Proofs.Qxb6614088a.Timeout
open Go.RowKit Go.Proofs.Qxb6614088a.Sess Go.Proofs.Qxb6614088a.Conv

/-! ### The plain functions -/
/-- Was some step below k zero? -/
def anyZ (z : Nat → Int) : Nat → Bool
  | 0 => false
  | k + 1 => anyZ z k || z k == 0
/-- The timeout behind k steps. -/
def tOf (T : Int) (z : Nat → Int) : Nat → Int
  | 0 => T
  | k + 1 => z k
/-- The deadline behind k steps. -/
def rOf (R : Int) (z : Nat → Int) (k : Nat) : Int := if anyZ z k then 0 else R

theorem anyZ_yes (z : Nat → Int) (k : Nat) (h : z k = 0) : anyZ z (k + 1) = true := by simp [anyZ, h]
theorem anyZ_no (z : Nat → Int) (k : Nat) (h : (z k == 0) = false) : anyZ z (k + 1) = anyZ z k := by simp [anyZ, h]
theorem rOf_yes (R : Int) (z : Nat → Int) (k : Nat) (h : z k = 0) : rOf R z (k + 1) = 0 := by simp [rOf, anyZ_yes z k h]
theorem rOf_no (R : Int) (z : Nat → Int) (k : Nat) (h : (z k == 0) = false) : rOf R z (k + 1) = rOf R z k := by simp [rOf, anyZ_no z k h]

/-! ### The walks -/
theorem bytes_yes (t r : Int) (a : Option Addr) (len cap : Nat) (w : World) (h : len ≤ 1048576) :
    Calls Try.prog 12 #[.int .i64 t, .int .i64 r, .slice a len cap] w fun e w' => e = .returned (.bool true) ∧ w' = w := by
  go_enter Try.func12, Try.ntmps12
  go_wp2
  go_ret
  exact ⟨rfl, rfl⟩
theorem bytes_no (t r : Int) (a : Option Addr) (len cap : Nat) (w : World) (h : 1048576 < len) :
    Calls Try.prog 12 #[.int .i64 t, .int .i64 r, .slice a len cap] w fun e w' => e = .returned (.bool false) ∧ w' = w := by
  go_enter Try.func12, Try.ntmps12
  go_wp2
  go_ret
  exact ⟨rfl, rfl⟩

theorem lt_of_cell {w : World} {x : Addr} {v : Value} (h : w.cell? x = some v) : x.block < w.heap.size := by
  unfold World.cell? at h
  rcases Nat.lt_or_ge x.block w.heap.size with h' | h'
  · exact h'
  · simp [Array.getElem?_eq_none h'] at h

/-- The conversation's state, read. -/
theorem state_at (w : World) (b sb : Nat) (T r : Int) (h : Cv w b sb T (r % 1000000000) (r / 1000000000)) (h1 : -9223372036854775808 ≤ r) (h2 : r ≤ 9223372036854775807) :
    Calls Try.prog 15 #[.pointer (some ⟨b, 0, none⟩)] w fun e w' => e = .returned (.tuple #[.int .i64 T, .int .i64 r]) ∧ Below w.heap.size w w' :=
  state_any w b sb T _ _ r h h1 h2 (by omega) (by omega) (by omega) (by omega) (show _ from (by show r = _; omega))

set_option maxRecDepth 100000 in
set_option maxHeartbeats 1600000 in
theorem walk (T R : Int) (a : Option Addr) (len cap : Nat) (z : Nat → Int) (w : World) (R1 : -9223372036854775808 ≤ R) (R2 : R ≤ 9223372036854775807)
    (hB : ∀ k, k < len → ∃ x, a = some x ∧ w.cell? (x.add k) = some (.int .i64 (z k))) :
    Calls Try.prog 5 #[.int .i64 T, .int .i64 R, .slice a len cap] w fun e w' => e = .returned (.bool true) ∧ Below w.heap.size w w' := by
  have HB : Hid (∀ k, k < len → ∃ x, a = some x ∧ w.cell? (x.add k) = some (.int .i64 (z k))) := hB
  clear hB
  by_cases h1 : 1048576 < len
  · go_enter Try.func5, Try.ntmps5
    go_wp2_with fail
    refine (bytes_no T R a len cap w h1).mono ?_
    rintro e w ⟨rfl, rfl⟩
    go_wp2_with fail
    go_ret
    exact ⟨rfl, Below.refl _ _⟩
  have h1' : len ≤ 1048576 := by omega
  clear h1
  by_cases h2 : 65536 < len
  · go_enter Try.func5, Try.ntmps5
    go_wp2_with fail
    refine (bytes_yes T R a len cap w h1').mono ?_
    rintro e w ⟨rfl, rfl⟩
    go_wp2_with fail
    go_ret
    exact ⟨rfl, Below.refl _ _⟩
  have h2' : len ≤ 65536 := by omega
  clear h2
  go_enter Try.func5, Try.ntmps5
  go_wp2_with fail
  refine (bytes_yes T R a len cap w h1').mono ?_
  rintro e w ⟨rfl, rfl⟩
  clear h1'
  go_wp2_with fail
  refine (new_any T R _ R1 R2).mono ?_
  rintro e w1 ⟨b, sb, rfl, g1, k1, hb, hc⟩
  go_wp2_with fail
  go_loopw [8] (fun i wr => ∃ k : Nat, k ≤ len ∧ i = .int .i64 k ∧ Cv wr b sb (tOf T z k) (rOf R z k % 1000000000) (rOf R z k / 1000000000) ∧ Below w.heap.size w wr) (fun i _ => len - (intOf i).toNat)
  case atStart => exact ⟨0, Nat.zero_le _, rfl, by simpa [tOf, rOf, anyZ] using g1, k1⟩
  case round =>
    clear g1 k1
    obtain ⟨k, hk, rfl, g1, k1⟩ := hrel
    by_cases hlt : k < len
    · obtain ⟨x, rfl, hx⟩ := HB.out k hlt
      have hx' : wr.cell? (x.add k) = some (.int .i64 (z k)) := (k1.cell (lt_of_cell hx)).trans hx
      clear hx
      by_cases hz : z k = 0
      · have e1 : Hid (rOf R z (k + 1) = 0) := rOf_yes _ _ _ hz
        have e2 : Hid (tOf T z (k + 1) = 0) := hz
        rw [hz] at hx'
        clear hz
        go_wp2_with fail
        refine (setRT_zero wr b sb _ _ _ g1).mono ?_
        rintro e wr2 ⟨rfl, g2, k2⟩
        clear g1
        replace k1 := k1.trans (k2.below hb hc)
        clear k2
        go_wp2_with fail
        go_roundw
        case rel => exact ⟨k + 1, by omega, by go_num, by rw [e1.out, e2.out]; exact g2, k1⟩
        case measure => simp [intOf]; omega
      · have hz' : (z k == 0) = false := by simpa using hz
        have e1 : Hid (rOf R z (k + 1) = rOf R z k) := rOf_no _ _ _ hz'
        clear hz
        go_wp2_with fail
        refine (setRT_other wr b sb _ _ _ _ g1 hz').mono ?_
        rintro e wr2 ⟨rfl, g2, k2⟩
        clear g1
        replace k1 := k1.trans (k2.below hb hc)
        clear k2
        go_wp2_with fail
        go_roundw
        case rel => exact ⟨k + 1, by omega, by go_num, by rw [e1.out]; exact g2, k1⟩
        case measure => simp [intOf]; omega
    · have hke : k = len := by omega
      subst hke
      clear hlt hk
      by_cases hk0 : k = 0
      · subst hk0
        go_wp2_with fail
        go_loopw [10, 11] (fun az i wv => wv = wr ∧ az = .bool false ∧ i = .int .i64 0) (fun _ _ _ => 0)
        case atStart => exact ⟨rfl, rfl, rfl⟩
        case round =>
          obtain ⟨rfl, rfl, rfl⟩ := hrel
          have g2 : Cv wr b sb T (R % 1000000000) (R / 1000000000) := g1
          clear g1
          go_wp2_with fail
          refine (state_at wr b sb T R g2 R1 R2).mono ?_
          rintro e w3 ⟨rfl, k3⟩
          go_wp2
          go_ret
          exact ⟨rfl, k1.trans (k3.mono k1.size)⟩
      · have hpos : 0 < k := by omega
        clear hk0
        obtain ⟨x, rfl, hx⟩ := HB.out (k - 1) (by omega)
        have hx' : wr.cell? (x.add (k - 1)) = some (.int .i64 (z (k - 1))) := (k1.cell (lt_of_cell hx)).trans hx
        have g2 : Cv wr b sb (z (k - 1)) (rOf R z k % 1000000000) (rOf R z k / 1000000000) := by
          obtain ⟨m, rfl⟩ : ∃ m, k = m + 1 := ⟨k - 1, by omega⟩
          exact g1
        replace g1 := g2
        clear hx g2
        go_wp2_with fail
        clear hx'
        go_loopw [10, 11] (fun az i wv => wv = wr ∧ ∃ j : Nat, j ≤ k ∧ i = .int .i64 j ∧ az = .bool (anyZ z j)) (fun _ i _ => k - (intOf i).toNat)
        case atStart => exact ⟨rfl, 0, Nat.zero_le _, rfl, rfl⟩
        case round =>
          obtain ⟨rfl, j, hj, rfl, rfl⟩ := hrel
          by_cases hlt : j < k
          · obtain ⟨x', ex, hx⟩ := HB.out j hlt
            obtain rfl : x = x' := by simpa using ex
            have hx' : wr.cell? (x.add j) = some (.int .i64 (z j)) := (k1.cell (lt_of_cell hx)).trans hx
            clear hx ex
            by_cases hz : z j = 0
            · have e1 : Hid (anyZ z (j + 1) = true) := anyZ_yes _ _ hz
              rw [hz] at hx'
              clear hz
              go_wp2
              go_roundw
              case rel => exact ⟨trivial, j + 1, by omega, by go_num, by rw [e1.out]⟩
              case measure => simp [intOf]; omega
            · have hz' : (z j == 0) = false := by simpa using hz
              have e1 : Hid (anyZ z (j + 1) = anyZ z j) := anyZ_no _ _ hz'
              clear hz
              go_wp2
              go_roundw
              case rel => exact ⟨trivial, j + 1, by omega, by go_num, by rw [e1.out]⟩
              case measure => simp [intOf]; omega
          · have hjk : j = k := by omega
            subst hjk
            clear HB hlt hj
            cases hA : anyZ z j with
            | true =>
              have g2 : Cv wr b sb (z (j - 1)) (0 % 1000000000) (0 / 1000000000) := by simpa [rOf, hA] using g1
              clear g1 hA
              go_wp2_with fail
              refine (state_at wr b sb (z (j - 1)) 0 g2 (by omega) (by omega)).mono ?_
              rintro e w3 ⟨rfl, k3⟩
              go_wp2
              go_ret
              exact ⟨rfl, k1.trans (k3.mono k1.size)⟩
            | false =>
              have g2 : Cv wr b sb (z (j - 1)) (R % 1000000000) (R / 1000000000) := by simpa [rOf, hA] using g1
              clear g1 hA
              go_wp2_with fail
              refine (state_at wr b sb (z (j - 1)) R g2 R1 R2).mono ?_
              rintro e w3 ⟨rfl, k3⟩
              go_wp2
              go_ret
              exact ⟨rfl, k1.trans (k3.mono k1.size)⟩
end Go.Proofs.Qxb6614088a.Timeout
