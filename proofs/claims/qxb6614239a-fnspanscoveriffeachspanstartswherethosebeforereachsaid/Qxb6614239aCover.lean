import Derived.Test.Qxb6614239aSpans
import Derived.StillTailTactics
namespace Go.Proofs.Qxb6614239a.Cover
open Go.RowKit

theorem bytes_yes (x y z : Int) (a : Option Addr) (len cap : Nat) (w : World) (h : len ≤ 1048576) :
    Calls Try.prog 23 #[.int .u64 x, .int .u64 y, .int .i64 z, .slice a len cap] w fun e w' => e = .returned (.bool true) ∧ w' = w := by
  go_enter Try.func23, Try.ntmps23
  go_wp2
  go_ret
  exact ⟨rfl, rfl⟩
theorem bytes_no (x y z : Int) (a : Option Addr) (len cap : Nat) (w : World) (h : 1048576 < len) :
    Calls Try.prog 23 #[.int .u64 x, .int .u64 y, .int .i64 z, .slice a len cap] w fun e w' => e = .returned (.bool false) ∧ w' = w := by
  go_enter Try.func23, Try.ntmps23
  go_wp2
  go_ret
  exact ⟨rfl, rfl⟩
theorem Cq.drewN {w : World} {B b : Nat} {v : Value} {base last acked : Int} {F C AF AC : Nat → Int} {n : Nat} (h : Cq w B b v base last acked F C AF AC n) (m : Nat) : Cq (w.drewN m) B b v base last acked F C AF AC n :=
  ⟨h.hb, h.lt, h.sp, h.fz, h.c5, h.c6, h.c7, h.own⟩

theorem valid_step {F C AF AC : Nat → Int} {k : Nat} (h : ∀ j, j < k → (0 < C j → F j + C j < 18446744073709551616) ∧ (0 < AC j → AF j + AC j < 18446744073709551616)) (h1 : 0 < C k → F k + C k < 18446744073709551616) (h2 : 0 < AC k → AF k + AC k < 18446744073709551616) :
    ∀ j, j < k + 1 → (0 < C j → F j + C j < 18446744073709551616) ∧ (0 < AC j → AF j + AC j < 18446744073709551616) := by
  intro j hj
  by_cases e : j = k
  · subst e; exact ⟨h1, h2⟩
  · exact h j (by omega)

set_option maxRecDepth 100000 in
set_option maxHeartbeats 4000000 in
theorem walk (base last acked : Int) (F C AF AC : Nat → Int) (a : Option Addr) (len cap : Nat) (w : World) (HS : Spans w F C AF AC a len)
    (b0 : 0 ≤ base) (b1 : base < 18446744073709551616) (l0 : 0 ≤ last) (l1 : last < 18446744073709551616) (a0 : -9223372036854775808 ≤ acked) (a1 : acked ≤ 9223372036854775807)
    (HN : Hid (∀ k, k < len → 0 ≤ F k ∧ F k < 18446744073709551616 ∧ C k ≤ 9223372036854775807 ∧ 0 ≤ AF k ∧ AF k < 18446744073709551616 ∧ AC k ≤ 9223372036854775807)) :
    Calls Try.prog 6 #[.int .u64 base, .int .u64 last, .int .i64 acked, .slice a len cap] w fun e w' => e = .returned (.bool true) ∧ Below w.heap.size w w' := by
  by_cases h1 : 1048576 < len
  · go_enter Try.func6, Try.ntmps6
    go_wp2_with fail
    refine (bytes_no _ _ _ a len cap w h1).mono ?_
    rintro e w ⟨rfl, rfl⟩
    go_wp2_with fail
    go_ret
    exact ⟨rfl, Below.refl _ _⟩
  have h1' : len ≤ 1048576 := by omega
  clear h1
  by_cases h2 : 1024 < len
  · go_enter Try.func6, Try.ntmps6
    go_wp2_with fail
    refine (bytes_yes _ _ _ a len cap w h1').mono ?_
    rintro e w ⟨rfl, rfl⟩
    go_wp2_with fail
    go_ret
    exact ⟨rfl, Below.refl _ _⟩
  have h2' : len ≤ 1024 := by omega
  clear h2
  by_cases h3 : last < base
  · go_enter Try.func6, Try.ntmps6
    go_wp2_with fail
    refine (bytes_yes _ _ _ a len cap w h1').mono ?_
    rintro e w ⟨rfl, rfl⟩
    go_wp2_with fail
    go_ret
    exact ⟨rfl, Below.refl _ _⟩
  cases h4 : (last == 18446744073709551615) with
  | true =>
    go_enter Try.func6, Try.ntmps6
    go_wp2_with fail
    refine (bytes_yes _ _ _ a len cap w h1').mono ?_
    rintro e w ⟨rfl, rfl⟩
    go_wp2_with fail
    go_ret
    exact ⟨rfl, Below.refl _ _⟩
  | false =>
  have l2 : last < 18446744073709551615 := by have := beq_eq_false_iff_ne.1 h4; omega
  by_cases h5 : acked < 0
  · go_enter Try.func6, Try.ntmps6
    go_wp2_with fail
    refine (bytes_yes _ _ _ a len cap w h1').mono ?_
    rintro e w ⟨rfl, rfl⟩
    go_wp2_with fail
    go_ret
    exact ⟨rfl, Below.refl _ _⟩
  by_cases h6 : last - base < acked
  · go_enter Try.func6, Try.ntmps6
    go_wp2_with fail
    refine (bytes_yes _ _ _ a len cap w h1').mono ?_
    rintro e w ⟨rfl, rfl⟩
    go_wp2_with fail
    go_ret
    exact ⟨rfl, Below.refl _ _⟩
  go_enter Try.func6, Try.ntmps6
  go_wp2_with fail
  refine (bytes_yes _ _ _ a len cap w h1').mono ?_
  rintro e w ⟨rfl, rfl⟩
  clear h1'
  go_wp2_with fail
  go_loopw [9] (fun i wr => ∃ k : Nat, k ≤ len ∧ i = .int .i64 k ∧ Hid (∀ j, j < k → (0 < C j → F j + C j < 18446744073709551616) ∧ (0 < AC j → AF j + AC j < 18446744073709551616)) ∧ Below w.heap.size w wr) (fun i _ => len - (intOf i).toNat)
  case atStart => exact ⟨0, Nat.zero_le _, rfl, fun j hj => absurd hj (Nat.not_lt_zero j), Below.refl _ _⟩
  case round =>
  obtain ⟨k, hk, rfl, hval, k1⟩ := hrel
  by_cases hlt : k < len
  · obtain ⟨n0, n1, n2, n3, n4, n5⟩ := HN.out k hlt
    obtain ⟨yb, yo, rfl, c0, c1, c2, c3⟩ := HS.below k1 k hlt
    by_cases hc : 0 < C k
    case neg =>
      have hd : decide (0 < C k) = false := by simpa using hc
      have v1 : 0 < C k → F k + C k < 18446744073709551616 := fun h => absurd h hc
      by_cases hg : 0 < AC k
      case neg =>
        have hd2 : decide (0 < AC k) = false := by simpa using hg
        go_wp2_with fail
        go_quiet (fail)
        go_wp2_with fail
        go_quiet (fail)
        go_wp2_with fail
        go_roundw
        case rel => exact ⟨k + 1, by omega, by go_num, valid_step hval.out v1 (by omega), Below.drewN k1 _⟩
        case measure => simp [intOf]; omega
      by_cases hw : 18446744073709551615 - AF k < AC k
      case neg =>
        go_wp2_with fail
        go_quiet (fail)
        go_wp2_with fail
        go_quiet (fail)
        go_wp2_with fail
        go_roundw
        case rel => exact ⟨k + 1, by omega, by go_num, valid_step hval.out v1 (by omega), Below.drewN k1 _⟩
        case measure => simp [intOf]; omega
      go_wp2_with fail
      go_quiet (fail)
      go_wp2_with fail
      go_quiet (fail)
      go_wp2_with fail
      go_ret
      exact ⟨rfl, Below.drewN (Below.drewN k1 _) _⟩
    by_cases hv : 18446744073709551615 - F k < C k
    case neg =>
      have v1 : 0 < C k → F k + C k < 18446744073709551616 := fun _ => by omega
      by_cases hg : 0 < AC k
      case neg =>
        have hd2 : decide (0 < AC k) = false := by simpa using hg
        go_wp2_with fail
        go_quiet (fail)
        go_wp2_with fail
        go_quiet (fail)
        go_wp2_with fail
        go_roundw
        case rel => exact ⟨k + 1, by omega, by go_num, valid_step hval.out v1 (by omega), Below.drewN k1 _⟩
        case measure => simp [intOf]; omega
      by_cases hw : 18446744073709551615 - AF k < AC k
      case neg =>
        go_wp2_with fail
        go_quiet (fail)
        go_wp2_with fail
        go_quiet (fail)
        go_wp2_with fail
        go_roundw
        case rel => exact ⟨k + 1, by omega, by go_num, valid_step hval.out v1 (by omega), Below.drewN k1 _⟩
        case measure => simp [intOf]; omega
      go_wp2_with fail
      go_quiet (fail)
      go_wp2_with fail
      go_quiet (fail)
      go_wp2_with fail
      go_ret
      exact ⟨rfl, Below.drewN (Below.drewN k1 _) _⟩
    go_wp2_with fail
    go_quiet (fail)
    go_wp2_with fail
    go_ret
    exact ⟨rfl, Below.drewN k1 _⟩
  obtain rfl : len = k := by omega
  go_wp2_with fail
  refine (new_any base last acked F C AF AC wr).mono ?_
  rintro e w1 ⟨q, rfl, hq, k2⟩
  have HB : Hid (∀ k, k < len → 0 ≤ F k ∧ F k < 18446744073709551616 ∧ (0 < C k → F k + C k < 18446744073709551616)) := fun k hk => ⟨(HN.out k hk).1, (HN.out k hk).2.1, (hval.out k hk).1⟩
  have HA : Hid (∀ k, k < len → 0 ≤ AF k ∧ AF k < 18446744073709551616 ∧ (0 < AC k → AF k + AC k < 18446744073709551616)) := fun k hk => ⟨(HN.out k hk).2.2.2.1, (HN.out k hk).2.2.2.2.1, (hval.out k hk).2⟩
  have hq1 : ∃ v, Cq w1 w.heap.size q v base last acked F C AF AC 0 := ⟨_, Nat.le_trans k1.size hq.hb, hq.lt, hq.sp, hq.fz, hq.c5, hq.c6, hq.c7, hq.own⟩
  replace k1 := k1.trans (k2.mono k1.size)
  clear k2 hq hval HN hlt hk
  go_wp2_with fail
  go_loopw [11] (fun i wv => ∃ k : Nat, k ≤ len ∧ i = .int .i64 k ∧ (∃ v, Cq wv w.heap.size q v base last acked F C AF AC k) ∧ Below w.heap.size w wv) (fun i _ => len - (intOf i).toNat)
  case atStart => exact ⟨0, Nat.zero_le _, rfl, hq1, k1⟩
  case round =>
  clear hq1 k1
  obtain ⟨k, hk, rfl, ⟨v, hq⟩, k1⟩ := hrel
  by_cases hlt : k < len
  · obtain ⟨yb, yo, rfl, c0, c1, c2, c3⟩ := HS.below k1 k hlt
    go_wp2_with fail
    go_still_tail 21, (by kernel_rfl)
    go_wp2_with fail
    refine (add_any wr.drew w.heap.size q v base last acked F C AF AC k ⟨hq.hb, hq.lt, hq.sp, hq.fz, hq.c5, hq.c6, hq.c7, hq.own⟩ (by omega) k1.size).mono ?_
    rintro e w2 ⟨rfl, hq2, k2⟩
    replace k1 := k1.drew.trans k2
    clear k2 hq c0 c1 c2 c3
    go_wp2_with fail
    go_roundw
    case rel => exact ⟨k + 1, by omega, by go_num, hq2, k1⟩
    case measure => simp [intOf]; omega
  obtain rfl : len = k := by omega
  go_wp2_with fail
  refine (cover_any wr _ q v len base last acked F C AF AC hq h2' b0 (by omega) l0 (by omega) (by omega) (by omega) HB HA).mono ?_
  rintro e w2 ⟨rfl, k2⟩
  replace k1 := k1.trans (k2.mono k1.size)
  clear k2 hq hk hlt
  have HS1 := HS.below k1
  have HP1 : Hid (∀ k w, Calls Try.prog 33 #[.agg #[.int .u64 (F k), .int .i64 (C k), .int .u64 (AF k), .int .i64 (AC k)], .bool false] w fun e w' => e = .returned (.tuple #[.int .u64 (F k), .int .i64 (C k)]) ∧ Below w.heap.size w w') := fun k w => pick_any (F k) (C k) (AF k) (AC k) false w
  have HP2 : Hid (∀ k w, Calls Try.prog 33 #[.agg #[.int .u64 (F k), .int .i64 (C k), .int .u64 (AF k), .int .i64 (AC k)], .bool true] w fun e w' => e = .returned (.tuple #[.int .u64 (AF k), .int .i64 (AC k)]) ∧ Below w.heap.size w w') := fun k w => pick_any (F k) (C k) (AF k) (AC k) true w
  rw [covers_eq]
  cases hA : chain F C (base + 1) (last + 1) len with
  | false =>
    simp only [Bool.false_and]
    go_wp2_with fail
    refine (chain_any F C AF AC F C a len cap false (base + 1) (last + 1) w2 HS1 h2' (by omega) (by omega) HP1 HB).mono ?_
    rw [hA]
    rintro e w3 ⟨rfl, k2⟩
    replace k1 := k1.trans (k2.mono k1.size)
    go_wp2_with fail
    go_ret
    exact ⟨rfl, k1⟩
  | true =>
    simp only [Bool.true_and]
    go_wp2_with fail
    refine (chain_any F C AF AC F C a len cap false (base + 1) (last + 1) w2 HS1 h2' (by omega) (by omega) HP1 HB).mono ?_
    rw [hA]
    rintro e w3 ⟨rfl, k2⟩
    replace k1 := k1.trans (k2.mono k1.size)
    clear k2 hA HS1
    have HS1 := HS.below k1
    go_wp2_with fail
    refine (chain_any F C AF AC AF AC a len cap true (base + 1) (base + acked + 1) w3 HS1 h2' (by omega) (by omega) HP2 HA).mono ?_
    rintro e w4 ⟨rfl, k2⟩
    replace k1 := k1.trans (k2.mono k1.size)
    go_wp2_with fail
    go_ret
    exact ⟨rfl, k1⟩
end Go.Proofs.Qxb6614239a.Cover
