import Derived.Test.Qxb6614088aTimeBits
import Derived.WalkKit
import Derived.Lib.QuietBelow
import Derived.Deep.RegionWith
namespace Go.Proofs.Qxb6614088a.Tm
open Go.RowKit

theorem nsec_any (b : Nat) (n : Int) (w : World) (h0 : w.cell? ⟨b, 0, none⟩ = some (.int .u64 n)) (hn : 0 ≤ n) (hn' : n < 1000000000) :
    Calls Try.prog 22 #[.pointer (some ⟨b, 0, none⟩)] w fun e w' => e = .returned (.int .i32 n) ∧ w' = w := by
  have hm := bits_mask30 n hn (by omega)
  go_enter Try.func22, Try.ntmps22
  go_wp2
  go_ret
  exact ⟨rfl, rfl⟩
theorem flag_no (n : Int) (hn : 0 ≤ n) (hn' : n < 1000000000) : (bits .and .u64 n 9223372036854775808 != 0) = false := by
  rw [bits_bit63 n hn (by omega)]; rfl
theorem sec_any (b : Nat) (n s : Int) (w : World) (h0 : w.cell? ⟨b, 0, none⟩ = some (.int .u64 n)) (h1 : w.cell? ⟨b, 1, none⟩ = some (.int .i64 s)) (hn : 0 ≤ n) (hn' : n < 1000000000) :
    Calls Try.prog 28 #[.pointer (some ⟨b, 0, none⟩)] w fun e w' => e = .returned (.int .i64 s) ∧ w' = w := by
  have hb := flag_no n hn hn'
  go_enter Try.func28, Try.ntmps28
  go_wp2
  go_ret
  exact ⟨rfl, rfl⟩

def zt : Value := .agg #[.int .u64 0, .int .i64 0, .pointer none]
def tv (n s : Int) : Value := .agg #[.int .u64 n, .int .i64 s, .pointer none]

/-- (*Time).addSec on a time whose seconds are 0. -/
theorem addSec_any (b : Nat) (n d : Int) (w : World) (h0 : w.cell? ⟨b, 0, none⟩ = some (.int .u64 n)) (h1 : w.cell? ⟨b, 1, none⟩ = some (.int .i64 0)) (f1 : w.frozen? ⟨b, 1, none⟩ = false) (hn : 0 ≤ n) (hn' : n < 1000000000)
    (hd : -9223372037 ≤ d) (hd' : d ≤ 9223372037) :
    Calls Try.prog 23 #[.pointer (some ⟨b, 0, none⟩), .int .i64 d] w fun e w' => e = .returned (.tuple #[]) ∧ w' = w.setCell ⟨b, 1, none⟩ (.int .i64 d) := by
  have hb := flag_no n hn hn'
  by_cases hp : 0 < d
  · go_enter Try.func23, Try.ntmps23
    go_wp2
    go_end0
    exact ⟨rfl, rfl⟩
  · go_enter Try.func23, Try.ntmps23
    go_wp2
    go_end0
    exact ⟨rfl, rfl⟩

set_option maxHeartbeats 400000 in
theorem add_pos (d q r : Int) (w : World) (hq : d.tdiv 1000000000 = q) (hr : d.tmod 1000000000 = r) (q1 : -9223372036 ≤ q) (q2 : q ≤ 9223372036) (r1 : 0 ≤ r) (r2 : r < 1000000000) :
    Calls Try.prog 18 #[.agg #[.int .u64 0, .int .i64 0, .pointer none], .int .i64 d] w fun e w' => e = .returned (.agg #[.int .u64 r, .int .i64 q, .pointer none]) ∧ Below w.heap.size w w' := by
  have ho := bits_or0 r r1 (by omega)
  have hz := bits_andNot0
  have hb := flag_no r r1 r2
  go_enter Try.func18, Try.ntmps18
  go_wp2_with (first
      | (go_at_call 22; refine (nsec_any _ 0 _ (by simp [go_sem]) (by omega) (by omega)).mono ?_; rintro e w' ⟨rfl, rfl⟩))
  refine (addSec_any _ r q _ (by simp [go_sem]) (by simp [go_sem]) (by simp [go_sem]) r1 r2 (by omega) (by omega)).mono ?_
  rintro e w' ⟨rfl, rfl⟩
  go_wp2
  refine bodyPost_ret (v := .agg #[.int .u64 r, .int .i64 q, .pointer none]) (by simp [results, Try.results18, go_sem]) rfl ⟨rfl, ?_⟩
  exact ((Below.refl _ w).alloc (Nat.le_refl _) _).alloc (by simp) _
set_option maxHeartbeats 400000 in
theorem add_neg (d q r : Int) (w : World) (hq : d.tdiv 1000000000 = q) (hr : d.tmod 1000000000 = r) (q1 : -9223372036 ≤ q) (q2 : q ≤ 9223372036) (r1 : -1000000000 < r) (r2 : r < 0) :
    Calls Try.prog 18 #[.agg #[.int .u64 0, .int .i64 0, .pointer none], .int .i64 d] w fun e w' => e = .returned (.agg #[.int .u64 (r + 1000000000), .int .i64 (q - 1), .pointer none]) ∧ Below w.heap.size w w' := by
  have ho := bits_or0 (r + 1000000000) (by omega) (by omega)
  have hz := bits_andNot0
  have hb := flag_no (r + 1000000000) (by omega) (by omega)
  go_enter Try.func18, Try.ntmps18
  go_wp2_with (first
      | (go_at_call 22; refine (nsec_any _ 0 _ (by simp [go_sem]) (by omega) (by omega)).mono ?_; rintro e w' ⟨rfl, rfl⟩))
  refine (addSec_any _ (r + 1000000000) (q - 1) _ (by simp [go_sem]) (by simp [go_sem]) (by simp [go_sem]) (by omega) (by omega) (by omega) (by omega)).mono ?_
  rintro e w' ⟨rfl, rfl⟩
  go_wp2
  refine bodyPost_ret (v := .agg #[.int .u64 (r + 1000000000), .int .i64 (q - 1), .pointer none]) (by simp [results, Try.results18, go_sem]) rfl ⟨rfl, ?_⟩
  exact ((Below.refl _ w).alloc (Nat.le_refl _) _).alloc (by simp) _

/-- The zero time plus d. -/
theorem add_any (d : Int) (w : World) (h1 : -9223372036854775808 ≤ d) (h2 : d ≤ 9223372036854775807) :
    Calls Try.prog 18 #[.agg #[.int .u64 0, .int .i64 0, .pointer none], .int .i64 d] w fun e w' => e = .returned (.agg #[.int .u64 (d % 1000000000), .int .i64 (d / 1000000000), .pointer none]) ∧ Below w.heap.size w w' := by
  have hs := Int.mul_tdiv_add_tmod d 1000000000
  have hl := Int.tmod_lt_of_pos d (show (0 : Int) < 1000000000 by omega)
  have sg : 0 ≤ d → 0 ≤ d.tmod 1000000000 := fun h => Int.tmod_nonneg _ h
  have sg2 : d ≤ 0 → d.tmod 1000000000 ≤ 0 := fun h => by
    have := Int.tmod_nonneg 1000000000 (show 0 ≤ -d by omega)
    rw [Int.neg_tmod] at this; omega
  generalize hq : d.tdiv 1000000000 = q at *
  generalize hr : d.tmod 1000000000 = r at *
  have hl2 : -1000000000 < r := by
    have := Int.tmod_lt_of_pos (-d) (show (0 : Int) < 1000000000 by omega)
    rw [Int.neg_tmod, hr] at this; omega
  by_cases hr0 : 0 ≤ r
  · have e1 : d % 1000000000 = r := by omega
    have e2 : d / 1000000000 = q := by omega
    rw [e1, e2]
    exact add_pos d q r w hq hr (by omega) (by omega) hr0 hl
  · have e1 : d % 1000000000 = r + 1000000000 := by omega
    have e2 : d / 1000000000 = q - 1 := by omega
    rw [e1, e2]
    exact add_neg d q r w hq hr (by omega) (by omega) hl2 (by omega)

set_option maxHeartbeats 400000 in
/-- A time equals itself. -/
theorem equal_same (n s : Int) (w : World) (hn : 0 ≤ n) (hn' : n < 1000000000) :
    Calls Try.prog 29 #[.agg #[.int .u64 n, .int .i64 s, .pointer none], .agg #[.int .u64 n, .int .i64 s, .pointer none]] w fun e w' => e = .returned (.bool true) ∧ Below w.heap.size w w' := by
  have ho := bits_same n hn (by omega)
  have hb := flag_no n hn hn'
  go_enter Try.func29, Try.ntmps29
  go_wp2_with (first
    | (go_at_call 28; refine (sec_any _ n s _ (by simp [go_sem]) (by simp [go_sem]) hn hn').mono ?_; rintro e w' ⟨rfl, rfl⟩)
    | (go_at_call 22; refine (nsec_any _ n _ (by simp [go_sem]) hn hn').mono ?_; rintro e w' ⟨rfl, rfl⟩))
  go_ret
  exact ⟨rfl, ((Below.refl _ w).alloc (Nat.le_refl _) _).alloc (by simp) _⟩

end Go.Proofs.Qxb6614088a.Tm
