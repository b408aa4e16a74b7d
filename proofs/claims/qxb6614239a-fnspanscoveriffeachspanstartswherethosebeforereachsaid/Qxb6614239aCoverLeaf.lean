import Derived.Test.Qxb6614239aCoverPlain
import Derived.WalkKit
import Derived.Below
import Derived.Deep.QuietTactic
import Derived.BigQuiet
import Derived.Lib.QuietBelow
namespace Go.Proofs.Qxb6614239a.Cover
open Go.RowKit

theorem end_any (b : Nat) (f c : Int) (w : World) (h1 : w.cell? ⟨b, 1, none⟩ = some (.int .u64 f)) (h2 : w.cell? ⟨b, 2, none⟩ = some (.int .i64 c)) (hf : 0 ≤ f) (hc : 0 < c) (hfc : f + c < 18446744073709551616) :
    Calls Try.prog 36 #[.pointer (some ⟨b, 0, none⟩)] w fun e w' => e = .returned (.int .u64 (f + c)) ∧ ∃ n, w' = w.drewN n := by
  go_enter Try.func36, Try.ntmps36
  go_wp2
  go_quiet (fail)
  go_wp2
  go_ret
  exact ⟨rfl, nq, rfl⟩

theorem ackEnd_any (b : Nat) (f c : Int) (w : World) (h1 : w.cell? ⟨b, 3, none⟩ = some (.int .u64 f)) (h2 : w.cell? ⟨b, 4, none⟩ = some (.int .i64 c)) (hf : 0 ≤ f) (hc : 0 < c) (hfc : f + c < 18446744073709551616) :
    Calls Try.prog 37 #[.pointer (some ⟨b, 0, none⟩)] w fun e w' => e = .returned (.int .u64 (f + c)) ∧ ∃ n, w' = w.drewN n := by
  go_enter Try.func37, Try.ntmps37
  go_wp2
  go_quiet (fail)
  go_wp2
  go_ret
  exact ⟨rfl, nq, rfl⟩

theorem head_any (b : Nat) (base acked : Int) (w : World) (h1 : w.cell? ⟨b, 5, none⟩ = some (.int .u64 base)) (h2 : w.cell? ⟨b, 7, none⟩ = some (.int .i64 acked)) (hb : 0 ≤ base) (ha : 0 ≤ acked) (hba : base + acked + 1 < 18446744073709551616) :
    Calls Try.prog 38 #[.pointer (some ⟨b, 0, none⟩)] w fun e w' => e = .returned (.int .u64 (base + acked + 1)) ∧ ∃ n, w' = w.drewN n := by
  go_enter Try.func38, Try.ntmps38
  go_wp2
  go_quiet (fail)
  go_wp2
  go_ret
  exact ⟨rfl, nq, rfl⟩

theorem pick_any (F C AF AC : Int) (acks : Bool) (w : World) :
    Calls Try.prog 33 #[.agg #[.int .u64 F, .int .i64 C, .int .u64 AF, .int .i64 AC], .bool acks] w fun e w' => e = .returned (.tuple #[.int .u64 (if acks then AF else F), .int .i64 (if acks then AC else C)]) ∧ Below w.heap.size w w' := by
  cases acks
  all_goals
    go_enter Try.func33, Try.ntmps33
    go_wp2
    go_quiet (fail)
    go_wp2
    go_ret2
    refine ⟨rfl, ?_⟩
    have k : Below w.heap.size w (w.alloc (.cells #[.int .u64 F, .int .i64 C, .int .u64 AF, .int .i64 AC] 48)) := (Below.refl _ w).alloc (Nat.le_refl _) _
    exact ⟨k.os, k.tape, k.output, k.size, k.block⟩
end Go.Proofs.Qxb6614239a.Cover
