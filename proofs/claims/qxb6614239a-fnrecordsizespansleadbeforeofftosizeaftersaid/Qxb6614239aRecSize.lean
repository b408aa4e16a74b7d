import Derived.Test.Qxb6614239aRows
import Derived.WalkKit
import Derived.Below
namespace Go.Proofs.Qxb6614239a.RecSize
open Go.RowKit

theorem place_any (o s l : Int) (d : Bool) (w : World) :
    Calls Try.prog 9 #[.int .i64 o, .int .i64 s, .int .u16 l, .bool d] w fun e w' => e = .returned (.agg #[.int .i64 o, .int .i64 s, .int .u16 l, .bool d]) ∧ Below w.heap.size w w' := by
  go_enter Try.func9, Try.ntmps9
  go_wp2
  refine bodyPost_ret (v := .agg #[.int .i64 o, .int .i64 s, .int .u16 l, .bool d]) (by simp [results, Try.results9, go_sem]) rfl ⟨rfl, ?_⟩
  exact (Below.refl _ w).alloc (Nat.le_refl _) _

theorem size29 (o s l : Int) (d : Bool) (w : World) (l0 : 0 ≤ l) (l1 : l < 65536) :
    Calls Try.prog 29 #[.agg #[.int .i64 o, .int .i64 s, .int .u16 l, .bool d]] w fun e w' => e = .returned (.int .i64 (wrap64 (l + s))) ∧ Below w.heap.size w w' := by
  go_enter Try.func29, Try.ntmps29
  go_wp2
  go_ret
  exact ⟨rfl, (Below.refl _ w).alloc (Nat.le_refl _) _⟩

theorem size_any (o s l : Int) (d : Bool) (w : World) (l0 : 0 ≤ l) (l1 : l < 65536) :
    Calls Try.prog 8 #[.agg #[.int .i64 o, .int .i64 s, .int .u16 l, .bool d]] w fun e w' => e = .returned (.int .i64 (wrap64 (l + s))) ∧ Below w.heap.size w w' := by
  go_enter Try.func8, Try.ntmps8
  go_wp2_with fail
  refine (size29 o s l d _ l0 l1).mono ?_
  rintro e w1 ⟨rfl, k⟩
  go_wp2
  go_ret
  exact ⟨rfl, ((Below.refl _ w).alloc (Nat.le_refl _) _).trans (k.mono (by simp))⟩

theorem num (o s l : Int) : (wrap64 (l + s) == wrap64 (wrap64 (o + s) - wrap64 (o - l))) = true := by
  rw [beq_iff_eq]; unfold wrap64; omega

theorem walk (o s l : Int) (d : Bool) (o2 : Int) (w : World) (l0 : 0 ≤ l) (l1 : l < 65536) :
    Calls Try.prog 3 #[.int .i64 o, .int .i64 s, .int .u16 l, .bool d, .int .i64 o2] w fun e w' => e = .returned (.bool true) ∧ Below w.heap.size w w' := by
  have hn := num o s l
  go_enter Try.func3, Try.ntmps3
  go_wp2_with fail
  refine (place_any o s l d w).mono ?_
  rintro e w1 ⟨rfl, k1⟩
  go_wp2_with fail
  refine (size_any o s l d w1 l0 l1).mono ?_
  rintro e w2 ⟨rfl, k2⟩
  replace k1 := k1.trans (k2.mono k1.size)
  clear k2
  go_wp2_with fail
  refine (place_any o2 s l (!d) w2).mono ?_
  rintro e w3 ⟨rfl, k2⟩
  replace k1 := k1.trans (k2.mono k1.size)
  clear k2
  go_wp2_with fail
  refine (size_any o2 s l (!d) w3 l0 l1).mono ?_
  rintro e w4 ⟨rfl, k2⟩
  replace k1 := k1.trans (k2.mono k1.size)
  clear k2
  go_wp2
  go_ret
  exact ⟨rfl, k1⟩
end Go.Proofs.Qxb6614239a.RecSize
