import Derived.Test.Qxb6614088aTime
namespace Go.Proofs.Qxb6614088a.Tm
open Go.RowKit

theorem sub_num (d n s : Int) (h1 : -9223372036854775808 ≤ d) (h2 : d ≤ 9223372036854775807) (h : d = s * 1000000000 + n) : wrap64 (wrap64 (s * 1000000000) + n) = d := by
  unfold wrap64; omega

set_option maxHeartbeats 400000 in
/-- The zero time plus d, less the zero time, is d. -/
theorem sub_any (d n s : Int) (w : World) (h1 : -9223372036854775808 ≤ d) (h2 : d ≤ 9223372036854775807) (hn : 0 ≤ n) (hn' : n < 1000000000) (hs : -9223372037 ≤ s) (hs' : s ≤ 9223372036)
    (HD : Hid (d = s * 1000000000 + n)) :
    Calls Try.prog 20 #[.agg #[.int .u64 n, .int .i64 s, .pointer none], .agg #[.int .u64 0, .int .i64 0, .pointer none]] w fun e w' => e = .returned (.int .i64 d) ∧ Below w.heap.size w w' := by
  have hz := bits_and0 n hn (by omega)
  have hz2 := flag_no 0 (by omega) (by omega)
  have s2 := fun W h0 h1 => sec_any (w.heap.size + 1) 0 0 W h0 h1 (by omega) (by omega)
  have n2 := fun W h0 => nsec_any (w.heap.size + 1) 0 W h0 (by omega) (by omega)
  go_enter Try.func20, Try.ntmps20
  go_wp2_with fail
  refine (sec_any _ n s _ (by simp [go_sem]) (by simp [go_sem]) hn hn').mono ?_
  rintro e w' ⟨rfl, rfl⟩
  go_wp2_with fail
  refine (s2 _ (by simp [go_sem]) (by simp [go_sem])).mono ?_
  rintro e w' ⟨rfl, rfl⟩
  go_wp2_with fail
  refine (nsec_any _ n _ (by simp [go_sem]) hn hn').mono ?_
  rintro e w' ⟨rfl, rfl⟩
  go_wp2_with fail
  refine (n2 _ (by simp [go_sem])).mono ?_
  rintro e w' ⟨rfl, rfl⟩
  clear s2 n2
  go_wp2_with fail
  rw [sub_num d n s h1 h2 HD.out]
  have c0 : ((w.alloc (Obj.cells #[Value.int IntKind.u64 n, Value.int IntKind.i64 s, Value.pointer none] 63)).alloc (Obj.cells #[Value.int IntKind.u64 0, Value.int IntKind.i64 0, Value.pointer none] 63)).cell? ⟨w.heap.size, 0, none⟩ = some (.int .u64 n) := by simp [go_sem]
  have c1 : ((w.alloc (Obj.cells #[Value.int IntKind.u64 n, Value.int IntKind.i64 s, Value.pointer none] 63)).alloc (Obj.cells #[Value.int IntKind.u64 0, Value.int IntKind.i64 0, Value.pointer none] 63)).cell? ⟨w.heap.size, 1, none⟩ = some (.int .i64 s) := by simp [go_sem]
  have c2 : ((w.alloc (Obj.cells #[Value.int IntKind.u64 n, Value.int IntKind.i64 s, Value.pointer none] 63)).alloc (Obj.cells #[Value.int IntKind.u64 0, Value.int IntKind.i64 0, Value.pointer none] 63)).cell? ⟨w.heap.size, 2, none⟩ = some (.pointer none) := by simp [go_sem]
  have d0 : ((w.alloc (Obj.cells #[Value.int IntKind.u64 n, Value.int IntKind.i64 s, Value.pointer none] 63)).alloc (Obj.cells #[Value.int IntKind.u64 0, Value.int IntKind.i64 0, Value.pointer none] 63)).cell? ⟨w.heap.size + 1, 0, none⟩ = some (.int .u64 0) := by simp [go_sem]
  have d1 : ((w.alloc (Obj.cells #[Value.int IntKind.u64 n, Value.int IntKind.i64 s, Value.pointer none] 63)).alloc (Obj.cells #[Value.int IntKind.u64 0, Value.int IntKind.i64 0, Value.pointer none] 63)).cell? ⟨w.heap.size + 1, 1, none⟩ = some (.int .i64 0) := by simp [go_sem]
  have d2 : ((w.alloc (Obj.cells #[Value.int IntKind.u64 n, Value.int IntKind.i64 s, Value.pointer none] 63)).alloc (Obj.cells #[Value.int IntKind.u64 0, Value.int IntKind.i64 0, Value.pointer none] 63)).cell? ⟨w.heap.size + 1, 2, none⟩ = some (.pointer none) := by simp [go_sem]
  have bel : Below w.heap.size w ((w.alloc (Obj.cells #[Value.int IntKind.u64 n, Value.int IntKind.i64 s, Value.pointer none] 63)).alloc (Obj.cells #[Value.int IntKind.u64 0, Value.int IntKind.i64 0, Value.pointer none] 63)) := ((Below.refl _ w).alloc (Nat.le_refl _) _).alloc (by simp) _
  generalize ((w.alloc (Obj.cells #[Value.int IntKind.u64 n, Value.int IntKind.i64 s, Value.pointer none] 63)).alloc (Obj.cells #[Value.int IntKind.u64 0, Value.int IntKind.i64 0, Value.pointer none] 63)) = W at *
  have k0 := cell_regrown c0
  have k1 := cell_regrown c1
  have k2 := cell_regrown c2
  have l0 := cell_regrown d0
  have l1 := cell_regrown d1
  have l2 := cell_regrown d2
  have e1 : d % 1000000000 = n := by have := HD.out; omega
  have e2 : d / 1000000000 = s := by have := HD.out; omega
  have hadd := fun dd os => Calls.regrown_of (add_any d (Go.Sort.grow (redrawn W dd) os) h1 h2)
  rw [e1, e2] at hadd
  have HA := hadd
  have heq := fun dd os => Calls.regrown_of (equal_same n s (Go.Sort.grow (redrawn W dd) os) hn hn')
  clear c0 c1 c2 d0 d1 d2 e1 e2 hadd
  refine wp_region_quiet_below (by kernel_rfl) (by kernel_rfl) ?_
  repeat (quiet_step (first | exact HA _ _ | exact heq _ _))
  refine wpQuiet_nil ?_
  intro _ hw'
  obtain ⟨⟨dq, osq⟩, hw''⟩ := hw'
  subst hw''
  go_wp2
  go_ret
  exact ⟨rfl, bel.trans ((below_regrown W dq osq).mono bel.size)⟩
end Go.Proofs.Qxb6614088a.Tm
