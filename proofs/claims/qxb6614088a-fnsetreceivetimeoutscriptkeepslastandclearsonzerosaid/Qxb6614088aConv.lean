import Derived.Test.Qxb6614088aSess
import Derived.Test.Qxb6614088aTimeSub
import Derived.Test.Qxb6614088aLocks
import Derived.Conc.MuLone
import Derived.Defers
namespace Go.Proofs.Qxb6614088a.Conv
open Go.RowKit Go.MuLone Go.Proofs.Qxb6614088a.Sess Go.Proofs.Qxb6614088a.Tm

/-- A conversation lies in block b, its session in block sb. -/
structure Cv (w : World) (b sb : Nat) (T n s : Int) : Prop where
  ne : b ≠ sb
  ses : w.cell? ⟨b, 0, none⟩ = some (.pointer (some ⟨sb, 0, none⟩))
  tmo : w.cell? ⟨b, 16, none⟩ = some (.int .i64 T)
  wall : w.cell? ⟨b, 10, none⟩ = some (.int .u64 n)
  ext : w.cell? ⟨b, 11, none⟩ = some (.int .i64 s)
  loc : w.cell? ⟨b, 12, none⟩ = some (.pointer none)
  fz : ∀ o, w.frozen? ⟨b, o, none⟩ = false
  mu : w.cell? ⟨sb, 13, none⟩ = some (.int .i32 0)
  fm : w.frozen? ⟨sb, 13, none⟩ = false

theorem Kept.setS (b c o : Nat) (w : World) (v : Value) : Kept b c w (w.setCell ⟨c, o, none⟩ v) :=
  ⟨rfl, rfl, rfl, by simp [World.setCell], fun k _ h2 => Below.heap_setCell _ _ _ _ h2⟩

theorem set_zero (w : World) (b sb : Nat) (T n s : Int) (h : Cv w b sb T n s) :
    Calls Try.prog 19 #[.pointer (some ⟨b, 0, none⟩), .int .i64 0] w fun e w' => e = .returned (.tuple #[]) ∧ Cv w' b sb 0 0 0 ∧ Kept b sb w w' := by
  obtain ⟨ne, h0, h16, h10, h11, h12, fz, hm, fm⟩ := h
  have ne' : sb ≠ b := fun e => ne e.symm
  go_enter_defers Try.func19, Try.ntmps19
  go_wp2_with (go_at_call 25; refine (lock_free Locks.muLib ⟨sb, 13, none⟩ _ hm fm).mono ?_; rintro e w' ⟨rfl, rfl⟩)
  refine leaves_cons (f := 26) (args := #[.pointer (some ⟨sb, 13, none⟩)]) (by simp) (by simp [go_sem]) ?_
  refine (unlock_deferred Locks.muLib ⟨sb, 13, none⟩ .returning _ ?_ ?_).mono ?_
  · simp [go_sem, *]
  · simp [fm]
  rintro e u' w'' ⟨rfl, rfl, rfl⟩
  refine ⟨_, results_none rfl _ _ _, rfl, ⟨ne, ?_, ?_, ?_, ?_, ?_, ?_, ?_, ?_⟩, ?_⟩
  · simp [go_sem, *]
  · simp [go_sem, *]
  · simp [go_sem, *]
  · simp [go_sem, *]
  · simp [go_sem, *]
  · simp [go_sem, *]
  · simp [go_sem, *]
  · simp [go_sem, *]
  · exact (((((Kept.setS b sb _ w _).trans (Kept.setCell b sb _ _ _)).trans (Kept.setCell b sb _ _ _)).trans (Kept.setCell b sb _ _ _)).trans (Kept.setCell b sb _ _ _)).trans (Kept.setS b sb _ _ _)

theorem set_other (w : World) (b sb : Nat) (T n s d : Int) (h : Cv w b sb T n s) (hd : (d == 0) = false) :
    Calls Try.prog 19 #[.pointer (some ⟨b, 0, none⟩), .int .i64 d] w fun e w' => e = .returned (.tuple #[]) ∧ Cv w' b sb d n s ∧ Kept b sb w w' := by
  obtain ⟨ne, h0, h16, h10, h11, h12, fz, hm, fm⟩ := h
  have ne' : sb ≠ b := fun e => ne e.symm
  go_enter_defers Try.func19, Try.ntmps19
  go_wp2_with (go_at_call 25; refine (lock_free Locks.muLib ⟨sb, 13, none⟩ _ hm fm).mono ?_; rintro e w' ⟨rfl, rfl⟩)
  refine leaves_cons (f := 26) (args := #[.pointer (some ⟨sb, 13, none⟩)]) (by simp) (by simp [go_sem]) ?_
  refine (unlock_deferred Locks.muLib ⟨sb, 13, none⟩ .returning _ ?_ ?_).mono ?_
  · simp [go_sem, *]
  · simp [fm]
  rintro e u' w'' ⟨rfl, rfl, rfl⟩
  refine ⟨_, results_none rfl _ _ _, rfl, ⟨ne, ?_, ?_, ?_, ?_, ?_, ?_, ?_, ?_⟩, ?_⟩
  · simp [go_sem, *]
  · simp [go_sem, *]
  · simp [go_sem, *]
  · simp [go_sem, *]
  · simp [go_sem, *]
  · simp [go_sem, *]
  · simp [go_sem, *]
  · simp [go_sem, *]
  · exact ((Kept.setS b sb _ w _).trans (Kept.setCell b sb _ _ _)).trans (Kept.setS b sb _ _ _)

theorem setRT_zero (w : World) (b sb : Nat) (T n s : Int) (h : Cv w b sb T n s) :
    Calls Try.prog 14 #[.pointer (some ⟨b, 0, none⟩), .int .i64 0] w fun e w' => e = .returned (.tuple #[]) ∧ Cv w' b sb 0 0 0 ∧ Kept b sb w w' := by
  go_enter Try.func14, Try.ntmps14
  go_wp2_with fail
  refine (set_zero w b sb T n s h).mono ?_
  rintro e w' ⟨rfl, h', k⟩
  go_wp2
  go_end0
  exact ⟨rfl, h', k⟩
theorem setRT_other (w : World) (b sb : Nat) (T n s d : Int) (h : Cv w b sb T n s) (hd : (d == 0) = false) :
    Calls Try.prog 14 #[.pointer (some ⟨b, 0, none⟩), .int .i64 d] w fun e w' => e = .returned (.tuple #[]) ∧ Cv w' b sb d n s ∧ Kept b sb w w' := by
  go_enter Try.func14, Try.ntmps14
  go_wp2_with fail
  refine (set_other w b sb T n s d h hd).mono ?_
  rintro e w' ⟨rfl, h', k⟩
  go_wp2
  go_end0
  exact ⟨rfl, h', k⟩

theorem state_any (w : World) (b sb : Nat) (T n s d : Int) (h : Cv w b sb T n s) (h1 : -9223372036854775808 ≤ d) (h2 : d ≤ 9223372036854775807) (hn : 0 ≤ n) (hn' : n < 1000000000) (hs : -9223372037 ≤ s) (hs' : s ≤ 9223372036)
    (HD : Hid (d = s * 1000000000 + n)) :
    Calls Try.prog 15 #[.pointer (some ⟨b, 0, none⟩)] w fun e w' => e = .returned (.tuple #[.int .i64 T, .int .i64 d]) ∧ Below w.heap.size w w' := by
  obtain ⟨ne, h0, h16, h10, h11, h12, fz, hm, fm⟩ := h
  have k0 := cell_regrown h16
  have k1 := cell_regrown h10
  have k2 := cell_regrown h11
  have k3 := cell_regrown h12
  have hsub := fun dd os => Calls.regrown_of (sub_any d n s (Go.Sort.grow (redrawn w dd) os) h1 h2 hn hn' hs hs' HD)
  clear h0 h16 h10 h11 h12 fz hm fm ne
  go_enter Try.func15, Try.ntmps15
  go_wp2
  refine wp_region_quiet_below (by kernel_rfl) (by kernel_rfl) ?_
  repeat (quiet_step (exact hsub _ _))
  refine wpQuiet_nil ?_
  intro _ hw'
  obtain ⟨⟨dq, osq⟩, hw''⟩ := hw'
  subst hw''
  go_wp2
  go_ret2
  exact ⟨rfl, below_regrown w dq osq⟩

theorem new_any (T d : Int) (w : World) (h1 : -9223372036854775808 ≤ d) (h2 : d ≤ 9223372036854775807) :
    Calls Try.prog 13 #[.int .i64 T, .int .i64 d] w fun e w' => ∃ b sb, e = .returned (.pointer (some ⟨b, 0, none⟩)) ∧ Cv w' b sb T (d % 1000000000) (d / 1000000000) ∧ Below w.heap.size w w' ∧ w.heap.size ≤ b ∧ w.heap.size ≤ sb := by
  go_enter Try.func13, Try.ntmps13
  go_wp2_with fail
  refine (add_any d _ h1 h2).mono ?_
  rintro e w1 ⟨rfl, bel⟩
  have hsz : w.heap.size < w1.heap.size := by have := bel.size; simp at this; omega
  have hmu : w1.cell? ⟨w.heap.size, 13, none⟩ = some (.int .i32 0) := by
    rw [bel.cell (by simp)]; simp [go_sem]
  have hfm : w1.frozen? ⟨w.heap.size, 13, none⟩ = false := by
    rw [bel.frozen (by simp)]; simp [go_sem]
  replace bel : Below w.heap.size w w1 := ((Below.refl _ w).alloc (Nat.le_refl _) _).trans (bel.mono (by simp))
  go_wp2_with fail
  go_ret
  refine ⟨_, w.heap.size, rfl, ⟨?_, ?_, ?_, ?_, ?_, ?_, ?_, ?_, ?_⟩, bel.alloc (by omega) _, by omega, Nat.le_refl _⟩
  · omega
  · simp [go_sem]
  · simp [go_sem]
  · simp [go_sem]
  · simp [go_sem]
  · simp [go_sem]
  · simp [go_sem]
  · rw [Below.cell ((Below.refl w1.heap.size w1).alloc (Nat.le_refl _) _) (by exact hsz)]; exact hmu
  · rw [Below.frozen ((Below.refl w1.heap.size w1).alloc (Nat.le_refl _) _) (by exact hsz)]; exact hfm
end Go.Proofs.Qxb6614088a.Conv
