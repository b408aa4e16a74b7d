import Derived.Test.Qxb6614239aLocks
import Derived.Conc.MuLone
import Derived.WalkKit
import Derived.Below
namespace Go.Proofs.Qxb6614239a.Hold
open Go.RowKit Go.MuLone

/-- An index file lies in block b; it is held h times; its lock is free. -/
structure At (w : World) (b : Nat) (h : Int) : Prop where
  mu : w.cell? ⟨b, 4, none⟩ = some (.int .i32 0)
  hd : w.cell? ⟨b, 6, none⟩ = some (.int .i64 h)
  fm : w.frozen? ⟨b, 4, none⟩ = false
  fh : w.frozen? ⟨b, 6, none⟩ = false

/-- Only block b may have turned. -/
structure Kept (b : Nat) (w w' : World) : Prop where
  os : w'.os = w.os
  tape : w'.tape = w.tape
  output : w'.output = w.output
  size : w'.heap.size = w.heap.size
  block : ∀ k, k ≠ b → w'.heap[k]? = w.heap[k]?
theorem Kept.trans {b : Nat} {x y z : World} (h : Kept b x y) (k : Kept b y z) : Kept b x z :=
  ⟨k.os.trans h.os, k.tape.trans h.tape, k.output.trans h.output, k.size.trans h.size, fun i h1 => (k.block i h1).trans (h.block i h1)⟩
theorem Kept.setCell (b o : Nat) (w : World) (v : Value) : Kept b w (w.setCell ⟨b, o, none⟩ v) :=
  ⟨rfl, rfl, rfl, by simp [World.setCell], fun k h1 => Below.heap_setCell _ _ _ _ h1⟩
theorem Kept.below {b B : Nat} {w w' : World} (h : Kept b w w') (hb : B ≤ b) : Below B w w' :=
  ⟨h.os, h.tape, h.output, by rw [h.size]; exact Nat.le_refl _, fun k hk => h.block k (by omega)⟩
theorem At.of_block {w w' : World} {b : Nat} {h : Int} (x : At w b h) (e : w'.heap[b]? = w.heap[b]?) : At w' b h :=
  ⟨(World.cell?_of_block (w := w) e).trans x.mu, (World.cell?_of_block (w := w) e).trans x.hd, (World.frozen?_of_block (w := w) e).trans x.fm, (World.frozen?_of_block (w := w) e).trans x.fh⟩

theorem hold30 (w : World) (b : Nat) (h : Int) (x : At w b h) :
    Calls Try.prog 30 #[.pointer (some ⟨b, 0, none⟩)] w fun e w' => e = .returned (.tuple #[]) ∧ At w' b (wrap64 (h + 1)) ∧ Kept b w w' := by
  obtain ⟨m, hd, fm, fh⟩ := x
  go_enter Try.func30, Try.ntmps30
  go_wp2_with (go_at_call 34; refine (lock_free Locks.muLib ⟨b, 4, none⟩ _ m fm).mono ?_; rintro e w' ⟨rfl, rfl⟩)
  refine (unlock_held Locks.muLib ⟨b, 4, none⟩ _ ?_ ?_).mono ?_
  · simp [go_sem, *]
  · simp [fm]
  rintro e w' ⟨rfl, rfl⟩
  go_wp2
  go_end0
  refine ⟨rfl, ⟨?_, ?_, ?_, ?_⟩, ((Kept.setCell _ _ _ _).trans (Kept.setCell _ _ _ _)).trans (Kept.setCell _ _ _ _)⟩
  · simp [go_sem, *]
  · simp [go_sem, *]
  · simp [go_sem, *]
  · simp [go_sem, *]

theorem hold_any (w : World) (b : Nat) (h : Int) (x : At w b h) :
    Calls Try.prog 12 #[.pointer (some ⟨b, 0, none⟩)] w fun e w' => e = .returned (.tuple #[]) ∧ At w' b (wrap64 (h + 1)) ∧ Kept b w w' := by
  go_enter Try.func12, Try.ntmps12
  go_wp2_with fail
  refine (hold30 w b h x).mono ?_
  rintro e w' ⟨rfl, x', k⟩
  go_wp2
  go_end0
  exact ⟨rfl, x', k⟩

theorem holds_any (w : World) (b : Nat) (h : Int) (x : At w b h) :
    Calls Try.prog 13 #[.pointer (some ⟨b, 0, none⟩)] w fun e w' => e = .returned (.int .i64 h) ∧ w' = w := by
  have hd := x.hd
  go_enter Try.func13, Try.ntmps13
  go_wp2
  go_ret
  exact ⟨rfl, rfl⟩

theorem new_any (w : World) (s : ByteArray) (n h : Int) :
    Calls Try.prog 11 #[.string s, .int .u64 n, .slice none 0 0, .int .i64 h] w fun e w' => e = .returned (.pointer (some ⟨w.heap.size, 0, none⟩)) ∧ At w' w.heap.size h ∧ Below w.heap.size w w' ∧ w.heap.size < w'.heap.size := by
  go_enter Try.func11, Try.ntmps11
  go_wp2
  go_ret
  exact ⟨rfl, ⟨by simp [go_sem], by simp [go_sem], by simp [go_sem], by simp [go_sem]⟩, (Below.refl _ w).alloc (Nat.le_refl _) _, by simp⟩

theorem bytes_yes (x y : Int) (a : Option Addr) (len cap : Nat) (w : World) (h : len ≤ 1048576) :
    Calls Try.prog 10 #[.int .i64 x, .int .i64 y, .slice a len cap] w fun e w' => e = .returned (.bool true) ∧ w' = w := by
  go_enter Try.func10, Try.ntmps10
  go_wp2
  go_ret
  exact ⟨rfl, rfl⟩
theorem bytes_no (x y : Int) (a : Option Addr) (len cap : Nat) (w : World) (h : 1048576 < len) :
    Calls Try.prog 10 #[.int .i64 x, .int .i64 y, .slice a len cap] w fun e w' => e = .returned (.bool false) ∧ w' = w := by
  go_enter Try.func10, Try.ntmps10
  go_wp2
  go_ret
  exact ⟨rfl, rfl⟩

theorem new_ex (w : World) (s : ByteArray) (n h : Int) :
    Calls Try.prog 11 #[.string s, .int .u64 n, .slice none 0 0, .int .i64 h] w fun e w' => ∃ b, e = .returned (.pointer (some ⟨b, 0, none⟩)) ∧ At w' b h ∧ Below w.heap.size w w' ∧ w.heap.size ≤ b ∧ b < w'.heap.size :=
  (new_any w s n h).mono fun _ _ ⟨he, x, k, hs⟩ => ⟨_, he, x, k, Nat.le_refl _, hs⟩

/-- What is counted behind k steps: one more for each that is v. -/
def cntAt (v : Bool) (B : Nat → Bool) (h : Int) : Nat → Int
  | 0 => h
  | k + 1 => if B k = v then wrap64 (cntAt v B h k + 1) else cntAt v B h k
theorem cnt_yes {v : Bool} {B : Nat → Bool} {h : Int} {k : Nat} (e : B k = v) : cntAt v B h (k + 1) = wrap64 (cntAt v B h k + 1) := by simp [cntAt, e]
theorem cnt_no {v : Bool} {B : Nat → Bool} {h : Int} {k : Nat} (e : B k ≠ v) : cntAt v B h (k + 1) = cntAt v B h k := by simp [cntAt, e]

theorem lt_of_cell {w : World} {x : Addr} {v : Value} (h : w.cell? x = some v) : x.block < w.heap.size := by
  unfold World.cell? at h
  rcases Nat.lt_or_ge x.block w.heap.size with h' | h'
  · exact h'
  · simp [Array.getElem?_eq_none h'] at h

set_option maxRecDepth 100000 in
set_option maxHeartbeats 1600000 in
theorem walk (hA hB : Int) (a : Option Addr) (len cap : Nat) (B : Nat → Bool) (w : World)
    (hF : ∀ k, k < len → ∃ x, a = some x ∧ w.cell? (x.add k) = some (.bool (B k))) :
    Calls Try.prog 4 #[.int .i64 hA, .int .i64 hB, .slice a len cap] w fun e w' => e = .returned (.bool true) ∧ Below w.heap.size w w' := by
  have HF : Hid (∀ k, k < len → ∃ x, a = some x ∧ w.cell? (x.add k) = some (.bool (B k))) := hF
  clear hF
  by_cases h1 : 1048576 < len
  · go_enter Try.func4, Try.ntmps4
    go_wp2_with fail
    refine (bytes_no _ _ a len cap w h1).mono ?_
    rintro e w ⟨rfl, rfl⟩
    go_wp2_with fail
    go_ret
    exact ⟨rfl, Below.refl _ _⟩
  have h1' : len ≤ 1048576 := by omega
  clear h1
  by_cases h2 : 65536 < len
  · go_enter Try.func4, Try.ntmps4
    go_wp2_with fail
    refine (bytes_yes _ _ a len cap w h1').mono ?_
    rintro e w ⟨rfl, rfl⟩
    go_wp2_with fail
    go_ret
    exact ⟨rfl, Below.refl _ _⟩
  have h2' : len ≤ 65536 := by omega
  clear h2
  by_cases h3 : hA < 0
  · go_enter Try.func4, Try.ntmps4
    go_wp2_with fail
    refine (bytes_yes _ _ a len cap w h1').mono ?_
    rintro e w ⟨rfl, rfl⟩
    go_wp2_with fail
    go_ret
    exact ⟨rfl, Below.refl _ _⟩
  by_cases h4 : hB < 0
  · go_enter Try.func4, Try.ntmps4
    go_wp2_with fail
    refine (bytes_yes _ _ a len cap w h1').mono ?_
    rintro e w ⟨rfl, rfl⟩
    go_wp2_with fail
    go_ret
    exact ⟨rfl, Below.refl _ _⟩
  go_enter Try.func4, Try.ntmps4
  go_wp2_with fail
  refine (bytes_yes _ _ a len cap w h1').mono ?_
  rintro e w ⟨rfl, rfl⟩
  clear h1'
  go_wp2_with fail
  refine (new_ex w _ _ hA).mono ?_
  rintro e w1 ⟨c, rfl, x1, k1, c1, c2⟩
  go_wp2_with fail
  refine (new_ex w1 _ _ hB).mono ?_
  rintro e w2 ⟨b, rfl, x2, k2, b1, b2⟩
  replace x1 := x1.of_block (k2.block c c2)
  replace k1 := k1.trans (k2.mono k1.size)
  have hcb : c < b := by omega
  clear k2 b1 b2 c2
  go_wp2_with fail
  go_loopw [9, 10, 11] (fun p q i wr => ∃ k : Nat, k ≤ len ∧ i = .int .i64 k ∧ p = .int .i64 (cntAt true B hA k) ∧ q = .int .i64 (cntAt false B hB k) ∧ At wr c (cntAt true B hA k) ∧ At wr b (cntAt false B hB k) ∧ Below w.heap.size w wr) (fun _ _ i _ => len - (intOf i).toNat)
  case atStart => exact ⟨0, Nat.zero_le _, rfl, rfl, rfl, x1, x2, k1⟩
  case round =>
    clear x1 x2 k1
    obtain ⟨k, hk, rfl, rfl, rfl, x1, x2, k1⟩ := hrel
    by_cases hlt : k < len
    · obtain ⟨y, rfl, hy⟩ := HF.out k hlt
      have hy' : wr.cell? (y.add k) = some (.bool (B k)) := (k1.cell (lt_of_cell hy)).trans hy
      clear hy
      cases hBk : B k with
      | true =>
        rw [hBk] at hy'
        have e1 : Hid (cntAt true B hA (k + 1) = wrap64 (cntAt true B hA k + 1)) := cnt_yes hBk
        have e2 : Hid (cntAt false B hB (k + 1) = cntAt false B hB k) := cnt_no (by simp [hBk])
        clear hBk
        go_wp2_with fail
        refine (hold_any wr _ _ x1).mono ?_
        rintro e w3 ⟨rfl, x3, k3⟩
        replace x2 := x2.of_block (k3.block b (by omega))
        replace k1 := k1.trans (k3.below c1)
        clear k3 x1 hy'
        go_wp2_with fail
        refine (holds_any w3 _ _ x3).mono ?_
        rintro e w3 ⟨rfl, rfl⟩
        go_wp2_with fail
        refine (holds_any _ _ _ x2).mono ?_
        rintro e w3 ⟨rfl, rfl⟩
        go_wp2_with fail
        go_roundw
        case rel => exact ⟨k + 1, by omega, by go_num, by rw [e1.out], by rw [e2.out], by rw [e1.out]; exact x3, by rw [e2.out]; exact x2, k1⟩
        case measure => simp [intOf]; omega
      | false =>
        rw [hBk] at hy'
        have e1 : Hid (cntAt true B hA (k + 1) = cntAt true B hA k) := cnt_no (by simp [hBk])
        have e2 : Hid (cntAt false B hB (k + 1) = wrap64 (cntAt false B hB k + 1)) := cnt_yes hBk
        clear hBk
        go_wp2_with fail
        refine (hold_any wr _ _ x2).mono ?_
        rintro e w3 ⟨rfl, x3, k3⟩
        replace x1 := x1.of_block (k3.block c (by omega))
        replace k1 := k1.trans (k3.below (by omega))
        clear k3 x2 hy'
        go_wp2_with fail
        refine (holds_any w3 _ _ x1).mono ?_
        rintro e w3 ⟨rfl, rfl⟩
        go_wp2_with fail
        refine (holds_any _ _ _ x3).mono ?_
        rintro e w3 ⟨rfl, rfl⟩
        go_wp2_with fail
        go_roundw
        case rel => exact ⟨k + 1, by omega, by go_num, by rw [e1.out], by rw [e2.out], by rw [e1.out]; exact x1, by rw [e2.out]; exact x3, k1⟩
        case measure => simp [intOf]; omega
    · go_wp2_with fail
      refine (holds_any wr _ _ x1).mono ?_
      rintro e w3 ⟨rfl, rfl⟩
      go_wp2_with fail
      refine (holds_any _ _ _ x2).mono ?_
      rintro e w3 ⟨rfl, rfl⟩
      go_wp2_with fail
      go_ret
      exact ⟨rfl, k1⟩
end Go.Proofs.Qxb6614239a.Hold
