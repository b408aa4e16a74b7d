import Derived.Test.Qxb6614239aPendBytes
namespace Go.Proofs.Qxb6614239a.Pend
open Go.RowKit Go.Maps

theorem Strs.below {w w' : World} {F : Nat → ByteArray} {a : Option Addr} {len : Nat} (h : Strs w F a len) (k : Below w.heap.size w w') : Strs w' F a len := by
  intro i hi
  obtain ⟨y, hy, hc⟩ := h i hi
  exact ⟨y, hy, (k.cell (lt_of_cell hc)).trans hc⟩
theorem Strs.drewN {w : World} {F : Nat → ByteArray} {a : Option Addr} {len : Nat} (h : Strs w F a len) (n : Nat) : Strs (w.drewN n) F a len := h
theorem Qs.drewN {w : World} {B b N : Nat} {L : List Key} {q : Bool} (h : Qs w B b q L N) (n : Nat) : Qs (w.drewN n) B b q L N := h
theorem Below.drewN {B : Nat} {a w : World} (h : Below B a w) (n : Nat) : Below B a (w.drewN n) := ⟨h.os, h.tape, h.output, h.size, h.block⟩

theorem cnt_seen (F I : Nat → Key) (m k : Nat) (h : inB F (F k) k = true) : cnt F I m (k + 1) = cnt F I m k := by simp [cnt, h]
theorem cnt_gone (F I : Nat → Key) (m k : Nat) (h : inB I (F k) m = true) : cnt F I m (k + 1) = cnt F I m k := by simp [cnt, h]
theorem cnt_new (F I : Nat → Key) (m k : Nat) (h : inB F (F k) k = false) (h' : inB I (F k) m = false) : cnt F I m (k + 1) = cnt F I m k + 1 := by simp [cnt, h, h']

theorem left_key (F I : Nat → Key) (n m k : Nat) (hk : k < n) : (remL I (dk F n) m).contains (F k) = !inB I (F k) m := by
  rw [contains_remL, contains_dk, inB_of hk (by simp)]; rfl
theorem left_id (F I : Nat → Key) (n m k : Nat) (hk : k < m) : (remL I (dk F n) m).contains (I k) = false := by
  rw [contains_remL, inB_of hk (by simp)]; simp

set_option maxRecDepth 100000 in
set_option maxHeartbeats 4000000 in
theorem walk (F I : Nat → ByteArray) (a b : Option Addr) (la ca lb cb : Nat) (w : World) (HF : Strs w F a la) (HI : Strs w I b lb)
    (SF : Hid (∀ k, k < la → (F k).size ≤ maxLen)) (SI : Hid (∀ k, k < lb → (I k).size ≤ maxLen)) :
    Calls Try.prog 5 #[.slice a la ca, .slice b lb cb] w fun e w' => e = .returned (.bool true) ∧ Below w.heap.size w w' := by
  by_cases h1 : 1024 < la
  · go_enter Try.func5, Try.ntmps5
    go_wp2_with fail
    refine (bytes_any F I a b la ca lb cb w HF HI).mono ?_
    rintro e w ⟨⟨r, rfl⟩, rfl⟩
    cases r
    all_goals
      go_wp2_with fail
      go_ret
      exact ⟨rfl, Below.refl _ _⟩
  have h1' : la ≤ 1024 := by omega
  clear h1
  by_cases h2 : 1024 < lb
  · go_enter Try.func5, Try.ntmps5
    go_wp2_with fail
    refine (bytes_any F I a b la ca lb cb w HF HI).mono ?_
    rintro e w ⟨⟨r, rfl⟩, rfl⟩
    cases r
    all_goals
      go_wp2_with fail
      go_ret
      exact ⟨rfl, Below.refl _ _⟩
  have h2' : lb ≤ 1024 := by omega
  clear h2
  go_enter Try.func5, Try.ntmps5
  go_wp2_with fail
  refine (bytes_any F I a b la ca lb cb w HF HI).mono ?_
  rintro e w ⟨⟨r, rfl⟩, rfl⟩
  cases r with
  | false =>
    go_wp2_with fail
    go_ret
    exact ⟨rfl, Below.refl _ _⟩
  | true =>
  go_wp2_with fail
  go_loopw [5, 6] (fun t i wr => wr = w ∧ ∃ (k : Nat) (z : Int), k ≤ la ∧ i = .int .i64 k ∧ t = .int .i64 z) (fun _ i _ => la - (intOf i).toNat)
  case atStart => exact ⟨rfl, 0, _, Nat.zero_le _, rfl, rfl⟩
  case round =>
  obtain ⟨hwr, k, z, hk, rfl, rfl⟩ := hrel
  obtain rfl := hwr.symm
  clear hwr
  by_cases hlt : k < la
  · obtain ⟨y, rfl, hy⟩ := HF k hlt
    go_wp2_with fail
    all_goals first
      | (go_ret; exact ⟨rfl, Below.refl _ _⟩)
      | (go_roundw
         case rel => exact ⟨trivial, k + 1, _, by omega, by go_num, rfl⟩
         case measure => simp [intOf]; omega)
  go_wp2_with fail
  go_loopw [5, 7] (fun t i wr => wr = w ∧ ∃ (k : Nat) (z : Int), k ≤ lb ∧ i = .int .i64 k ∧ t = .int .i64 z) (fun _ i _ => lb - (intOf i).toNat)
  case atStart => exact ⟨rfl, 0, _, Nat.zero_le _, rfl, rfl⟩
  case round =>
  obtain ⟨hwr, j, z2, hj, rfl, rfl⟩ := hrel
  obtain rfl := hwr.symm
  clear hwr
  by_cases hlt2 : j < lb
  · obtain ⟨y, rfl, hy⟩ := HI j hlt2
    go_wp2_with fail
    all_goals first
      | (go_ret; exact ⟨rfl, Below.refl _ _⟩)
      | (go_roundw
         case rel => exact ⟨trivial, j + 1, _, by omega, by go_num, rfl⟩
         case measure => simp [intOf]; omega)
  go_wp2_with fail
  refine (new_any w).mono ?_
  rintro e w1 ⟨q, rfl, hq, k1⟩
  clear hk hlt hj hlt2
  by_cases hla : 0 < la
  case' pos =>
    go_wp2_with fail
    refine (make_any w1 _ q hq k1.size).mono ?_
    rintro e w1 ⟨rfl, hq, k2⟩
    replace k1 := k1.trans k2
    clear k2
    have hq0 : Qs w1 w.heap.size q (decide (la = 0)) [] 0 := by
      rw [show decide (la = 0) = false by simp; omega]; exact hq
    clear hq
  case' neg =>
    have hq0 : Qs w1 w.heap.size q (decide (la = 0)) [] 0 := by
      rw [show decide (la = 0) = true by simp; omega]; exact hq
    clear hq
  all_goals
    go_wp2_with fail
    go_loopw [9] (fun i wv => ∃ k : Nat, k ≤ la ∧ i = .int .i64 k ∧ Qs wv w.heap.size q (decide (la = 0)) (dk (bs F) k) k ∧ Below w.heap.size w wv) (fun i _ => la - (intOf i).toNat)
    case atStart => exact ⟨0, Nat.zero_le _, rfl, hq0, k1⟩
    case round =>
    clear hq0 k1
    obtain ⟨k3, hk, rfl, hq, k1⟩ := hrel
    by_cases hlt : k3 < la
    · obtain ⟨y, rfl, hy⟩ := HF.below k1 k3 hlt
      have hq1 : Qs wr w.heap.size q false (dk (bs F) k3) k3 := by
        rw [show decide (la = 0) = false by simp; omega] at hq; exact hq
      clear hq
      go_wp2_with fail
      refine (put_any wr _ q _ k3 (F k3) hq1 (SF.out k3 hlt) (by unfold maxLen; omega) k1.size).mono ?_
      rintro e w2 ⟨rfl, hq, k2⟩
      replace k1 := k1.trans k2
      clear k2
      go_wp2_with fail
      go_roundw
      case rel => exact ⟨k3 + 1, by omega, by go_num, by rw [show decide (la = 0) = false by simp; omega]; exact hq, k1⟩
      case measure => simp [intOf]; omega
    obtain rfl : la = k3 := by omega
    clear hlt hk
    have HQ : Qs wr w.heap.size q (remL (bs I) (dk (bs F) la) 0).isEmpty (remL (bs I) (dk (bs F) la) 0) la := by
      show Qs wr w.heap.size q (dk (bs F) la).isEmpty (dk (bs F) la) la
      by_cases h0 : la = 0
      · rw [show decide (la = 0) = true by simp [h0]] at hq
        subst h0
        exact hq
      · have h3 := dk_ne (bs F) la (by omega)
        rw [show decide (la = 0) = false by simp [h0]] at hq
        rw [show (dk (bs F) la).isEmpty = false by simpa using h3]
        exact hq
    clear hq
    go_wp2_with fail
    go_loopw [10] (fun i wv => ∃ k : Nat, k ≤ lb ∧ i = .int .i64 k ∧ Qs wv w.heap.size q (remL (bs I) (dk (bs F) la) k).isEmpty (remL (bs I) (dk (bs F) la) k) la ∧ Below w.heap.size w wv) (fun i _ => lb - (intOf i).toNat)
    case atStart => exact ⟨0, Nat.zero_le _, rfl, HQ, k1⟩
    case round =>
    clear HQ k1
    obtain ⟨k4, hk, rfl, HQ, k1⟩ := hrel
    by_cases hlt : k4 < lb
    · obtain ⟨y, rfl, hy⟩ := HI.below k1 k4 hlt
      go_wp2_with fail
      refine (unpend_any wr _ q la _ _ (I k4) HQ (SI.out k4 hlt)).mono ?_
      rintro e w2 ⟨rfl, hq, k2⟩
      replace k1 := k1.trans k2
      clear k2 HQ
      go_wp2_with fail
      go_roundw
      case rel => exact ⟨k4 + 1, by omega, by go_num, hq, k1⟩
      case measure => simp [intOf]; omega
    obtain rfl : lb = k4 := by omega
    clear hlt hk
    have HF1 := HF.below k1
    have HI1 := HI.below k1
    clear HF HI
    go_wp2_with fail
    go_loopw [11, 12] (fun c i wv => wv = wr ∧ ∃ k : Nat, k ≤ la ∧ i = .int .i64 k ∧ c = .int .i64 (cnt (bs F) (bs I) lb k)) (fun _ i _ => la - (intOf i).toNat)
    case atStart => exact ⟨rfl, 0, Nat.zero_le _, rfl, rfl⟩
    case round =>
    obtain ⟨hwr, k5, hk, rfl, rfl⟩ := hrel
    have hcl := cnt_le (bs F) (bs I) lb k5
    by_cases hlt : k5 < la
    · obtain rfl := hwr
      obtain ⟨y, rfl, hy⟩ := HF1 k5 hlt
      cases hA : inB (bs F) (F k5).toList k5 with
      | true =>
        have e1 : Hid (cnt (bs F) (bs I) lb (k5 + 1) = cnt (bs F) (bs I) lb k5) := cnt_seen _ _ _ _ hA
        go_wp2_with fail
        refine (in_any F (F k5) _ la ca k5 _ (by omega) (by omega) HF1).mono ?_
        rw [hA]
        rintro e w2 ⟨rfl, rfl⟩
        clear hA
        go_wp2_with fail
        go_roundw
        case rel => exact ⟨trivial, k5 + 1, by omega, by go_num, by rw [e1.out]⟩
        case measure => simp [intOf]; omega
      | false =>
        cases hC : inB (bs I) (F k5).toList lb with
        | true =>
          have e1 : Hid (cnt (bs F) (bs I) lb (k5 + 1) = cnt (bs F) (bs I) lb k5) := cnt_gone _ _ _ _ hC
          go_wp2_with fail
          refine (in_any F (F k5) _ la ca k5 _ (by omega) (by omega) HF1).mono ?_
          rw [hA]
          rintro e w2 ⟨rfl, rfl⟩
          clear hA
          go_wp2_with fail
          refine (in_any I (F k5) _ lb cb lb _ (by omega) (by omega) HI1).mono ?_
          rw [hC]
          rintro e w2 ⟨rfl, rfl⟩
          clear hC
          go_wp2_with fail
          go_roundw
          case rel => exact ⟨trivial, k5 + 1, by omega, by go_num, by rw [e1.out]⟩
          case measure => simp [intOf]; omega
        | false =>
          have e1 : Hid (cnt (bs F) (bs I) lb (k5 + 1) = cnt (bs F) (bs I) lb k5 + 1) := cnt_new _ _ _ _ hA hC
          go_wp2_with fail
          refine (in_any F (F k5) _ la ca k5 _ (by omega) (by omega) HF1).mono ?_
          rw [hA]
          rintro e w2 ⟨rfl, rfl⟩
          clear hA
          go_wp2_with fail
          refine (in_any I (F k5) _ lb cb lb _ (by omega) (by omega) HI1).mono ?_
          rw [hC]
          rintro e w2 ⟨rfl, rfl⟩
          clear hC
          go_wp2_with fail
          go_roundw
          case rel => exact ⟨trivial, k5 + 1, by omega, by go_num, by rw [e1.out]; go_num⟩
          case measure => simp [intOf]; omega
    obtain rfl : la = k5 := by omega
    obtain rfl := hwr.symm
    clear hlt hk hcl hwr
    go_wp2_with fail
    go_loopw [13] (fun i wv => ∃ k : Nat, k ≤ la ∧ i = .int .i64 k ∧ Qs wv w.heap.size q (remL (bs I) (dk (bs F) la) lb).isEmpty (remL (bs I) (dk (bs F) la) lb) la ∧ Strs wv F a la ∧ Strs wv I b lb ∧ Below w.heap.size w wv) (fun i _ => la - (intOf i).toNat)
    case atStart => exact ⟨0, Nat.zero_le _, rfl, HQ, HF1, HI1, k1⟩
    case round =>
    clear HQ k1 HF1 HI1
    obtain ⟨k6, hk, rfl, HQ, HF1, HI1, k1⟩ := hrel
    by_cases hlt : k6 < la
    · have hl := left_key (bs F) (bs I) la lb k6 hlt
      have HAS := fun n => has_any (wr.drewN n) _ q la _ _ (F k6) (HQ.drewN n) (SF.out k6 hlt)
      have HIN := fun n => in_any I (F k6) b lb cb lb (wr.drewN n) (by omega) (by omega) (HI1.drewN n)
      rw [show bs F k6 = (F k6).toList from rfl] at hl
      rw [hl] at HAS
      clear hl
      obtain ⟨y, rfl, hy⟩ := HF1 k6 hlt
      generalize inB (bs I) (F k6).toList lb = c at *
      cases c
      all_goals
        simp only [Bool.not_true, Bool.not_false] at HAS
        go_wp2_with fail
        go_quiet (first
          | (go_at_call 20; exact Calls.quiet_of_same (HAS _))
          | (go_at_call 19; exact Calls.quiet_of_same (HIN _)))
        go_wp2_with fail
        go_roundw
        case rel => exact ⟨k6 + 1, by omega, by go_num, HQ.drewN _, HF1.drewN _, HI1.drewN _, Below.drewN k1 _⟩
        case measure => simp [intOf]; omega
    go_wp2_with fail
    clear HF1 hlt hk
    rw [cnt_eq]
    go_loopw [14] (fun i wv => wv = wr ∧ ∃ k : Nat, k ≤ lb ∧ i = .int .i64 k) (fun i _ => lb - (intOf i).toNat)
    case atStart => exact ⟨rfl, 0, Nat.zero_le _, rfl⟩
    case round =>
    obtain ⟨hwr, k7, hk, rfl⟩ := hrel
    by_cases hlt : k7 < lb
    · obtain rfl := hwr
      have hl := left_id (bs F) (bs I) la lb k7 hlt
      have HAS := has_any wr _ q la _ _ (I k7) HQ (SI.out k7 hlt)
      rw [show bs I k7 = (I k7).toList from rfl] at hl
      rw [hl] at HAS
      clear hl
      obtain ⟨y, rfl, hy⟩ := HI1 k7 hlt
      go_wp2_with fail
      refine HAS.mono ?_
      rintro e w2 ⟨rfl, rfl⟩
      go_wp2_with fail
      go_roundw
      case rel => exact ⟨trivial, k7 + 1, by omega, by go_num⟩
      case measure => simp [intOf]; omega
    obtain rfl := hwr.symm
    have hsz : (remL (bs I) (dk (bs F) la) lb).length ≤ 1024 := by
      rw [← cnt_eq]; have := cnt_le (bs F) (bs I) lb la; omega
    generalize remL (bs I) (dk (bs F) la) lb = L at *
    clear hwr HI1
    cases L with
    | nil =>
      go_wp2_with fail
      refine (len_any wr _ q la _ _ HQ).mono ?_
      rintro e w2 ⟨rfl, rfl⟩
      go_wp2_with fail
      refine (isNil_any _ _ q la _ _ HQ).mono ?_
      rintro e w2 ⟨rfl, rfl⟩
      go_wp2_with fail
      go_ret
      exact ⟨rfl, k1⟩
    | cons s L =>
      go_wp2_with fail
      refine (len_any wr _ q la _ _ HQ).mono ?_
      rintro e w2 ⟨rfl, rfl⟩
      go_wp2_with fail
      refine (isNil_any _ _ q la _ _ HQ).mono ?_
      rintro e w2 ⟨rfl, rfl⟩
      go_wp2_with fail
      go_ret
      exact ⟨rfl, k1⟩
end Go.Proofs.Qxb6614239a.Pend
