import Derived.Test.Qxb6614239aPend
namespace Go.Proofs.Qxb6614239a.Pend
open Go.RowKit Go.Maps

set_option maxHeartbeats 800000 in
theorem bytes_any (F I : Nat → ByteArray) (a b : Option Addr) (la ca lb cb : Nat) (w : World) (HF : Strs w F a la) (HI : Strs w I b lb) :
    Calls Try.prog 14 #[.slice a la ca, .slice b lb cb] w fun e w' => (∃ r, e = .returned (.bool r)) ∧ w' = w := by
  by_cases h1 : 1048576 < la
  · go_enter Try.func14, Try.ntmps14
    go_wp2
    go_ret
    exact ⟨⟨_, rfl⟩, rfl⟩
  have h1' : la ≤ 1048576 := by omega
  clear h1
  go_enter Try.func14, Try.ntmps14
  go_wp2
  go_loopw [5, 6] (fun t i wr => wr = w ∧ ∃ (k : Nat) (z : Int), k ≤ la ∧ i = .int .i64 k ∧ t = .int .i64 z) (fun _ i _ => la - (intOf i).toNat)
  case atStart => exact ⟨rfl, 0, _, Nat.zero_le _, rfl, rfl⟩
  case round =>
    obtain ⟨rfl, k, z, hk, rfl, rfl⟩ := hrel
    by_cases hlt : k < la
    · obtain ⟨y, rfl, hy⟩ := HF k hlt
      go_wp2
      all_goals first
        | (go_ret; exact ⟨⟨_, rfl⟩, rfl⟩)
        | (go_roundw
           case rel => exact ⟨trivial, k + 1, _, by omega, by go_num, rfl⟩
           case measure => simp [intOf]; omega)
    · clear HF
      by_cases h2 : 1048576 < lb
      · go_wp2
        go_ret
        exact ⟨⟨_, rfl⟩, rfl⟩
      have h2' : lb ≤ 1048576 := by omega
      clear h2
      by_cases h3 : 1048576 < wrap64 (z + lb)
      · go_wp2
        go_ret
        exact ⟨⟨_, rfl⟩, rfl⟩
      have h3' : wrap64 (z + lb) ≤ 1048576 := by omega
      clear h3
      go_wp2
      go_loopw [5, 7] (fun t i wv => wv = wr ∧ ∃ (k : Nat) (z : Int), k ≤ lb ∧ i = .int .i64 k ∧ t = .int .i64 z) (fun _ i _ => lb - (intOf i).toNat)
      case atStart => exact ⟨rfl, 0, _, Nat.zero_le _, rfl, rfl⟩
      case round =>
        clear h3'
        obtain ⟨rfl, j, z, hj, rfl, rfl⟩ := hrel
        by_cases hlt : j < lb
        · obtain ⟨y, rfl, hy⟩ := HI j hlt
          go_wp2
          all_goals first
            | (go_ret; exact ⟨⟨_, rfl⟩, rfl⟩)
            | (go_roundw
               case rel => exact ⟨trivial, j + 1, _, by omega, by go_num, rfl⟩
               case measure => simp [intOf]; omega)
        · go_wp2
          go_ret
          exact ⟨⟨_, rfl⟩, rfl⟩
end Go.Proofs.Qxb6614239a.Pend
