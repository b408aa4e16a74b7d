import Derived.Test.Qxb6614239aRows
namespace Go.Proofs.Qxb6614239a.Cover

/-! The plain law: ranges f k .. f k + c k - 1 (k = 0, 1, ..; empty where c k ≤ 0), from s on. -/
section
variable (f c : Nat → Int) (s : Int)

/-- spansCover's own reckoning: how far the first k ranges reach; none: one began too late. -/
def nx : Nat → Option Int
  | 0 => some s
  | k + 1 => match nx k with
    | none => none
    | some x => if 0 < c k ∧ x < f k + c k then (if x < f k then none else some (f k + c k)) else some x

/-- zzChainCovers's: the greatest end. -/
def top : Nat → Int
  | 0 => s
  | k + 1 => if 0 < c k ∧ top k < f k + c k then f k + c k else top k

/-- Does one of the first k ranges hold x? -/
def holds (x : Int) : Nat → Bool
  | 0 => false
  | k + 1 => holds x k || decide (0 < c k ∧ f k ≤ x ∧ x < f k + c k)

/-- Did each of the first k ranges begin at s or below, or just behind a place that an earlier one holds? -/
def ok : Nat → Bool
  | 0 => true
  | k + 1 => ok k && (decide (c k ≤ 0) || decide (f k ≤ s) || holds f c (f k - 1) k)
end

variable {f c : Nat → Int} {s : Int}

theorem nx_none_mono {k n : Nat} (h : k ≤ n) (hk : nx f c s k = none) : nx f c s n = none := by
  induction n with
  | zero => obtain rfl : k = 0 := by omega
            exact hk
  | succ n ih =>
    by_cases e : k = n + 1
    · subst e; exact hk
    · unfold nx; rw [ih (by omega)]

theorem ok_mono {k n : Nat} (h : k ≤ n) (hn : ok f c s n = true) : ok f c s k = true := by
  induction n with
  | zero => obtain rfl : k = 0 := by omega
            exact hn
  | succ n ih =>
    by_cases e : k = n + 1
    · subst e; exact hn
    · unfold ok at hn
      exact ih (by omega) (by simp at hn; exact hn.1)

theorem holds_iff (x : Int) (n : Nat) : holds f c x n = true ↔ ∃ k, k < n ∧ 0 < c k ∧ f k ≤ x ∧ x < f k + c k := by
  induction n with
  | zero => simp [holds]
  | succ n ih =>
    unfold holds
    rw [Bool.or_eq_true, ih]
    constructor
    · rintro (⟨k, hk, h⟩ | h)
      · exact ⟨k, by omega, h⟩
      · exact ⟨n, by omega, of_decide_eq_true h⟩
    · rintro ⟨k, hk, h⟩
      by_cases e : k = n
      · subst e; exact Or.inr (decide_eq_true h)
      · exact Or.inl ⟨k, by omega, h⟩

theorem top_ge (n : Nat) : s ≤ top f c s n := by
  induction n with
  | zero => exact Int.le_refl _
  | succ n ih => unfold top; split <;> omega

theorem top_ends (n : Nat) : ∀ k, k < n → 0 < c k → f k + c k ≤ top f c s n := by
  induction n with
  | zero => intro k hk; omega
  | succ n ih =>
    intro k hk hc
    unfold top
    by_cases e : k = n
    · subst e; split <;> omega
    · have := ih k (by omega) hc
      split <;> omega

/-- The whole law: what spansCover reckons is what zzChainCovers reckons; and all that lies between s and the end is held. -/
theorem nx_eq (n : Nat) : (ok f c s n = true → nx f c s n = some (top f c s n) ∧ ∀ y, s ≤ y → y < top f c s n → holds f c y n = true) ∧ (ok f c s n = false → nx f c s n = none) := by
  induction n with
  | zero => exact ⟨fun _ => ⟨rfl, fun y h1 h2 => by simp [top] at h2; omega⟩, fun h => by simp [ok] at h⟩
  | succ n ih =>
    cases hn : ok f c s n with
    | false =>
      refine ⟨fun h => ?_, fun _ => ?_⟩
      · have := ok_mono (Nat.le_succ n) h
        rw [hn] at this; cases this
      · unfold nx; rw [ih.2 hn]
    | true =>
      obtain ⟨h1, h2⟩ := ih.1 hn
      have ht := top_ge (f := f) (c := c) (s := s) n
      have he := top_ends (f := f) (c := c) (s := s) n
      have hnx : nx f c s (n + 1) = if 0 < c n ∧ top f c s n < f n + c n then (if top f c s n < f n then none else some (f n + c n)) else some (top f c s n) := by
        show (match nx f c s n with | none => none | some x => if 0 < c n ∧ x < f n + c n then (if x < f n then none else some (f n + c n)) else some x) = _
        rw [h1]
      have htop : top f c s (n + 1) = if 0 < c n ∧ top f c s n < f n + c n then f n + c n else top f c s n := rfl
      have hok : ok f c s (n + 1) = (decide (c n ≤ 0) || decide (f n ≤ s) || holds f c (f n - 1) n) := by
        show (ok f c s n && _) = _
        rw [hn]; simp
      have hho : ∀ y, holds f c y (n + 1) = (holds f c y n || decide (0 < c n ∧ f n ≤ y ∧ y < f n + c n)) := fun y => rfl
      rw [hnx, htop, hok]
      by_cases hc : c n ≤ 0
      · rw [if_neg (by omega), if_neg (by omega)]
        refine ⟨fun _ => ⟨rfl, fun y hy1 hy2 => ?_⟩, fun h => ?_⟩
        · rw [hho, h2 y hy1 hy2]; rfl
        · simp [hc] at h
      have hcd : decide (c n ≤ 0) = false := by simpa using hc
      rw [hcd, Bool.false_or]
      by_cases hft : f n ≤ top f c s n
      · have hyes : (decide (f n ≤ s) || holds f c (f n - 1) n) = true := by
          by_cases hs : f n ≤ s
          · simp [hs]
          · rw [h2 (f n - 1) (by omega) (by omega)]; simp
        rw [hyes]
        refine ⟨fun _ => ⟨?_, fun y hy1 hy2 => ?_⟩, fun h => (by cases h)⟩
        · by_cases he2 : top f c s n < f n + c n
          · have hq : 0 < c n ∧ top f c s n < f n + c n := ⟨by omega, he2⟩
            have hq2 : ¬ top f c s n < f n := by omega
            simp only [hq, hq2, if_true, if_false, and_self]
          · have hq : ¬ (0 < c n ∧ top f c s n < f n + c n) := by omega
            simp only [hq, if_false]
        · rw [hho]
          by_cases hy3 : y < top f c s n
          · rw [h2 y hy1 hy3]; rfl
          · have hd : decide (0 < c n ∧ f n ≤ y ∧ y < f n + c n) = true := by
              apply decide_eq_true
              split at hy2
              · exact ⟨by omega, by omega, hy2⟩
              · omega
            rw [hd]; simp
      · have hno : (decide (f n ≤ s) || holds f c (f n - 1) n) = false := by
          have h3 : ¬ f n ≤ s := by omega
          have h4 : holds f c (f n - 1) n = false := by
            cases hh : holds f c (f n - 1) n with
            | false => rfl
            | true =>
              obtain ⟨k, hk, hck, _, hlt⟩ := (holds_iff _ _).1 hh
              have := he k hk hck
              omega
          simp [h3, h4]
        rw [hno]
        refine ⟨fun h => (by cases h), fun _ => ?_⟩
        have hq : 0 < c n ∧ top f c s n < f n + c n := ⟨by omega, by omega⟩
        have hq2 : top f c s n < f n := by omega
        simp only [hq, hq2, if_true, and_self]

/-- What spansCover answers. -/
def covers (f c af ac : Nat → Int) (s l h : Int) (n : Nat) : Bool :=
  match nx f c s n, nx af ac s n with
  | some x, some y => x == l && y == h
  | _, _ => false

/-- What zzChainCovers answers. -/
def chain (f c : Nat → Int) (s l : Int) (n : Nat) : Bool := ok f c s n && top f c s n == l

theorem covers_eq (f c af ac : Nat → Int) (s l h : Int) (n : Nat) : covers f c af ac s l h n = (chain f c s l n && chain af ac s h n) := by
  have h1 := nx_eq (f := f) (c := c) (s := s) n
  have h2 := nx_eq (f := af) (c := ac) (s := s) n
  unfold covers chain
  cases o1 : ok f c s n
  · rw [h1.2 o1]; simp
  · rw [(h1.1 o1).1]
    cases o2 : ok af ac s n
    · rw [h2.2 o2]; simp
    · rw [(h2.1 o2).1]; simp
end Go.Proofs.Qxb6614239a.Cover
