import Derived.Test.Qxb6614239aRows
import Derived.Maps.OwnSet
namespace Go.Proofs.Qxb6614239a.Pend
open Go.Maps

/-- A string's bytes. -/
abbrev Key := List UInt8

/-- Is x among the first u strings of F? -/
def inB (F : Nat → Key) (x : Key) : Nat → Bool
  | 0 => false
  | k + 1 => inB F x k || F k == x

theorem inB_of {F : Nat → Key} {x : Key} {k u : Nat} (hk : k < u) (h : (F k == x) = true) : inB F x u = true := by
  induction u with
  | zero => omega
  | succ u ih =>
    unfold inB
    by_cases e : k = u
    · subst e; simp [h]
    · simp [ih (by omega)]

/-- A set as a list: x goes in. -/
def addL (L : List Key) (x : Key) : List Key := if L.contains x then L else L ++ [x]
/-- The set of the first k strings of F. -/
def dk (F : Nat → Key) : Nat → List Key
  | 0 => []
  | k + 1 => addL (dk F k) (F k)
/-- x goes out. -/
def subL (L : List Key) (x : Key) : List Key := L.filter (fun y => !(y == x))
/-- The first j strings of I go out. -/
def remL (I : Nat → Key) (L : List Key) : Nat → List Key
  | 0 => L
  | j + 1 => subL (remL I L j) (I j)
/-- How many of the first k strings of F are met there for the first time and are none of the first m of I. -/
def cnt (F I : Nat → Key) (m : Nat) : Nat → Nat
  | 0 => 0
  | k + 1 => cnt F I m k + if inB F (F k) k = false ∧ inB I (F k) m = false then 1 else 0

theorem contains_addL (L : List Key) (x y : Key) : (addL L x).contains y = (L.contains y || x == y) := by
  unfold addL
  split
  · rename_i h
    by_cases e : x = y
    · subst e; simpa using h
    · simp [e]
  · by_cases e : x = y
    · simp [e]
    · have e' : ¬ y = x := fun h => e h.symm
      simp [e, e']

theorem contains_dk (F : Nat → Key) (x : Key) (k : Nat) : (dk F k).contains x = inB F x k := by
  induction k with
  | zero => simp [dk, inB]
  | succ k ih => unfold dk inB; rw [contains_addL, ih]

theorem nodup_addL {L : List Key} (h : L.Nodup) (x : Key) : (addL L x).Nodup := by
  unfold addL
  split
  · exact h
  · rename_i hx
    rw [List.nodup_append]
    refine ⟨h, by simp, fun a ha b hb => ?_⟩
    simp only [List.mem_singleton] at hb
    subst hb
    intro e
    subst e
    exact hx (by simpa using ha)

theorem nodup_dk (F : Nat → Key) (k : Nat) : (dk F k).Nodup := by
  induction k with
  | zero => simp [dk]
  | succ k ih => unfold dk; exact nodup_addL ih _

theorem nodup_subL {L : List Key} (h : L.Nodup) (x : Key) : (subL L x).Nodup := h.sublist List.filter_sublist

theorem contains_subL (L : List Key) (x y : Key) : (subL L x).contains y = (L.contains y && !(y == x)) := by
  rw [Bool.eq_iff_iff]
  simp [subL]

theorem remL_filter (I : Nat → Key) (L : List Key) (j : Nat) : remL I L j = L.filter (fun y => !inB I y j) := by
  induction j with
  | zero => exact (List.filter_eq_self.2 (by simp [inB])).symm
  | succ j ih =>
    unfold remL
    rw [ih]
    unfold subL
    rw [List.filter_filter]
    apply List.filter_congr
    intro y _
    rw [show inB I y (j + 1) = (inB I y j || I j == y) from rfl]
    by_cases e : y = I j
    · simp [e]
    · have e1 : (y == I j) = false := by simpa using e
      have e2 : (I j == y) = false := by simpa using fun h => e h.symm
      rw [e1, e2]; simp

theorem contains_remL (I : Nat → Key) (L : List Key) (j : Nat) (x : Key) : (remL I L j).contains x = (L.contains x && !inB I x j) := by
  rw [remL_filter, Bool.eq_iff_iff]
  simp

theorem cnt_eq (F I : Nat → Key) (m k : Nat) : cnt F I m k = (remL I (dk F k) m).length := by
  rw [remL_filter]
  induction k with
  | zero => simp [cnt, dk]
  | succ k ih =>
    unfold cnt dk addL
    rw [contains_dk, ih]
    cases hF : inB F (F k) k
    · cases hI : inB I (F k) m <;> simp [hI]
    · simp

theorem cnt_le (F I : Nat → Key) (m k : Nat) : cnt F I m k ≤ k := by
  induction k with
  | zero => simp [cnt]
  | succ k ih => unfold cnt; split <;> omega

theorem dk_ne (F : Nat → Key) (k : Nat) (h : 0 < k) : dk F k ≠ [] := by
  obtain ⟨m, rfl⟩ : ∃ m, k = m + 1 := ⟨k - 1, by omega⟩
  intro e
  have := contains_dk F (F m) (m + 1)
  rw [e] at this
  simp [inB] at this

theorem length_subL {L : List Key} (h : L.Nodup) (x : Key) : (subL L x).length + (if L.contains x then 1 else 0) = L.length := by
  induction L with
  | nil => simp [subL]
  | cons a l ih =>
    obtain ⟨h1, h2⟩ := List.nodup_cons.1 h
    have ih := ih h2
    unfold subL at ih ⊢
    by_cases e : a = x
    · subst e
      have hn : l.contains a = false := by simpa using h1
      rw [hn] at ih
      simp only [Bool.false_eq_true, if_false, Nat.add_zero] at ih
      simp [ih]
    · have e1 : (a == x) = false := by simpa using e
      have e2 : (x == a) = false := by simpa using fun h => e h.symm
      rw [List.filter_cons_of_pos (by simp [e1]), List.contains_cons, e2, Bool.false_or, List.length_cons, List.length_cons]
      omega

/-! ### The map as read -/
/-- The map D holds just the keys of L. -/
structure Rel (D : DataW Unit) (L : List Key) : Prop where
  tidy : Tidy D
  nd : L.Nodup
  has : ∀ s : Key, Maps.has D (.string s) = L.contains s
  size : Maps.size D = L.length

theorem isKey (s : Key) : WideAt.IsKeyLit (.string s) := by simp [WideAt.IsKeyLit]

theorem Rel.empty : Rel (.map []) [] := ⟨tidy_empty, by simp, fun _ => rfl, rfl⟩

theorem Rel.put {D : DataW Unit} {L : List Key} (h : Rel D L) (s : Key) (d : DataW Unit) : Rel (D.put (.string s) d) (addL L s) := by
  refine ⟨h.tidy.put (isKey s) d, nodup_addL h.nd s, fun y => ?_, ?_⟩
  · rw [contains_addL]
    by_cases e : y = s
    · subst e
      rw [has_put_same h.tidy.isMap (isKey y)]; simp
    · rw [has_put_other (by simpa using e), h.has]
      have e' : ¬ s = y := fun h => e h.symm
      simp [e']
  · rw [size_put h.tidy, h.has, h.size]
    unfold addL
    split <;> simp

theorem Rel.del {D : DataW Unit} {L : List Key} (h : Rel D L) (s : Key) : Rel (D.del (.string s)) (subL L s) := by
  refine ⟨h.tidy.del _, nodup_subL h.nd s, fun y => ?_, ?_⟩
  · rw [contains_subL]
    by_cases e : y = s
    · subst e
      rw [has_del_same]; simp
    · rw [has_del_other (by simpa using e), h.has]
      simp [e]
  · have h1 := size_del (k := .string s) h.tidy
    have h2 := length_subL h.nd s
    rw [h.has, h.size] at h1
    omega
end Go.Proofs.Qxb6614239a.Pend
