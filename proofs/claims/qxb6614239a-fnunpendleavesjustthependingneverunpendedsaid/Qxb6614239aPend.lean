import Derived.Test.Qxb6614239aPendPlain
import Derived.WalkKit
import Derived.Below
import Derived.Maps.OwnSet
import Derived.WalkSpells
import Derived.Deep.QuietTactic
import Derived.BigQuiet
namespace Go.Proofs.Qxb6614239a.Pend
open Go.RowKit Go.Maps

/-- What the walk is told of a slice of strings. -/
def Strs (w : World) (F : Nat → ByteArray) (a : Option Addr) (len : Nat) : Prop :=
  ∀ k, k < len → ∃ y, a = some y ∧ w.cell? (y.add k) = some (.string (F k))
/-- The strings' bytes. -/
def bs (F : Nat → ByteArray) (k : Nat) : Key := (F k).toList

theorem in_any (F : Nat → ByteArray) (x : ByteArray) (a : Option Addr) (len cap u : Nat) (w : World) (hu : u ≤ len) (hl : len ≤ 1048576) (HF : Strs w F a len) :
    Calls Try.prog 19 #[.slice a len cap, .int .i64 u, .string x] w fun e w' => e = .returned (.bool (inB (bs F) x.toList u)) ∧ w' = w := by
  go_enter Try.func19, Try.ntmps19
  go_wp2
  go_loop [7] (fun i => ∃ k : Nat, k ≤ u ∧ i = .int .i64 k ∧ Hid (inB (bs F) x.toList k = false)) (fun i => u - (intOf i).toNat)
  case atStart => exact ⟨0, Nat.zero_le _, rfl, rfl⟩
  case round =>
    obtain ⟨k, hk, rfl, hno⟩ := hrel
    by_cases hlt : k < u
    · obtain ⟨y, rfl, hy⟩ := HF k (by omega)
      cases hc : ((F k).toList == x.toList) with
      | true =>
        have e1 : Hid (inB (bs F) x.toList u = true) := inB_of hlt hc
        go_wp2
        go_ret
        exact ⟨by rw [e1.out]; rfl, rfl⟩
      | false =>
        have e1 : Hid (inB (bs F) x.toList (k + 1) = false) := by
          show inB (bs F) x.toList (k + 1) = false
          unfold inB
          rw [hno.out]
          simpa [bs] using hc
        go_wp2
        go_round
        case rel => exact ⟨k + 1, by omega, by go_num, e1⟩
        case measure => simp [intOf]; omega
    · obtain rfl : k = u := by omega
      go_wp2
      go_ret
      exact ⟨by rw [hno.out]; rfl, rfl⟩

/-- How an element reads: whatever it is, as nothing. -/
def anyElem (_ : Value) : Option (DataW Unit × List MemPlace) := some (.nil, [])
theorem law : Keyed Try.prog 9 := string_keyed Try.underlying9

/-- A queue lies in block b; its pending map holds just the keys of L; all of it lies from block B on. -/
def Qs (w : World) (B b : Nat) (isNil : Bool) (L : List Key) (N : Nat) : Prop :=
  B ≤ b ∧ w.frozen? ⟨b, 17, none⟩ = false ∧
  ((w.cell? ⟨b, 17, none⟩ = some (.map none) ∧ isNil = true ∧ L = []) ∨
   ∃ bm D, w.cell? ⟨b, 17, none⟩ = some (.map (some bm)) ∧ isNil = false ∧ B ≤ bm ∧ bm ≠ b ∧ w.ownsMap Try.prog 9 anyElem bm N D ∧ Rel D L)

theorem new_any (w : World) : Calls Try.prog 15 #[] w fun e w' => ∃ b, e = .returned (.pointer (some ⟨b, 0, none⟩)) ∧ Qs w' w.heap.size b true [] 0 ∧ Below w.heap.size w w' := by
  go_enter Try.func15, Try.ntmps15
  go_wp2
  go_ret
  exact ⟨_, rfl, ⟨Nat.le_refl _, by simp [go_sem], Or.inl ⟨by simp [go_sem], rfl, rfl⟩⟩, (Below.refl _ w).alloc (Nat.le_refl _) _⟩

theorem lt_of_cell {w : World} {x : Addr} {v : Value} (h : w.cell? x = some v) : x.block < w.heap.size := by
  unfold World.cell? at h
  rcases Nat.lt_or_ge x.block w.heap.size with h' | h'
  · exact h'
  · simp [Array.getElem?_eq_none h'] at h

theorem make_any (w : World) (B b : Nat) (h : Qs w B b true [] 0) (hB : B ≤ w.heap.size) :
    Calls Try.prog 16 #[.pointer (some ⟨b, 0, none⟩)] w fun e w' => e = .returned (.tuple #[]) ∧ Qs w' B b false [] 0 ∧ Below B w w' := by
  obtain ⟨hb, hf, ⟨hc, _, _⟩ | ⟨bm, D, _, hn, _⟩⟩ := h
  · have hlt : b < w.heap.size := lt_of_cell hc
    have hmm := @run_makeMap Try.prog
    go_enter Try.func16, Try.ntmps16
    go_wp2
    go_end0
    have hown := World.ownsMap_made (w.setCell ⟨b, 17, none⟩ (.map (some w.heap.size))) Try.prog 9 anyElem
    rw [show (w.setCell ⟨b, 17, none⟩ (.map (some w.heap.size))).heap.size = w.heap.size by simp [World.setCell]] at hown
    refine ⟨rfl, ⟨hb, ?_, Or.inr ⟨w.heap.size, .map [], ?_, rfl, hB, by omega, hown, Rel.empty⟩⟩, ((Below.refl _ w).setCell hb _).alloc (by simp [World.setCell]; omega) _⟩
    · have k : Below w.heap.size (w.setCell ⟨b, 17, none⟩ (.map (some w.heap.size))) ((w.setCell ⟨b, 17, none⟩ (.map (some w.heap.size))).alloc (.map #[] 0)) := (Below.refl _ _).alloc (by simp [World.setCell]) _
      rw [k.frozen hlt]; simpa using hf
    · have k : Below w.heap.size (w.setCell ⟨b, 17, none⟩ (.map (some w.heap.size))) ((w.setCell ⟨b, 17, none⟩ (.map (some w.heap.size))).alloc (.map #[] 0)) := (Below.refl _ _).alloc (by simp [World.setCell]) _
      rw [k.cell hlt]; exact World.cell?_setCell_same _ _ _ hc
  · cases hn

theorem put_any (w : World) (B b : Nat) (L : List Key) (N : Nat) (s : ByteArray) (h : Qs w B b false L N) (hs : s.size ≤ maxLen) (hN : N < maxLen) (hB : B ≤ w.heap.size) :
    Calls Try.prog 17 #[.pointer (some ⟨b, 0, none⟩), .string s] w fun e w' => e = .returned (.tuple #[]) ∧ Qs w' B b false (addL L s.toList) (N + 1) ∧ Below B w w' := by
  obtain ⟨hb, hf, ⟨_, hn, _⟩ | ⟨bm, D, hc, _, hbm, hne, hown, hrel⟩⟩ := h
  · cases hn
  have hlt : b < w.heap.size := lt_of_cell hc
  have hkey := WideMaps.keyOf_string_mk (P := Try.prog) (k := 9) Try.underlying9 hs
  go_enter Try.func17, Try.ntmps17
  go_wp2_with (at_mapUpdate; refine wpList_mapUpdate_own _ rfl _ _ _ 75 rfl 9 69 law Try.underlying75 anyElem bm N D rfl (hown.alloc _) hN _ _ _ rfl rfl hkey .nil [] rfl ?_; intro w1 hown1 hgrow1)
  go_end0
  have hblk : w1.heap[b]? = w.heap[b]? := (hgrow1.block b (by simp; omega) (by simp; omega)).trans (Below.heap_alloc _ _ _ hlt)
  rw [← ByteArray.toList_eq] at hown1
  refine ⟨rfl, ⟨hb, (World.frozen?_of_block (w := w) hblk).trans hf, Or.inr ⟨bm, _, (World.cell?_of_block (w := w) hblk).trans hc, rfl, hbm, hne, hown1, hrel.put _ _⟩⟩, ?_⟩
  exact ((Below.refl B w).alloc hB _).grown hgrow1 (by simp; omega) (fun k hk => by cases hk; exact hbm)

/-- Behind delete: a cell of another block is as it was. -/
theorem turned_block {w w' : World} {bm b : Nat} (h : w.mapTurned w' bm) (hlt : b < w.heap.size) (hne : bm ≠ b) : w'.heap[b]? = w.heap[b]? :=
  h.grown.block b hlt (by simp; omega)

theorem unpend31_nil (w : World) (B b N : Nat) (s : ByteArray) (hb : B ≤ b) (hf : w.frozen? ⟨b, 17, none⟩ = false) (hc : w.cell? ⟨b, 17, none⟩ = some (.map none)) (hs : s.size ≤ maxLen) :
    Calls Try.prog 31 #[.pointer (some ⟨b, 0, none⟩), .string s] w fun e w' => e = .returned (.tuple #[]) ∧ Qs w' B b true [] N ∧ Below B w w' := by
  have hkey := WideMaps.keyOf_string_mk (P := Try.prog) (k := 9) Try.underlying9 hs
  have hdrop := fun ty => Maps.drop_nil (P := Try.prog) (w := w) law Try.underlying75 hkey ty
  have hlen := fun ty => Maps.len_nil (P := Try.prog) (w := w) Try.underlying75 ty
  clear hkey hs
  go_enter Try.func31, Try.ntmps31
  go_wp2
  go_end0
  exact ⟨rfl, ⟨hb, by simpa using hf, Or.inl ⟨World.cell?_setCell_same _ _ _ hc, rfl, rfl⟩⟩, (Below.refl B w).setCell hb _⟩

theorem unpend31_map (w : World) (B b bm N : Nat) (D : DataW Unit) (L : List Key) (s : ByteArray) (hb : B ≤ b) (hf : w.frozen? ⟨b, 17, none⟩ = false) (hc : w.cell? ⟨b, 17, none⟩ = some (.map (some bm))) (hs : s.size ≤ maxLen)
    (hbm : B ≤ bm) (hne : bm ≠ b) (hown : w.ownsMap Try.prog 9 anyElem bm N D) (hrel : Rel D L) :
    Calls Try.prog 31 #[.pointer (some ⟨b, 0, none⟩), .string s] w fun e w' => e = .returned (.tuple #[]) ∧ Qs w' B b (subL L s.toList).isEmpty (subL L s.toList) N ∧ Below B w w' := by
  have hlt : b < w.heap.size := lt_of_cell hc
  have hkey := WideMaps.keyOf_string_mk (P := Try.prog) (k := 9) Try.underlying9 hs
  have hrel1 := hrel.del s.toList
  rw [ByteArray.toList_eq] at hrel1 ⊢
  have hsz : Hid (Maps.size (D.del (.string s.data.toList)) = (subL L s.data.toList).length) := hrel1.size
  cases he : (subL L s.data.toList).isEmpty with
  | true =>
    have hz : (((Maps.size (D.del (.string s.data.toList)) : Nat) : Int) == 0) = true := by rw [hsz.out]; simpa using he
    have HE : Hid (subL L s.data.toList = []) := List.isEmpty_iff.1 he
    clear he
    go_enter Try.func31, Try.ntmps31
    go_wp2_with (first
      | (at_delete; refine wpList_delete_own _ rfl _ _ 75 9 rfl 69 law Try.underlying75 anyElem bm N D rfl hown _ _ rfl hkey ?_; intro w1 hown1 hturn1
         have hb1 := turned_block hturn1 hlt hne
         have hc1 := (World.cell?_of_block (w := w) hb1).trans hc
         have hf1 := (World.frozen?_of_block (w := w) hb1).trans hf
         clear hb1)
      | (at_len; refine wpList_len_own _ rfl _ 75 rfl 9 69 Try.underlying75 anyElem bm N _ rfl hown1 ?_))
    go_end0
    rw [HE.out]
    exact ⟨rfl, ⟨hb, by simpa using hf1, Or.inl ⟨World.cell?_setCell_same _ _ _ hc1, rfl, rfl⟩⟩, (((Below.refl B w).grown hturn1.grown (by omega) (fun k hk => by cases hk; exact hbm))).setCell hb _⟩
  | false =>
    have hz : (((Maps.size (D.del (.string s.data.toList)) : Nat) : Int) == 0) = false := by
      rw [hsz.out]
      have : (subL L s.data.toList) ≠ [] := by simpa using he
      simpa using this
    clear he
    go_enter Try.func31, Try.ntmps31
    go_wp2_with (first
      | (at_delete; refine wpList_delete_own _ rfl _ _ 75 9 rfl 69 law Try.underlying75 anyElem bm N D rfl hown _ _ rfl hkey ?_; intro w1 hown1 hturn1
         have hb1 := turned_block hturn1 hlt hne
         have hc1 := (World.cell?_of_block (w := w) hb1).trans hc
         have hf1 := (World.frozen?_of_block (w := w) hb1).trans hf
         clear hb1)
      | (at_len; refine wpList_len_own _ rfl _ 75 rfl 9 69 Try.underlying75 anyElem bm N _ rfl hown1 ?_))
    go_end0
    exact ⟨rfl, ⟨hb, hf1, Or.inr ⟨bm, _, hc1, rfl, hbm, hne, hown1, hrel1⟩⟩, (Below.refl B w).grown hturn1.grown (by omega) (fun k hk => by cases hk; exact hbm)⟩

theorem unpend31 (w : World) (B b N : Nat) (L : List Key) (n : Bool) (s : ByteArray) (h : Qs w B b n L N) (hs : s.size ≤ maxLen) :
    Calls Try.prog 31 #[.pointer (some ⟨b, 0, none⟩), .string s] w fun e w' => e = .returned (.tuple #[]) ∧ Qs w' B b (subL L s.toList).isEmpty (subL L s.toList) N ∧ Below B w w' := by
  obtain ⟨hb, hf, ⟨hc, _, rfl⟩ | ⟨bm, D, hc, _, hbm, hne, hown, hrel⟩⟩ := h
  · exact unpend31_nil w B b N s hb hf hc hs
  · exact unpend31_map w B b bm N D L s hb hf hc hs hbm hne hown hrel

theorem unpend_any (w : World) (B b N : Nat) (L : List Key) (n : Bool) (s : ByteArray) (h : Qs w B b n L N) (hs : s.size ≤ maxLen) :
    Calls Try.prog 18 #[.pointer (some ⟨b, 0, none⟩), .string s] w fun e w' => e = .returned (.tuple #[]) ∧ Qs w' B b (subL L s.toList).isEmpty (subL L s.toList) N ∧ Below B w w' := by
  go_enter Try.func18, Try.ntmps18
  go_wp2_with fail
  refine (unpend31 w B b N L n s h hs).mono ?_
  rintro e w' ⟨rfl, h', k⟩
  go_wp2
  go_end0
  exact ⟨rfl, h', k⟩

theorem zero69 (w : World) : (zeroValue 69).run Try.prog w = .ok (.pointer none) w := by kernel_rfl

theorem has_any (w : World) (B b N : Nat) (L : List Key) (n : Bool) (s : ByteArray) (h : Qs w B b n L N) (hs : s.size ≤ maxLen) :
    Calls Try.prog 20 #[.pointer (some ⟨b, 0, none⟩), .string s] w fun e w' => e = .returned (.bool (L.contains s.toList)) ∧ w' = w := by
  have hkey := WideMaps.keyOf_string_mk (P := Try.prog) (k := 9) Try.underlying9 hs
  obtain ⟨hb, hf, ⟨hc, _, rfl⟩ | ⟨bm, D, hc, _, hbm, hne, hown, hrel⟩⟩ := h
  · have hlook := Maps.look_nil (P := Try.prog) (w := w) true law Try.underlying75 (zero69 w) hkey
    clear hkey hs
    go_enter Try.func20, Try.ntmps20
    go_wp2
    go_ret
    exact ⟨by simp, rfl⟩
  · obtain ⟨v, ps, hlook, _⟩ := hown.look_ok law Try.underlying75 (zero69 w) (zd := .nil) (zp := []) rfl hkey
    have hh := hrel.has s.data.toList
    rw [hh, ← ByteArray.toList_eq] at hlook
    clear hkey hs hrel hown hh
    generalize L.contains s.toList = q at *
    go_enter Try.func20, Try.ntmps20
    go_wp2
    go_ret
    exact ⟨rfl, rfl⟩

theorem len_any (w : World) (B b N : Nat) (L : List Key) (n : Bool) (h : Qs w B b n L N) :
    Calls Try.prog 21 #[.pointer (some ⟨b, 0, none⟩)] w fun e w' => e = .returned (.int .i64 L.length) ∧ w' = w := by
  obtain ⟨hb, hf, ⟨hc, _, rfl⟩ | ⟨bm, D, hc, _, hbm, hne, hown, hrel⟩⟩ := h
  · have hlen := fun ty => Maps.len_nil (P := Try.prog) (w := w) Try.underlying75 ty
    go_enter Try.func21, Try.ntmps21
    go_wp2
    go_ret
    exact ⟨rfl, rfl⟩
  · have hlen := fun ty => hown.len (t := 75) (e := 69) Try.underlying75 ty
    rw [hrel.size] at hlen
    clear hown hrel
    generalize L.length = q at *
    go_enter Try.func21, Try.ntmps21
    go_wp2
    go_ret
    exact ⟨rfl, rfl⟩

theorem isNil_any (w : World) (B b N : Nat) (L : List Key) (n : Bool) (h : Qs w B b n L N) :
    Calls Try.prog 22 #[.pointer (some ⟨b, 0, none⟩)] w fun e w' => e = .returned (.bool n) ∧ w' = w := by
  obtain ⟨hb, hf, ⟨hc, rfl, rfl⟩ | ⟨bm, D, hc, rfl, hbm, hne, hown, hrel⟩⟩ := h
  · have hq : (binOp .eql 75 (.map none) (.map none)).run Try.prog w = .ok (.bool true) w := run_eql_map_nil w 75 9 69 none Try.underlying75
    go_enter Try.func22, Try.ntmps22
    go_wp2
    go_ret
    exact ⟨rfl, rfl⟩
  · have hq : (binOp .eql 75 (.map (some bm)) (.map none)).run Try.prog w = .ok (.bool false) w := run_eql_map_nil w 75 9 69 (some bm) Try.underlying75
    clear hown hrel
    go_enter Try.func22, Try.ntmps22
    go_wp2
    go_ret
    exact ⟨rfl, rfl⟩
end Go.Proofs.Qxb6614239a.Pend
