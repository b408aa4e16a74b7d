import Derived.Test.Qxb6614239aChain
namespace Go.Proofs.Qxb6614239a.Cover
open Go.RowKit

theorem info94 : (Try.prog.info? 94).map (fun i => (i.zero, i.size, i.bytes)) = some (some (.agg #[.pointer none, .int .u64 0, .int .i64 0, .int .u64 0, .int .i64 0, .int .i64 0, .int .i64 0, .int .i64 0, .int .u8 0, .int .i64 0]), 10, 80) := by kernel_rfl

/-- A span's cells. -/
def cellsOf (f c af ac : Int) : List Value := [.pointer none, .int .u64 f, .int .i64 c, .int .u64 af, .int .i64 ac, .int .i64 0, .int .i64 0, .int .i64 0, .int .u8 0, .int .i64 0]
/-- The first n spans' cells. -/
def rowsOf (F C AF AC : Nat → Int) : Nat → List Value
  | 0 => []
  | n + 1 => rowsOf F C AF AC n ++ cellsOf (F n) (C n) (AF n) (AC n)

/-- The queue lies in block b, its spans' slice is v, from block b + 1 on. -/
structure Cq (w : World) (B b : Nat) (v : Value) (base last acked : Int) (F C AF AC : Nat → Int) (n : Nat) : Prop where
  hb : B ≤ b
  lt : b < w.heap.size
  sp : w.cell? ⟨b, 1, none⟩ = some v
  fz : w.frozen? ⟨b, 1, none⟩ = false
  c5 : w.cell? ⟨b, 5, none⟩ = some (.int .u64 base)
  c6 : w.cell? ⟨b, 6, none⟩ = some (.int .u64 last)
  c7 : w.cell? ⟨b, 7, none⟩ = some (.int .i64 acked)
  own : w.ownsRow (b + 1) 94 10 v n (rowsOf F C AF AC n)

theorem new_any (base last acked : Int) (F C AF AC : Nat → Int) (w : World) :
    Calls Try.prog 24 #[.int .u64 base, .int .u64 last, .int .i64 acked] w fun e w' => ∃ b, e = .returned (.pointer (some ⟨b, 0, none⟩)) ∧ Cq w' w.heap.size b (.slice none 0 0) base last acked F C AF AC 0 ∧ Below w.heap.size w w' := by
  go_enter Try.func24, Try.ntmps24
  go_wp2
  go_ret
  exact ⟨_, rfl, ⟨Nat.le_refl _, by simp, by simp [go_sem], by simp [go_sem], by simp [go_sem], by simp [go_sem], by simp [go_sem], ⟨rfl, Or.inl ⟨rfl, rfl⟩⟩⟩, (Below.refl _ w).alloc (Nat.le_refl _) _⟩

theorem add_any (w : World) (B b : Nat) (v : Value) (base last acked : Int) (F C AF AC : Nat → Int) (n : Nat) (h : Cq w B b v base last acked F C AF AC n) (hn : n < 1024) (hB : B ≤ w.heap.size) :
    Calls Try.prog 25 #[.pointer (some ⟨b, 0, none⟩), .int .u64 (F n), .int .i64 (C n), .int .u64 (AF n), .int .i64 (AC n)] w fun e w' => e = .returned (.tuple #[]) ∧ (∃ v', Cq w' B b v' base last acked F C AF AC (n + 1)) ∧ Below B w w' := by
  obtain ⟨hb, lt, sp, fz, c5, c6, c7, own⟩ := h
  obtain ⟨i0, hi, hz0, hz1, hz2⟩ := info_parts info94
  have hc1 : ∀ o, (w.alloc o).cell? ⟨b, 1, none⟩ = some v := fun o => (Below.cell ((Below.refl w.heap.size w).alloc (Nat.le_refl _) o) lt).trans sp
  go_enter Try.func25, Try.ntmps25
  go_wp2_with (at_builtin; refine wpList_append_own _ rfl (.tmp 14) (.tmp 20) 66 rfl (b + 1) 94 i0 _ 10 80 Try.underlying66 hi hz0 hz1 hz2 rfl (by decide) v n (rowsOf F C AF AC n) rfl (own.alloc _) ⟨w.heap.size, 0, none⟩ 1 1 (cellsOf (F n) (C n) (AF n) (AC n)) rfl rfl ?c1 ?c2 ?c3 ?c4 ?c5 ?_)
  case c1 =>
    intro j u hj
    rw [show (⟨w.heap.size, 0, none⟩ : Addr).add j = ⟨w.heap.size, j, none⟩ by unfold Addr.add; split <;> simp_all]
    simpa [cellsOf, go_sem] using hj
  case c2 =>
    intro u hu
    simp only [cellsOf, List.mem_cons, List.not_mem_nil, or_false] at hu
    rcases hu with rfl | rfl | rfl | rfl | rfl | rfl | rfl | rfl | rfl | rfl <;> rfl
  case c3 => unfold maxLen; omega
  case c4 => omega
  case c5 => simp; omega
  intro v' w1 hown hgrow _
  have hblk : w1.heap[b]? = w.heap[b]? := by
    refine (hgrow.block b (by simp; omega) ?_).trans (Below.heap_alloc _ _ _ lt)
    rcases own.2 with ⟨rfl, _⟩ | ⟨g, cap, cur, rfl, hg, _⟩
    · simp [Value.ownBlock]
    · simp [Value.ownBlock]; omega
  have bel : Below B w w1 := by
    refine ((Below.refl B w).alloc hB _).grown hgrow (by simp; omega) (fun k hk => ?_)
    rcases own.2 with ⟨rfl, _⟩ | ⟨g, cap, cur, rfl, hg, _⟩
    · simp [Value.ownBlock] at hk
    · simp [Value.ownBlock] at hk; omega
  have sp1 := (World.cell?_of_block (w := w) (a := ⟨b, 1, none⟩) hblk).trans sp
  have fz1 := (World.frozen?_of_block (w := w) (a := ⟨b, 1, none⟩) hblk).trans fz
  have d5 := (World.cell?_of_block (w := w) (a := ⟨b, 5, none⟩) hblk).trans c5
  have d6 := (World.cell?_of_block (w := w) (a := ⟨b, 6, none⟩) hblk).trans c6
  have d7 := (World.cell?_of_block (w := w) (a := ⟨b, 7, none⟩) hblk).trans c7
  have lt1 : b < w1.heap.size := lt_of_cell sp1
  have hown2 := hown
  obtain ⟨_, ⟨_, h0⟩ | ⟨g, cap, cur, rfl, hg, _⟩⟩ := hown2
  · omega
  clear own sp fz c5 c6 c7 hc1 hblk hgrow
  go_wp2
  go_end0
  refine ⟨rfl, ⟨_, hb, by simpa [World.setCell] using lt1, World.cell?_setCell_same _ _ _ sp1, by simpa using fz1, ?_, ?_, ?_, ?_⟩, bel.setCell hb _⟩
  · rw [World.cell?_setCell_other _ _ _ _ (by simp)]; exact d5
  · rw [World.cell?_setCell_other _ _ _ _ (by simp)]; exact d6
  · rw [World.cell?_setCell_other _ _ _ _ (by simp)]; exact d7
  · exact ownsRow_setCell_below hown (by simp) _
end Go.Proofs.Qxb6614239a.Cover
