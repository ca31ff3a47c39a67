/-
  The two closures of LawS2820AExact that append to a captured slice (functions 9 and 10), by contracts of their own.
-/
import Derived.Test.YbulkbfjmRows
import Derived.WalkKit
import Derived.WalkLawsBesides
import Derived.Laws.EntriesVeiled
namespace Go.Proofs.Ybulkbfjm
open Go.RowKit

theorem hide {p : Prop} (h : p) : Hid p := h

theorem Yba.info3 : (Yba.prog.info? 3).map (fun i => (i.zero, i.size, i.bytes)) = some (some (.int .i64 0), 1, 8) := by kernel_rfl

/-- A captured variable of type []int in block b, whose slice owns the numbers xs in blocks from 'base' on. -/
def Log (w : World) (base b : Nat) (v : Value) (xs : List Int) : Prop :=
  w.heap[b]? = some (.cells #[v] 22 (0, 0)) ∧ w.ownsRow base 3 1 v xs.length (xs.map (Value.int .i64))

/-- What a call has left alone: all blocks but 'b' and the row of 'v'. -/
structure But (w w' : World) (b : Nat) (v : Value) : Prop where
  os : w'.os = w.os
  tape : w'.tape = w.tape
  output : w'.output = w.output
  size : w.heap.size ≤ w'.heap.size
  block : ∀ k, k < w.heap.size → k ≠ b → some k ≠ v.ownBlock → w'.heap[k]? = w.heap[k]?

/-- Behind an append to the captured slice and the store of what it gave. -/
theorem log_step {w w1 : World} {base b : Nat} {v v' : Value} {xs news : List Int} {o : Obj} (hb : b < base) (hlt : base ≤ w.heap.size) (hv : w.heap[b]? = some (.cells #[v] 22 (0, 0))) (hown : w.ownsRow base 3 1 v xs.length (xs.map (Value.int .i64)))
    (h1 : w1.ownsRow base 3 1 v' (xs.length + news.length) (xs.map (Value.int .i64) ++ news.map (Value.int .i64))) (hg : (w.alloc o).grownBy w1 v.ownBlock) :
    Log (w1.setCell ⟨b, 0, none⟩ v') base b v' (xs ++ news) ∧ But w (w1.setCell ⟨b, 0, none⟩ v') b v := by
  have hvb : some b ≠ v.ownBlock := fun e => by have := (hown.lt b e.symm).1; omega
  have hv1 : w1.heap[b]? = some (.cells #[v] 22 (0, 0)) := (hg.block b (by simp; omega) hvb).trans ((Below.heap_alloc _ _ _ (by omega)).trans hv)
  refine ⟨⟨one_setCell hv1, ?_⟩, ⟨hg.os, hg.tape, hg.output, ?_, ?_⟩⟩
  · have := ownsRow_setCell_below h1 (a := ⟨b, 0, none⟩) hb v'
    simpa [List.map_append] using this
  · have := hg.size
    simp at this
    simp [World.setCell]; omega
  · intro k hk hkb hkv
    rw [Below.heap_setCell _ _ _ _ hkb, hg.block k (by simp; omega) hkv, Below.heap_alloc _ _ _ hk]

theorem slice_shape {w : World} {base : Nat} {e : TypeId} {size : Nat} {v : Value} {n : Nat} {xs : List Value} (h : w.ownsRow base e size v n xs) : ∃ p l c, v = .slice p l c := by
  rcases h.2 with ⟨h, _⟩ | ⟨g, cap, cur, h, _⟩
  · exact ⟨_, _, _, h⟩
  · exact ⟨_, _, _, h⟩

theorem log_cell {w1 w : World} {base b : Nat} {v : Value} {xs : List Int} {o : Obj} (hb : b < base) (hlt : base ≤ w.heap.size) (hv : w.heap[b]? = some (.cells #[v] 22 (0, 0))) (hown : w.ownsRow base 3 1 v xs.length (xs.map (Value.int .i64)))
    (hg : (w.alloc o).grownBy w1 v.ownBlock) : w1.heap[b]? = some (.cells #[v] 22 (0, 0)) := by
  have hvb : some b ≠ v.ownBlock := fun e => by have := (hown.lt b e.symm).1; omega
  exact (hg.block b (by simp; omega) hvb).trans ((Below.heap_alloc _ _ _ (by omega)).trans hv)

set_option maxHeartbeats 800000 in
set_option maxRecDepth 100000 in
theorem key_any (base b : Nat) (v : Value) (xs : List Int) (x : Int) (w : World) (hb : b < base) (hbase : base ≤ w.heap.size) (hn : xs.length ≤ 10) (h : Log w base b v xs) :
    Calls Yba.prog 9 #[.int .i64 x, .pointer (some ⟨b, 0, none⟩)] w fun e w' => e = .returned (.int .i64 (bits .xor .i64 x 42)) ∧ ∃ v', Log w' base b v' (xs ++ [x]) ∧ But w w' b v := by
  obtain ⟨hv, hown⟩ := h
  have cV := cell_of_one hv
  have fV := free_of_one hv
  obtain ⟨i0, hi, hz0, hz1, hz2⟩ := info_parts Yba.info3
  go_enter Yba.func9, Yba.ntmps9
  go_wp2_with (at_builtin; refine wpList_append_own _ rfl _ _ 22 rfl base 3 i0 (.int .i64 0) 1 8 Yba.underlying22 hi hz0 hz1 hz2 rfl (by decide) _ _ _ rfl (hown.alloc _) ⟨w.heap.size, 0, none⟩ 1 1 [.int .i64 x] rfl rfl ?c1 ?c2 ?c3 ?c4 ?c5 ?_)
  case c1 =>
    intro j u hj
    match j, hj with
    | 0, hj => simp at hj; subst hj; simp [Addr.add]
  case c2 => intro u hu; simp at hu; subst hu; rfl
  case c3 => unfold maxLen; omega
  case c4 => omega
  case c5 => simp; omega
  intro v' w1 hown' hgrow _
  obtain ⟨p', l', c', rfl⟩ := slice_shape hown'
  have hv1 := log_cell hb hbase hv hown hgrow
  have hstep := log_step (news := [x]) hb hbase hv hown hown' hgrow
  have HS := hide hstep
  have cV1 := cell_of_one hv1
  have fV1 := free_of_one hv1
  clear hown' hgrow hv1 hv hown cV fV hstep
  go_wp2
  go_ret
  exact ⟨rfl, _, HS.out⟩

set_option maxHeartbeats 800000 in
set_option maxRecDepth 100000 in
theorem cmp_any (base b : Nat) (v : Value) (xs : List Int) (x y : Int) (w : World) (hb : b < base) (hbase : base ≤ w.heap.size) (hn : xs.length ≤ 10) (h : Log w base b v xs) :
    Calls Yba.prog 10 #[.int .i64 x, .int .i64 y, .pointer (some ⟨b, 0, none⟩)] w fun e w' => e = .returned (.int .i64 (wrap64 (x - wrap64 (2 * y)))) ∧ ∃ v', Log w' base b v' (xs ++ [x, y]) ∧ But w w' b v := by
  obtain ⟨hv, hown⟩ := h
  have cV := cell_of_one hv
  have fV := free_of_one hv
  obtain ⟨i0, hi, hz0, hz1, hz2⟩ := info_parts Yba.info3
  go_enter Yba.func10, Yba.ntmps10
  go_wp2_with (at_builtin; refine wpList_append_own _ rfl _ _ 22 rfl base 3 i0 (.int .i64 0) 1 8 Yba.underlying22 hi hz0 hz1 hz2 rfl (by decide) _ _ _ rfl (hown.alloc _) ⟨w.heap.size, 0, none⟩ 2 2 [.int .i64 x, .int .i64 y] rfl rfl ?c1 ?c2 ?c3 ?c4 ?c5 ?_)
  case c1 =>
    intro j u hj
    match j, hj with
    | 0, hj => simp at hj; subst hj; simp [Addr.add]
    | 1, hj => simp at hj; subst hj; simp [Addr.add]
  case c2 => intro u hu; simp at hu; rcases hu with rfl | rfl <;> rfl
  case c3 => unfold maxLen; omega
  case c4 => omega
  case c5 => simp; omega
  intro v' w1 hown' hgrow _
  obtain ⟨p', l', c', rfl⟩ := slice_shape hown'
  have hv1 := log_cell hb hbase hv hown hgrow
  have hstep := log_step (news := [x, y]) hb hbase hv hown hown' hgrow
  have HS := hide hstep
  have cV1 := cell_of_one hv1
  have fV1 := free_of_one hv1
  clear hown' hgrow hv1 hv hown cV fV hstep
  go_wp2
  go_ret
  exact ⟨rfl, _, HS.out⟩
end Go.Proofs.Ybulkbfjm
