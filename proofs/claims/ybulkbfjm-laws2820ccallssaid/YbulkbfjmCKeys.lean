/-
  The counting closures of LawS2820CCalls (33, 34, 35) by contracts.
-/
import Derived.Test.YbulkbfjmStrs
namespace Go.Proofs.Ybulkbfjm
open Go.RowKit
set_option linter.unusedVariables false

/-- The four variables of LawS2820CCalls that its closures write: blocks b (k0), b+1 (k1), b+2 (r), b+3 (argsOK); of the blocks of w0 all others are as they were. -/
structure CC (w0 : World) (b : Nat) (n0 n1 nr : Int) (ok : Bool) (w : World) : Prop where
  c0 : w.heap[b]? = some (.cells #[.int .i64 n0] 3 (0, 0))
  c1 : w.heap[b + 1]? = some (.cells #[.int .i64 n1] 3 (0, 0))
  cr : w.heap[b + 1 + 1]? = some (.cells #[.int .i64 nr] 3 (0, 0))
  co : w.heap[b + 1 + 1 + 1]? = some (.cells #[.bool ok] 4 (0, 0))
  os : w.os = w0.os
  tape : w.tape = w0.tape
  output : w.output = w0.output
  size : w0.heap.size ≤ w.heap.size
  block : ∀ k, k < w0.heap.size → (k < b ∨ b + 3 < k) → w.heap[k]? = w0.heap[k]?

theorem CC.drew {w0 w : World} {b : Nat} {n0 n1 nr : Int} {ok : Bool} (h : CC w0 b n0 n1 nr ok w) : CC w0 b n0 n1 nr ok w.drew := ⟨h.c0, h.c1, h.cr, h.co, h.os, h.tape, h.output, h.size, h.block⟩

theorem CC.alloc {w0 w : World} {b : Nat} {n0 n1 nr : Int} {ok : Bool} (h : CC w0 b n0 n1 nr ok w) (o : Obj) : CC w0 b n0 n1 nr ok (w.alloc o) := by
  have l0 := lt_of_block h.c0
  have l1 := lt_of_block h.c1
  have l2 := lt_of_block h.cr
  have l3 := lt_of_block h.co
  have hs := h.size
  exact ⟨(Below.heap_alloc _ _ _ l0).trans h.c0, (Below.heap_alloc _ _ _ l1).trans h.c1, (Below.heap_alloc _ _ _ l2).trans h.cr, (Below.heap_alloc _ _ _ l3).trans h.co, h.os, h.tape, h.output, by simp; omega, fun k hk hb => (Below.heap_alloc _ _ _ (by omega)).trans (h.block k hk hb)⟩

/-- Behind blocks that were laid ahead of it. -/
theorem CC.base {w0 w1 w : World} {b : Nat} {n0 n1 nr : Int} {ok : Bool} (h : CC w1 b n0 n1 nr ok w) (hb : Below w0.heap.size w0 w1) : CC w0 b n0 n1 nr ok w := by
  have hs := hb.size
  exact ⟨h.c0, h.c1, h.cr, h.co, h.os.trans hb.os, h.tape.trans hb.tape, h.output.trans hb.output, Nat.le_trans hb.size h.size, fun k hk hkb => (h.block k (by omega) hkb).trans (hb.block k hk)⟩
theorem CC.over {w0 w1 : World} {b : Nat} {n0 n1 nr : Int} {ok : Bool} (h : CC w0 b n0 n1 nr ok w1) : CC w1 b n0 n1 nr ok w1 := ⟨h.c0, h.c1, h.cr, h.co, rfl, rfl, rfl, Nat.le_refl _, fun _ _ _ => rfl⟩

theorem CC.cell {w0 w : World} {b : Nat} {n0 n1 nr : Int} {ok : Bool} (h : CC w0 b n0 n1 nr ok w) {k o : Nat} {u : Value} (hk : k < b ∨ b + 3 < k) (hu : w0.cell? ⟨k, o, none⟩ = some u) : w.cell? ⟨k, o, none⟩ = some u :=
  (World.cell?_of_block (h.block k (World.block_lt_of_cell? w0 _ hu) hk)).trans hu

theorem size_setCell (w : World) (a : Addr) (u : Value) : (w.setCell a u).heap.size = w.heap.size := by simp [World.setCell]

theorem CC.set0 {w0 w : World} {b : Nat} {n0 n1 nr : Int} {ok : Bool} (h : CC w0 b n0 n1 nr ok w) (m : Int) : CC w0 b m n1 nr ok (w.setCell ⟨b, 0, none⟩ (.int .i64 m)) :=
  ⟨one_setCell h.c0, (Below.heap_setCell _ _ _ _ (by show b + 1 ≠ b; omega)).trans h.c1, (Below.heap_setCell _ _ _ _ (by show b + 1 + 1 ≠ b; omega)).trans h.cr, (Below.heap_setCell _ _ _ _ (by show b + 1 + 1 + 1 ≠ b; omega)).trans h.co,
    h.os, h.tape, h.output, by rw [size_setCell]; exact h.size, fun k hk hb => (Below.heap_setCell _ _ _ _ (by show k ≠ b; omega)).trans (h.block k hk hb)⟩
theorem CC.set1 {w0 w : World} {b : Nat} {n0 n1 nr : Int} {ok : Bool} (h : CC w0 b n0 n1 nr ok w) (m : Int) : CC w0 b n0 m nr ok (w.setCell ⟨b + 1, 0, none⟩ (.int .i64 m)) :=
  ⟨(Below.heap_setCell _ _ _ _ (by show b ≠ b + 1; omega)).trans h.c0, one_setCell h.c1, (Below.heap_setCell _ _ _ _ (by show b + 1 + 1 ≠ b + 1; omega)).trans h.cr, (Below.heap_setCell _ _ _ _ (by show b + 1 + 1 + 1 ≠ b + 1; omega)).trans h.co,
    h.os, h.tape, h.output, by rw [size_setCell]; exact h.size, fun k hk hb => (Below.heap_setCell _ _ _ _ (by show k ≠ b + 1; omega)).trans (h.block k hk hb)⟩
theorem CC.set2 {w0 w : World} {b : Nat} {n0 n1 nr : Int} {ok : Bool} (h : CC w0 b n0 n1 nr ok w) (m : Int) : CC w0 b n0 n1 m ok (w.setCell ⟨b + 1 + 1, 0, none⟩ (.int .i64 m)) :=
  ⟨(Below.heap_setCell _ _ _ _ (by show b ≠ b + 1 + 1; omega)).trans h.c0, (Below.heap_setCell _ _ _ _ (by show b + 1 ≠ b + 1 + 1; omega)).trans h.c1, one_setCell h.cr, (Below.heap_setCell _ _ _ _ (by show b + 1 + 1 + 1 ≠ b + 1 + 1; omega)).trans h.co,
    h.os, h.tape, h.output, by rw [size_setCell]; exact h.size, fun k hk hb => (Below.heap_setCell _ _ _ _ (by show k ≠ b + 1 + 1; omega)).trans (h.block k hk hb)⟩

theorem hide {p : Prop} (h : p) : Hid p := h

/-- key0 of LawS2820CCalls. -/
theorem ckey0_any (w0 : World) (b : Nat) (n0 n1 nr : Int) (ok : Bool) (s : ByteArray) (n : Int) (w : World) (hn : 0 ≤ n0 ∧ n0 ≤ 10) (h : CC w0 b n0 n1 nr ok w) :
    Calls Yba.prog 34 #[.agg #[.string s, .int .i64 n], .pointer (some ⟨b, 0, none⟩)] w fun e w' => e = .returned (.string s) ∧ CC w0 b (n0 + 1) n1 nr ok w' := by
  obtain ⟨hn0, hn1⟩ := hn
  have hb := lt_of_block h.c0
  have h1 := h.alloc (.cells #[.string s, .int .i64 n] 40)
  have c0 := cell_of_one h1.c0
  have f0 := free_of_one h1.c0
  have H1 := hide ((h.set0 (n0 + 1)).alloc (.cells #[.string s, .int .i64 n] 40))
  clear h h1
  go_enter Yba.func34, Yba.ntmps34
  go_wp2
  go_ret
  exact ⟨rfl, H1.out⟩

/-- key1 of LawS2820CCalls. -/
theorem ckey1_any (w0 : World) (b : Nat) (n0 n1 nr : Int) (ok : Bool) (s : ByteArray) (n : Int) (w : World) (hn : 0 ≤ n1 ∧ n1 ≤ 10) (h : CC w0 b n0 n1 nr ok w) :
    Calls Yba.prog 35 #[.agg #[.string s, .int .i64 n], .pointer (some ⟨b + 1, 0, none⟩)] w fun e w' => e = .returned (.int .i64 n) ∧ CC w0 b n0 (n1 + 1) nr ok w' := by
  obtain ⟨hn0, hn1⟩ := hn
  have hb := lt_of_block h.c1
  have h1 := h.alloc (.cells #[.string s, .int .i64 n] 40)
  have c0 := cell_of_one h1.c1
  have f0 := free_of_one h1.c1
  have H1 := hide ((h.set1 (n1 + 1)).alloc (.cells #[.string s, .int .i64 n] 40))
  clear h h1
  go_enter Yba.func35, Yba.ntmps35
  go_wp2
  go_ret
  exact ⟨rfl, H1.out⟩

/-- 'rest' of LawS2820CCalls, called with the very values of a and bb. -/
theorem crest_any (w0 : World) (b ba bb br : Nat) (n0 n1 nr ans : Int) (ok : Bool) (sa sb : ByteArray) (na nb : Int) (w : World) (hn : 0 ≤ nr ∧ nr ≤ 10) (ha : ba < b) (hbb : bb < b) (hr : br < b)
    (a0 : w0.cell? ⟨ba, 0, none⟩ = some (.string sa)) (a1 : w0.cell? ⟨ba, 1, none⟩ = some (.int .i64 na)) (b0 : w0.cell? ⟨bb, 0, none⟩ = some (.string sb)) (b1 : w0.cell? ⟨bb, 1, none⟩ = some (.int .i64 nb)) (hans : w0.cell? ⟨br, 0, none⟩ = some (.int .i64 ans))
    (h : CC w0 b n0 n1 nr ok w) :
    Calls Yba.prog 33 #[.agg #[.string sa, .int .i64 na], .agg #[.string sb, .int .i64 nb], .pointer (some ⟨b + 1 + 1, 0, none⟩), .pointer (some ⟨ba, 0, none⟩), .pointer (some ⟨bb, 0, none⟩), .pointer (some ⟨b + 1 + 1 + 1, 0, none⟩), .pointer (some ⟨br, 0, none⟩)] w
      fun e w' => e = .returned (.int .i64 ans) ∧ CC w0 b n0 n1 (nr + 1) ok w' := by
  obtain ⟨hn0, hn1⟩ := hn
  have hb := lt_of_block h.cr
  have h2 := (h.alloc (.cells #[.string sa, .int .i64 na] 40)).alloc (.cells #[.string sb, .int .i64 nb] 40)
  have c0 := cell_of_one h2.cr
  have f0 := free_of_one h2.cr
  have p0 := h2.cell (.inl ha) a0
  have p1 := h2.cell (.inl ha) a1
  have p2 := h2.cell (.inl hbb) b0
  have p3 := h2.cell (.inl hbb) b1
  have p4 := h2.cell (.inl hr) hans
  have H1 := hide (h2.set2 (nr + 1))
  clear h h2 a0 a1 b0 b1 hans
  go_enter Yba.func33, Yba.ntmps33
  go_wp2
  go_ret
  exact ⟨rfl, H1.out⟩

end Go.Proofs.Ybulkbfjm
