/-
  zzs2820bat (18): the i-th string of a row, or the empty string; zzs2820bsize (16).
-/
import Derived.Test.YbulkbfjmStrs
namespace Go.Proofs.Ybulkbfjm
open Go.RowKit

def atS (ss : List ByteArray) (len : Nat) (i : Int) : ByteArray := if 0 ≤ i ∧ i < len then ss.getD i.toNat ByteArray.empty else ByteArray.empty

/-- The slice's first 'len' cells hold the strings ss, in a block below B. -/
def Row (B : Nat) (w : World) (a : Option Addr) (len : Nat) (ss : List ByteArray) : Prop :=
  ∀ j, j < len → ∃ b off, a = some ⟨b, off, none⟩ ∧ b < B ∧ w.cell? ⟨b, off + j, none⟩ = some (.string (ss.getD j ByteArray.empty))

theorem Row.kept {B : Nat} {w w' : World} {a : Option Addr} {len : Nat} {ss : List ByteArray} (h : Row B w a len ss) (hk : ∀ k, k < B → w'.heap[k]? = w.heap[k]?) : Row B w' a len ss := fun j hj => by
  obtain ⟨b, off, h1, h2, h3⟩ := h j hj
  exact ⟨b, off, h1, h2, (World.cell?_of_block (a := ⟨b, off + j, none⟩) (hk b h2)).trans h3⟩

theorem ret_str {a b : ByteArray} (h : a = b) : Ending.returned (.string a) = .returned (.string b) := by rw [h]

theorem bat_any (B : Nat) (a : Option Addr) (len cap : Nat) (ss : List ByteArray) (i : Int) (w : World) (h : Row B w a len ss) :
    Calls Yba.prog 18 #[.slice a len cap, .int .i64 i] w fun e w' => e = .returned (.string (atS ss len i)) ∧ w' = w := by
  by_cases h0 : 0 ≤ i
  · by_cases h1 : i < (len : Int)
    · obtain ⟨n, rfl⟩ := Int.eq_ofNat_of_zero_le h0
      obtain ⟨b, off, rfl, hb, hc⟩ := h n (by omega)
      have e : atS ss len (n : Int) = ss.getD n ByteArray.empty := by simp only [atS]; rw [if_pos ⟨h0, h1⟩, Int.toNat_natCast]
      rw [e]
      generalize ss.getD n ByteArray.empty = s at hc
      clear e h
      go_enter Yba.func18, Yba.ntmps18
      go_wp2
      go_ret
      exact ⟨rfl, rfl⟩
    · have e : atS ss len i = ByteArray.empty := by simp only [atS]; rw [if_neg (by omega)]
      rw [e]
      clear e h
      go_enter Yba.func18, Yba.ntmps18
      go_wp2
      go_ret
      exact ⟨rfl, rfl⟩
  · have e : atS ss len i = ByteArray.empty := by simp only [atS]; rw [if_neg (by omega)]
    rw [e]
    clear e h
    go_enter Yba.func18, Yba.ntmps18
    go_wp2
    go_ret
    exact ⟨rfl, rfl⟩

theorem bsize_any (a b : Option Addr) (m n cap cap' : Nat) (hm : m ≤ 1024) (hn : n ≤ 1024) (w : World) :
    Calls Yba.prog 16 #[.slice a m cap, .slice b n cap'] w fun e w' => ∃ z : Nat, e = .returned (.int .i64 z) ∧ 1 ≤ z ∧ z ≤ 1024 ∧ w' = w := by
  have hm' : (m : Int) ≤ 1024 := by omega
  have hn' : (n : Int) ≤ 1024 := by omega
  go_enter Yba.func16, Yba.ntmps16
  go_wp2
  all_goals go_ret
  · exact ⟨n, rfl, by omega, hn, rfl⟩
  · exact ⟨1, rfl, by omega, by omega, rfl⟩
  · have hm0 : ((m : Int) == 0) = false := by assumption
    exact ⟨m, rfl, by simp at hm0; omega, hm, rfl⟩

/-- The five variables of LawS2820BModel that its closures count in: blocks b, b+1, .. b+4; all else is as in w0. -/
structure Cnt (w0 : World) (b : Nat) (n0 n1 nr ra rb : Int) (w : World) : Prop where
  c0 : w.heap[b]? = some (.cells #[.int .i64 n0] 3 (0, 0))
  c1 : w.heap[b + 1]? = some (.cells #[.int .i64 n1] 3 (0, 0))
  cr : w.heap[b + 1 + 1]? = some (.cells #[.int .i64 nr] 3 (0, 0))
  ca : w.heap[b + 1 + 1 + 1]? = some (.cells #[.int .i64 ra] 3 (0, 0))
  cb : w.heap[b + 1 + 1 + 1 + 1]? = some (.cells #[.int .i64 rb] 3 (0, 0))
  os : w.os = w0.os
  tape : w.tape = w0.tape
  output : w.output = w0.output
  size : w.heap.size = w0.heap.size
  block : ∀ k, (k < b ∨ b + 4 < k) → w.heap[k]? = w0.heap[k]?

theorem Cnt.drew {w0 w : World} {b : Nat} {n0 n1 nr ra rb : Int} (h : Cnt w0 b n0 n1 nr ra rb w) : Cnt w0 b n0 n1 nr ra rb w.drew := ⟨h.c0, h.c1, h.cr, h.ca, h.cb, h.os, h.tape, h.output, h.size, h.block⟩

theorem Cnt.cell {w0 w : World} {b : Nat} {n0 n1 nr ra rb : Int} (h : Cnt w0 b n0 n1 nr ra rb w) {k o : Nat} {u : Value} (hk : k < b ∨ b + 4 < k) (hu : w0.cell? ⟨k, o, none⟩ = some u) : w.cell? ⟨k, o, none⟩ = some u :=
  (World.cell?_of_block (h.block k hk)).trans hu

theorem size_setCell (w : World) (a : Addr) (u : Value) : (w.setCell a u).heap.size = w.heap.size := by simp [World.setCell]

theorem Cnt.set0 {w0 w : World} {b : Nat} {n0 n1 nr ra rb : Int} (h : Cnt w0 b n0 n1 nr ra rb w) (m : Int) : Cnt w0 b m n1 nr ra rb (w.setCell ⟨b, 0, none⟩ (.int .i64 m)) :=
  ⟨one_setCell h.c0, (Below.heap_setCell _ _ _ _ (by show b + 1 ≠ b; omega)).trans h.c1, (Below.heap_setCell _ _ _ _ (by show b + 1 + 1 ≠ b; omega)).trans h.cr, (Below.heap_setCell _ _ _ _ (by show b + 1 + 1 + 1 ≠ b; omega)).trans h.ca, (Below.heap_setCell _ _ _ _ (by show b + 1 + 1 + 1 + 1 ≠ b; omega)).trans h.cb,
    h.os, h.tape, h.output, (size_setCell _ _ _).trans h.size, fun k hk => (Below.heap_setCell _ _ _ _ (by show k ≠ b; omega)).trans (h.block k hk)⟩
theorem Cnt.set1 {w0 w : World} {b : Nat} {n0 n1 nr ra rb : Int} (h : Cnt w0 b n0 n1 nr ra rb w) (m : Int) : Cnt w0 b n0 m nr ra rb (w.setCell ⟨b + 1, 0, none⟩ (.int .i64 m)) :=
  ⟨(Below.heap_setCell _ _ _ _ (by show b ≠ b + 1; omega)).trans h.c0, one_setCell h.c1, (Below.heap_setCell _ _ _ _ (by show b + 1 + 1 ≠ b + 1; omega)).trans h.cr, (Below.heap_setCell _ _ _ _ (by show b + 1 + 1 + 1 ≠ b + 1; omega)).trans h.ca, (Below.heap_setCell _ _ _ _ (by show b + 1 + 1 + 1 + 1 ≠ b + 1; omega)).trans h.cb,
    h.os, h.tape, h.output, (size_setCell _ _ _).trans h.size, fun k hk => (Below.heap_setCell _ _ _ _ (by show k ≠ b + 1; omega)).trans (h.block k hk)⟩
theorem Cnt.set2 {w0 w : World} {b : Nat} {n0 n1 nr ra rb : Int} (h : Cnt w0 b n0 n1 nr ra rb w) (m : Int) : Cnt w0 b n0 n1 m ra rb (w.setCell ⟨b + 1 + 1, 0, none⟩ (.int .i64 m)) :=
  ⟨(Below.heap_setCell _ _ _ _ (by show b ≠ b + 1 + 1; omega)).trans h.c0, (Below.heap_setCell _ _ _ _ (by show b + 1 ≠ b + 1 + 1; omega)).trans h.c1, one_setCell h.cr, (Below.heap_setCell _ _ _ _ (by show b + 1 + 1 + 1 ≠ b + 1 + 1; omega)).trans h.ca, (Below.heap_setCell _ _ _ _ (by show b + 1 + 1 + 1 + 1 ≠ b + 1 + 1; omega)).trans h.cb,
    h.os, h.tape, h.output, (size_setCell _ _ _).trans h.size, fun k hk => (Below.heap_setCell _ _ _ _ (by show k ≠ b + 1 + 1; omega)).trans (h.block k hk)⟩
theorem Cnt.set3 {w0 w : World} {b : Nat} {n0 n1 nr ra rb : Int} (h : Cnt w0 b n0 n1 nr ra rb w) (m : Int) : Cnt w0 b n0 n1 nr m rb (w.setCell ⟨b + 1 + 1 + 1, 0, none⟩ (.int .i64 m)) :=
  ⟨(Below.heap_setCell _ _ _ _ (by show b ≠ b + 1 + 1 + 1; omega)).trans h.c0, (Below.heap_setCell _ _ _ _ (by show b + 1 ≠ b + 1 + 1 + 1; omega)).trans h.c1, (Below.heap_setCell _ _ _ _ (by show b + 1 + 1 ≠ b + 1 + 1 + 1; omega)).trans h.cr, one_setCell h.ca, (Below.heap_setCell _ _ _ _ (by show b + 1 + 1 + 1 + 1 ≠ b + 1 + 1 + 1; omega)).trans h.cb,
    h.os, h.tape, h.output, (size_setCell _ _ _).trans h.size, fun k hk => (Below.heap_setCell _ _ _ _ (by show k ≠ b + 1 + 1 + 1; omega)).trans (h.block k hk)⟩
theorem Cnt.set4 {w0 w : World} {b : Nat} {n0 n1 nr ra rb : Int} (h : Cnt w0 b n0 n1 nr ra rb w) (m : Int) : Cnt w0 b n0 n1 nr ra m (w.setCell ⟨b + 1 + 1 + 1 + 1, 0, none⟩ (.int .i64 m)) :=
  ⟨(Below.heap_setCell _ _ _ _ (by show b ≠ b + 1 + 1 + 1 + 1; omega)).trans h.c0, (Below.heap_setCell _ _ _ _ (by show b + 1 ≠ b + 1 + 1 + 1 + 1; omega)).trans h.c1, (Below.heap_setCell _ _ _ _ (by show b + 1 + 1 ≠ b + 1 + 1 + 1 + 1; omega)).trans h.cr, (Below.heap_setCell _ _ _ _ (by show b + 1 + 1 + 1 ≠ b + 1 + 1 + 1 + 1; omega)).trans h.ca, one_setCell h.cb,
    h.os, h.tape, h.output, (size_setCell _ _ _).trans h.size, fun k hk => (Below.heap_setCell _ _ _ _ (by show k ≠ b + 1 + 1 + 1 + 1; omega)).trans (h.block k hk)⟩

/-- key0 of LawS2820BModel. -/
theorem mkey0_any (w0 : World) (b bk : Nat) (n0 n1 nr ra rb : Int) (a : Option Addr) (len cap : Nat) (ss : List ByteArray) (i : Int) (w : World) (hbk : bk < b) (hn : 0 ≤ n0 ∧ n0 ≤ 10)
    (hrow : Row b w0 a len ss) (hk : w0.cell? ⟨bk, 0, none⟩ = some (.slice a len cap)) (h : Cnt w0 b n0 n1 nr ra rb w) :
    Calls Yba.prog 17 #[.int .i64 i, .pointer (some ⟨b, 0, none⟩), .pointer (some ⟨bk, 0, none⟩)] w fun e w' => e = .returned (.string (atS ss len i)) ∧ Cnt w0 b (n0 + 1) n1 nr ra rb w' := by
  obtain ⟨hn0, hn1⟩ := hn
  have c0 := cell_of_one h.c0
  have f0 := free_of_one h.c0
  have H1 : Hid (Cnt w0 b (n0 + 1) n1 nr ra rb (w.setCell ⟨b, 0, none⟩ (.int .i64 (n0 + 1)))) := h.set0 (n0 + 1)
  have ck : (w.setCell ⟨b, 0, none⟩ (.int .i64 (n0 + 1))).cell? ⟨bk, 0, none⟩ = some (.slice a len cap) := H1.out.cell (.inl hbk) hk
  have R1 : Hid (Row b (w.setCell ⟨b, 0, none⟩ (.int .i64 (n0 + 1))) a len ss) := hrow.kept (fun k hk => H1.out.block k (.inl hk))
  clear hrow hk h
  go_enter Yba.func17, Yba.ntmps17
  go_wp2_with (go_at_call 18; refine (bat_any b _ _ _ ss _ _ R1.out).mono ?_; rintro e w' ⟨rfl, rfl⟩)
  go_ret
  exact ⟨rfl, H1.out⟩

/-- key1 of LawS2820BModel. -/
theorem mkey1_any (w0 : World) (b bk : Nat) (n0 n1 nr ra rb : Int) (a : Option Addr) (len cap : Nat) (ss : List ByteArray) (i : Int) (w : World) (hbk : bk < b) (hn : 0 ≤ n1 ∧ n1 ≤ 10)
    (hrow : Row b w0 a len ss) (hk : w0.cell? ⟨bk, 0, none⟩ = some (.slice a len cap)) (h : Cnt w0 b n0 n1 nr ra rb w) :
    Calls Yba.prog 19 #[.int .i64 i, .pointer (some ⟨b + 1, 0, none⟩), .pointer (some ⟨bk, 0, none⟩)] w fun e w' => e = .returned (.string (atS ss len i)) ∧ Cnt w0 b n0 (n1 + 1) nr ra rb w' := by
  obtain ⟨hn0, hn1⟩ := hn
  have c0 := cell_of_one h.c1
  have f0 := free_of_one h.c1
  have H1 : Hid (Cnt w0 b n0 (n1 + 1) nr ra rb (w.setCell ⟨b + 1, 0, none⟩ (.int .i64 (n1 + 1)))) := h.set1 (n1 + 1)
  have ck : (w.setCell ⟨b + 1, 0, none⟩ (.int .i64 (n1 + 1))).cell? ⟨bk, 0, none⟩ = some (.slice a len cap) := H1.out.cell (.inl hbk) hk
  have R1 : Hid (Row b (w.setCell ⟨b + 1, 0, none⟩ (.int .i64 (n1 + 1))) a len ss) := hrow.kept (fun k hk => H1.out.block k (.inl hk))
  clear hrow hk h
  go_enter Yba.func19, Yba.ntmps19
  go_wp2_with (go_at_call 18; refine (bat_any b _ _ _ ss _ _ R1.out).mono ?_; rintro e w' ⟨rfl, rfl⟩)
  go_ret
  exact ⟨rfl, H1.out⟩

end Go.Proofs.Ybulkbfjm
