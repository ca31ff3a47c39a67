/-
  zzs2824bscalars (10): a row of scalars.
-/
import Derived.Test.YbulkbflqTypes
import Derived.Deep.OwnRows
namespace Go.Proofs.Ybulkbflq
open Go.RowKit
set_option linter.unusedVariables false

/-- The slice's first 'len' cells hold the strings ss, in a block below B. -/
def Row (B : Nat) (w : World) (a : Option Addr) (len : Nat) (ss : List ByteArray) : Prop :=
  ∀ j, j < len → ∃ b off, a = some ⟨b, off, none⟩ ∧ b < B ∧ w.cell? ⟨b, off + j, none⟩ = some (.string (ss.getD j ByteArray.empty))

theorem Row.kept {B : Nat} {w w' : World} {a : Option Addr} {len : Nat} {ss : List ByteArray} (h : Row B w a len ss) (hk : ∀ k, k < B → w'.heap[k]? = w.heap[k]?) : Row B w' a len ss := fun j hj => by
  obtain ⟨b, off, h1, h2, h3⟩ := h j hj
  exact ⟨b, off, h1, h2, (World.cell?_of_block (a := ⟨b, off + j, none⟩) (hk b h2)).trans h3⟩

/-- A scalar as the law builds it. -/
def scal (line col : Int) (t : ByteArray) : Value := .iface 41 (.agg #[.string ⟨#[]⟩, .int .i64 line, .int .i64 col, .int .i64 0, .string t, .bool false])
def part (line : Int) (ss : List ByteArray) (j : Nat) : Value := scal line ((j : Int) + 1) (ss.getD j ByteArray.empty)

def rowN (n : Nat) : Array Value := madeCells #[.nilIface] n
theorem rowN_size (n : Nat) : (rowN n).size = n := by simp [rowN, madeCells]

theorem Yba.info31 : (Yba.prog.info? 31).map (fun i => (i.zero, i.size, i.bytes)) = some (some .nilIface, 1, 16) := by kernel_rfl
theorem make_row (n : Nat) (h : n ≤ 300) (w : World) : (Instr.makeSlice 43 (.int .i64 (n : Int)) (.int .i64 (n : Int))).run Yba.prog w = .ok (.slice (some ⟨w.heap.size, 0, none⟩) n n) (w.alloc (.cells (rowN n) 31)) :=
  run_make_row' 43 31 .nilIface 16 Yba.underlying43 Yba.info31 rfl .i64 .i64 n (by omega) (by omega) w

theorem set_get {cur : Array Value} {k : Nat} {v : Value} {f : Nat → Value} (hk : k < cur.size) (h : ∀ j, j < k → cur[j]? = some (f j)) (hv : v = f k) : ∀ j, j < k + 1 → (cur.setIfInBounds k v)[j]? = some (f j) := by
  intro j hj
  rw [Array.getElem?_setIfInBounds]
  by_cases e : k = j
  · subst e; simp [hk, hv]
  · rw [if_neg e]; exact h j (by omega)

set_option maxHeartbeats 1600000 in
set_option maxRecDepth 100000 in
theorem scalars_any (B : Nat) (sa : Option Addr) (sl sc : Nat) (ss : List ByteArray) (line : Int) (w : World) (hB : B ≤ w.heap.size) (hl : sl ≤ 300) (hrow : Row B w sa sl ss) :
    Calls Yba.prog 10 #[.slice sa sl sc, .int .i64 line] w fun e w' => e = .returned (.slice (some ⟨w.heap.size, 0, none⟩) sl sl) ∧
      ∃ cur : Array Value, w' = w.alloc (.cells cur 31) ∧ cur.size = sl ∧ ∀ j, j < sl → cur[j]? = some (part line ss j) := by
  have hmk := make_row sl hl
  have hl' : (sl : Int) ≤ 300 := by omega
  have HR := hide hrow
  clear hrow
  go_enter Yba.func10, Yba.ntmps10
  go_wp2
  go_loopw [13] (fun i wr => ∃ (k : Nat) (cur : Array Value), k ≤ sl ∧ i = .int .i64 k ∧ wr = w.alloc (.cells cur 31) ∧ cur.size = sl ∧ ∀ j, j < k → cur[j]? = some (part line ss j)) (fun i _ => sl - (intOf i).toNat)
  case atStart => exact ⟨0, rowN sl, Nat.zero_le _, rfl, rfl, rowN_size sl, fun j hj => absurd hj (Nat.not_lt_zero _)⟩
  case round =>
    obtain ⟨k, cur, hk, rfl, rfl, hsz, hcur⟩ := hrel
    have HS := hide hsz
    have HC := hide hcur
    clear hsz hcur hmk
    by_cases hkl : k < sl
    · have hkl' : (k : Int) < (sl : Int) := by omega
      obtain ⟨b, off, rfl, hb, hc⟩ := HR.out k hkl
      have hc2 : (w.alloc (.cells cur 31)).cell? ⟨b, off + k, none⟩ = some (.string (ss.getD k ByteArray.empty)) := (World.cell?_alloc_lt _ _ _ (by show b < w.heap.size; omega)).trans hc
      obtain ⟨s, hs⟩ : ∃ s, s = ss.getD k ByteArray.empty := ⟨_, rfl⟩
      have hnx := hide (set_get (v := scal line ((k : Int) + 1) s) (by rw [HS.out]; exact hkl) HC.out (by rw [hs]; rfl))
      rw [← hs] at hc2
      have hks : k < cur.size := by rw [HS.out]; exact hkl
      have hcs : (w.alloc (.cells cur 31)).cell? ⟨w.heap.size, k, none⟩ = some cur[k] := by
        rw [World.cell?_alloc_at _ _ _ _ rfl]; simp [hks]
      have hcf : (w.alloc (.cells cur 31)).frozen? ⟨w.heap.size, k, none⟩ = false := World.frozen?_alloc_at _ _ _ _ rfl
      clear hc hs
      go_wp2
      go_roundw
      case rel => exact ⟨k + 1, _, by omega, by go_num, rfl, by rw [Array.size_setIfInBounds]; exact HS.out, hnx.out⟩
      case measure => simp [intOf]; omega
    · obtain rfl : k = sl := by omega
      go_wp2
      go_ret
      exact ⟨rfl, cur, rfl, HS.out, HC.out⟩
end Go.Proofs.Ybulkbflq
