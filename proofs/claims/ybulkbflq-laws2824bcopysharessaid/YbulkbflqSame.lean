/-
  zzs2824bsameparts (15).
-/
import Derived.Test.YbulkbflqTree
namespace Go.Proofs.Ybulkbflq
open Go.RowKit
set_option linter.unusedVariables false

theorem neq41 (x : Value) (w : World) (line col : Int) (t : ByteArray) : (binOp .neq 41 (.agg #[.string ⟨#[]⟩, .int .i64 line, .int .i64 col, .int .i64 0, .string t, .bool false]) (.agg #[.string ⟨#[]⟩, .int .i64 line, .int .i64 col, .int .i64 0, .string t, .bool false])).run Yba.prog w = .ok (.bool false) w := by
  go_simp

set_option maxHeartbeats 1600000 in
set_option maxRecDepth 100000 in
theorem same_any (B G : Nat) (o : Option Addr) (co : Nat) (line : Int) (sa : Option Addr) (sl sc : Nat) (ss : List ByteArray) (w : World) (hl : sl ≤ 300) (hB : B ≤ w.heap.size) (hrow : Row B w sa sl ss)
    (hG : ∃ cur : Array Value, w.heap[G]? = some (.cells cur 31 (0, 0)) ∧ cur.size = sl ∧ ∀ j, j < sl → cur[j]? = some (part line ss j)) :
    Calls Yba.prog 15 #[.slice (some ⟨G, 0, none⟩) sl sl, .slice o sl co, .slice sa sl sc, .int .i64 line] w fun e w' => e = .returned (.bool true) ∧ Below w.heap.size w w' := by
  have a1 := ta_41_41
  have hl' : (sl : Int) ≤ 300 := by omega
  have HR := hide hrow
  have HG := hide hG
  clear hrow hG
  go_enter Yba.func15, Yba.ntmps15
  go_wp2
  go_loopw [27] (fun i wr => ∃ k : Nat, k ≤ sl ∧ i = .int .i64 k ∧ Below w.heap.size w wr) (fun i _ => sl - (intOf i).toNat)
  case atStart => exact ⟨0, Nat.zero_le _, rfl, Below.refl _ _⟩
  case round =>
    obtain ⟨k, hk, rfl, hBel⟩ := hrel
    by_cases hkl : k < sl
    · have hkl' : (k : Int) < (sl : Int) := by omega
      have hsz := hBel.size
      obtain ⟨b, off, rfl, hb, hc⟩ := HR.out k hkl
      obtain ⟨cur, g1, g2, g3⟩ := HG.out
      have hc2 : wr.cell? ⟨b, off + k, none⟩ = some (.string (ss.getD k ByteArray.empty)) := (hBel.cell (by show b < w.heap.size; omega)).trans hc
      have hg2 : wr.cell? ⟨G, k, none⟩ = some (.iface 41 (.agg #[.string ⟨#[]⟩, .int .i64 line, .int .i64 ((k : Int) + 1), .int .i64 0, .string (ss.getD k ByteArray.empty), .bool false])) := cell_of_row ((hBel.block G (lt_of_block g1)).trans g1) (g3 k hkl)
      obtain ⟨t, ht⟩ : ∃ t, t = ss.getD k ByteArray.empty := ⟨_, rfl⟩
      rw [← ht] at hc2 hg2
      have HB := hide hBel
      clear g1 g2 g3 hc hBel ht
      go_wp2
      go_roundw
      case rel => exact ⟨k + 1, by omega, by go_num, HB.out.alloc (by omega) _⟩
      case measure => simp [intOf]; omega
    · obtain rfl : k = sl := by omega
      go_wp2
      go_ret
      exact ⟨rfl, hBel⟩
end Go.Proofs.Ybulkbflq
