/-
  (*copier).copy (7) at a scalar and at a substitution; no sharing.
-/
import Derived.Test.YbulkbflqTree
import Derived.Deep.RegionHeld3
namespace Go.Proofs.Ybulkbflq
open Go.RowKit
set_option linter.unusedVariables false

/-- The copier in block c. -/
def Cop (w : World) (c : Nat) (z : Int) (sh : Value) : Prop := w.heap[c]? = some (.cells #[.int .i64 z, sh] 29 (0, 0))

/-- What a call of copy leaves alone: every block but the copier's. -/
structure Step (c : Nat) (w w' : World) : Prop where
  os : w'.os = w.os
  tape : w'.tape = w.tape
  output : w'.output = w.output
  size : w.heap.size ≤ w'.heap.size
  block : ∀ k, k < w.heap.size → k ≠ c → w'.heap[k]? = w.heap[k]?

theorem Step.refl (c : Nat) (w : World) : Step c w w := ⟨rfl, rfl, rfl, Nat.le_refl _, fun _ _ _ => rfl⟩
theorem Step.trans {c : Nat} {a b d : World} (h : Step c a b) (k : Step c b d) : Step c a d := by
  have hs := h.size
  exact ⟨k.os.trans h.os, k.tape.trans h.tape, k.output.trans h.output, Nat.le_trans h.size k.size, fun i hi hc => (k.block i (by omega) hc).trans (h.block i hi hc)⟩
theorem Step.drew {c : Nat} {a b : World} (h : Step c a b) : Step c a b.drew := ⟨h.os, h.tape, h.output, h.size, h.block⟩
theorem Step.alloc {c : Nat} {a b : World} (h : Step c a b) (o : Obj) : Step c a (b.alloc o) := by
  have hs := h.size
  exact ⟨h.os, h.tape, h.output, by simp; omega, fun i hi hc => (Below.heap_alloc _ _ _ (by omega)).trans (h.block i hi hc)⟩
theorem Step.setCop {c : Nat} {a b : World} (h : Step c a b) (o : Nat) (u : Value) : Step c a (b.setCell ⟨c, o, none⟩ u) :=
  ⟨h.os, h.tape, h.output, by simp [World.setCell]; exact h.size, fun i hi hc => (Below.heap_setCell _ _ _ _ hc).trans (h.block i hi hc)⟩

theorem Cop.cell0 {w : World} {c : Nat} {z : Int} {sh : Value} (h : Cop w c z sh) : w.cell? ⟨c, 0, none⟩ = some (.int .i64 z) := cell_of_row h rfl
theorem Cop.cell1 {w : World} {c : Nat} {z : Int} {sh : Value} (h : Cop w c z sh) : w.cell? ⟨c, 1, none⟩ = some sh := cell_of_row h rfl
theorem Cop.free {w : World} {c : Nat} {z : Int} {sh : Value} (h : Cop w c z sh) (o : Nat) : w.frozen? ⟨c, o, none⟩ = false := free_of_row h
theorem Cop.alloc {w : World} {c : Nat} {z : Int} {sh : Value} (h : Cop w c z sh) (o : Obj) : Cop (w.alloc o) c z sh := (Below.heap_alloc _ _ _ (lt_of_block h)).trans h
theorem Cop.drew {w : World} {c : Nat} {z : Int} {sh : Value} (h : Cop w c z sh) : Cop w.drew c z sh := h
theorem Cop.set {w : World} {c : Nat} {z : Int} {sh : Value} (h : Cop w c z sh) (z' : Int) : Cop (w.setCell ⟨c, 0, none⟩ (.int .i64 z')) c z' sh := row_setCell h
theorem Cop.put {w : World} {c : Nat} {z : Int} {sh : Value} (h : Cop w c z sh) (sh' : Value) : Cop (w.setCell ⟨c, 1, none⟩ sh') c z sh' := row_setCell h

set_option maxHeartbeats 1600000 in
set_option maxRecDepth 100000 in
theorem subst_plain (c P : Nat) (z : Int) (w : World) (h : Cop w c z .nilFunc) :
    Calls Yba.prog 7 #[.pointer (some ⟨c, 0, none⟩), .iface 46 (.pointer (some ⟨P, 0, none⟩))] w fun e w' => e = .returned (.iface 46 (.pointer (some ⟨P, 0, none⟩))) ∧ Cop w' c (wrap64 (z + 1)) .nilFunc ∧ Step c w w' := by
  have a1 := ta_46_54
  have a2 := ta_46_24
  have a3 := ta_46_56
  have a4 := ta_46_51
  have a5 := ta_46_41
  have a6 := ta_46_46
  have a7 := neqn27
  have c0 := h.cell0
  have c1 := h.cell1
  have f0 := h.free 0
  have HC := hide (h.set (wrap64 (z + 1)))
  have HS := hide ((Step.refl c w).setCop 0 (.int .i64 (wrap64 (z + 1))))
  clear h
  go_enter Yba.func7, Yba.ntmps7
  go_wp2
  go_ret
  exact ⟨rfl, HC.out, HS.out⟩

set_option maxHeartbeats 1600000 in
set_option maxRecDepth 100000 in
theorem scal_plain (c : Nat) (line col : Int) (t : ByteArray) (z : Int) (w : World) (h : Cop w c z .nilFunc) :
    Calls Yba.prog 7 #[.pointer (some ⟨c, 0, none⟩), .iface 41 (.agg #[.string ⟨#[]⟩, .int .i64 line, .int .i64 col, .int .i64 0, .string t, .bool false])] w fun e w' =>
      e = .returned (.iface 41 (.agg #[.string ⟨#[]⟩, .int .i64 line, .int .i64 col, .int .i64 0, .string t, .bool false])) ∧ Cop w' c (wrap64 (z + wrap64 (1 + t.size))) .nilFunc ∧ Step c w w' := by
  have a1 := ta_41_54
  have a2 := ta_41_24
  have a3 := ta_41_56
  have a4 := ta_41_51
  have a5 := ta_41_41
  have a6 := ta_41_46
  have a7 := neqn27
  have c0 := h.cell0
  have c1 := h.cell1
  have hlt := lt_of_block h
  have h2 := h.alloc (.cells #[.string ⟨#[]⟩, .int .i64 line, .int .i64 col, .int .i64 0, .string t, .bool false] 41)
  have d0 := h2.cell0
  have f0 := h2.free 0
  have HH := hide h
  clear h h2
  go_enter Yba.func7, Yba.ntmps7
  go_wp2
  go_region
  go_wp2
  go_ret
  exact ⟨rfl, ((HH.out.set _).alloc _).drew, (((Step.refl c w).setCop 0 _).alloc _).drew⟩
end Go.Proofs.Ybulkbflq
