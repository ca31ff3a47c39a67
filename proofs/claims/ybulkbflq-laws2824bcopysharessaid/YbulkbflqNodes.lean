/-
  copy (7) at the tree of one item, and at the root; no sharing.
-/
import Derived.Test.YbulkbflqConcat
import Derived.Test.YbulkbflqBuild
namespace Go.Proofs.Ybulkbflq
open Go.RowKit
set_option linter.unusedVariables false

def strSize (ss : List ByteArray) (j : Nat) : Int := 1 + (ss.getD j ByteArray.empty).size

/-- What the copier counts of an item. -/
def itemSize (it : Item) : Int :=
  if it.kind % 4 = 0 then 1 + it.text.size else if it.kind % 4 = 1 then 1 else 1 + total (strSize it.ss) it.sl

/-- A copy of item it: its blocks lie from B on; a substitution is the very one. -/
def CopyOf (v : Value) (B : Nat) (i : Nat) (it : Item) (u : Value) (w : World) : Prop := Node w B u i it ∧ (it.kind % 4 = 1 → u = v)

theorem node_plain (Wt : World) (c Bo i : Nat) (it : Item) (v : Value) (hc : Wt.heap.size ≤ c) (hsl : it.sl ≤ 300) (hN : Node Wt Bo v i it) (B : Nat) (z : Int) (w1 : World) (hB : B ≤ w1.heap.size) (hsame : ∀ k, k < Wt.heap.size → w1.heap[k]? = Wt.heap[k]?) (hcop : Cop w1 c z .nilFunc) :
    Calls Yba.prog 7 #[.pointer (some ⟨c, 0, none⟩), v] w1 fun e w' => ∃ t x, e = .returned (.iface t x) ∧ CopyOf v B i it (.iface t x) w' ∧ Cop w' c (wrap64 (z + itemSize it)) .nilFunc ∧ Step c w1 w' := by
  have hN1 : Node w1 Bo v i it := hN.kept (fun k _ hk => hsame k hk)
  rcases hN with ⟨hm, rfl⟩ | ⟨hm, P, rfl⟩ | ⟨hm, L, S, rfl, hL, hS, h1, h2⟩ | ⟨hm, C, S, rfl, hC, hS, h1, h2⟩
  · refine (scal_plain c (i : Int) 0 it.text z w1 hcop).mono ?_
    rintro e w' ⟨rfl, h1, h2⟩
    refine ⟨_, _, rfl, ⟨.inl ⟨hm, rfl⟩, fun h => by omega⟩, ?_, h2⟩
    rw [wrap_add'] at h1
    simpa [itemSize, hm] using h1
  · refine (subst_plain c P z w1 hcop).mono ?_
    rintro e w' ⟨rfl, h1, h2⟩
    refine ⟨_, _, rfl, ⟨.inr (.inl ⟨hm, P, rfl⟩), fun _ => rfl⟩, ?_, h2⟩
    simpa [itemSize, hm] using h1
  · obtain ⟨cur, h3, h4, h5⟩ := h2
    have hLt := lt_of_block h1
    have hSt := lt_of_block h3
    have hm0 : ¬ it.kind % 4 = 0 := by omega
    have hm1 : ¬ it.kind % 4 = 1 := by omega
    refine (list_plain c L S it.sl ⟨#[]⟩ (i : Int) 0 (part (i : Int) it.ss) (strSize it.ss) (fun _ j u _ => u = part (i : Int) it.ss j) z w1 hsl hcop (by omega) (by omega) ((hsame L hLt).trans h1) ⟨cur, (hsame S hSt).trans h3, h4, h5⟩ (fun _ _ _ _ _ h _ => h) ?_).mono ?_
    · intro B' j z' w2 hj _ _ hcop2
      refine (scal_plain c (i : Int) ((j : Int) + 1) (it.ss.getD j ByteArray.empty) z' w2 hcop2).mono ?_
      rintro e w' ⟨rfl, g1, g2⟩
      rw [wrap_add'] at g1
      exact ⟨_, _, rfl, rfl, g1, g2⟩
    · rintro e w' ⟨rfl, hI⟩
      obtain ⟨cur', r1, r2, r3⟩ := hI.row
      refine ⟨_, _, rfl, ⟨.inr (.inr (.inl ⟨hm, w1.heap.size + 1, w1.heap.size, rfl, by omega, hB, hI.new, cur', r1, r2, fun j hj => ?_⟩)), fun h => by omega⟩, ?_, hI.step⟩
      · obtain ⟨u, hu, rfl⟩ := r3 j hj
        exact hu
      · have := hI.cop
        rw [Int.add_assoc] at this
        simpa [itemSize, hm0, hm1] using this
  · obtain ⟨cur, h3, h4, h5⟩ := h2
    have hCt := lt_of_block h1
    have hSt := lt_of_block h3
    have hm0 : ¬ it.kind % 4 = 0 := by omega
    have hm1 : ¬ it.kind % 4 = 1 := by omega
    refine (concat_plain c C S it.sl (i : Int) it.ss (decide (128 ≤ it.kind)) z w1 hsl hcop (by omega) (by omega) ((hsame C hCt).trans h1) ⟨cur, (hsame S hSt).trans h3, h4, h5⟩).mono ?_
    rintro e w' ⟨w2, rfl, hI, rfl⟩
    obtain ⟨cur', r1, r2, r3⟩ := hI.row
    have hs := hI.size
    refine ⟨_, _, rfl, ⟨.inr (.inr (.inr ⟨hm, w2.heap.size, w1.heap.size, rfl, by omega, hB, heap_alloc_new _ _, cur', (Below.heap_alloc _ _ _ (lt_of_block r1)).trans r1, r2, r3⟩)), fun h => by omega⟩, ?_, (hI.step.alloc _).drew⟩
    have := (hI.cop.alloc (.cells #[.slice (some ⟨w1.heap.size, 0, none⟩) it.sl it.sl, .slice none 0 0, .bool (decide (128 ≤ it.kind))] 53)).drew
    rw [Int.add_assoc] at this
    unfold itemSize
    rw [if_neg hm0, if_neg hm1]
    exact this

/-- copy of the root, no sharing. 'v': the values in the root's row. -/
theorem root_plain (w : World) (n : Nat) (its : Nat → Item) (hn : n ≤ 300) (hsl : ∀ i, i < n → (its i).sl ≤ 300) (Wt : World) (hT : Bld w n its n Wt) :
    ∃ v : Nat → Value, (∃ cur : Array Value, Wt.heap[w.heap.size]? = some (.cells cur 31 (0, 0)) ∧ cur.size = n ∧ ∀ i, i < n → cur[i]? = some (v i)) ∧ (∀ i, i < n → Node Wt (w.heap.size + 1 + 1) (v i) i (its i)) ∧
      ∀ W1 : World, (∀ k, k < Wt.heap.size → W1.heap[k]? = Wt.heap[k]?) → Cop W1 Wt.heap.size 0 .nilFunc →
        Calls Yba.prog 7 #[.pointer (some ⟨Wt.heap.size, 0, none⟩), .iface 24 (.pointer (some ⟨w.heap.size + 1, 0, none⟩))] W1 fun e w' => e = .returned (.iface 24 (.pointer (some ⟨W1.heap.size + 1, 0, none⟩))) ∧
          LInv W1 Wt.heap.size n ⟨#[]⟩ 1000 0 (fun i => itemSize (its i)) (fun B i u w' => CopyOf (v i) B i (its i) u w') 0 n w' := by
  obtain ⟨cur, h1, h2, h3⟩ := hT.row
  have hv : ∀ i, ∃ u, i < n → cur[i]? = some u ∧ Node Wt (w.heap.size + 1 + 1) u i (its i) := fun i => by
    by_cases hi : i < n
    · obtain ⟨u, hu⟩ := h3 i hi; exact ⟨u, fun _ => hu⟩
    · exact ⟨.nilIface, fun h => absurd h hi⟩
  refine ⟨fun i => (hv i).choose, ⟨cur, h1, h2, fun i hi => ((hv i).choose_spec hi).1⟩, fun i hi => ((hv i).choose_spec hi).2, ?_⟩
  intro W1 hsame hcop
  have hrt := lt_of_block hT.root
  have hrw := lt_of_block h1
  refine list_plain Wt.heap.size (w.heap.size + 1) w.heap.size n ⟨#[]⟩ 1000 0 (fun i => (hv i).choose) (fun i => itemSize (its i)) (fun B i u w' => CopyOf ((hv i).choose) B i (its i) u w') 0 W1 hn hcop (by omega) (by omega) ((hsame _ hrt).trans hT.root)
    ⟨cur, (hsame _ hrw).trans h1, h2, fun i hi => ((hv i).choose_spec hi).1⟩ ?_ ?_
  · intro B i u w w' h hk
    exact ⟨h.1.kept hk, h.2⟩
  · intro B i z w1 hi hB hst hc
    exact node_plain Wt Wt.heap.size (w.heap.size + 1 + 1) i (its i) _ (Nat.le_refl _) (hsl i hi) ((hv i).choose_spec hi).2 B z w1 hB (fun k hk => (hst.block k (by have := lt_of_block hcop; omega) (by omega)).trans (hsame k hk)) hc

end Go.Proofs.Ybulkbflq
