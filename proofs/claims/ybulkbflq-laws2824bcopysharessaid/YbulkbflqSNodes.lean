/-
  copy (7) at the tree of one item, and at the root, with the sharing closure.
-/
import Derived.Test.YbulkbflqSConcat
namespace Go.Proofs.Ybulkbflq.lawS2824BCopyShares
open Go.RowKit
set_option linter.unusedVariables false

def oddAt (ss : List ByteArray) (j : Nat) : Int := oddSize (ss.getD j ByteArray.empty)

/-- What the copier counts of an item, and how often the closure is asked. -/
def sSize (it : Item) : Int :=
  if it.kind % 4 = 0 then oddSize it.text else if it.kind % 4 = 1 then 1 else if it.kind % 4 = 2 then 1 + total (oddAt it.ss) it.sl else 1 + total (partSize it.sl it.ss) it.sl
def sCalls (it : Item) : Int :=
  if it.kind % 4 = 0 then 1 else if it.kind % 4 = 1 then 1 else if it.kind % 4 = 2 then 1 + total (fun _ => 1) it.sl else 1 + total (partCalls it.sl) it.sl

theorem node_sh (Wt : World) (c q Bo i : Nat) (hcq : c ≠ q) (it : Item) (v : Value) (hc : Wt.heap.size ≤ c) (hq : Wt.heap.size ≤ q) (hsl : it.sl ≤ 300) (hN : Node Wt Bo v i it) (B : Nat) (Z Y : Int) (w1 : World) (hB : B ≤ w1.heap.size) (hsame : ∀ k, k < Wt.heap.size → w1.heap[k]? = Wt.heap[k]?) (hst : St w1 c q Z Y (SH q)) :
    Calls Yba.prog 7 #[.pointer (some ⟨c, 0, none⟩), v] w1 fun e w' => ∃ t x, e = .returned (.iface t x) ∧ CopyOf v B i it (.iface t x) w' ∧ St w' c q (Z + sSize it) (Y + sCalls it) (SH q) ∧ Step2 c q w1 w' := by
  rcases hN with ⟨hm, rfl⟩ | ⟨hm, P, rfl⟩ | ⟨hm, L, S, rfl, hL, hS, h1, h2⟩ | ⟨hm, C, S, rfl, hC, hS, h1, h2⟩
  · refine (scal_sh c q hcq (i : Int) 0 it.text Z Y w1 hst).mono ?_
    rintro e w' ⟨rfl, h1, h2⟩
    refine ⟨_, _, rfl, ⟨.inl ⟨hm, rfl⟩, fun h => by omega⟩, ?_, h2⟩
    simpa [sSize, sCalls, hm] using h1
  · refine (subst_sh c q P hcq Z Y w1 hst).mono ?_
    rintro e w' ⟨rfl, h1, h2⟩
    refine ⟨_, _, rfl, ⟨.inr (.inl ⟨hm, P, rfl⟩), fun _ => rfl⟩, ?_, h2⟩
    simpa [sSize, sCalls, hm] using h1
  · obtain ⟨cur, h3, h4, h5⟩ := h2
    have hLt := lt_of_block h1
    have hSt := lt_of_block h3
    have hm0 : ¬ it.kind % 4 = 0 := by omega
    have hm1 : ¬ it.kind % 4 = 1 := by omega
    refine (list_sh c q L S it.sl hcq ⟨#[]⟩ (i : Int) 0 (part (i : Int) it.ss) (oddAt it.ss) (fun _ => 1) (fun _ j u _ => u = part (i : Int) it.ss j) Z Y w1 hsl hst (by omega) (by omega) (by omega) (by omega) ((hsame L hLt).trans h1) ⟨cur, (hsame S hSt).trans h3, h4, h5⟩ (fun _ _ _ _ _ h _ => h) ?_).mono ?_
    · intro B' j Z' Y' w2 hj _ _ hst2
      refine (scal_sh c q hcq (i : Int) ((j : Int) + 1) (it.ss.getD j ByteArray.empty) Z' Y' w2 hst2).mono ?_
      rintro e w' ⟨rfl, g1, g2⟩
      exact ⟨_, _, rfl, rfl, g1, g2⟩
    · rintro e w' ⟨w2, rfl, hs2, hI⟩
      obtain ⟨cur', r1, r2, r3⟩ := hI.row
      have hz := hs2.size
      refine ⟨_, _, rfl, ⟨.inr (.inr (.inl ⟨hm, w2.heap.size + 1, w2.heap.size, rfl, by omega, by omega, hI.new, cur', r1, r2, fun j hj => ?_⟩)), fun h => by omega⟩, ?_, hs2.trans hI.step⟩
      · obtain ⟨u, hu, rfl⟩ := r3 j hj
        exact hu
      · have := hI.st
        rw [Int.add_assoc, Int.add_assoc Y] at this
        unfold sSize sCalls
        rw [if_neg hm0, if_neg hm1, if_pos hm, if_neg hm0, if_neg hm1, if_pos hm]
        exact this
  · obtain ⟨cur, h3, h4, h5⟩ := h2
    have hCt := lt_of_block h1
    have hSt := lt_of_block h3
    have hm0 : ¬ it.kind % 4 = 0 := by omega
    have hm1 : ¬ it.kind % 4 = 1 := by omega
    have hm2 : ¬ it.kind % 4 = 2 := by omega
    refine (concat_sh c q C S it.sl hcq (i : Int) it.ss (decide (128 ≤ it.kind)) Z Y w1 hsl hst (by omega) (by omega) (by omega) (by omega) ((hsame C hCt).trans h1) ⟨cur, (hsame S hSt).trans h3, h4, h5⟩).mono ?_
    rintro e w' ⟨w3, w2, rfl, hs3, hI, rfl⟩
    obtain ⟨cur', r1, r2, r3⟩ := hI.row
    have hs := hI.size
    have hz := hs3.size
    refine ⟨_, _, rfl, ⟨.inr (.inr (.inr ⟨hm, w2.heap.size, w3.heap.size, rfl, by omega, by omega, heap_alloc_new _ _, cur', (Below.heap_alloc _ _ _ (lt_of_block r1)).trans r1, r2, r3⟩)), fun h => by omega⟩, ?_, ((hs3.trans hI.step).alloc _).drew⟩
    have := (hI.st.alloc (.cells #[.slice (some ⟨w3.heap.size, 0, none⟩) it.sl it.sl, .slice none 0 0, .bool (decide (128 ≤ it.kind))] 53)).drew
    rw [Int.add_assoc, Int.add_assoc Y] at this
    unfold sSize sCalls
    rw [if_neg hm0, if_neg hm1, if_neg hm2, if_neg hm0, if_neg hm1, if_neg hm2]
    exact this

/-- copy of the root with the sharing closure. -/
theorem root_sh (w : World) (n : Nat) (its : Nat → Item) (hn : n ≤ 300) (hsl : ∀ i, i < n → (its i).sl ≤ 300) (Wt : World) (hT : Bld w n its n Wt) :
    ∃ v : Nat → Value, (∃ cur : Array Value, Wt.heap[w.heap.size]? = some (.cells cur 31 (0, 0)) ∧ cur.size = n ∧ ∀ i, i < n → cur[i]? = some (v i)) ∧ (∀ i, i < n → Node Wt (w.heap.size + 1 + 1) (v i) i (its i)) ∧
      ∀ W1 : World, (∀ k, k < Wt.heap.size → W1.heap[k]? = Wt.heap[k]?) → St W1 (Wt.heap.size + 1) Wt.heap.size 0 0 (SH Wt.heap.size) →
        Calls Yba.prog 7 #[.pointer (some ⟨Wt.heap.size + 1, 0, none⟩), .iface 24 (.pointer (some ⟨w.heap.size + 1, 0, none⟩))] W1 fun e w' => ∃ W2, e = .returned (.iface 24 (.pointer (some ⟨W2.heap.size + 1, 0, none⟩))) ∧ Step2 (Wt.heap.size + 1) Wt.heap.size W1 W2 ∧
          LInvS W2 (Wt.heap.size + 1) Wt.heap.size n ⟨#[]⟩ 1000 0 (fun i => sSize (its i)) (fun i => sCalls (its i)) (fun B i u w' => CopyOf (v i) B i (its i) u w') 0 (0 + 1) n w' := by
  obtain ⟨cur, h1, h2, h3⟩ := hT.row
  have hv : ∀ i, ∃ u, i < n → cur[i]? = some u ∧ Node Wt (w.heap.size + 1 + 1) u i (its i) := fun i => by
    by_cases hi : i < n
    · obtain ⟨u, hu⟩ := h3 i hi; exact ⟨u, fun _ => hu⟩
    · exact ⟨.nilIface, fun h => absurd h hi⟩
  refine ⟨fun i => (hv i).choose, ⟨cur, h1, h2, fun i hi => ((hv i).choose_spec hi).1⟩, fun i hi => ((hv i).choose_spec hi).2, ?_⟩
  intro W1 hsame hst
  have hrt := lt_of_block hT.root
  have hrw := lt_of_block h1
  have hW1 := lt_of_block hst.cop
  refine list_sh (Wt.heap.size + 1) Wt.heap.size (w.heap.size + 1) w.heap.size n (by omega) ⟨#[]⟩ 1000 0 (fun i => (hv i).choose) (fun i => sSize (its i)) (fun i => sCalls (its i)) (fun B i u w' => CopyOf ((hv i).choose) B i (its i) u w') 0 0 W1 hn hst (by omega) (by omega) (by omega) (by omega) ((hsame _ hrt).trans hT.root)
    ⟨cur, (hsame _ hrw).trans h1, h2, fun i hi => ((hv i).choose_spec hi).1⟩ ?_ ?_
  · intro B i u w w' h hk
    exact ⟨h.1.kept hk, h.2⟩
  · intro B i Z Y w1 hi hB hs hc
    exact node_sh Wt (Wt.heap.size + 1) Wt.heap.size (w.heap.size + 1 + 1) i (by omega) (its i) _ (by omega) (Nat.le_refl _) (hsl i hi) ((hv i).choose_spec hi).2 B Z Y w1 hB (fun k hk => (hs.block k (by omega) (by omega) (by omega)).trans (hsame k hk)) hc

end Go.Proofs.Ybulkbflq.lawS2824BCopyShares
