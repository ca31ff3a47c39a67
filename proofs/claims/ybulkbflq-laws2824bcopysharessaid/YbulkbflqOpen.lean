/-
  The argument, a slice of items, opened.
-/
import Derived.Test.YbulkbflqTree
import Derived.ProofKit
import Derived.OpenShut
import Derived.ShutString
import Derived.ChangeOld
import Derived.Below
import Derived.SliceStrings
import Derived.Deep.Strs
namespace Go.Proofs.Ybulkbflq
open Go.ChangeShapes Go.WideShapes Go.ChangeAt Go.RowKit
set_option linter.unusedVariables false

theorem strs_of {H : Type} {enc : TypeId × Value → H} {W : World} {fuel : Nat} {v : Value} {y : DataW H × List MemPlace}
    (hf : DataW.trod enc Yba.prog W 0 (fun _ => true) true fuel 34 [v] = some y) : ∃ (sa : Option Addr) (sl sc : Nat) (ss : List ByteArray), v = .slice sa sl sc ∧ sl ≤ maxLen ∧ Row W.heap.size W sa sl ss := by
  rcases open_strings Yba.underlying34 Yba.underlying9 (by kernel_rfl) hf with ⟨hcs, _⟩ | ⟨y, l, c, ss, hcs, _, hl, hm, hz, _, hcell, _⟩
  · simp at hcs
    exact ⟨none, 0, 0, [], hcs, Nat.zero_le _, fun j hj => absurd hj (Nat.not_lt_zero _)⟩
  · simp at hcs
    refine ⟨some y, l, c, ss, hcs, by omega, fun j hj => ?_⟩
    simp only [if_true] at hz
    have hc := hcell j (by omega)
    obtain ⟨b, off, spot⟩ := y
    have hs : spot = none := by simpa [Addr.add] using World.cell?_spot (hcell 0 (by omega))
    subst hs
    have hc' : W.cell? ⟨b, off + j, none⟩ = some (.string (ss.getD j ByteArray.empty)) := by rw [← add_plain]; exact hc
    exact ⟨b, off, rfl, World.block_lt_of_cell? W _ hc', hc'⟩

theorem cells36 : Yba.prog.cellsOf 36 = 3 := by kernel_rfl
theorem cells5 : Yba.prog.cellsOf 5 = 1 := by kernel_rfl
theorem cells9 : Yba.prog.cellsOf 9 = 1 := by kernel_rfl
theorem cells34 : Yba.prog.cellsOf 34 = 1 := by kernel_rfl

/-- One item, read at its three cells. -/
theorem item_of {H : Type} {enc : TypeId × Value → H} {W : World} {fuel : Nat} {cs : List Value} {y : DataW H × List MemPlace} (hf : DataW.trod enc Yba.prog W 0 (fun _ => true) true fuel 36 cs = some y) :
    ∃ it : Item, cs = [.int .u8 it.kind, .string it.text, .slice it.sa it.sl it.sc] ∧ Row W.heap.size W it.sa it.sl it.ss ∧ 0 ≤ it.kind ∧ it.kind ≤ 255 ∧ it.sl ≤ maxLen := by
  obtain ⟨y0, y1, y2, n, _, hl, h0, h1, h2⟩ := Deep.trod_struct3 Yba.underlying36 hf
  rw [cells36] at hl
  match cs, hl with
  | [c0, c1, c2], _ =>
    simp only [cells5, cells9, cells34, List.drop_zero, List.drop_succ_cons, List.take_succ_cons, List.take_zero] at h0 h1 h2
    obtain ⟨k, e0, _, hk⟩ := DataW.trod_int Yba.underlying5 h0
    obtain ⟨s, e1, _, _⟩ := DataW.trod_string Yba.underlying9 h1
    obtain ⟨sa, sl, sc, ss, e2, hm, hr⟩ := strs_of h2
    simp at e0 e1
    have hb := bounds_u8 hk
    exact ⟨⟨k, s, sa, sl, sc, ss⟩, by rw [e0, e1, e2], hr, hb.1, hb.2, hm⟩

theorem items_of {H : Type} {enc : TypeId × Value → H} {W : World} {a0 : Option Addr} {len cap : Nat} {x : DataW H} {ps : List MemPlace} (h : DataW.Trod enc Yba.prog W 0 (fun _ => true) true 22 (.slice a0 len cap) x ps) :
    len ≤ maxLen ∧ ∃ its : Nat → Item, Items W.heap.size W a0 len its ∧ ∀ i, i < len → (its i).sl ≤ maxLen := by
  obtain ⟨fuel, hf⟩ := h
  rcases DataW.trod_slice Yba.underlying22 hf with ⟨hcs, _⟩ | ⟨a, l, c, elems, rest, n, _, hcs, _, _, hl, hm, hlen, hel, _, _⟩
  · simp [Value.cells] at hcs
    obtain ⟨rfl, rfl, rfl⟩ := hcs
    exact ⟨Nat.zero_le _, fun _ => ⟨0, ByteArray.empty, none, 0, 0, []⟩, fun i hi => absurd hi (Nat.not_lt_zero _), fun i hi => absurd hi (Nat.not_lt_zero _)⟩
  · simp [Value.cells] at hcs
    obtain ⟨rfl, rfl, rfl⟩ := hcs
    have each : ∀ i, i < len → ∃ it : Item, W.cells? 0 (a.add (i * 3)) 3 = some [.int .u8 it.kind, .string it.text, .slice it.sa it.sl it.sc] ∧ Row W.heap.size W it.sa it.sl it.ss ∧ 0 ≤ it.kind ∧ it.kind ≤ 255 ∧ it.sl ≤ maxLen := fun i hi => by
      have h1 := hel i hi
      rw [cells36] at h1
      have he : ∃ y, elems[i]? = some y := ⟨elems[i]'(by omega), by simp [hlen, hi]⟩
      obtain ⟨y, hy⟩ := he
      rw [hy] at h1
      obtain ⟨cs, hc, ht⟩ := Option.bind_eq_some_iff.1 h1
      obtain ⟨it, rfl, g⟩ := item_of ht
      exact ⟨it, hc, g⟩
    have hch : ∀ i, ∃ it : Item, i < len → W.cells? 0 (a.add (i * 3)) 3 = some [.int .u8 it.kind, .string it.text, .slice it.sa it.sl it.sc] ∧ Row W.heap.size W it.sa it.sl it.ss ∧ 0 ≤ it.kind ∧ it.kind ≤ 255 ∧ it.sl ≤ maxLen := fun i => by
      by_cases hi : i < len
      · obtain ⟨it, h⟩ := each i hi; exact ⟨it, fun _ => h⟩
      · exact ⟨⟨0, ByteArray.empty, none, 0, 0, []⟩, fun h => absurd h hi⟩
    refine ⟨by omega, fun i => (hch i).choose, fun i hi => ?_, fun i hi => ((hch i).choose_spec hi).2.2.2.2⟩
    obtain ⟨it0, h0, _⟩ := each 0 (by omega)
    obtain ⟨g1, g2, g3, g4, g5⟩ := (hch i).choose_spec hi
    dsimp only
    generalize (hch i).choose = it at g1 g2 g3 g4 g5 ⊢
    have c0 := World.cells?_some h0
    have ci := World.cells?_some g1
    clear h0 g1 each hch hel
    obtain ⟨b, off, spot⟩ := a
    have hs : spot = none := by simpa [Addr.add] using World.cell?_spot (c0.2.2 0 (by omega))
    subst hs
    have e : ∀ j, j < 3 → W.cell? ⟨b, off + i * 3 + j, none⟩ = ([.int .u8 it.kind, .string it.text, .slice it.sa it.sl it.sc] : List Value)[j]? := fun j hj => by
      have h := ci.2.2 j hj
      rw [add_plain, add_plain] at h
      exact h
    have e0 : W.cell? ⟨b, off + i * 3, none⟩ = some (.int .u8 it.kind) := by simpa using e 0 (by omega)
    have e1 : W.cell? ⟨b, off + i * 3 + 1, none⟩ = some (.string it.text) := by simpa using e 1 (by omega)
    have e2 : W.cell? ⟨b, off + i * 3 + 2, none⟩ = some (.slice it.sa it.sl it.sc) := by simpa using e 2 (by omega)
    exact ⟨b, off, rfl, World.block_lt_of_cell? W _ e0, e0, e1, e2, g2, g3, g4⟩
end Go.Proofs.Ybulkbflq
