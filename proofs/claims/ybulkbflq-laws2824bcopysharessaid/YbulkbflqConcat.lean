/-
  copyMerged (13) at a scalar and copy (7) at a concatenation of scalars; no sharing.
-/
import Derived.Test.YbulkbflqList
import Derived.Test.YbulkbflqMerge
namespace Go.Proofs.Ybulkbflq
open Go.RowKit
set_option linter.unusedVariables false

set_option maxHeartbeats 1600000 in
set_option maxRecDepth 100000 in
theorem merge_plain (c : Nat) (line col : Int) (t : ByteArray) (b : Bool) (z : Int) (w : World) (h : Cop w c z .nilFunc) :
    Calls Yba.prog 13 #[.pointer (some ⟨c, 0, none⟩), .iface 41 (.agg #[.string ⟨#[]⟩, .int .i64 line, .int .i64 col, .int .i64 0, .string t, .bool false]), .bool b] w fun e w' =>
      e = .returned (.iface 41 (.agg #[.string ⟨#[]⟩, .int .i64 line, .int .i64 col, .int .i64 0, .string t, .bool false])) ∧ Cop w' c (wrap64 (z + wrap64 (1 + t.size))) .nilFunc ∧ Step c w w' := by
  have a7 := eqn27
  have c1 := h.cell1
  have HH := hide h
  clear h
  go_enter Yba.func13, Yba.ntmps13
  go_wp2_with (go_at_call 7; refine (scal_plain c line col t z _ HH.out).mono ?_; rintro e w1 ⟨rfl, hC, hS⟩; have HC := hide hC; have HS := hide hS; clear hC hS)
  go_ret
  exact ⟨rfl, HC.out, HS.out⟩

/-- The concatenation's loop after k rounds. -/
structure CInv (w : World) (c m : Nat) (p : Nat → Value) (sz : Nat → Int) (sh : Value) (z : Int) (k : Nat) (wr : World) : Prop where
  row : ∃ cur : Array Value, wr.heap[w.heap.size]? = some (.cells cur 31 (0, 0)) ∧ cur.size = m ∧ ∀ j, j < k → cur[j]? = some (p j)
  cop : Cop wr c (wrap64 (z + 1 + total sz k)) sh
  step : Step c w wr
  size : w.heap.size + 1 ≤ wr.heap.size

theorem CInv.start {w : World} {c m : Nat} {p : Nat → Value} {sz : Nat → Int} {sh : Value} {z : Int} (h : Cop w c z sh) :
    CInv w c m p sz sh z 0 ((w.setCell ⟨c, 0, none⟩ (.int .i64 (wrap64 (z + 1)))).alloc (.cells (rowN m) 31)) := by
  have hs : (w.setCell ⟨c, 0, none⟩ (.int .i64 (wrap64 (z + 1)))).heap.size = w.heap.size := by simp [World.setCell]
  refine ⟨⟨rowN m, ?_, rowN_size m, fun i hi => absurd hi (Nat.not_lt_zero _)⟩, ?_, ((Step.refl c w).setCop 0 _).alloc _, by simp [hs]⟩
  · rw [← hs]; exact heap_alloc_new _ _
  · have e : z + 1 + total sz 0 = z + 1 := by simp [total]
    rw [e]
    exact (h.set _).alloc _

theorem CInv.next {w : World} {c m : Nat} {p : Nat → Value} {sz : Nat → Int} {sh : Value} {z : Int} {k : Nat} {wr w2 : World} {x : Int} (hc : c < w.heap.size) (h : CInv w c m p sz sh z k wr) (hk : k < m) (hx : Step c wr w2)
    (hcop : Cop w2 c (wrap64 (wrap64 (z + 1 + total sz k) + x)) sh) (he : wrap64 (z + 1 + total sz k + x) = wrap64 (z + 1 + total sz k + sz k)) : CInv w c m p sz sh z (k + 1) (w2.setCell ⟨w.heap.size, k, none⟩ (p k)) := by
  have hs := h.size
  have hs2 := hx.size
  obtain ⟨cur, h1, h2, h3⟩ := h.row
  have h1' : w2.heap[w.heap.size]? = some (.cells cur 31 (0, 0)) := (hx.block _ (by omega) (by omega)).trans h1
  refine ⟨⟨cur.setIfInBounds k (p k), row_setCell h1', by simpa using h2, set_get (by omega) h3 rfl⟩, ?_, ?_, by simp [World.setCell]; omega⟩
  · show (w2.setCell ⟨w.heap.size, k, none⟩ (p k)).heap[c]? = _
    rw [Below.heap_setCell _ _ _ _ (by show c ≠ w.heap.size; omega)]
    rw [wrap_add, he, Int.add_assoc] at hcop
    exact hcop
  · have h3 := h.step.trans hx
    exact ⟨h3.os, h3.tape, h3.output, by simp [World.setCell]; omega, fun b hb hbc => (Below.heap_setCell _ _ _ _ (by show b ≠ w.heap.size; omega)).trans (h3.block b hb hbc)⟩

set_option maxHeartbeats 6400000 in
set_option maxRecDepth 100000 in
theorem concat_plain (c C S m : Nat) (line : Int) (ss : List ByteArray) (app : Bool) (z : Int) (w : World) (hm : m ≤ 300) (hcop : Cop w c z .nilFunc) (hcC : C ≠ c) (hcS : S ≠ c)
    (hC : w.heap[C]? = some (.cells #[.slice (some ⟨S, 0, none⟩) m m, .slice none 0 0, .bool app] 53 (0, 0)))
    (hS : ∃ cur : Array Value, w.heap[S]? = some (.cells cur 31 (0, 0)) ∧ cur.size = m ∧ ∀ j, j < m → cur[j]? = some (part line ss j)) :
    Calls Yba.prog 7 #[.pointer (some ⟨c, 0, none⟩), .iface 51 (.pointer (some ⟨C, 0, none⟩))] w fun e w' => ∃ w1, e = .returned (.iface 51 (.pointer (some ⟨w1.heap.size, 0, none⟩))) ∧
      CInv w c m (part line ss) (fun j => 1 + (ss.getD j ByteArray.empty).size) .nilFunc z m w1 ∧ w' = (w1.alloc (.cells #[.slice (some ⟨w.heap.size, 0, none⟩) m m, .slice none 0 0, .bool app] 53)).drew := by
  have a1 := ta_51_54
  have a2 := ta_51_24
  have a3 := ta_51_56
  have a4 := ta_51_51
  have a7 := neqn27
  have c0 := hcop.cell0
  have c1 := hcop.cell1
  have f0 := hcop.free 0
  have hlt := lt_of_block hcop
  have hltC := lt_of_block hC
  have hltS : S < w.heap.size := by obtain ⟨cur, h1, _⟩ := hS; exact lt_of_block h1
  have hmk := make_row m hm
  have hm' : (m : Int) ≤ 300 := by omega
  have hC1 : (w.setCell ⟨c, 0, none⟩ (.int .i64 (wrap64 (z + 1)))).heap[C]? = _ := (Below.heap_setCell _ _ _ _ hcC).trans hC
  have p0 := cell_of_row (k := 0) (u := .slice (some ⟨S, 0, none⟩) m m) hC1 rfl
  have HC := hide hC
  have HS := hide hS
  have HCop := hide hcop
  have hsz1 : (w.setCell ⟨c, 0, none⟩ (.int .i64 (wrap64 (z + 1)))).heap.size = w.heap.size := by simp [World.setCell]
  have p1 := (World.cell?_alloc_lt (w.setCell ⟨c, 0, none⟩ (.int .i64 (wrap64 (z + 1)))) (.cells (rowN m) 31) ⟨C, 0, none⟩ (by rw [hsz1]; exact hltC)).trans p0
  have hne0 : w.heap.size ≠ c := by omega
  clear hS hcop hC hC1 hsz1
  go_enter Yba.func7, Yba.ntmps7
  go_wp2
  go_loopw [118] (fun i wr => ∃ k : Nat, k ≤ m ∧ i = .int .i64 k ∧ CInv w c m (part line ss) (fun j => 1 + (ss.getD j ByteArray.empty).size) .nilFunc z k wr) (fun i _ => m - (intOf i).toNat)
  case atStart => exact ⟨0, Nat.zero_le _, rfl, CInv.start HCop.out⟩
  case round =>
    obtain ⟨k, hk, rfl, hB⟩ := hrel
    by_cases hkl : k < m
    · have hkl' : (k : Int) < (m : Int) := by omega
      have hsz := hB.size
      obtain ⟨src, hs1, hs2, hs3⟩ := HS.out
      have hsS := (hB.step.block S (lt_of_block hs1) hcS).trans hs1
      have q0 : wr.cell? ⟨S, k, none⟩ = some (.iface 41 (.agg #[.string ⟨#[]⟩, .int .i64 line, .int .i64 ((k : Int) + 1), .int .i64 0, .string (ss.getD k ByteArray.empty), .bool false])) := cell_of_row hsS (hs3 k hkl)
      have q1 : wr.cell? ⟨C, 0, none⟩ = some (.slice (some ⟨S, 0, none⟩) m m) := cell_of_row ((hB.step.block C hltC hcC).trans HC.out) rfl
      obtain ⟨cur, hc1, hc2, hc3⟩ := hB.row
      obtain ⟨u0, hu0⟩ : ∃ u, cur[k]? = some u := ⟨cur[k]'(by omega), by simp [hc2, hkl]⟩
      have HSc : Hid (Scals wr S m) := ⟨src, hsS, hs2, fun j hj => ⟨_, hs3 j hj⟩⟩
      have HCur := hide hc1
      have HU := hide hu0
      have HB := hide hB
      have HCop1 := hide (hB.cop.alloc (.cells #[.slice (some ⟨S, 0, none⟩) m m] 43))
      obtain ⟨t, ht⟩ : ∃ t, t = ss.getD k ByteArray.empty := ⟨_, rfl⟩
      rw [← ht] at q0
      have HT := hide ht
      clear hB hs1 hs2 hs3 hsS hc1 hc2 hc3 hu0 p0 p1 c0 c1 f0 hmk ht
      go_wp2_with fail
      refine (merged_any S m k _ hm hkl HSc.out).mono ?_
      rintro e w1 ⟨rfl, rfl⟩
      generalize decide (2 ≤ m) = bb
      go_wp2_with fail
      refine (merge_plain c line ((k : Int) + 1) t bb _ _ HCop1.out).mono ?_
      rintro e w1 ⟨rfl, hC, hSt⟩
      have hSt2 := (Step.refl c wr).alloc (.cells #[.slice (some ⟨S, 0, none⟩) m m] 43) |>.trans hSt
      have m2 := (hSt2.block w.heap.size (by omega) hne0).trans HCur.out
      have m3 := cell_of_row m2 HU.out
      have m4 := free_of_row (k := k) m2
      have HC2 := hide hC
      have HS2 := hide hSt2
      clear hC hSt hSt2 m2
      go_wp2
      have hfin := HB.out.next hlt hkl HS2.out HC2.out (by rw [wrap_add', HT.out])
      rw [show part line ss k = .iface 41 (.agg #[.string ⟨#[]⟩, .int .i64 line, .int .i64 ((k : Int) + 1), .int .i64 0, .string t, .bool false]) from by rw [HT.out]; rfl] at hfin
      go_roundw
      case rel => exact ⟨k + 1, by omega, by go_num, hfin⟩
      case measure => simp [intOf]; omega
    · obtain rfl : k = m := by omega
      have hCr := (hB.step.block C hltC hcC).trans HC.out
      have q1 := cell_of_row (k := 1) (u := .slice none 0 0) hCr rfl
      have q2 := cell_of_row (k := 2) (u := .bool app) hCr rfl
      have HB := hide hB
      clear hB hCr p0 p1 c0 c1 f0 hmk
      go_wp2_with fail
      go_region_held3 (fun w' => w'.cell? ⟨C, 1, none⟩ = some (.slice none 0 0) ∧ w'.cell? ⟨C, 2, none⟩ = some (.bool app)) (go_keep) (first | fail)
      go_wp2
      go_ret
      exact ⟨wr, rfl, HB.out, rfl⟩
end Go.Proofs.Ybulkbflq
