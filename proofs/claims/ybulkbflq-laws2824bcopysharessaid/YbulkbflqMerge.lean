/-
  isSubst (19), mergedInPlace$1 (18), mergedInPlace (14) over scalars.
-/
import Derived.Test.YbulkbflqTree
namespace Go.Proofs.Ybulkbflq
open Go.RowKit
set_option linter.unusedVariables false

theorem isSubst_scal (x : Value) (w : World) : Calls Yba.prog 19 #[.iface 41 x] w fun e w' => e = .returned (.bool false) ∧ w' = w := by
  have a1 := ta_41_46
  go_enter Yba.func19, Yba.ntmps19
  go_wp2
  go_ret
  exact ⟨rfl, rfl⟩

/-- A row of m scalars in block S. -/
def Scals (w : World) (S m : Nat) : Prop := ∃ cur : Array Value, w.heap[S]? = some (.cells cur 31 (0, 0)) ∧ cur.size = m ∧ ∀ j, j < m → ∃ x, cur[j]? = some (.iface 41 x)

theorem Scals.kept {w w' : World} {S m : Nat} (h : Scals w S m) (hk : w'.heap[S]? = w.heap[S]?) : Scals w' S m := by
  obtain ⟨cur, h1, h2⟩ := h
  exact ⟨cur, hk.trans h1, h2⟩

set_option maxRecDepth 100000 in
theorem written_any (S m b : Nat) (i : Int) (w : World) (hm : m ≤ 300) (hS : Scals w S m) (hb : w.cell? ⟨b, 0, none⟩ = some (.slice (some ⟨S, 0, none⟩) m m)) :
    Calls Yba.prog 18 #[.int .i64 i, .pointer (some ⟨b, 0, none⟩)] w fun e w' => e = .returned (.bool (decide (0 ≤ i ∧ i < m))) ∧ w' = w := by
  by_cases h0 : 0 ≤ i
  · by_cases h1 : i < (m : Int)
    · obtain ⟨n, rfl⟩ := Int.eq_ofNat_of_zero_le h0
      obtain ⟨cur, hc1, hc2, hc3⟩ := hS
      obtain ⟨x, hx⟩ := hc3 n (by omega)
      have hc := cell_of_row hc1 hx
      have e : decide (0 ≤ (n : Int) ∧ (n : Int) < m) = true := decide_eq_true ⟨h0, h1⟩
      rw [e]
      clear hc1 hc2 hc3 hx e
      go_enter Yba.func18, Yba.ntmps18
      go_wp2_with (go_at_call 19; refine (isSubst_scal _ _).mono ?_; rintro e w' ⟨rfl, rfl⟩)
      go_ret
      exact ⟨rfl, rfl⟩
    · have e : decide (0 ≤ i ∧ i < m) = false := decide_eq_false (by omega)
      rw [e]
      clear e hS
      go_enter Yba.func18, Yba.ntmps18
      go_wp2
      go_ret
      exact ⟨rfl, rfl⟩
  · have e : decide (0 ≤ i ∧ i < m) = false := decide_eq_false (by omega)
    rw [e]
    clear e hS
    go_enter Yba.func18, Yba.ntmps18
    go_wp2
    go_ret
    exact ⟨rfl, rfl⟩

set_option maxHeartbeats 1600000 in
set_option maxRecDepth 100000 in
theorem merged_zero (S m : Nat) (w : World) (hm : m ≤ 300) (hi : 0 < m) (hS : Scals w S m) :
    Calls Yba.prog 14 #[.slice (some ⟨S, 0, none⟩) m m, .int .i64 0] w fun e w' => e = .returned (.bool (decide (2 ≤ m))) ∧ w' = w.alloc (.cells #[.slice (some ⟨S, 0, none⟩) m m] 43) := by
  have hmf : ∀ (fn : Fn) (first cap : Array Value) (w : World), (Instr.makeFunc fn first cap).run Yba.prog w = .ok (.func fn first cap) w := fun _ _ _ _ => rfl
  have hlt : S < w.heap.size := by obtain ⟨cur, h1, _⟩ := hS; exact lt_of_block h1
  have HS := hide (hS.kept (w' := w.alloc (.cells #[.slice (some ⟨S, 0, none⟩) m m] 43)) (Below.heap_alloc _ _ _ hlt))
  have hb : (w.alloc (.cells #[.slice (some ⟨S, 0, none⟩) m m] 43)).cell? ⟨w.heap.size, 0, none⟩ = some (.slice (some ⟨S, 0, none⟩) m m) := by simp
  have hm' : (m : Int) ≤ 300 := by omega
  have hi' : (0 : Int) < (m : Int) := by omega
  have e1 : decide (0 ≤ (0 : Int) ∧ (0 : Int) < m) = true := decide_eq_true ⟨by omega, hi'⟩
  have e2 : decide (0 ≤ (-1 : Int) ∧ (-1 : Int) < m) = false := decide_eq_false (by omega)
  have e3 : decide (0 ≤ (1 : Int) ∧ (1 : Int) < m) = decide (2 ≤ m) := by
    by_cases h : 2 ≤ m
    · rw [decide_eq_true h]; exact decide_eq_true ⟨by omega, by omega⟩
    · rw [decide_eq_false h]; exact decide_eq_false (by omega)
  have HB := hide hb
  have E1 := hide e1
  have E2 := hide e2
  have E3 := hide e3
  generalize decide (2 ≤ m) = bb at E3
  clear hS hb e1 e2 e3
  go_enter Yba.func14, Yba.ntmps14
  go_wp2_with fail
  refine (written_any S m _ _ _ hm HS.out HB.out).mono ?_
  rintro e w' ⟨rfl, rfl⟩
  rw [E1.out]
  go_wp2_with fail
  refine (written_any S m _ _ _ hm HS.out HB.out).mono ?_
  rintro e w' ⟨rfl, rfl⟩
  rw [E2.out]
  go_wp2_with fail
  refine (written_any S m _ _ _ hm HS.out HB.out).mono ?_
  rintro e w' ⟨rfl, rfl⟩
  rw [E3.out]
  go_wp2
  go_ret
  exact ⟨rfl, rfl⟩

set_option maxHeartbeats 1600000 in
set_option maxRecDepth 100000 in
theorem merged_any (S m i : Nat) (w : World) (hm : m ≤ 300) (hi : i < m) (hS : Scals w S m) :
    Calls Yba.prog 14 #[.slice (some ⟨S, 0, none⟩) m m, .int .i64 (i : Int)] w fun e w' => e = .returned (.bool (decide (2 ≤ m))) ∧ w' = w.alloc (.cells #[.slice (some ⟨S, 0, none⟩) m m] 43) := by
  have hmf : ∀ (fn : Fn) (first cap : Array Value) (w : World), (Instr.makeFunc fn first cap).run Yba.prog w = .ok (.func fn first cap) w := fun _ _ _ _ => rfl
  have hlt : S < w.heap.size := by obtain ⟨cur, h1, _⟩ := hS; exact lt_of_block h1
  have HS := hide (hS.kept (w' := w.alloc (.cells #[.slice (some ⟨S, 0, none⟩) m m] 43)) (Below.heap_alloc _ _ _ hlt))
  have hb : (w.alloc (.cells #[.slice (some ⟨S, 0, none⟩) m m] 43)).cell? ⟨w.heap.size, 0, none⟩ = some (.slice (some ⟨S, 0, none⟩) m m) := by simp
  have hm' : (m : Int) ≤ 300 := by omega
  have hi' : (i : Int) < (m : Int) := by omega
  have e1 : decide (0 ≤ (i : Int) ∧ (i : Int) < m) = true := decide_eq_true ⟨by omega, hi'⟩
  have HB := hide hb
  have hS0 := hide hS
  clear hS hb
  by_cases h1 : 1 ≤ i
  · have e2 : decide (0 ≤ (i : Int) - 1 ∧ (i : Int) - 1 < m) = true := decide_eq_true ⟨by omega, by omega⟩
    have e3 : decide (2 ≤ m) = true := decide_eq_true (by omega)
    have h1' : (1 : Int) ≤ i := by omega
    rw [e3]
    go_enter Yba.func14, Yba.ntmps14
    go_wp2_with fail
    refine (written_any S m _ _ _ hm HS.out HB.out).mono ?_
    rintro e w' ⟨rfl, rfl⟩
    rw [e1]
    go_wp2_with fail
    refine (written_any S m _ _ _ hm HS.out HB.out).mono ?_
    rintro e w' ⟨rfl, rfl⟩
    rw [e2]
    go_wp2
    go_ret
    exact ⟨rfl, rfl⟩
  · obtain rfl : i = 0 := by omega
    rw [show ((0 : Nat) : Int) = 0 from rfl]
    exact merged_zero S m w hm (by omega) hS0.out
end Go.Proofs.Ybulkbflq
