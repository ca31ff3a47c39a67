/-
  LawS2820AThen: keyFrom$1 (46) with one further key, keyFrom$1$1 (48).
-/
import Derived.Test.YbulkbfjmThen
namespace Go.Proofs.Ybulkbfjm.lawS2820AThen
open Go.RowKit
set_option linter.unusedVariables false

set_option maxHeartbeats 1600000 in
set_option maxRecDepth 100000 in
theorem then_one (g pb b : Nat) (fn : Fn) (f c : Array Value) (w : World) (hg : w.cell? ⟨g, 0, none⟩ = some (.func (.func 46) #[] #[.pointer (some ⟨pb, 0, none⟩)])) (h : w.cell? ⟨pb, 0, none⟩ = some (.func fn f c)) :
    Calls Yba.prog 46 #[.slice (some ⟨g, 0, none⟩) 1 1, .pointer (some ⟨b, 0, none⟩)] w fun e w' => e = .returned (.func (.func 48) #[] #[.pointer (some ⟨b, 0, none⟩), .pointer (some ⟨w.heap.size + 1, 0, none⟩)]) ∧
      w' = ((w.alloc (.cells #[.nilFunc] 29)).alloc (.cells #[.func fn f c] 29)).drew := by
  have hmf : ∀ (fn : Fn) (first cap : Array Value) (w : World), (Instr.makeFunc fn first cap).run Yba.prog w = .ok (.func fn first cap) w := fun _ _ _ _ => rfl
  have q3 := eqf29
  go_enter Yba.func46, Yba.ntmps46
  go_wp2_with (go_at_call 47; refine (order_one g pb fn f c _ hg h).mono ?_; rintro e w1 ⟨rfl, rfl⟩)
  go_ret
  exact ⟨rfl, rfl⟩

set_option maxHeartbeats 1600000 in
set_option maxRecDepth 100000 in
theorem c48_asc_first (x y : Int) (b bn pk pc : Nat) (w : World) (hb : w.cell? ⟨b, 0, none⟩ = some (.func (.func 39) #[] #[.pointer (some ⟨pc, 0, none⟩), .pointer (some ⟨pk, 0, none⟩)]))
    (hpk : w.cell? ⟨pk, 0, none⟩ = some (.func (.func 12) #[] #[])) (hpc : w.cell? ⟨pc, 0, none⟩ = some (.func (.func 13) #[] #[])) (hne : (lowdiff x y != 0) = true) :
    Calls Yba.prog 48 #[.int .i64 x, .int .i64 y, .pointer (some ⟨b, 0, none⟩), .pointer (some ⟨bn, 0, none⟩)] w fun e w' => e = .returned (.int .i64 (lowdiff x y)) ∧ w' = w.drew := by
  go_enter Yba.func48, Yba.ntmps48
  go_wp2_with (go_at_call 39; refine (asc13_any x y pk pc _ hpk hpc).mono ?_; rintro e w1 ⟨rfl, rfl⟩)
  go_ret
  exact ⟨rfl, rfl⟩

set_option maxHeartbeats 1600000 in
set_option maxRecDepth 100000 in
theorem c48_asc_next (x y : Int) (b bn pk pc pk2 pc2 : Nat) (w : World) (hb : w.cell? ⟨b, 0, none⟩ = some (.func (.func 39) #[] #[.pointer (some ⟨pc, 0, none⟩), .pointer (some ⟨pk, 0, none⟩)]))
    (hpk : w.cell? ⟨pk, 0, none⟩ = some (.func (.func 12) #[] #[])) (hpc : w.cell? ⟨pc, 0, none⟩ = some (.func (.func 13) #[] #[])) (hne : (lowdiff x y != 0) = false)
    (hn : w.cell? ⟨bn, 0, none⟩ = some (.func (.func 39) #[] #[.pointer (some ⟨pc2, 0, none⟩), .pointer (some ⟨pk2, 0, none⟩)])) (hpk2 : w.cell? ⟨pk2, 0, none⟩ = some (.func (.func 12) #[] #[])) (hpc2 : w.cell? ⟨pc2, 0, none⟩ = some (.func (.func 15) #[] #[])) :
    Calls Yba.prog 48 #[.int .i64 x, .int .i64 y, .pointer (some ⟨b, 0, none⟩), .pointer (some ⟨bn, 0, none⟩)] w fun e w' => e = .returned (.int .i64 (cmpI x y)) ∧ w' = w.drew.drew := by
  go_enter Yba.func48, Yba.ntmps48
  go_wp2_with fail
  refine (asc13_any x y pk pc _ hpk hpc).mono ?_
  rintro e w1 ⟨rfl, rfl⟩
  go_wp2_with fail
  refine (asc15_any x y pk2 pc2 w.drew hpk2 hpc2).mono ?_
  rintro e w1 ⟨rfl, rfl⟩
  go_wp2
  go_ret
  exact ⟨rfl, rfl⟩

set_option maxHeartbeats 1600000 in
set_option maxRecDepth 100000 in
theorem c48_desc_first (x y : Int) (b bn pk pc : Nat) (w : World) (hb : w.cell? ⟨b, 0, none⟩ = some (.func (.func 38) #[] #[.pointer (some ⟨pc, 0, none⟩), .pointer (some ⟨pk, 0, none⟩)]))
    (hpk : w.cell? ⟨pk, 0, none⟩ = some (.func (.func 12) #[] #[])) (hpc : w.cell? ⟨pc, 0, none⟩ = some (.func (.func 13) #[] #[])) (hne : (lowdiff y x != 0) = true) :
    Calls Yba.prog 48 #[.int .i64 x, .int .i64 y, .pointer (some ⟨b, 0, none⟩), .pointer (some ⟨bn, 0, none⟩)] w fun e w' => e = .returned (.int .i64 (lowdiff y x)) ∧ w' = w.drew := by
  go_enter Yba.func48, Yba.ntmps48
  go_wp2_with (go_at_call 38; refine (desc13_any x y pk pc _ hpk hpc).mono ?_; rintro e w1 ⟨rfl, rfl⟩)
  go_ret
  exact ⟨rfl, rfl⟩

set_option maxHeartbeats 1600000 in
set_option maxRecDepth 100000 in
theorem c48_desc_next (x y : Int) (b bn pk pc pk2 pc2 : Nat) (w : World) (hb : w.cell? ⟨b, 0, none⟩ = some (.func (.func 38) #[] #[.pointer (some ⟨pc, 0, none⟩), .pointer (some ⟨pk, 0, none⟩)]))
    (hpk : w.cell? ⟨pk, 0, none⟩ = some (.func (.func 12) #[] #[])) (hpc : w.cell? ⟨pc, 0, none⟩ = some (.func (.func 13) #[] #[])) (hne : (lowdiff y x != 0) = false)
    (hn : w.cell? ⟨bn, 0, none⟩ = some (.func (.func 39) #[] #[.pointer (some ⟨pc2, 0, none⟩), .pointer (some ⟨pk2, 0, none⟩)])) (hpk2 : w.cell? ⟨pk2, 0, none⟩ = some (.func (.func 12) #[] #[])) (hpc2 : w.cell? ⟨pc2, 0, none⟩ = some (.func (.func 15) #[] #[])) :
    Calls Yba.prog 48 #[.int .i64 x, .int .i64 y, .pointer (some ⟨b, 0, none⟩), .pointer (some ⟨bn, 0, none⟩)] w fun e w' => e = .returned (.int .i64 (cmpI x y)) ∧ w' = w.drew.drew := by
  go_enter Yba.func48, Yba.ntmps48
  go_wp2_with fail
  refine (desc13_any x y pk pc _ hpk hpc).mono ?_
  rintro e w1 ⟨rfl, rfl⟩
  go_wp2_with fail
  refine (asc15_any x y pk2 pc2 w.drew hpk2 hpc2).mono ?_
  rintro e w1 ⟨rfl, rfl⟩
  go_wp2
  go_ret
  exact ⟨rfl, rfl⟩


theorem heap_alloc_if (w : World) (o : Obj) (k : Nat) : (w.alloc o).heap[k]? = if k = w.heap.size then some o else w.heap[k]? := by
  show (w.heap.push o)[k]? = _
  rw [Array.getElem?_push]

end Go.Proofs.Ybulkbfjm.lawS2820AThen
