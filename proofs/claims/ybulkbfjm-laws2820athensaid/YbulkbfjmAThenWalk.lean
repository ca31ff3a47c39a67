/-
  LawS2820AThen (4): the walks.
-/
import Derived.Test.YbulkbfjmThen2
namespace Go.Proofs.Ybulkbfjm.lawS2820AThen
open Go.RowKit
set_option linter.unusedVariables false

set_option maxHeartbeats 6400000 in
set_option maxRecDepth 100000 in
theorem walk_asc (a b dir : Int) (hd : ¬ dir < 0) (w : World) :
    Calls Yba.prog 4 #[.int .i64 a, .int .i64 b, .int .i64 dir] w fun e w' => e = .returned (.bool true) ∧ Below w.heap.size w w' := by
  have q3 := eqf29
  go_enter Yba.func4, Yba.ntmps4
  go_wp2_with fail
  refine (compareKey_asc _ _ _ _ _ _ _ _ (by omega) _).mono ?_
  rintro e w1 ⟨rfl, rfl⟩
  go_wp2_with fail
  refine (compareKey_asc _ _ _ _ _ _ _ _ (by decide) _).mono ?_
  rintro e w1 ⟨rfl, rfl⟩
  go_wp2_with fail
  refine (then_one (w.heap.size + 1 + 1 + 1 + 1 + 1 + 1 + 1 + 1 + 1 + 1 + 1 + 1) (w.heap.size + 1 + 1 + 1 + 1 + 1 + 1 + 1 + 1 + 1) (w.heap.size + 1 + 1 + 1) (.func 39) #[] #[.pointer (some ⟨w.heap.size + 1 + 1 + 1 + 1 + 1 + 1 + 1, 0, none⟩), .pointer (some ⟨w.heap.size + 1 + 1 + 1 + 1 + 1 + 1, 0, none⟩)] _ ?_ ?_).mono ?_
  · go_simp
  · go_simp
  rintro e w1 ⟨rfl, rfl⟩
  go_wp2_with fail
  cases e0 : (lowdiff a b != 0)
  case true =>
    refine (c48_asc_first a b (w.heap.size + 1 + 1 + 1) (w.heap.size + 1 + 1 + 1 + 1 + 1 + 1 + 1 + 1 + 1 + 1 + 1 + 1 + 1 + 1) w.heap.size (w.heap.size + 1) _ ?_ ?_ ?_ e0).mono ?_
    · go_simp
    · go_simp
    · go_simp
    rintro e w1 ⟨rfl, rfl⟩
    have E0 : (wrap64 (low a - low b) != 0) = true := e0
    go_wp2_with (go_at_call 14; refine (low_any _ _).mono ?_; rintro e w2 ⟨rfl, rfl⟩)
    go_ret
    exact ⟨by simp [lowdiff], by repeat (first | exact Below.refl _ _ | refine Below.drew ?_ | (refine Below.alloc ?_ (by simp <;> omega) _))⟩
  case false =>
    refine (c48_asc_next a b (w.heap.size + 1 + 1 + 1) (w.heap.size + 1 + 1 + 1 + 1 + 1 + 1 + 1 + 1 + 1 + 1 + 1 + 1 + 1 + 1) w.heap.size (w.heap.size + 1) (w.heap.size + 1 + 1 + 1 + 1 + 1 + 1) (w.heap.size + 1 + 1 + 1 + 1 + 1 + 1 + 1) _ ?_ ?_ ?_ e0 ?_ ?_ ?_).mono ?_
    · go_simp
    · go_simp
    · go_simp
    · go_simp
    · go_simp
    · go_simp
    rintro e w1 ⟨rfl, rfl⟩
    have E0 : (wrap64 (low a - low b) != 0) = false := e0
    go_wp2_with (go_at_call 14; refine (low_any _ _).mono ?_; rintro e w2 ⟨rfl, rfl⟩)
    all_goals go_ret
    · exact ⟨by rw [cmpI_less ‹_›]; rfl, by repeat (first | exact Below.refl _ _ | refine Below.drew ?_ | (refine Below.alloc ?_ (by simp <;> omega) _))⟩
    · exact ⟨by rw [cmpI_more ‹_›]; rfl, by repeat (first | exact Below.refl _ _ | refine Below.drew ?_ | (refine Below.alloc ?_ (by simp <;> omega) _))⟩
    · exact ⟨by rw [cmpI_same ‹_› ‹_›]; rfl, by repeat (first | exact Below.refl _ _ | refine Below.drew ?_ | (refine Below.alloc ?_ (by simp <;> omega) _))⟩

set_option maxHeartbeats 6400000 in
set_option maxRecDepth 100000 in
theorem walk_desc (a b dir : Int) (hd : dir < 0) (w : World) :
    Calls Yba.prog 4 #[.int .i64 a, .int .i64 b, .int .i64 dir] w fun e w' => e = .returned (.bool true) ∧ Below w.heap.size w w' := by
  have q3 := eqf29
  go_enter Yba.func4, Yba.ntmps4
  go_wp2_with fail
  refine (compareKey_desc _ _ _ _ _ _ _ _ hd _).mono ?_
  rintro e w1 ⟨rfl, rfl⟩
  go_wp2_with fail
  refine (compareKey_asc _ _ _ _ _ _ _ _ (by decide) _).mono ?_
  rintro e w1 ⟨rfl, rfl⟩
  go_wp2_with fail
  refine (then_one (w.heap.size + 1 + 1 + 1 + 1 + 1 + 1 + 1 + 1 + 1 + 1 + 1 + 1) (w.heap.size + 1 + 1 + 1 + 1 + 1 + 1 + 1 + 1 + 1) (w.heap.size + 1 + 1 + 1) (.func 39) #[] #[.pointer (some ⟨w.heap.size + 1 + 1 + 1 + 1 + 1 + 1 + 1, 0, none⟩), .pointer (some ⟨w.heap.size + 1 + 1 + 1 + 1 + 1 + 1, 0, none⟩)] _ ?_ ?_).mono ?_
  · go_simp
  · go_simp
  rintro e w1 ⟨rfl, rfl⟩
  go_wp2_with fail
  cases e0 : (lowdiff b a != 0)
  case true =>
    refine (c48_desc_first a b (w.heap.size + 1 + 1 + 1) (w.heap.size + 1 + 1 + 1 + 1 + 1 + 1 + 1 + 1 + 1 + 1 + 1 + 1 + 1 + 1) w.heap.size (w.heap.size + 1) _ ?_ ?_ ?_ e0).mono ?_
    · go_simp
    · go_simp
    · go_simp
    rintro e w1 ⟨rfl, rfl⟩
    have E0 : (wrap64 (low b - low a) != 0) = true := e0
    go_wp2_with (go_at_call 14; refine (low_any _ _).mono ?_; rintro e w2 ⟨rfl, rfl⟩)
    go_ret
    exact ⟨by simp [lowdiff], by repeat (first | exact Below.refl _ _ | refine Below.drew ?_ | (refine Below.alloc ?_ (by simp <;> omega) _))⟩
  case false =>
    refine (c48_desc_next a b (w.heap.size + 1 + 1 + 1) (w.heap.size + 1 + 1 + 1 + 1 + 1 + 1 + 1 + 1 + 1 + 1 + 1 + 1 + 1 + 1) w.heap.size (w.heap.size + 1) (w.heap.size + 1 + 1 + 1 + 1 + 1 + 1) (w.heap.size + 1 + 1 + 1 + 1 + 1 + 1 + 1) _ ?_ ?_ ?_ e0 ?_ ?_ ?_).mono ?_
    · go_simp
    · go_simp
    · go_simp
    · go_simp
    · go_simp
    · go_simp
    rintro e w1 ⟨rfl, rfl⟩
    have E0 : (wrap64 (low b - low a) != 0) = false := e0
    go_wp2_with (go_at_call 14; refine (low_any _ _).mono ?_; rintro e w2 ⟨rfl, rfl⟩)
    all_goals go_ret
    · exact ⟨by rw [cmpI_less ‹_›]; rfl, by repeat (first | exact Below.refl _ _ | refine Below.drew ?_ | (refine Below.alloc ?_ (by simp <;> omega) _))⟩
    · exact ⟨by rw [cmpI_more ‹_›]; rfl, by repeat (first | exact Below.refl _ _ | refine Below.drew ?_ | (refine Below.alloc ?_ (by simp <;> omega) _))⟩
    · exact ⟨by rw [cmpI_same ‹_› ‹_›]; rfl, by repeat (first | exact Below.refl _ _ | refine Below.drew ?_ | (refine Below.alloc ?_ (by simp <;> omega) _))⟩

end Go.Proofs.Ybulkbfjm.lawS2820AThen
