/-
  LawS2820AThen: the plain closures, compareKey's closures over them, order (47), keyFrom$1 (46), keyFrom$1$1 (48).
-/
import Derived.Test.YbulkbfjmMade
import Derived.Test.YbulkbfjmStrs
import Derived.Deep.RegionHeld3
namespace Go.Proofs.Ybulkbfjm.lawS2820AThen
open Go.RowKit
set_option linter.unusedVariables false

theorem hide {p : Prop} (h : p) : Hid p := h

theorem id_any (v : Int) (w : World) : Calls Yba.prog 12 #[.int .i64 v] w fun e w' => e = .returned (.int .i64 v) ∧ w' = w := by
  go_enter Yba.func12, Yba.ntmps12
  go_wp2
  go_ret
  exact ⟨rfl, rfl⟩

def low (v : Int) : Int := bits .and .i64 v 3
theorem low_any (v : Int) (w : World) : Calls Yba.prog 14 #[.int .i64 v] w fun e w' => e = .returned (.int .i64 (low v)) ∧ w' = w := by
  go_enter Yba.func14, Yba.ntmps14
  go_wp2
  go_ret
  exact ⟨rfl, rfl⟩

def lowdiff (x y : Int) : Int := wrap64 (low x - low y)
theorem cmp13_any (x y : Int) (w : World) : Calls Yba.prog 13 #[.int .i64 x, .int .i64 y] w fun e w' => e = .returned (.int .i64 (lowdiff x y)) ∧ w' = w := by
  go_enter Yba.func13, Yba.ntmps13
  go_wp2_with (go_at_call 14; refine (low_any _ _).mono ?_; rintro e w' ⟨rfl, rfl⟩)
  go_ret
  exact ⟨rfl, rfl⟩

set_option maxHeartbeats 1600000 in
set_option maxRecDepth 100000 in
theorem asc13_any (a b : Int) (pk pc : Nat) (w : World) (hpk : w.cell? ⟨pk, 0, none⟩ = some (.func (.func 12) #[] #[])) (hpc : w.cell? ⟨pc, 0, none⟩ = some (.func (.func 13) #[] #[])) :
    Calls Yba.prog 39 #[.int .i64 a, .int .i64 b, .pointer (some ⟨pc, 0, none⟩), .pointer (some ⟨pk, 0, none⟩)] w fun e w' => e = .returned (.int .i64 (lowdiff a b)) ∧ w' = w.drew := by
  go_enter Yba.func39, Yba.ntmps39
  go_wp2
  go_region_held3 (fun w' => w'.cell? ⟨pk, 0, none⟩ = some (.func (.func 12) #[] #[]) ∧ w'.cell? ⟨pc, 0, none⟩ = some (.func (.func 13) #[] #[])) (go_keep) (first
    | (go_at_call 12; refine (id_any _ _).mono ?_; rintro e w1 ⟨rfl, rfl⟩)
    | (go_at_call 13; refine (cmp13_any _ _ _).mono ?_; rintro e w1 ⟨rfl, rfl⟩))
  go_wp2
  go_ret
  exact ⟨rfl, rfl⟩

set_option maxHeartbeats 1600000 in
set_option maxRecDepth 100000 in
theorem desc13_any (a b : Int) (pk pc : Nat) (w : World) (hpk : w.cell? ⟨pk, 0, none⟩ = some (.func (.func 12) #[] #[])) (hpc : w.cell? ⟨pc, 0, none⟩ = some (.func (.func 13) #[] #[])) :
    Calls Yba.prog 38 #[.int .i64 a, .int .i64 b, .pointer (some ⟨pc, 0, none⟩), .pointer (some ⟨pk, 0, none⟩)] w fun e w' => e = .returned (.int .i64 (lowdiff b a)) ∧ w' = w.drew := by
  go_enter Yba.func38, Yba.ntmps38
  go_wp2
  go_region_held3 (fun w' => w'.cell? ⟨pk, 0, none⟩ = some (.func (.func 12) #[] #[]) ∧ w'.cell? ⟨pc, 0, none⟩ = some (.func (.func 13) #[] #[])) (go_keep) (first
    | (go_at_call 12; refine (id_any _ _).mono ?_; rintro e w1 ⟨rfl, rfl⟩)
    | (go_at_call 13; refine (cmp13_any _ _ _).mono ?_; rintro e w1 ⟨rfl, rfl⟩))
  go_wp2
  go_ret
  exact ⟨rfl, rfl⟩

set_option maxHeartbeats 1600000 in
set_option maxRecDepth 100000 in
theorem asc15_any (a b : Int) (pk pc : Nat) (w : World) (hpk : w.cell? ⟨pk, 0, none⟩ = some (.func (.func 12) #[] #[])) (hpc : w.cell? ⟨pc, 0, none⟩ = some (.func (.func 15) #[] #[])) :
    Calls Yba.prog 39 #[.int .i64 a, .int .i64 b, .pointer (some ⟨pc, 0, none⟩), .pointer (some ⟨pk, 0, none⟩)] w fun e w' => e = .returned (.int .i64 (cmpI a b)) ∧ w' = w.drew := by
  go_enter Yba.func39, Yba.ntmps39
  go_wp2
  go_region_held3 (fun w' => w'.cell? ⟨pk, 0, none⟩ = some (.func (.func 12) #[] #[]) ∧ w'.cell? ⟨pc, 0, none⟩ = some (.func (.func 15) #[] #[])) (go_keep) (first
    | (go_at_call 12; refine (id_any _ _).mono ?_; rintro e w1 ⟨rfl, rfl⟩)
    | (go_at_call 15; refine (compareInt_any _ _ _).mono ?_; rintro e w1 ⟨rfl, rfl⟩))
  go_wp2
  go_ret
  exact ⟨rfl, rfl⟩

theorem then_nil (a : Option Addr) (k : Nat) (b : Nat) (fn : Fn) (f c : Array Value) (w : World) (h : w.cell? ⟨b, 0, none⟩ = some (.func fn f c)) :
    Calls Yba.prog 46 #[.slice a 0 k, .pointer (some ⟨b, 0, none⟩)] w fun e w' => e = .returned (.func fn f c) ∧ w' = w.alloc (.cells #[.nilFunc] 29) := by
  have q4 := eqn29
  have h2 : (w.alloc (.cells #[.nilFunc] 29)).cell? ⟨b, 0, none⟩ = some (.func fn f c) := (World.cell?_alloc_lt _ _ _ (World.block_lt_of_cell? w _ h)).trans h
  go_enter Yba.func46, Yba.ntmps46
  go_wp2
  go_ret
  exact ⟨rfl, rfl⟩

set_option maxHeartbeats 1600000 in
set_option maxRecDepth 100000 in
theorem order_one (g pb : Nat) (fn : Fn) (f c : Array Value) (w : World) (hg : w.cell? ⟨g, 0, none⟩ = some (.func (.func 46) #[] #[.pointer (some ⟨pb, 0, none⟩)])) (h : w.cell? ⟨pb, 0, none⟩ = some (.func fn f c)) :
    Calls Yba.prog 47 #[.slice (some ⟨g, 0, none⟩) 1 1] w fun e w' => e = .returned (.func fn f c) ∧ w' = (w.alloc (.cells #[.nilFunc] 29)).drew := by
  have hd : w.drew.cell? ⟨pb, 0, none⟩ = some (.func fn f c) := h
  have HD := hide hd
  clear hd
  go_enter Yba.func47, Yba.ntmps47
  go_wp2
  go_region_held3 (fun w' => w'.cell? ⟨g, 0, none⟩ = some (.func (.func 46) #[] #[.pointer (some ⟨pb, 0, none⟩)])) (go_keep) (first
    | (go_at_call 46; refine (then_nil _ _ _ fn f c _ HD.out).mono ?_; rintro e w1 ⟨rfl, rfl⟩))
  go_wp2
  go_ret
  exact ⟨rfl, rfl⟩

end Go.Proofs.Ybulkbfjm.lawS2820AThen
