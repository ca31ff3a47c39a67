/-
  compareKey[int,int] (11), requireKey (36), keyFrom[int] (37): contracts.
-/
import Derived.Test.YbulkbfjmRows
import Derived.WalkKit
import Derived.WalkLawsBesides
import Derived.Laws.EntriesVeiled
namespace Go.Proofs.Ybulkbfjm
open Go.RowKit

theorem eqf23 (fn : Fn) (first cap : Array Value) (w : World) : (binOp .eql 23 (.func fn first cap) .nilFunc).run Yba.prog w = .ok (.bool false) w := by rfl
theorem eqf25 (fn : Fn) (first cap : Array Value) (w : World) : (binOp .eql 25 (.func fn first cap) .nilFunc).run Yba.prog w = .ok (.bool false) w := by rfl
theorem eqf29 (fn : Fn) (first cap : Array Value) (w : World) : (binOp .eql 29 (.func fn first cap) .nilFunc).run Yba.prog w = .ok (.bool false) w := by rfl
theorem eqn29 (w : World) : (binOp .eql 29 .nilFunc .nilFunc).run Yba.prog w = .ok (.bool true) w := by rfl
theorem neqi20 (w : World) : (binOp .neq 20 .nilIface .nilIface).run Yba.prog w = .ok (.bool false) w := by rfl

theorem require_any (s : ByteArray) (fn : Fn) (f c : Array Value) (w : World) :
    Calls Yba.prog 36 #[.string s, .func fn f c] w fun e w' => e = .returned (.tuple #[]) ∧ w' = w := by
  have q1 := eqf23
  go_enter Yba.func36, Yba.ntmps36
  go_wp2
  go_end0
  exact ⟨rfl, rfl⟩

theorem keyFrom_any (fn : Fn) (f c : Array Value) (w : World) :
    Calls Yba.prog 37 #[.func fn f c] w fun e w' => e = .returned (.agg #[.func (.func 46) #[] #[.pointer (some ⟨w.heap.size, 0, none⟩)], .nilIface, .int .i64 0]) ∧ 
      w' = (w.alloc (.cells #[.func fn f c] 24)).alloc (.cells #[.func (.func 46) #[] #[.pointer (some ⟨w.heap.size, 0, none⟩)], .nilIface, .int .i64 0] 27) := by
  have hmf : ∀ (fn : Fn) (first cap : Array Value) (w : World), (Instr.makeFunc fn first cap).run Yba.prog w = .ok (.func fn first cap) w := fun _ _ _ _ => rfl
  go_enter Yba.func37, Yba.ntmps37
  go_wp2
  exact bodyPost_ret (v := .agg #[.func (.func 46) #[] #[.pointer (some ⟨w.heap.size, 0, none⟩)], .nilIface, .int .i64 0]) (by simp [results, Yba.results37, go_sem]) rfl ⟨rfl, rfl⟩

set_option maxRecDepth 100000 in
theorem compareKey_asc (s : ByteArray) (fn gn : Fn) (f c g d : Array Value) (dir : Int) (hd : ¬ dir < 0) (w : World) :
    Calls Yba.prog 11 #[.string s, .func fn f c, .func gn g d, .int .i64 dir] w fun e w' => e = .returned (.agg #[.func (.func 46) #[] #[.pointer (some ⟨w.heap.size + 1 + 1 + 1, 0, none⟩)], .nilIface, .int .i64 0]) ∧
      w' = ((((w.alloc (.cells #[.func fn f c] 23)).alloc (.cells #[.func gn g d] 24)).alloc (.cells #[.func (.func 46) #[] #[.pointer (some ⟨w.heap.size + 1 + 1 + 1, 0, none⟩)], .nilIface, .int .i64 0] 27)).alloc
        (.cells #[.func (.func 39) #[] #[.pointer (some ⟨w.heap.size + 1, 0, none⟩), .pointer (some ⟨w.heap.size, 0, none⟩)]] 24)).alloc
        (.cells #[.func (.func 46) #[] #[.pointer (some ⟨w.heap.size + 1 + 1 + 1, 0, none⟩)], .nilIface, .int .i64 0] 27) := by
  have hmf : ∀ (fn : Fn) (first cap : Array Value) (w : World), (Instr.makeFunc fn first cap).run Yba.prog w = .ok (.func fn first cap) w := fun _ _ _ _ => rfl
  go_enter Yba.func11, Yba.ntmps11
  go_wp2_with (first | (go_at_call 36; refine (require_any _ _ _ _ _).mono ?_; rintro e w' ⟨rfl, rfl⟩) | (go_at_call 37; refine (keyFrom_any _ _ _ _).mono ?_; rintro e w' ⟨rfl, rfl⟩))
  exact bodyPost_ret (v := .agg #[.func (.func 46) #[] #[.pointer (some ⟨w.heap.size + 1 + 1 + 1, 0, none⟩)], .nilIface, .int .i64 0]) (by simp [results, Yba.results11, go_sem]) rfl ⟨rfl, rfl⟩

set_option maxRecDepth 100000 in
theorem compareKey_desc (s : ByteArray) (fn gn : Fn) (f c g d : Array Value) (dir : Int) (hd : dir < 0) (w : World) :
    Calls Yba.prog 11 #[.string s, .func fn f c, .func gn g d, .int .i64 dir] w fun e w' => e = .returned (.agg #[.func (.func 46) #[] #[.pointer (some ⟨w.heap.size + 1 + 1 + 1, 0, none⟩)], .nilIface, .int .i64 0]) ∧
      w' = ((((w.alloc (.cells #[.func fn f c] 23)).alloc (.cells #[.func gn g d] 24)).alloc (.cells #[.func (.func 46) #[] #[.pointer (some ⟨w.heap.size + 1 + 1 + 1, 0, none⟩)], .nilIface, .int .i64 0] 27)).alloc
        (.cells #[.func (.func 38) #[] #[.pointer (some ⟨w.heap.size + 1, 0, none⟩), .pointer (some ⟨w.heap.size, 0, none⟩)]] 24)).alloc
        (.cells #[.func (.func 46) #[] #[.pointer (some ⟨w.heap.size + 1 + 1 + 1, 0, none⟩)], .nilIface, .int .i64 0] 27) := by
  have hmf : ∀ (fn : Fn) (first cap : Array Value) (w : World), (Instr.makeFunc fn first cap).run Yba.prog w = .ok (.func fn first cap) w := fun _ _ _ _ => rfl
  go_enter Yba.func11, Yba.ntmps11
  go_wp2_with (first | (go_at_call 36; refine (require_any _ _ _ _ _).mono ?_; rintro e w' ⟨rfl, rfl⟩) | (go_at_call 37; refine (keyFrom_any _ _ _ _).mono ?_; rintro e w' ⟨rfl, rfl⟩))
  exact bodyPost_ret (v := .agg #[.func (.func 46) #[] #[.pointer (some ⟨w.heap.size + 1 + 1 + 1, 0, none⟩)], .nilIface, .int .i64 0]) (by simp [results, Yba.results11, go_sem]) rfl ⟨rfl, rfl⟩

end Go.Proofs.Ybulkbfjm
