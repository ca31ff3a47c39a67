/-
  LawS2820CExact (7): what the walks share.
-/
import Derived.Test.YbulkbfjmEPair
import Derived.Test.YbulkbfjmCStr
namespace Go.Proofs.Ybulkbfjm.lawS2820CExact
open Go.RowKit
set_option linter.unusedVariables false
set_option linter.unusedSimpArgs false

theorem then_any (fn gn hn : Fn) (f c g d h k : Array Value) (d0 d1 : Int) (w : World) :
   Calls Yba.prog 28 #[.func fn f c, .int .i64 d0, .func gn g d, .int .i64 d1, .func hn h k] w fun e w' => e = .returned (.func (.func 45) #[] #[.pointer (some ⟨w.heap.size + 1, 0, none⟩)]) ∧
     w' = (w.alloc (.cells #[.func fn f c, .func gn g d, .int .i64 d0, .int .i64 d1, .func hn h k] 55)).alloc (.cells #[.pointer (some ⟨w.heap.size, 0, none⟩)] 53) := by
  have hmf : ∀ (fn : Fn) (first cap : Array Value) (w : World), (Instr.makeFunc fn first cap).run Yba.prog w = .ok (.func fn first cap) w := fun _ _ _ _ => rfl
  go_enter Yba.func28, Yba.ntmps28
  go_wp2
  go_ret
  exact ⟨rfl, rfl⟩

theorem then_none (fn gn : Fn) (f c g d : Array Value) (d0 d1 : Int) (w : World) :
   Calls Yba.prog 28 #[.func fn f c, .int .i64 d0, .func gn g d, .int .i64 d1, .nilFunc] w fun e w' => e = .returned (.func (.func 45) #[] #[.pointer (some ⟨w.heap.size + 1, 0, none⟩)]) ∧
     w' = (w.alloc (.cells #[.func fn f c, .func gn g d, .int .i64 d0, .int .i64 d1, .nilFunc] 55)).alloc (.cells #[.pointer (some ⟨w.heap.size, 0, none⟩)] 53) := by
  have hmf : ∀ (fn : Fn) (first cap : Array Value) (w : World), (Instr.makeFunc fn first cap).run Yba.prog w = .ok (.func fn first cap) w := fun _ _ _ _ => rfl
  go_enter Yba.func28, Yba.ntmps28
  go_wp2
  go_ret
  exact ⟨rfl, rfl⟩

theorem heap_alloc_if (w : World) (o : Obj) (k : Nat) : (w.alloc o).heap[k]? = if k = w.heap.size then some o else w.heap[k]? := by
  show (w.heap.push o)[k]? = _
  rw [Array.getElem?_push]

/-- What the call o(a, bb) finds. -/
structure Ready (w W : World) (sa sb : ByteArray) (na nb ans : Int) (k0 k1 : Value) (d0 d1 : Int) (r : Value) : Prop where
  pair : PairP W (w.heap.size + 1 + 1 + 1 + 1 + 1) (w.heap.size + 1 + 1 + 1 + 1) k0 k1 d0 d1 r
  a0 : W.cell? ⟨w.heap.size, 0, none⟩ = some (.string sa)
  a1 : W.cell? ⟨w.heap.size, 1, none⟩ = some (.int .i64 na)
  b0 : W.cell? ⟨w.heap.size + 1 + 1 + 1, 0, none⟩ = some (.string sb)
  b1 : W.cell? ⟨w.heap.size + 1 + 1 + 1, 1, none⟩ = some (.int .i64 nb)
  an : W.cell? ⟨w.heap.size + 1 + 1, 0, none⟩ = some (.int .i64 ans)
  below : Below w.heap.size w W

theorem ready (w : World) (o : Obj) (sa sb : ByteArray) (na nb ans : Int) (k0 k1 : Value) (d0 d1 : Int) (r : Value) :
    Ready w ((((((w.alloc (.cells #[.string sa, .int .i64 na] 40)).alloc o).alloc (.cells #[.int .i64 ans] 3)).alloc (.cells #[.string sb, .int .i64 nb] 40)).alloc
      (.cells #[k0, k1, .int .i64 d0, .int .i64 d1, r] 55)).alloc (.cells #[.pointer (some ⟨w.heap.size + 1 + 1 + 1 + 1, 0, none⟩)] 53)) sa sb na nb ans k0 k1 d0 d1 r := by
  refine ⟨⟨?_, ?_, ?_, ?_, ?_, ?_⟩, ?_, ?_, ?_, ?_, ?_, (by repeat (first | exact Below.refl _ _ | (refine Below.alloc ?_ (by simp <;> omega) _)))⟩
  all_goals simp only [World.cell?, heap_alloc_if, World.size_alloc, Nat.add_assoc, Nat.reduceAdd, Nat.left_eq_add, Nat.add_left_cancel_iff, Nat.reduceEqDiff, if_false, if_true, reduceIte, Nat.one_ne_zero]
  all_goals rfl

theorem below_drewN {B : Nat} {w w1 : World} (h : Below B w w1) (n : Nat) : Below B w (w1.drewN n) := ⟨h.os, h.tape, h.output, h.size, h.block⟩

theorem eqz {c : Int} (h : (c != 0) = false) : (c == 0) = true := by simpa using h
theorem neqz {c : Int} (h : (c != 0) = true) : (c == 0) = false := by simpa using h
theorem cmpI_eq {x y : Int} (h : (cmpI x y != 0) = false) : (x == y) = true := by
  have h' : cmpI x y = 0 := by simpa using h
  unfold cmpI at h'
  have : x = y := by
    by_cases h1 : x < y
    · simp [h1] at h'
    · by_cases h2 : y < x
      · simp [h1, h2] at h'
      · omega
  simp [this]
theorem cmpI_ne {x y : Int} (h : (cmpI x y != 0) = true) : (x == y) = false := by
  cases hxy : x == y with
  | false => rfl
  | true =>
    have : x = y := by simpa using hxy
    subst this
    simp [cmpI] at h
theorem cmpI_self {x : Int} (h : (cmpI x x != 0) = true) : False := by simp [cmpI] at h

end Go.Proofs.Ybulkbfjm.lawS2820CExact
