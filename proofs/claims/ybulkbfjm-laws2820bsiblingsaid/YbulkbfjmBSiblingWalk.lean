/-
  LawS2820BSibling (6): the walks.
-/
import Derived.Test.YbulkbfjmSPair
namespace Go.Proofs.Ybulkbfjm.lawS2820BSibling
open Go.RowKit
set_option linter.unusedVariables false
set_option linter.unusedSimpArgs false

theorem spair_any (fn gn hn : Fn) (f c g d h k : Array Value) (d0 d1 : Int) (w : World) :
   Calls Yba.prog 21 #[.func fn f c, .int .i64 d0, .func gn g d, .int .i64 d1, .func hn h k] w fun e w' => e = .returned (.func (.func 41) #[] #[.pointer (some ⟨w.heap.size + 1, 0, none⟩)]) ∧
     w' = (w.alloc (.cells #[.func fn f c, .func gn g d, .int .i64 d0, .int .i64 d1, .func hn h k] 52)).alloc (.cells #[.pointer (some ⟨w.heap.size, 0, none⟩)] 50) := by
  have hmf : ∀ (fn : Fn) (first cap : Array Value) (w : World), (Instr.makeFunc fn first cap).run Yba.prog w = .ok (.func fn first cap) w := fun _ _ _ _ => rfl
  go_enter Yba.func21, Yba.ntmps21
  go_wp2
  go_ret
  exact ⟨rfl, rfl⟩

theorem spair_none (fn gn : Fn) (f c g d : Array Value) (d0 d1 : Int) (w : World) :
   Calls Yba.prog 21 #[.func fn f c, .int .i64 d0, .func gn g d, .int .i64 d1, .nilFunc] w fun e w' => e = .returned (.func (.func 41) #[] #[.pointer (some ⟨w.heap.size + 1, 0, none⟩)]) ∧
     w' = (w.alloc (.cells #[.func fn f c, .func gn g d, .int .i64 d0, .int .i64 d1, .nilFunc] 52)).alloc (.cells #[.pointer (some ⟨w.heap.size, 0, none⟩)] 50) := by
  have hmf : ∀ (fn : Fn) (first cap : Array Value) (w : World), (Instr.makeFunc fn first cap).run Yba.prog w = .ok (.func fn first cap) w := fun _ _ _ _ => rfl
  go_enter Yba.func21, Yba.ntmps21
  go_wp2
  go_ret
  exact ⟨rfl, rfl⟩

theorem pair_any (fn gn hn : Fn) (f c g d h k : Array Value) (d0 d1 : Int) (w : World) :
   Calls Yba.prog 26 #[.func fn f c, .int .i64 d0, .func gn g d, .int .i64 d1, .func hn h k] w fun e w' => e = .returned (.func (.func 43) #[] #[.pointer (some ⟨w.heap.size + 1, 0, none⟩)]) ∧
     w' = (w.alloc (.cells #[.func fn f c, .func gn g d, .int .i64 d0, .int .i64 d1, .func hn h k] 52)).alloc (.cells #[.pointer (some ⟨w.heap.size, 0, none⟩)] 50) := by
  have hmf : ∀ (fn : Fn) (first cap : Array Value) (w : World), (Instr.makeFunc fn first cap).run Yba.prog w = .ok (.func fn first cap) w := fun _ _ _ _ => rfl
  go_enter Yba.func26, Yba.ntmps26
  go_wp2
  go_ret
  exact ⟨rfl, rfl⟩

theorem pair_none (fn gn : Fn) (f c g d : Array Value) (d0 d1 : Int) (w : World) :
   Calls Yba.prog 26 #[.func fn f c, .int .i64 d0, .func gn g d, .int .i64 d1, .nilFunc] w fun e w' => e = .returned (.func (.func 43) #[] #[.pointer (some ⟨w.heap.size + 1, 0, none⟩)]) ∧
     w' = (w.alloc (.cells #[.func fn f c, .func gn g d, .int .i64 d0, .int .i64 d1, .nilFunc] 52)).alloc (.cells #[.pointer (some ⟨w.heap.size, 0, none⟩)] 50) := by
  have hmf : ∀ (fn : Fn) (first cap : Array Value) (w : World), (Instr.makeFunc fn first cap).run Yba.prog w = .ok (.func fn first cap) w := fun _ _ _ _ => rfl
  go_enter Yba.func26, Yba.ntmps26
  go_wp2
  go_ret
  exact ⟨rfl, rfl⟩

theorem heap_alloc_if (w : World) (o : Obj) (k : Nat) : (w.alloc o).heap[k]? = if k = w.heap.size then some o else w.heap[k]? := by
  show (w.heap.push o)[k]? = _
  rw [Array.getElem?_push]

theorem Row.up {B B' : Nat} {w : World} {a : Option Addr} {len : Nat} {ss : List ByteArray} (h : Row B w a len ss) (hb : B ≤ B') : Row B' w a len ss := fun j hj => by
  obtain ⟨b, off, h1, h2, h3⟩ := h j hj
  exact ⟨b, off, h1, by omega, h3⟩

/-- What the calls o(a, b), p(a, b) find. -/
structure Ready (w W : World) (v0 v1 : Value) (mul : Int) (k0 k1 : Value) (d0 d1 : Int) (r : Value) : Prop where
  po : PairAt W (w.heap.size + 1 + 1 + 1 + 1) (w.heap.size + 1 + 1 + 1) k0 k1 d0 d1 r
  pp : PairAt W (w.heap.size + 1 + 1 + 1 + 1 + 1 + 1) (w.heap.size + 1 + 1 + 1 + 1 + 1) k0 k1 d0 d1 r
  b0 : W.cell? ⟨w.heap.size, 0, none⟩ = some v0
  b1 : W.cell? ⟨w.heap.size + 1, 0, none⟩ = some v1
  b2 : W.cell? ⟨w.heap.size + 1 + 1, 0, none⟩ = some (.int .i64 mul)
  below : Below w.heap.size w W

theorem ready (w : World) (v0 v1 : Value) (mul : Int) (k0 k1 : Value) (d0 d1 : Int) (r : Value) :
    Ready w (((((((w.alloc (.cells #[v0] 32)).alloc (.cells #[v1] 32)).alloc (.cells #[.int .i64 mul] 3)).alloc (.cells #[k0, k1, .int .i64 d0, .int .i64 d1, r] 52)).alloc (.cells #[.pointer (some ⟨w.heap.size + 1 + 1 + 1, 0, none⟩)] 50)).alloc
      (.cells #[k0, k1, .int .i64 d0, .int .i64 d1, r] 52)).alloc (.cells #[.pointer (some ⟨w.heap.size + 1 + 1 + 1 + 1 + 1, 0, none⟩)] 50)) v0 v1 mul k0 k1 d0 d1 r := by
  refine ⟨⟨?_, ?_, ?_, ?_, ?_, ?_⟩, ⟨?_, ?_, ?_, ?_, ?_, ?_⟩, ?_, ?_, ?_, (by repeat (first | exact Below.refl _ _ | (refine Below.alloc ?_ (by simp <;> omega) _)))⟩
  all_goals simp only [World.cell?, heap_alloc_if, World.size_alloc, Nat.add_assoc, Nat.reduceAdd, Nat.left_eq_add, Nat.add_left_cancel_iff, Nat.reduceEqDiff, if_false, if_true, reduceIte, Nat.one_ne_zero]
  all_goals rfl

theorem below_drewN {B : Nat} {w w1 : World} (h : Below B w w1) (n : Nat) : Below B w (w1.drewN n) := ⟨h.os, h.tape, h.output, h.size, h.block⟩
theorem PairAt.drewN {w : World} {bp bs : Nat} {k0 k1 : Value} {d0 d1 : Int} {r : Value} (h : PairAt w bp bs k0 k1 d0 d1 r) (n : Nat) : PairAt (w.drewN n) bp bs k0 k1 d0 d1 r := ⟨h.p, h.f0, h.f1, h.f2, h.f3, h.f4⟩
theorem Row.drewN {B : Nat} {w : World} {a : Option Addr} {len : Nat} {ss : List ByteArray} (h : Row B w a len ss) (n : Nat) : Row B (w.drewN n) a len ss := h
theorem Ready.drewN {w W : World} {v0 v1 : Value} {mul : Int} {k0 k1 : Value} {d0 d1 : Int} {r : Value} (h : Ready w W v0 v1 mul k0 k1 d0 d1 r) (n : Nat) : Ready w (W.drewN n) v0 v1 mul k0 k1 d0 d1 r := ⟨h.po.drewN n, h.pp.drewN n, h.b0, h.b1, h.b2, below_drewN h.below n⟩

set_option maxHeartbeats 6400000 in
set_option maxRecDepth 100000 in
theorem walk_rest (a0 a1 : Option Addr) (l0 c0 l1 c1 : Nat) (s0 s1 : List ByteArray) (d0 d1 ia ib mul : Int) (w : World) (h0 : l0 ≤ 1024) (h1 : l1 ≤ 1024) (hia : 0 ≤ ia) (hia' : ia ≤ 255) (hib : 0 ≤ ib) (hib' : ib ≤ 255) (hr0 : Row w.heap.size w a0 l0 s0) (hr1 : Row w.heap.size w a1 l1 s1) :
    Calls Yba.prog 6 #[.slice a0 l0 c0, .slice a1 l1 c1, .int .i64 d0, .int .i64 d1, .int .u8 ia, .int .u8 ib, .bool true, .int .i64 mul] w fun e w' => e = .returned (.bool true) ∧ Below w.heap.size w w' := by
  have hmf : ∀ (fn : Fn) (first cap : Array Value) (w : World), (Instr.makeFunc fn first cap).run Yba.prog w = .ok (.func fn first cap) w := fun _ _ _ _ => rfl
  have g0 : (l0 : Int) ≤ 1024 := by omega
  have g1 : (l1 : Int) ≤ 1024 := by omega
  have R := hide (ready w (.slice a0 l0 c0) (.slice a1 l1 c1) mul (.func (.func 23) #[] #[.pointer (some ⟨w.heap.size, 0, none⟩)]) (.func (.func 24) #[] #[.pointer (some ⟨w.heap.size + 1, 0, none⟩)]) d0 d1 (.func (.func 25) #[] #[.pointer (some ⟨w.heap.size + 1 + 1, 0, none⟩)]))
  have HRow0 := hide (hr0.kept fun k hk => R.out.below.block k hk)
  have HRow1 := hide (hr1.kept fun k hk => R.out.below.block k hk)
  have Q := hide (fun n : Nat => And.intro (R.out.drewN n) (And.intro (Row.drewN HRow0.out n) (Row.drewN HRow1.out n)))
  clear hr0 hr1 R HRow0 HRow1
  go_enter Yba.func6, Yba.ntmps6
  go_wp2_with fail
  refine (bsize_any _ _ _ _ _ _ h0 h1 _).mono ?_
  rintro e w1 ⟨z, rfl, hz1, hz2, rfl⟩
  have hz1' : (1 : Int) ≤ z := by omega
  have hz2' : (z : Int) ≤ 1024 := by omega
  go_wp2_with fail
  refine (spair_any _ _ _ _ _ _ _ _ _ _ _ _).mono ?_
  rintro e w1 ⟨rfl, rfl⟩
  generalize ia % (z : Int) = x
  generalize ib % (z : Int) = y
  clear hz1 hz2 hz1' hz2' hia hia' hib hib' g0 g1
  go_wp2_with fail
  refine (pair_any _ _ _ _ _ _ _ _ _ _ _ _).mono ?_
  rintro e w1 ⟨rfl, rfl⟩
  go_wp2_with fail
  refine (s41_rest_any (w.heap.size + 1 + 1) mul w.heap.size w.heap.size (w.heap.size + 1) (w.heap.size + 1 + 1 + 1 + 1) (w.heap.size + 1 + 1 + 1) a0 a1 l0 c0 l1 c1 s0 s1 d0 d1 x y _ (Q.out 0).2.1 (Q.out 0).1.b0 (Q.out 0).2.2 (Q.out 0).1.b1 (Q.out 0).1.po (Q.out 0).1.b2).mono ?_
  rintro e w1 ⟨rfl, n1, rfl⟩
  go_wp2_with fail
  refine (s43_rest_any (w.heap.size + 1 + 1) mul w.heap.size w.heap.size (w.heap.size + 1) (w.heap.size + 1 + 1 + 1 + 1 + 1 + 1) (w.heap.size + 1 + 1 + 1 + 1 + 1) a0 a1 l0 c0 l1 c1 s0 s1 d0 d1 x y _ (Q.out n1).2.1 (Q.out n1).1.b0 (Q.out n1).2.2 (Q.out n1).1.b1 (Q.out n1).1.pp (Q.out n1).1.b2).mono ?_
  rintro e w1 ⟨rfl, n2, rfl⟩
  have et : (answer s0 s1 l0 l1 d0 d1 (some mul) x y == answer s0 s1 l0 l1 d0 d1 (some mul) x y) = true := by simp
  go_wp2_with fail
  refine (s41_rest_any (w.heap.size + 1 + 1) mul w.heap.size w.heap.size (w.heap.size + 1) (w.heap.size + 1 + 1 + 1 + 1) (w.heap.size + 1 + 1 + 1) a0 a1 l0 c0 l1 c1 s0 s1 d0 d1 y x _ (Q.out (n1 + n2)).2.1 (Q.out (n1 + n2)).1.b0 (Q.out (n1 + n2)).2.2 (Q.out (n1 + n2)).1.b1 (Q.out (n1 + n2)).1.po (Q.out (n1 + n2)).1.b2).mono ?_
  rintro e w1 ⟨rfl, n3, rfl⟩
  go_wp2_with fail
  refine (s43_rest_any (w.heap.size + 1 + 1) mul w.heap.size w.heap.size (w.heap.size + 1) (w.heap.size + 1 + 1 + 1 + 1 + 1 + 1) (w.heap.size + 1 + 1 + 1 + 1 + 1) a0 a1 l0 c0 l1 c1 s0 s1 d0 d1 y x _ (Q.out (n1 + n2 + n3)).2.1 (Q.out (n1 + n2 + n3)).1.b0 (Q.out (n1 + n2 + n3)).2.2 (Q.out (n1 + n2 + n3)).1.b1 (Q.out (n1 + n2 + n3)).1.pp (Q.out (n1 + n2 + n3)).1.b2).mono ?_
  rintro e w1 ⟨rfl, n4, rfl⟩
  go_wp2
  go_ret
  exact ⟨by simp, (Q.out (n1 + n2 + n3 + n4)).1.below⟩

set_option maxHeartbeats 6400000 in
set_option maxRecDepth 100000 in
theorem walk_none (a0 a1 : Option Addr) (l0 c0 l1 c1 : Nat) (s0 s1 : List ByteArray) (d0 d1 ia ib mul : Int) (w : World) (h0 : l0 ≤ 1024) (h1 : l1 ≤ 1024) (hia : 0 ≤ ia) (hia' : ia ≤ 255) (hib : 0 ≤ ib) (hib' : ib ≤ 255) (hr0 : Row w.heap.size w a0 l0 s0) (hr1 : Row w.heap.size w a1 l1 s1) :
    Calls Yba.prog 6 #[.slice a0 l0 c0, .slice a1 l1 c1, .int .i64 d0, .int .i64 d1, .int .u8 ia, .int .u8 ib, .bool false, .int .i64 mul] w fun e w' => e = .returned (.bool true) ∧ Below w.heap.size w w' := by
  have hmf : ∀ (fn : Fn) (first cap : Array Value) (w : World), (Instr.makeFunc fn first cap).run Yba.prog w = .ok (.func fn first cap) w := fun _ _ _ _ => rfl
  have g0 : (l0 : Int) ≤ 1024 := by omega
  have g1 : (l1 : Int) ≤ 1024 := by omega
  have R := hide (ready w (.slice a0 l0 c0) (.slice a1 l1 c1) mul (.func (.func 23) #[] #[.pointer (some ⟨w.heap.size, 0, none⟩)]) (.func (.func 24) #[] #[.pointer (some ⟨w.heap.size + 1, 0, none⟩)]) d0 d1 .nilFunc)
  have HRow0 := hide (hr0.kept fun k hk => R.out.below.block k hk)
  have HRow1 := hide (hr1.kept fun k hk => R.out.below.block k hk)
  have Q := hide (fun n : Nat => And.intro (R.out.drewN n) (And.intro (Row.drewN HRow0.out n) (Row.drewN HRow1.out n)))
  clear hr0 hr1 R HRow0 HRow1
  go_enter Yba.func6, Yba.ntmps6
  go_wp2_with fail
  refine (bsize_any _ _ _ _ _ _ h0 h1 _).mono ?_
  rintro e w1 ⟨z, rfl, hz1, hz2, rfl⟩
  have hz1' : (1 : Int) ≤ z := by omega
  have hz2' : (z : Int) ≤ 1024 := by omega
  go_wp2_with fail
  refine (spair_none _ _ _ _ _ _ _ _ _).mono ?_
  rintro e w1 ⟨rfl, rfl⟩
  generalize ia % (z : Int) = x
  generalize ib % (z : Int) = y
  clear hz1 hz2 hz1' hz2' hia hia' hib hib' g0 g1
  go_wp2_with fail
  refine (pair_none _ _ _ _ _ _ _ _ _).mono ?_
  rintro e w1 ⟨rfl, rfl⟩
  go_wp2_with fail
  refine (s41_none_any w.heap.size w.heap.size (w.heap.size + 1) (w.heap.size + 1 + 1 + 1 + 1) (w.heap.size + 1 + 1 + 1) a0 a1 l0 c0 l1 c1 s0 s1 d0 d1 x y _ (Q.out 0).2.1 (Q.out 0).1.b0 (Q.out 0).2.2 (Q.out 0).1.b1 (Q.out 0).1.po).mono ?_
  rintro e w1 ⟨rfl, n1, rfl⟩
  go_wp2_with fail
  refine (s43_none_any w.heap.size w.heap.size (w.heap.size + 1) (w.heap.size + 1 + 1 + 1 + 1 + 1 + 1) (w.heap.size + 1 + 1 + 1 + 1 + 1) a0 a1 l0 c0 l1 c1 s0 s1 d0 d1 x y _ (Q.out n1).2.1 (Q.out n1).1.b0 (Q.out n1).2.2 (Q.out n1).1.b1 (Q.out n1).1.pp).mono ?_
  rintro e w1 ⟨rfl, n2, rfl⟩
  have et : (answer s0 s1 l0 l1 d0 d1 none x y == answer s0 s1 l0 l1 d0 d1 none x y) = true := by simp
  go_wp2_with fail
  refine (s41_none_any w.heap.size w.heap.size (w.heap.size + 1) (w.heap.size + 1 + 1 + 1 + 1) (w.heap.size + 1 + 1 + 1) a0 a1 l0 c0 l1 c1 s0 s1 d0 d1 y x _ (Q.out (n1 + n2)).2.1 (Q.out (n1 + n2)).1.b0 (Q.out (n1 + n2)).2.2 (Q.out (n1 + n2)).1.b1 (Q.out (n1 + n2)).1.po).mono ?_
  rintro e w1 ⟨rfl, n3, rfl⟩
  go_wp2_with fail
  refine (s43_none_any w.heap.size w.heap.size (w.heap.size + 1) (w.heap.size + 1 + 1 + 1 + 1 + 1 + 1) (w.heap.size + 1 + 1 + 1 + 1 + 1) a0 a1 l0 c0 l1 c1 s0 s1 d0 d1 y x _ (Q.out (n1 + n2 + n3)).2.1 (Q.out (n1 + n2 + n3)).1.b0 (Q.out (n1 + n2 + n3)).2.2 (Q.out (n1 + n2 + n3)).1.b1 (Q.out (n1 + n2 + n3)).1.pp).mono ?_
  rintro e w1 ⟨rfl, n4, rfl⟩
  go_wp2
  go_ret
  exact ⟨by simp, (Q.out (n1 + n2 + n3 + n4)).1.below⟩

end Go.Proofs.Ybulkbfjm.lawS2820BSibling
