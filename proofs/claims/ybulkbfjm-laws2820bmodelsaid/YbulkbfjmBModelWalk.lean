/-
  LawS2820BModel (5): the walks.
-/
import Derived.Test.YbulkbfjmBPair
import Derived.Deep.Light
namespace Go.Proofs.Ybulkbfjm.lawS2820BModel
open Go.RowKit
set_option linter.unusedVariables false
set_option linter.unusedSimpArgs false

theorem pairThen_any (fn gn hn : Fn) (f c g d h k : Array Value) (d0 d1 : Int) (w : World) :
   Calls Yba.prog 21 #[.func fn f c, .int .i64 d0, .func gn g d, .int .i64 d1, .func hn h k] w fun e w' => e = .returned (.func (.func 41) #[] #[.pointer (some ⟨w.heap.size + 1, 0, none⟩)]) ∧
     w' = (w.alloc (.cells #[.func fn f c, .func gn g d, .int .i64 d0, .int .i64 d1, .func hn h k] 52)).alloc (.cells #[.pointer (some ⟨w.heap.size, 0, none⟩)] 50) := by
  have hmf : ∀ (fn : Fn) (first cap : Array Value) (w : World), (Instr.makeFunc fn first cap).run Yba.prog w = .ok (.func fn first cap) w := fun _ _ _ _ => rfl
  go_enter Yba.func21, Yba.ntmps21
  go_wp2
  go_ret
  exact ⟨rfl, rfl⟩

theorem pairThen_none (fn gn : Fn) (f c g d : Array Value) (d0 d1 : Int) (w : World) :
   Calls Yba.prog 21 #[.func fn f c, .int .i64 d0, .func gn g d, .int .i64 d1, .nilFunc] w fun e w' => e = .returned (.func (.func 41) #[] #[.pointer (some ⟨w.heap.size + 1, 0, none⟩)]) ∧
     w' = (w.alloc (.cells #[.func fn f c, .func gn g d, .int .i64 d0, .int .i64 d1, .nilFunc] 52)).alloc (.cells #[.pointer (some ⟨w.heap.size, 0, none⟩)] 50) := by
  have hmf : ∀ (fn : Fn) (first cap : Array Value) (w : World), (Instr.makeFunc fn first cap).run Yba.prog w = .ok (.func fn first cap) w := fun _ _ _ _ => rfl
  go_enter Yba.func21, Yba.ntmps21
  go_wp2
  go_ret
  exact ⟨rfl, rfl⟩

theorem heap_alloc_if (w : World) (o : Obj) (k : Nat) : (w.alloc o).heap[k]? = if k = w.heap.size then some o else w.heap[k]? := by
  show (w.heap.push o)[k]? = _
  rw [Array.getElem?_push]

/-- What the call o(a, b) finds. -/
structure Ready (w W : World) (v0 v1 : Value) (ans : Int) (k0 k1 : Value) (d0 d1 : Int) (r : Value) : Prop where
  cnt : Cnt W (w.heap.size + 1 + 1 + 1) 0 0 0 (-1) (-1) W
  pair : PairAt W (w.heap.size + 1 + 1 + 1 + 1 + 1 + 1 + 1 + 1 + 1) (w.heap.size + 1 + 1 + 1 + 1 + 1 + 1 + 1 + 1) k0 k1 d0 d1 r
  b0 : W.cell? ⟨w.heap.size, 0, none⟩ = some v0
  b1 : W.cell? ⟨w.heap.size + 1, 0, none⟩ = some v1
  b2 : W.cell? ⟨w.heap.size + 1 + 1, 0, none⟩ = some (.int .i64 ans)
  below : Below w.heap.size w W

theorem ready (w : World) (v0 v1 : Value) (ans : Int) (k0 k1 : Value) (d0 d1 : Int) (r : Value) :
    Ready w ((((((((((w.alloc (.cells #[v0] 32)).alloc (.cells #[v1] 32)).alloc (.cells #[.int .i64 ans] 3)).alloc (.cells #[.int .i64 0] 3)).alloc (.cells #[.int .i64 0] 3)).alloc (.cells #[.int .i64 0] 3)).alloc (.cells #[.int .i64 (-1)] 3)).alloc (.cells #[.int .i64 (-1)] 3)).alloc
      (.cells #[k0, k1, .int .i64 d0, .int .i64 d1, r] 52)).alloc (.cells #[.pointer (some ⟨w.heap.size + 1 + 1 + 1 + 1 + 1 + 1 + 1 + 1, 0, none⟩)] 50)) v0 v1 ans k0 k1 d0 d1 r := by
  refine ⟨⟨?_, ?_, ?_, ?_, ?_, rfl, rfl, rfl, rfl, fun _ _ => rfl⟩, ⟨?_, ?_, ?_, ?_, ?_, ?_⟩, ?_, ?_, ?_, (by repeat (first | exact Below.refl _ _ | (refine Below.alloc ?_ (by simp <;> omega) _)))⟩
  all_goals simp only [World.cell?, heap_alloc_if, World.size_alloc, Nat.add_assoc, Nat.reduceAdd, Nat.left_eq_add, Nat.add_left_cancel_iff, Nat.reduceEqDiff, if_false, if_true, reduceIte, Nat.one_ne_zero]
  all_goals rfl

theorem Row.up {B B' : Nat} {w : World} {a : Option Addr} {len : Nat} {ss : List ByteArray} (h : Row B w a len ss) (hb : B ≤ B') : Row B' w a len ss := fun j hj => by
  obtain ⟨b, off, h1, h2, h3⟩ := h j hj
  exact ⟨b, off, h1, by omega, h3⟩

theorem below_cnt {w W w1 : World} {b : Nat} {n0 n1 nr ra rb : Int} (h : Below w.heap.size w W) (hc : Cnt W b n0 n1 nr ra rb w1) (hb : w.heap.size ≤ b) : Below w.heap.size w w1 :=
  h.trans ⟨hc.os, hc.tape, hc.output, by rw [hc.size]; exact Nat.le_refl _, fun k hk => hc.block k (.inl (by omega))⟩

set_option maxHeartbeats 6400000 in
set_option maxRecDepth 100000 in
theorem walk_rest (a0 a1 : Option Addr) (l0 c0 l1 c1 : Nat) (s0 s1 : List ByteArray) (d0 d1 ia ib ans : Int) (w : World) (h0 : l0 ≤ 1024) (h1 : l1 ≤ 1024) (hia : 0 ≤ ia) (hia' : ia ≤ 255) (hib : 0 ≤ ib) (hib' : ib ≤ 255) (hr0 : Row w.heap.size w a0 l0 s0) (hr1 : Row w.heap.size w a1 l1 s1) :
    Calls Yba.prog 5 #[.slice a0 l0 c0, .slice a1 l1 c1, .int .i64 d0, .int .i64 d1, .int .u8 ia, .int .u8 ib, .bool true, .int .i64 ans] w fun e w' => e = .returned (.bool true) ∧ Below w.heap.size w w' := by
  have hmf : ∀ (fn : Fn) (first cap : Array Value) (w : World), (Instr.makeFunc fn first cap).run Yba.prog w = .ok (.func fn first cap) w := fun _ _ _ _ => rfl
  have g0 : (l0 : Int) ≤ 1024 := by omega
  have g1 : (l1 : Int) ≤ 1024 := by omega
  have HR0 := hide hr0
  have HR1 := hide hr1
  clear hr0 hr1
  go_enter Yba.func5, Yba.ntmps5
  go_wp2_with fail
  refine (bsize_any _ _ _ _ _ _ h0 h1 _).mono ?_
  rintro e w1 ⟨z, rfl, hz1, hz2, rfl⟩
  have hz1' : (1 : Int) ≤ z := by omega
  have hz2' : (z : Int) ≤ 1024 := by omega
  go_wp2_with fail
  refine (pairThen_any _ _ _ _ _ _ _ _ _ _ _ _).mono ?_
  rintro e w1 ⟨rfl, rfl⟩
  generalize ia % (z : Int) = x
  generalize ib % (z : Int) = y
  clear hz1 hz2 hz1' hz2' hia hia' hib hib' g0 g1
  go_wp2_with fail
  have R := hide (ready w (.slice a0 l0 c0) (.slice a1 l1 c1) ans (.func (.func 17) #[] #[.pointer (some ⟨w.heap.size + 1 + 1 + 1, 0, none⟩), .pointer (some ⟨w.heap.size, 0, none⟩)]) (.func (.func 19) #[] #[.pointer (some ⟨w.heap.size + 1 + 1 + 1 + 1, 0, none⟩), .pointer (some ⟨w.heap.size + 1, 0, none⟩)]) d0 d1 (.func (.func 20) #[] #[.pointer (some ⟨w.heap.size + 1 + 1 + 1 + 1 + 1, 0, none⟩), .pointer (some ⟨w.heap.size + 1 + 1 + 1 + 1 + 1 + 1, 0, none⟩), .pointer (some ⟨w.heap.size + 1 + 1 + 1 + 1 + 1 + 1 + 1, 0, none⟩), .pointer (some ⟨w.heap.size + 1 + 1, 0, none⟩)]))
  have HRow0 := hide (Row.up (HR0.out.kept fun k hk => R.out.below.block k hk) (B' := w.heap.size + 1 + 1 + 1) (by omega))
  have HRow1 := hide (Row.up (HR1.out.kept fun k hk => R.out.below.block k hk) (B' := w.heap.size + 1 + 1 + 1) (by omega))
  cases e0 : (cmpS (atS s0 l0 x) (atS s0 l0 y) != 0)
  case true =>
    refine (m41_first (w.heap.size + 1 + 1 + 1) w.heap.size (w.heap.size + 1) (w.heap.size + 1 + 1 + 1 + 1 + 1 + 1 + 1 + 1 + 1) (w.heap.size + 1 + 1 + 1 + 1 + 1 + 1 + 1 + 1) a0 a1 l0 c0 l1 c1 s0 s1 d0 d1 x y _ _ (by omega) (by omega) (by omega) HRow0.out R.out.b0 R.out.cnt R.out.pair e0).mono ?_
    rintro e w1 ⟨rfl, C1⟩
    have HBel := hide (below_cnt R.out.below C1 (by omega))
    have k0 := cell_of_one C1.c0
    have k1 := cell_of_one C1.c1
    have k2 := cell_of_one C1.cr
    have k3 := cell_of_one C1.ca
    have k4 := cell_of_one C1.cb
    have k5 := C1.cell (.inl (by omega)) R.out.b0
    have k6 := C1.cell (.inl (by omega)) R.out.b1
    have k7 := C1.cell (.inl (by omega)) R.out.b2
    have HQ0 : Hid (Row (w.heap.size + 1 + 1 + 1) w1.drew a0 l0 s0) := HRow0.out.kept fun k hk => C1.block k (.inl hk)
    have HQ1 : Hid (Row (w.heap.size + 1 + 1 + 1) w1.drew.drew a1 l1 s1) := HRow1.out.kept fun k hk => C1.block k (.inl hk)
    clear C1 R HRow0 HRow1 HR0 HR1
    go_wp2
    go_region_held3 (fun w' => w'.cell? ⟨w.heap.size, 0, none⟩ = some (.slice a0 l0 c0)) (go_keep) (first
      | (go_at_call 18; refine (bat_any (w.heap.size + 1 + 1 + 1) _ _ _ s0 _ _ HQ0.out).mono ?_; rintro e w2 ⟨rfl, rfl⟩)
      | (go_at_call 22; refine (bcmp_any _ _ _).mono ?_; rintro e w3 ⟨rfl, rfl⟩))
    go_wp2
    go_ret
    exact ⟨by simp, HBel.out.drew⟩
  case false =>
    have hz0 : cmpS (atS s0 l0 x) (atS s0 l0 y) = 0 := by simpa using e0
    have HZ0 := hide hz0
    clear hz0
    cases e1 : (cmpS (atS s1 l1 x) (atS s1 l1 y) != 0)
    case true =>
      refine (m41_second (w.heap.size + 1 + 1 + 1) w.heap.size (w.heap.size + 1) (w.heap.size + 1 + 1 + 1 + 1 + 1 + 1 + 1 + 1 + 1) (w.heap.size + 1 + 1 + 1 + 1 + 1 + 1 + 1 + 1) a0 a1 l0 c0 l1 c1 s0 s1 d0 d1 x y _ _ (by omega) (by omega) (by omega) (by omega) HRow0.out R.out.b0 HRow1.out R.out.b1 R.out.cnt R.out.pair e0 HZ0.out e1).mono ?_
      rintro e w1 ⟨rfl, C1⟩
      have HBel := hide (below_cnt R.out.below C1 (by omega))
      have k0 := cell_of_one C1.c0
      have k1 := cell_of_one C1.c1
      have k2 := cell_of_one C1.cr
      have k3 := cell_of_one C1.ca
      have k4 := cell_of_one C1.cb
      have k5 := C1.cell (.inl (by omega)) R.out.b0
      have k6 := C1.cell (.inl (by omega)) R.out.b1
      have k7 := C1.cell (.inl (by omega)) R.out.b2
      have HQ0 : Hid (Row (w.heap.size + 1 + 1 + 1) w1.drew a0 l0 s0) := HRow0.out.kept fun k hk => C1.block k (.inl hk)
      have HQ1 : Hid (Row (w.heap.size + 1 + 1 + 1) w1.drew.drew a1 l1 s1) := HRow1.out.kept fun k hk => C1.block k (.inl hk)
      clear C1 R HRow0 HRow1 HR0 HR1
      go_wp2
      go_region_held3 (fun w' => w'.cell? ⟨w.heap.size, 0, none⟩ = some (.slice a0 l0 c0)) (go_keep) (first
        | (go_at_call 18; refine (bat_any (w.heap.size + 1 + 1 + 1) _ _ _ s0 _ _ HQ0.out).mono ?_; rintro e w2 ⟨rfl, rfl⟩)
        | (go_at_call 22; refine (bcmp_any _ _ _).mono ?_; rintro e w3 ⟨rfl, rfl⟩))
      go_wp2
      go_region_held3 (fun w' => w'.cell? ⟨w.heap.size + 1, 0, none⟩ = some (.slice a1 l1 c1)) (go_keep) (first
        | (go_at_call 18; refine (bat_any (w.heap.size + 1 + 1 + 1) _ _ _ s1 _ _ HQ1.out).mono ?_; rintro e w2 ⟨rfl, rfl⟩)
        | (go_at_call 22; refine (bcmp_any _ _ _).mono ?_; rintro e w3 ⟨rfl, rfl⟩))
      go_wp2
      go_ret
      exact ⟨by simp, HBel.out.drew.drew⟩
    case false =>
      refine (m41_rest (w.heap.size + 1 + 1) ans (w.heap.size + 1 + 1 + 1) w.heap.size (w.heap.size + 1) (w.heap.size + 1 + 1 + 1 + 1 + 1 + 1 + 1 + 1 + 1) (w.heap.size + 1 + 1 + 1 + 1 + 1 + 1 + 1 + 1) a0 a1 l0 c0 l1 c1 s0 s1 d0 d1 x y _ (by omega) (by omega) (by omega) (by omega) HRow0.out R.out.b0 HRow1.out R.out.b1 R.out.cnt R.out.pair e0 HZ0.out e1 (by omega) R.out.b2).mono ?_
      rintro e w1 ⟨rfl, C1⟩
      have HBel := hide (below_cnt R.out.below C1 (by omega))
      have k0 := cell_of_one C1.c0
      have k1 := cell_of_one C1.c1
      have k2 := cell_of_one C1.cr
      have k3 := cell_of_one C1.ca
      have k4 := cell_of_one C1.cb
      have k5 := C1.cell (.inl (by omega)) R.out.b0
      have k6 := C1.cell (.inl (by omega)) R.out.b1
      have k7 := C1.cell (.inl (by omega)) R.out.b2
      have HQ0 : Hid (Row (w.heap.size + 1 + 1 + 1) w1.drew a0 l0 s0) := HRow0.out.kept fun k hk => C1.block k (.inl hk)
      have HQ1 : Hid (Row (w.heap.size + 1 + 1 + 1) w1.drew.drew a1 l1 s1) := HRow1.out.kept fun k hk => C1.block k (.inl hk)
      clear C1 R HRow0 HRow1 HR0 HR1
      go_wp2
      go_region_held3 (fun w' => w'.cell? ⟨w.heap.size, 0, none⟩ = some (.slice a0 l0 c0)) (go_keep) (first
        | (go_at_call 18; refine (bat_any (w.heap.size + 1 + 1 + 1) _ _ _ s0 _ _ HQ0.out).mono ?_; rintro e w2 ⟨rfl, rfl⟩)
        | (go_at_call 22; refine (bcmp_any _ _ _).mono ?_; rintro e w3 ⟨rfl, rfl⟩))
      go_wp2
      go_region_held3 (fun w' => w'.cell? ⟨w.heap.size + 1, 0, none⟩ = some (.slice a1 l1 c1)) (go_keep) (first
        | (go_at_call 18; refine (bat_any (w.heap.size + 1 + 1 + 1) _ _ _ s1 _ _ HQ1.out).mono ?_; rintro e w2 ⟨rfl, rfl⟩)
        | (go_at_call 22; refine (bcmp_any _ _ _).mono ?_; rintro e w3 ⟨rfl, rfl⟩))
      go_wp2
      go_ret
      exact ⟨by simp, HBel.out.drew.drew⟩

set_option maxHeartbeats 6400000 in
set_option maxRecDepth 100000 in
theorem walk_none (a0 a1 : Option Addr) (l0 c0 l1 c1 : Nat) (s0 s1 : List ByteArray) (d0 d1 ia ib ans : Int) (w : World) (h0 : l0 ≤ 1024) (h1 : l1 ≤ 1024) (hia : 0 ≤ ia) (hia' : ia ≤ 255) (hib : 0 ≤ ib) (hib' : ib ≤ 255) (hr0 : Row w.heap.size w a0 l0 s0) (hr1 : Row w.heap.size w a1 l1 s1) :
    Calls Yba.prog 5 #[.slice a0 l0 c0, .slice a1 l1 c1, .int .i64 d0, .int .i64 d1, .int .u8 ia, .int .u8 ib, .bool false, .int .i64 ans] w fun e w' => e = .returned (.bool true) ∧ Below w.heap.size w w' := by
  have hmf : ∀ (fn : Fn) (first cap : Array Value) (w : World), (Instr.makeFunc fn first cap).run Yba.prog w = .ok (.func fn first cap) w := fun _ _ _ _ => rfl
  have g0 : (l0 : Int) ≤ 1024 := by omega
  have g1 : (l1 : Int) ≤ 1024 := by omega
  have HR0 := hide hr0
  have HR1 := hide hr1
  clear hr0 hr1
  go_enter Yba.func5, Yba.ntmps5
  go_wp2_with fail
  refine (bsize_any _ _ _ _ _ _ h0 h1 _).mono ?_
  rintro e w1 ⟨z, rfl, hz1, hz2, rfl⟩
  have hz1' : (1 : Int) ≤ z := by omega
  have hz2' : (z : Int) ≤ 1024 := by omega
  go_wp2_with fail
  refine (pairThen_none _ _ _ _ _ _ _ _ _).mono ?_
  rintro e w1 ⟨rfl, rfl⟩
  generalize ia % (z : Int) = x
  generalize ib % (z : Int) = y
  clear hz1 hz2 hz1' hz2' hia hia' hib hib' g0 g1
  go_wp2_with fail
  have R := hide (ready w (.slice a0 l0 c0) (.slice a1 l1 c1) ans (.func (.func 17) #[] #[.pointer (some ⟨w.heap.size + 1 + 1 + 1, 0, none⟩), .pointer (some ⟨w.heap.size, 0, none⟩)]) (.func (.func 19) #[] #[.pointer (some ⟨w.heap.size + 1 + 1 + 1 + 1, 0, none⟩), .pointer (some ⟨w.heap.size + 1, 0, none⟩)]) d0 d1 .nilFunc)
  have HRow0 := hide (Row.up (HR0.out.kept fun k hk => R.out.below.block k hk) (B' := w.heap.size + 1 + 1 + 1) (by omega))
  have HRow1 := hide (Row.up (HR1.out.kept fun k hk => R.out.below.block k hk) (B' := w.heap.size + 1 + 1 + 1) (by omega))
  cases e0 : (cmpS (atS s0 l0 x) (atS s0 l0 y) != 0)
  case true =>
    refine (m41_first (w.heap.size + 1 + 1 + 1) w.heap.size (w.heap.size + 1) (w.heap.size + 1 + 1 + 1 + 1 + 1 + 1 + 1 + 1 + 1) (w.heap.size + 1 + 1 + 1 + 1 + 1 + 1 + 1 + 1) a0 a1 l0 c0 l1 c1 s0 s1 d0 d1 x y _ _ (by omega) (by omega) (by omega) HRow0.out R.out.b0 R.out.cnt R.out.pair e0).mono ?_
    rintro e w1 ⟨rfl, C1⟩
    have HBel := hide (below_cnt R.out.below C1 (by omega))
    have k0 := cell_of_one C1.c0
    have k1 := cell_of_one C1.c1
    have k2 := cell_of_one C1.cr
    have k3 := cell_of_one C1.ca
    have k4 := cell_of_one C1.cb
    have k5 := C1.cell (.inl (by omega)) R.out.b0
    have k6 := C1.cell (.inl (by omega)) R.out.b1
    have k7 := C1.cell (.inl (by omega)) R.out.b2
    have HQ0 : Hid (Row (w.heap.size + 1 + 1 + 1) w1.drew a0 l0 s0) := HRow0.out.kept fun k hk => C1.block k (.inl hk)
    have HQ1 : Hid (Row (w.heap.size + 1 + 1 + 1) w1.drew.drew a1 l1 s1) := HRow1.out.kept fun k hk => C1.block k (.inl hk)
    clear C1 R HRow0 HRow1 HR0 HR1
    go_wp2
    go_region_held3 (fun w' => w'.cell? ⟨w.heap.size, 0, none⟩ = some (.slice a0 l0 c0)) (go_keep) (first
      | (go_at_call 18; refine (bat_any (w.heap.size + 1 + 1 + 1) _ _ _ s0 _ _ HQ0.out).mono ?_; rintro e w2 ⟨rfl, rfl⟩)
      | (go_at_call 22; refine (bcmp_any _ _ _).mono ?_; rintro e w3 ⟨rfl, rfl⟩))
    go_wp2
    go_ret
    exact ⟨by simp, HBel.out.drew⟩
  case false =>
    have hz0 : cmpS (atS s0 l0 x) (atS s0 l0 y) = 0 := by simpa using e0
    have HZ0 := hide hz0
    clear hz0
    cases e1 : (cmpS (atS s1 l1 x) (atS s1 l1 y) != 0)
    case true =>
      refine (m41_second (w.heap.size + 1 + 1 + 1) w.heap.size (w.heap.size + 1) (w.heap.size + 1 + 1 + 1 + 1 + 1 + 1 + 1 + 1 + 1) (w.heap.size + 1 + 1 + 1 + 1 + 1 + 1 + 1 + 1) a0 a1 l0 c0 l1 c1 s0 s1 d0 d1 x y _ _ (by omega) (by omega) (by omega) (by omega) HRow0.out R.out.b0 HRow1.out R.out.b1 R.out.cnt R.out.pair e0 HZ0.out e1).mono ?_
      rintro e w1 ⟨rfl, C1⟩
      have HBel := hide (below_cnt R.out.below C1 (by omega))
      have k0 := cell_of_one C1.c0
      have k1 := cell_of_one C1.c1
      have k2 := cell_of_one C1.cr
      have k3 := cell_of_one C1.ca
      have k4 := cell_of_one C1.cb
      have k5 := C1.cell (.inl (by omega)) R.out.b0
      have k6 := C1.cell (.inl (by omega)) R.out.b1
      have k7 := C1.cell (.inl (by omega)) R.out.b2
      have HQ0 : Hid (Row (w.heap.size + 1 + 1 + 1) w1.drew a0 l0 s0) := HRow0.out.kept fun k hk => C1.block k (.inl hk)
      have HQ1 : Hid (Row (w.heap.size + 1 + 1 + 1) w1.drew.drew a1 l1 s1) := HRow1.out.kept fun k hk => C1.block k (.inl hk)
      clear C1 R HRow0 HRow1 HR0 HR1
      go_wp2
      go_region_held3 (fun w' => w'.cell? ⟨w.heap.size, 0, none⟩ = some (.slice a0 l0 c0)) (go_keep) (first
        | (go_at_call 18; refine (bat_any (w.heap.size + 1 + 1 + 1) _ _ _ s0 _ _ HQ0.out).mono ?_; rintro e w2 ⟨rfl, rfl⟩)
        | (go_at_call 22; refine (bcmp_any _ _ _).mono ?_; rintro e w3 ⟨rfl, rfl⟩))
      go_wp2
      go_region_held3 (fun w' => w'.cell? ⟨w.heap.size + 1, 0, none⟩ = some (.slice a1 l1 c1)) (go_keep) (first
        | (go_at_call 18; refine (bat_any (w.heap.size + 1 + 1 + 1) _ _ _ s1 _ _ HQ1.out).mono ?_; rintro e w2 ⟨rfl, rfl⟩)
        | (go_at_call 22; refine (bcmp_any _ _ _).mono ?_; rintro e w3 ⟨rfl, rfl⟩))
      go_wp2
      go_ret
      exact ⟨by simp, HBel.out.drew.drew⟩
    case false =>
      refine (m41_none (w.heap.size + 1 + 1 + 1) w.heap.size (w.heap.size + 1) (w.heap.size + 1 + 1 + 1 + 1 + 1 + 1 + 1 + 1 + 1) (w.heap.size + 1 + 1 + 1 + 1 + 1 + 1 + 1 + 1) a0 a1 l0 c0 l1 c1 s0 s1 d0 d1 x y _ (by omega) (by omega) (by omega) (by omega) HRow0.out R.out.b0 HRow1.out R.out.b1 R.out.cnt R.out.pair e0 HZ0.out e1).mono ?_
      rintro e w1 ⟨rfl, C1⟩
      have HBel := hide (below_cnt R.out.below C1 (by omega))
      have k0 := cell_of_one C1.c0
      have k1 := cell_of_one C1.c1
      have k2 := cell_of_one C1.cr
      have k3 := cell_of_one C1.ca
      have k4 := cell_of_one C1.cb
      have k5 := C1.cell (.inl (by omega)) R.out.b0
      have k6 := C1.cell (.inl (by omega)) R.out.b1
      have k7 := C1.cell (.inl (by omega)) R.out.b2
      have HQ0 : Hid (Row (w.heap.size + 1 + 1 + 1) w1.drew a0 l0 s0) := HRow0.out.kept fun k hk => C1.block k (.inl hk)
      have HQ1 : Hid (Row (w.heap.size + 1 + 1 + 1) w1.drew.drew a1 l1 s1) := HRow1.out.kept fun k hk => C1.block k (.inl hk)
      clear C1 R HRow0 HRow1 HR0 HR1
      go_wp2
      go_region_held3 (fun w' => w'.cell? ⟨w.heap.size, 0, none⟩ = some (.slice a0 l0 c0)) (go_keep) (first
        | (go_at_call 18; refine (bat_any (w.heap.size + 1 + 1 + 1) _ _ _ s0 _ _ HQ0.out).mono ?_; rintro e w2 ⟨rfl, rfl⟩)
        | (go_at_call 22; refine (bcmp_any _ _ _).mono ?_; rintro e w3 ⟨rfl, rfl⟩))
      go_wp2
      go_region_held3 (fun w' => w'.cell? ⟨w.heap.size + 1, 0, none⟩ = some (.slice a1 l1 c1)) (go_keep) (first
        | (go_at_call 18; refine (bat_any (w.heap.size + 1 + 1 + 1) _ _ _ s1 _ _ HQ1.out).mono ?_; rintro e w2 ⟨rfl, rfl⟩)
        | (go_at_call 22; refine (bcmp_any _ _ _).mono ?_; rintro e w3 ⟨rfl, rfl⟩))
      go_wp2
      go_ret
      exact ⟨by simp, HBel.out.drew.drew⟩

end Go.Proofs.Ybulkbfjm.lawS2820BModel
