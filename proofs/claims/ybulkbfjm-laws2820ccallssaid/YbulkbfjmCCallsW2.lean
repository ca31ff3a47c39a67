/-
  LawS2820CCalls (8): the walks, rest nil.
-/
import Derived.Test.YbulkbfjmCCallsReady
namespace Go.Proofs.Ybulkbfjm.lawS2820CCalls
open Go.RowKit
set_option linter.unusedVariables false

set_option maxHeartbeats 6400000 in
set_option maxRecDepth 100000 in
theorem walk_fff (sa sb : ByteArray) (na nb d0 d1 ans : Int) (w : World) (hsa : sa.size ≤ 4096) (hsb : sb.size ≤ 4096) :
    Calls Yba.prog 8 #[.agg #[.string sa, .int .i64 na], .agg #[.string sb, .int .i64 nb], .int .i64 d0, .int .i64 d1, .bool false, .bool false, .bool false, .int .i64 ans] w fun e w' => e = .returned (.bool true) ∧ Below w.heap.size w w' := by
  have hmf : ∀ (fn : Fn) (first cap : Array Value) (w : World), (Instr.makeFunc fn first cap).run Yba.prog w = .ok (.func fn first cap) w := fun _ _ _ _ => rfl
  have g0 : (sa.size : Int) ≤ 4096 := by omega
  have g1 : (sb.size : Int) ≤ 4096 := by omega
  go_enter Yba.func8, Yba.ntmps8
  go_wp2_with fail
  refine (then_none _ _ _ _ _ _ _ _ _).mono ?_
  rintro e w1 ⟨rfl, rfl⟩
  go_wp2_with fail
  have R := hide (ready w (.cells #[.string sb, .int .i64 nb] 40) sa sb na nb ans (.func (.func 34) #[] #[.pointer (some ⟨w.heap.size + 1 + 1 + 1 + 1, 0, none⟩)]) (.func (.func 35) #[] #[.pointer (some ⟨w.heap.size + 1 + 1 + 1 + 1 + 1, 0, none⟩)]) d0 d1 .nilFunc)
  cases e0 : (cmpS sa sb != 0)
  case true =>
    have t0 := neqz e0
    refine (c45_first (w.heap.size + 1 + 1 + 1 + 1) (w.heap.size + 1 + 1 + 1 + 1 + 1 + 1 + 1 + 1 + 1) (w.heap.size + 1 + 1 + 1 + 1 + 1 + 1 + 1 + 1) sa sb na nb d0 d1 _ _ (by omega) (by omega) R.out.cc R.out.pair e0).mono ?_
    rintro e w1 ⟨rfl, C1⟩
    have HBel := hide (below_cc R.out.below C1 (by omega))
    have k0 := cell_of_one C1.c0
    have k1 := cell_of_one C1.c1
    have k2 := cell_of_one C1.cr
    have k3 := cell_of_one C1.co
    have k4 := C1.cell (.inl (by omega)) R.out.a0
    have k5 := C1.cell (.inl (by omega)) R.out.a1
    have k6 := C1.cell (.inl (by omega)) R.out.b0
    have k7 := C1.cell (.inl (by omega)) R.out.b1
    clear C1 R
    go_wp2_with (go_at_call 31; refine (ccmp_any _ _ _ hsa hsb).mono ?_; rintro e w2 ⟨rfl, n, rfl⟩)
    go_ret
    exact ⟨by simp, below_drewN HBel.out n⟩
  case false =>
    have t0 := eqz e0
    cases e1 : (cmpI na nb != 0)
    case true =>
      have t1 := cmpI_ne e1
      refine (c45_second (w.heap.size + 1 + 1 + 1 + 1) (w.heap.size + 1 + 1 + 1 + 1 + 1 + 1 + 1 + 1 + 1) (w.heap.size + 1 + 1 + 1 + 1 + 1 + 1 + 1 + 1) sa sb na nb d0 d1 _ _ (by omega) (by omega) R.out.cc R.out.pair e0 e1).mono ?_
      rintro e w1 ⟨rfl, C1⟩
      have HBel := hide (below_cc R.out.below C1 (by omega))
      have k0 := cell_of_one C1.c0
      have k1 := cell_of_one C1.c1
      have k2 := cell_of_one C1.cr
      have k3 := cell_of_one C1.co
      have k4 := C1.cell (.inl (by omega)) R.out.a0
      have k5 := C1.cell (.inl (by omega)) R.out.a1
      have k6 := C1.cell (.inl (by omega)) R.out.b0
      have k7 := C1.cell (.inl (by omega)) R.out.b1
      clear C1 R
      go_wp2_with (go_at_call 31; refine (ccmp_any _ _ _ hsa hsb).mono ?_; rintro e w2 ⟨rfl, n, rfl⟩)
      go_ret
      exact ⟨by simp, below_drewN HBel.out n⟩
    case false =>
      have t1 := cmpI_eq e1
      refine (c45_none (w.heap.size + 1 + 1 + 1 + 1) (w.heap.size + 1 + 1 + 1 + 1 + 1 + 1 + 1 + 1 + 1) (w.heap.size + 1 + 1 + 1 + 1 + 1 + 1 + 1 + 1) sa sb na nb d0 d1 _ (by omega) (by omega) R.out.cc R.out.pair e0 e1).mono ?_
      rintro e w1 ⟨rfl, C1⟩
      have HBel := hide (below_cc R.out.below C1 (by omega))
      have k0 := cell_of_one C1.c0
      have k1 := cell_of_one C1.c1
      have k2 := cell_of_one C1.cr
      have k3 := cell_of_one C1.co
      have k4 := C1.cell (.inl (by omega)) R.out.a0
      have k5 := C1.cell (.inl (by omega)) R.out.a1
      have k6 := C1.cell (.inl (by omega)) R.out.b0
      have k7 := C1.cell (.inl (by omega)) R.out.b1
      clear C1 R
      go_wp2_with (go_at_call 31; refine (ccmp_any _ _ _ hsa hsb).mono ?_; rintro e w2 ⟨rfl, n, rfl⟩)
      go_ret
      exact ⟨by simp, below_drewN HBel.out n⟩

set_option maxHeartbeats 6400000 in
set_option maxRecDepth 100000 in
theorem walk_ftf (sa sb : ByteArray) (na nb d0 d1 ans : Int) (w : World) (hsa : sa.size ≤ 4096) (hsb : sb.size ≤ 4096) :
    Calls Yba.prog 8 #[.agg #[.string sa, .int .i64 na], .agg #[.string sb, .int .i64 nb], .int .i64 d0, .int .i64 d1, .bool false, .bool true, .bool false, .int .i64 ans] w fun e w' => e = .returned (.bool true) ∧ Below w.heap.size w w' := by
  have hmf : ∀ (fn : Fn) (first cap : Array Value) (w : World), (Instr.makeFunc fn first cap).run Yba.prog w = .ok (.func fn first cap) w := fun _ _ _ _ => rfl
  have g0 : (sa.size : Int) ≤ 4096 := by omega
  have g1 : (sb.size : Int) ≤ 4096 := by omega
  go_enter Yba.func8, Yba.ntmps8
  go_wp2_with fail
  refine (then_none _ _ _ _ _ _ _ _ _).mono ?_
  rintro e w1 ⟨rfl, rfl⟩
  go_wp2_with fail
  have R := hide (ready w (.cells #[.string sb, .int .i64 nb] 40) sa sb na na ans (.func (.func 34) #[] #[.pointer (some ⟨w.heap.size + 1 + 1 + 1 + 1, 0, none⟩)]) (.func (.func 35) #[] #[.pointer (some ⟨w.heap.size + 1 + 1 + 1 + 1 + 1, 0, none⟩)]) d0 d1 .nilFunc)
  cases e0 : (cmpS sa sb != 0)
  case true =>
    have t0 := neqz e0
    refine (c45_first (w.heap.size + 1 + 1 + 1 + 1) (w.heap.size + 1 + 1 + 1 + 1 + 1 + 1 + 1 + 1 + 1) (w.heap.size + 1 + 1 + 1 + 1 + 1 + 1 + 1 + 1) sa sb na na d0 d1 _ _ (by omega) (by omega) R.out.cc R.out.pair e0).mono ?_
    rintro e w1 ⟨rfl, C1⟩
    have HBel := hide (below_cc R.out.below C1 (by omega))
    have k0 := cell_of_one C1.c0
    have k1 := cell_of_one C1.c1
    have k2 := cell_of_one C1.cr
    have k3 := cell_of_one C1.co
    have k4 := C1.cell (.inl (by omega)) R.out.a0
    have k5 := C1.cell (.inl (by omega)) R.out.a1
    have k6 := C1.cell (.inl (by omega)) R.out.b0
    have k7 := C1.cell (.inl (by omega)) R.out.b1
    clear C1 R
    go_wp2_with (go_at_call 31; refine (ccmp_any _ _ _ hsa hsb).mono ?_; rintro e w2 ⟨rfl, n, rfl⟩)
    go_ret
    exact ⟨by simp, below_drewN HBel.out n⟩
  case false =>
    have t0 := eqz e0
    cases e1 : (cmpI na na != 0)
    case true =>
      exact (cmpI_self e1).elim
    case false =>
      have t1 := cmpI_eq e1
      refine (c45_none (w.heap.size + 1 + 1 + 1 + 1) (w.heap.size + 1 + 1 + 1 + 1 + 1 + 1 + 1 + 1 + 1) (w.heap.size + 1 + 1 + 1 + 1 + 1 + 1 + 1 + 1) sa sb na na d0 d1 _ (by omega) (by omega) R.out.cc R.out.pair e0 e1).mono ?_
      rintro e w1 ⟨rfl, C1⟩
      have HBel := hide (below_cc R.out.below C1 (by omega))
      have k0 := cell_of_one C1.c0
      have k1 := cell_of_one C1.c1
      have k2 := cell_of_one C1.cr
      have k3 := cell_of_one C1.co
      have k4 := C1.cell (.inl (by omega)) R.out.a0
      have k5 := C1.cell (.inl (by omega)) R.out.a1
      have k6 := C1.cell (.inl (by omega)) R.out.b0
      have k7 := C1.cell (.inl (by omega)) R.out.b1
      clear C1 R
      go_wp2_with (go_at_call 31; refine (ccmp_any _ _ _ hsa hsb).mono ?_; rintro e w2 ⟨rfl, n, rfl⟩)
      go_ret
      exact ⟨by simp, below_drewN HBel.out n⟩

set_option maxHeartbeats 6400000 in
set_option maxRecDepth 100000 in
theorem walk_tff (sa sb : ByteArray) (na nb d0 d1 ans : Int) (w : World) (hsa : sa.size ≤ 4096) (hsb : sb.size ≤ 4096) :
    Calls Yba.prog 8 #[.agg #[.string sa, .int .i64 na], .agg #[.string sb, .int .i64 nb], .int .i64 d0, .int .i64 d1, .bool true, .bool false, .bool false, .int .i64 ans] w fun e w' => e = .returned (.bool true) ∧ Below w.heap.size w w' := by
  have hmf : ∀ (fn : Fn) (first cap : Array Value) (w : World), (Instr.makeFunc fn first cap).run Yba.prog w = .ok (.func fn first cap) w := fun _ _ _ _ => rfl
  have g0 : (sa.size : Int) ≤ 4096 := by omega
  have g1 : (sb.size : Int) ≤ 4096 := by omega
  go_enter Yba.func8, Yba.ntmps8
  go_wp2_with fail
  refine (then_none _ _ _ _ _ _ _ _ _).mono ?_
  rintro e w1 ⟨rfl, rfl⟩
  go_wp2_with fail
  have R := hide (ready w (.cells #[.string sb, .int .i64 nb] 40) sa sa na nb ans (.func (.func 34) #[] #[.pointer (some ⟨w.heap.size + 1 + 1 + 1 + 1, 0, none⟩)]) (.func (.func 35) #[] #[.pointer (some ⟨w.heap.size + 1 + 1 + 1 + 1 + 1, 0, none⟩)]) d0 d1 .nilFunc)
  cases e0 : (cmpS sa sa != 0)
  case true =>
    have t0 := neqz e0
    refine (c45_first (w.heap.size + 1 + 1 + 1 + 1) (w.heap.size + 1 + 1 + 1 + 1 + 1 + 1 + 1 + 1 + 1) (w.heap.size + 1 + 1 + 1 + 1 + 1 + 1 + 1 + 1) sa sa na nb d0 d1 _ _ (by omega) (by omega) R.out.cc R.out.pair e0).mono ?_
    rintro e w1 ⟨rfl, C1⟩
    have HBel := hide (below_cc R.out.below C1 (by omega))
    have k0 := cell_of_one C1.c0
    have k1 := cell_of_one C1.c1
    have k2 := cell_of_one C1.cr
    have k3 := cell_of_one C1.co
    have k4 := C1.cell (.inl (by omega)) R.out.a0
    have k5 := C1.cell (.inl (by omega)) R.out.a1
    have k6 := C1.cell (.inl (by omega)) R.out.b0
    have k7 := C1.cell (.inl (by omega)) R.out.b1
    clear C1 R
    go_wp2_with (go_at_call 31; refine (ccmp_any _ _ _ hsa hsa).mono ?_; rintro e w2 ⟨rfl, n, rfl⟩)
    go_ret
    exact ⟨by simp, below_drewN HBel.out n⟩
  case false =>
    have t0 := eqz e0
    cases e1 : (cmpI na nb != 0)
    case true =>
      have t1 := cmpI_ne e1
      refine (c45_second (w.heap.size + 1 + 1 + 1 + 1) (w.heap.size + 1 + 1 + 1 + 1 + 1 + 1 + 1 + 1 + 1) (w.heap.size + 1 + 1 + 1 + 1 + 1 + 1 + 1 + 1) sa sa na nb d0 d1 _ _ (by omega) (by omega) R.out.cc R.out.pair e0 e1).mono ?_
      rintro e w1 ⟨rfl, C1⟩
      have HBel := hide (below_cc R.out.below C1 (by omega))
      have k0 := cell_of_one C1.c0
      have k1 := cell_of_one C1.c1
      have k2 := cell_of_one C1.cr
      have k3 := cell_of_one C1.co
      have k4 := C1.cell (.inl (by omega)) R.out.a0
      have k5 := C1.cell (.inl (by omega)) R.out.a1
      have k6 := C1.cell (.inl (by omega)) R.out.b0
      have k7 := C1.cell (.inl (by omega)) R.out.b1
      clear C1 R
      go_wp2_with (go_at_call 31; refine (ccmp_any _ _ _ hsa hsa).mono ?_; rintro e w2 ⟨rfl, n, rfl⟩)
      go_ret
      exact ⟨by simp, below_drewN HBel.out n⟩
    case false =>
      have t1 := cmpI_eq e1
      refine (c45_none (w.heap.size + 1 + 1 + 1 + 1) (w.heap.size + 1 + 1 + 1 + 1 + 1 + 1 + 1 + 1 + 1) (w.heap.size + 1 + 1 + 1 + 1 + 1 + 1 + 1 + 1) sa sa na nb d0 d1 _ (by omega) (by omega) R.out.cc R.out.pair e0 e1).mono ?_
      rintro e w1 ⟨rfl, C1⟩
      have HBel := hide (below_cc R.out.below C1 (by omega))
      have k0 := cell_of_one C1.c0
      have k1 := cell_of_one C1.c1
      have k2 := cell_of_one C1.cr
      have k3 := cell_of_one C1.co
      have k4 := C1.cell (.inl (by omega)) R.out.a0
      have k5 := C1.cell (.inl (by omega)) R.out.a1
      have k6 := C1.cell (.inl (by omega)) R.out.b0
      have k7 := C1.cell (.inl (by omega)) R.out.b1
      clear C1 R
      go_wp2_with (go_at_call 31; refine (ccmp_any _ _ _ hsa hsa).mono ?_; rintro e w2 ⟨rfl, n, rfl⟩)
      go_ret
      exact ⟨by simp, below_drewN HBel.out n⟩

set_option maxHeartbeats 6400000 in
set_option maxRecDepth 100000 in
theorem walk_ttf (sa sb : ByteArray) (na nb d0 d1 ans : Int) (w : World) (hsa : sa.size ≤ 4096) (hsb : sb.size ≤ 4096) :
    Calls Yba.prog 8 #[.agg #[.string sa, .int .i64 na], .agg #[.string sb, .int .i64 nb], .int .i64 d0, .int .i64 d1, .bool true, .bool true, .bool false, .int .i64 ans] w fun e w' => e = .returned (.bool true) ∧ Below w.heap.size w w' := by
  have hmf : ∀ (fn : Fn) (first cap : Array Value) (w : World), (Instr.makeFunc fn first cap).run Yba.prog w = .ok (.func fn first cap) w := fun _ _ _ _ => rfl
  have g0 : (sa.size : Int) ≤ 4096 := by omega
  have g1 : (sb.size : Int) ≤ 4096 := by omega
  go_enter Yba.func8, Yba.ntmps8
  go_wp2_with fail
  refine (then_none _ _ _ _ _ _ _ _ _).mono ?_
  rintro e w1 ⟨rfl, rfl⟩
  go_wp2_with fail
  have R := hide (ready w (.cells #[.string sb, .int .i64 nb] 40) sa sa na na ans (.func (.func 34) #[] #[.pointer (some ⟨w.heap.size + 1 + 1 + 1 + 1, 0, none⟩)]) (.func (.func 35) #[] #[.pointer (some ⟨w.heap.size + 1 + 1 + 1 + 1 + 1, 0, none⟩)]) d0 d1 .nilFunc)
  cases e0 : (cmpS sa sa != 0)
  case true =>
    have t0 := neqz e0
    refine (c45_first (w.heap.size + 1 + 1 + 1 + 1) (w.heap.size + 1 + 1 + 1 + 1 + 1 + 1 + 1 + 1 + 1) (w.heap.size + 1 + 1 + 1 + 1 + 1 + 1 + 1 + 1) sa sa na na d0 d1 _ _ (by omega) (by omega) R.out.cc R.out.pair e0).mono ?_
    rintro e w1 ⟨rfl, C1⟩
    have HBel := hide (below_cc R.out.below C1 (by omega))
    have k0 := cell_of_one C1.c0
    have k1 := cell_of_one C1.c1
    have k2 := cell_of_one C1.cr
    have k3 := cell_of_one C1.co
    have k4 := C1.cell (.inl (by omega)) R.out.a0
    have k5 := C1.cell (.inl (by omega)) R.out.a1
    have k6 := C1.cell (.inl (by omega)) R.out.b0
    have k7 := C1.cell (.inl (by omega)) R.out.b1
    clear C1 R
    go_wp2_with (go_at_call 31; refine (ccmp_any _ _ _ hsa hsa).mono ?_; rintro e w2 ⟨rfl, n, rfl⟩)
    go_ret
    exact ⟨by simp, below_drewN HBel.out n⟩
  case false =>
    have t0 := eqz e0
    cases e1 : (cmpI na na != 0)
    case true =>
      exact (cmpI_self e1).elim
    case false =>
      have t1 := cmpI_eq e1
      refine (c45_none (w.heap.size + 1 + 1 + 1 + 1) (w.heap.size + 1 + 1 + 1 + 1 + 1 + 1 + 1 + 1 + 1) (w.heap.size + 1 + 1 + 1 + 1 + 1 + 1 + 1 + 1) sa sa na na d0 d1 _ (by omega) (by omega) R.out.cc R.out.pair e0 e1).mono ?_
      rintro e w1 ⟨rfl, C1⟩
      have HBel := hide (below_cc R.out.below C1 (by omega))
      have k0 := cell_of_one C1.c0
      have k1 := cell_of_one C1.c1
      have k2 := cell_of_one C1.cr
      have k3 := cell_of_one C1.co
      have k4 := C1.cell (.inl (by omega)) R.out.a0
      have k5 := C1.cell (.inl (by omega)) R.out.a1
      have k6 := C1.cell (.inl (by omega)) R.out.b0
      have k7 := C1.cell (.inl (by omega)) R.out.b1
      clear C1 R
      go_wp2_with (go_at_call 31; refine (ccmp_any _ _ _ hsa hsa).mono ?_; rintro e w2 ⟨rfl, n, rfl⟩)
      go_ret
      exact ⟨by simp, below_drewN HBel.out n⟩

end Go.Proofs.Ybulkbfjm.lawS2820CCalls
