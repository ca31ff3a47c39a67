/-
  LawS2820CExact (7): the walks, rest nil.
-/
import Derived.Test.YbulkbfjmCExactReady
namespace Go.Proofs.Ybulkbfjm.lawS2820CExact
open Go.RowKit
set_option linter.unusedVariables false

set_option maxHeartbeats 6400000 in
set_option maxRecDepth 100000 in
theorem walk_fff (sa sb : ByteArray) (na nb d0 d1 ans : Int) (w : World) (hsa : sa.size ≤ 4096) (hsb : sb.size ≤ 4096) :
    Calls Yba.prog 7 #[.agg #[.string sa, .int .i64 na], .agg #[.string sb, .int .i64 nb], .int .i64 d0, .int .i64 d1, .bool false, .bool false, .bool false, .int .i64 ans] w fun e w' => e = .returned (.bool true) ∧ Below w.heap.size w w' := by
  have hmf : ∀ (fn : Fn) (first cap : Array Value) (w : World), (Instr.makeFunc fn first cap).run Yba.prog w = .ok (.func fn first cap) w := fun _ _ _ _ => rfl
  have g0 : (sa.size : Int) ≤ 4096 := by omega
  have g1 : (sb.size : Int) ≤ 4096 := by omega
  go_enter Yba.func7, Yba.ntmps7
  go_wp2_with fail
  refine (then_none _ _ _ _ _ _ _ _ _).mono ?_
  rintro e w1 ⟨rfl, rfl⟩
  go_wp2_with fail
  have R := hide (ready w (.cells #[.string sb, .int .i64 nb] 40) sa sb na nb ans (.func (.func 29) #[] #[]) (.func (.func 30) #[] #[]) d0 d1 .nilFunc)
  cases e0 : (cmpS sa sb != 0)
  case true =>
    refine (e45_first (w.heap.size + 1 + 1 + 1 + 1 + 1) (w.heap.size + 1 + 1 + 1 + 1) sa sb na nb d0 d1 _ _ R.out.pair e0).mono ?_
    rintro e w1 ⟨rfl, C1⟩
    have HBel := hide (below_join R.out.below C1)
    have k4 := cell_in C1 R.out.a0
    have k5 := cell_in C1 R.out.a1
    have k6 := cell_in C1 R.out.b0
    have k7 := cell_in C1 R.out.b1
    have k8 := cell_in C1 R.out.an
    clear C1 R
    go_wp2_with (first | (go_at_call 31; refine (ccmp_any _ _ _ hsa hsb).mono ?_; rintro e w2 ⟨rfl, n, rfl⟩) | (go_at_call 32; refine (icmp_any _ _ _).mono ?_; rintro e w3 ⟨rfl, rfl⟩))
    go_ret
    exact ⟨by simp, below_drewN HBel.out n⟩
  case false =>
    cases e1 : (cmpI na nb != 0)
    case true =>
      refine (e45_second (w.heap.size + 1 + 1 + 1 + 1 + 1) (w.heap.size + 1 + 1 + 1 + 1) sa sb na nb d0 d1 _ _ R.out.pair e0 e1).mono ?_
      rintro e w1 ⟨rfl, C1⟩
      have HBel := hide (below_join R.out.below C1)
      have k4 := cell_in C1 R.out.a0
      have k5 := cell_in C1 R.out.a1
      have k6 := cell_in C1 R.out.b0
      have k7 := cell_in C1 R.out.b1
      have k8 := cell_in C1 R.out.an
      clear C1 R
      go_wp2_with (first | (go_at_call 31; refine (ccmp_any _ _ _ hsa hsb).mono ?_; rintro e w2 ⟨rfl, n, rfl⟩) | (go_at_call 32; refine (icmp_any _ _ _).mono ?_; rintro e w3 ⟨rfl, rfl⟩))
      go_ret
      exact ⟨by simp, below_drewN HBel.out n⟩
    case false =>
      refine (e45_none (w.heap.size + 1 + 1 + 1 + 1 + 1) (w.heap.size + 1 + 1 + 1 + 1) sa sb na nb d0 d1 _ R.out.pair e0 e1).mono ?_
      rintro e w1 ⟨rfl, C1⟩
      have HBel := hide (below_join R.out.below C1)
      have k4 := cell_in C1 R.out.a0
      have k5 := cell_in C1 R.out.a1
      have k6 := cell_in C1 R.out.b0
      have k7 := cell_in C1 R.out.b1
      have k8 := cell_in C1 R.out.an
      clear C1 R
      go_wp2_with (first | (go_at_call 31; refine (ccmp_any _ _ _ hsa hsb).mono ?_; rintro e w2 ⟨rfl, n, rfl⟩) | (go_at_call 32; refine (icmp_any _ _ _).mono ?_; rintro e w3 ⟨rfl, rfl⟩))
      go_ret
      exact ⟨by simp, below_drewN HBel.out n⟩

set_option maxHeartbeats 6400000 in
set_option maxRecDepth 100000 in
theorem walk_ftf (sa sb : ByteArray) (na nb d0 d1 ans : Int) (w : World) (hsa : sa.size ≤ 4096) (hsb : sb.size ≤ 4096) :
    Calls Yba.prog 7 #[.agg #[.string sa, .int .i64 na], .agg #[.string sb, .int .i64 nb], .int .i64 d0, .int .i64 d1, .bool false, .bool true, .bool false, .int .i64 ans] w fun e w' => e = .returned (.bool true) ∧ Below w.heap.size w w' := by
  have hmf : ∀ (fn : Fn) (first cap : Array Value) (w : World), (Instr.makeFunc fn first cap).run Yba.prog w = .ok (.func fn first cap) w := fun _ _ _ _ => rfl
  have g0 : (sa.size : Int) ≤ 4096 := by omega
  have g1 : (sb.size : Int) ≤ 4096 := by omega
  go_enter Yba.func7, Yba.ntmps7
  go_wp2_with fail
  refine (then_none _ _ _ _ _ _ _ _ _).mono ?_
  rintro e w1 ⟨rfl, rfl⟩
  go_wp2_with fail
  have R := hide (ready w (.cells #[.string sb, .int .i64 nb] 40) sa sb na na ans (.func (.func 29) #[] #[]) (.func (.func 30) #[] #[]) d0 d1 .nilFunc)
  cases e0 : (cmpS sa sb != 0)
  case true =>
    refine (e45_first (w.heap.size + 1 + 1 + 1 + 1 + 1) (w.heap.size + 1 + 1 + 1 + 1) sa sb na na d0 d1 _ _ R.out.pair e0).mono ?_
    rintro e w1 ⟨rfl, C1⟩
    have HBel := hide (below_join R.out.below C1)
    have k4 := cell_in C1 R.out.a0
    have k5 := cell_in C1 R.out.a1
    have k6 := cell_in C1 R.out.b0
    have k7 := cell_in C1 R.out.b1
    have k8 := cell_in C1 R.out.an
    clear C1 R
    go_wp2_with (first | (go_at_call 31; refine (ccmp_any _ _ _ hsa hsb).mono ?_; rintro e w2 ⟨rfl, n, rfl⟩) | (go_at_call 32; refine (icmp_any _ _ _).mono ?_; rintro e w3 ⟨rfl, rfl⟩))
    go_ret
    exact ⟨by simp, below_drewN HBel.out n⟩
  case false =>
    cases e1 : (cmpI na na != 0)
    case true =>
      exact (cmpI_self e1).elim
    case false =>
      refine (e45_none (w.heap.size + 1 + 1 + 1 + 1 + 1) (w.heap.size + 1 + 1 + 1 + 1) sa sb na na d0 d1 _ R.out.pair e0 e1).mono ?_
      rintro e w1 ⟨rfl, C1⟩
      have HBel := hide (below_join R.out.below C1)
      have k4 := cell_in C1 R.out.a0
      have k5 := cell_in C1 R.out.a1
      have k6 := cell_in C1 R.out.b0
      have k7 := cell_in C1 R.out.b1
      have k8 := cell_in C1 R.out.an
      clear C1 R
      go_wp2_with (first | (go_at_call 31; refine (ccmp_any _ _ _ hsa hsb).mono ?_; rintro e w2 ⟨rfl, n, rfl⟩) | (go_at_call 32; refine (icmp_any _ _ _).mono ?_; rintro e w3 ⟨rfl, rfl⟩))
      go_ret
      exact ⟨by simp, below_drewN HBel.out n⟩

set_option maxHeartbeats 6400000 in
set_option maxRecDepth 100000 in
theorem walk_tff (sa sb : ByteArray) (na nb d0 d1 ans : Int) (w : World) (hsa : sa.size ≤ 4096) (hsb : sb.size ≤ 4096) :
    Calls Yba.prog 7 #[.agg #[.string sa, .int .i64 na], .agg #[.string sb, .int .i64 nb], .int .i64 d0, .int .i64 d1, .bool true, .bool false, .bool false, .int .i64 ans] w fun e w' => e = .returned (.bool true) ∧ Below w.heap.size w w' := by
  have hmf : ∀ (fn : Fn) (first cap : Array Value) (w : World), (Instr.makeFunc fn first cap).run Yba.prog w = .ok (.func fn first cap) w := fun _ _ _ _ => rfl
  have g0 : (sa.size : Int) ≤ 4096 := by omega
  have g1 : (sb.size : Int) ≤ 4096 := by omega
  go_enter Yba.func7, Yba.ntmps7
  go_wp2_with fail
  refine (then_none _ _ _ _ _ _ _ _ _).mono ?_
  rintro e w1 ⟨rfl, rfl⟩
  go_wp2_with fail
  have R := hide (ready w (.cells #[.string sb, .int .i64 nb] 40) sa sa na nb ans (.func (.func 29) #[] #[]) (.func (.func 30) #[] #[]) d0 d1 .nilFunc)
  cases e0 : (cmpS sa sa != 0)
  case true =>
    refine (e45_first (w.heap.size + 1 + 1 + 1 + 1 + 1) (w.heap.size + 1 + 1 + 1 + 1) sa sa na nb d0 d1 _ _ R.out.pair e0).mono ?_
    rintro e w1 ⟨rfl, C1⟩
    have HBel := hide (below_join R.out.below C1)
    have k4 := cell_in C1 R.out.a0
    have k5 := cell_in C1 R.out.a1
    have k6 := cell_in C1 R.out.b0
    have k7 := cell_in C1 R.out.b1
    have k8 := cell_in C1 R.out.an
    clear C1 R
    go_wp2_with (first | (go_at_call 31; refine (ccmp_any _ _ _ hsa hsa).mono ?_; rintro e w2 ⟨rfl, n, rfl⟩) | (go_at_call 32; refine (icmp_any _ _ _).mono ?_; rintro e w3 ⟨rfl, rfl⟩))
    go_ret
    exact ⟨by simp, below_drewN HBel.out n⟩
  case false =>
    cases e1 : (cmpI na nb != 0)
    case true =>
      refine (e45_second (w.heap.size + 1 + 1 + 1 + 1 + 1) (w.heap.size + 1 + 1 + 1 + 1) sa sa na nb d0 d1 _ _ R.out.pair e0 e1).mono ?_
      rintro e w1 ⟨rfl, C1⟩
      have HBel := hide (below_join R.out.below C1)
      have k4 := cell_in C1 R.out.a0
      have k5 := cell_in C1 R.out.a1
      have k6 := cell_in C1 R.out.b0
      have k7 := cell_in C1 R.out.b1
      have k8 := cell_in C1 R.out.an
      clear C1 R
      go_wp2_with (first | (go_at_call 31; refine (ccmp_any _ _ _ hsa hsa).mono ?_; rintro e w2 ⟨rfl, n, rfl⟩) | (go_at_call 32; refine (icmp_any _ _ _).mono ?_; rintro e w3 ⟨rfl, rfl⟩))
      go_ret
      exact ⟨by simp, below_drewN HBel.out n⟩
    case false =>
      refine (e45_none (w.heap.size + 1 + 1 + 1 + 1 + 1) (w.heap.size + 1 + 1 + 1 + 1) sa sa na nb d0 d1 _ R.out.pair e0 e1).mono ?_
      rintro e w1 ⟨rfl, C1⟩
      have HBel := hide (below_join R.out.below C1)
      have k4 := cell_in C1 R.out.a0
      have k5 := cell_in C1 R.out.a1
      have k6 := cell_in C1 R.out.b0
      have k7 := cell_in C1 R.out.b1
      have k8 := cell_in C1 R.out.an
      clear C1 R
      go_wp2_with (first | (go_at_call 31; refine (ccmp_any _ _ _ hsa hsa).mono ?_; rintro e w2 ⟨rfl, n, rfl⟩) | (go_at_call 32; refine (icmp_any _ _ _).mono ?_; rintro e w3 ⟨rfl, rfl⟩))
      go_ret
      exact ⟨by simp, below_drewN HBel.out n⟩

set_option maxHeartbeats 6400000 in
set_option maxRecDepth 100000 in
theorem walk_ttf (sa sb : ByteArray) (na nb d0 d1 ans : Int) (w : World) (hsa : sa.size ≤ 4096) (hsb : sb.size ≤ 4096) :
    Calls Yba.prog 7 #[.agg #[.string sa, .int .i64 na], .agg #[.string sb, .int .i64 nb], .int .i64 d0, .int .i64 d1, .bool true, .bool true, .bool false, .int .i64 ans] w fun e w' => e = .returned (.bool true) ∧ Below w.heap.size w w' := by
  have hmf : ∀ (fn : Fn) (first cap : Array Value) (w : World), (Instr.makeFunc fn first cap).run Yba.prog w = .ok (.func fn first cap) w := fun _ _ _ _ => rfl
  have g0 : (sa.size : Int) ≤ 4096 := by omega
  have g1 : (sb.size : Int) ≤ 4096 := by omega
  go_enter Yba.func7, Yba.ntmps7
  go_wp2_with fail
  refine (then_none _ _ _ _ _ _ _ _ _).mono ?_
  rintro e w1 ⟨rfl, rfl⟩
  go_wp2_with fail
  have R := hide (ready w (.cells #[.string sb, .int .i64 nb] 40) sa sa na na ans (.func (.func 29) #[] #[]) (.func (.func 30) #[] #[]) d0 d1 .nilFunc)
  cases e0 : (cmpS sa sa != 0)
  case true =>
    refine (e45_first (w.heap.size + 1 + 1 + 1 + 1 + 1) (w.heap.size + 1 + 1 + 1 + 1) sa sa na na d0 d1 _ _ R.out.pair e0).mono ?_
    rintro e w1 ⟨rfl, C1⟩
    have HBel := hide (below_join R.out.below C1)
    have k4 := cell_in C1 R.out.a0
    have k5 := cell_in C1 R.out.a1
    have k6 := cell_in C1 R.out.b0
    have k7 := cell_in C1 R.out.b1
    have k8 := cell_in C1 R.out.an
    clear C1 R
    go_wp2_with (first | (go_at_call 31; refine (ccmp_any _ _ _ hsa hsa).mono ?_; rintro e w2 ⟨rfl, n, rfl⟩) | (go_at_call 32; refine (icmp_any _ _ _).mono ?_; rintro e w3 ⟨rfl, rfl⟩))
    go_ret
    exact ⟨by simp, below_drewN HBel.out n⟩
  case false =>
    cases e1 : (cmpI na na != 0)
    case true =>
      exact (cmpI_self e1).elim
    case false =>
      refine (e45_none (w.heap.size + 1 + 1 + 1 + 1 + 1) (w.heap.size + 1 + 1 + 1 + 1) sa sa na na d0 d1 _ R.out.pair e0 e1).mono ?_
      rintro e w1 ⟨rfl, C1⟩
      have HBel := hide (below_join R.out.below C1)
      have k4 := cell_in C1 R.out.a0
      have k5 := cell_in C1 R.out.a1
      have k6 := cell_in C1 R.out.b0
      have k7 := cell_in C1 R.out.b1
      have k8 := cell_in C1 R.out.an
      clear C1 R
      go_wp2_with (first | (go_at_call 31; refine (ccmp_any _ _ _ hsa hsa).mono ?_; rintro e w2 ⟨rfl, n, rfl⟩) | (go_at_call 32; refine (icmp_any _ _ _).mono ?_; rintro e w3 ⟨rfl, rfl⟩))
      go_ret
      exact ⟨by simp, below_drewN HBel.out n⟩

end Go.Proofs.Ybulkbfjm.lawS2820CExact
