/-
  stringThenThen$1 (45) over the plain closures of LawS2820CExact.
-/
import Derived.Test.YbulkbfjmStrs
import Derived.Deep.RegionHeld3
namespace Go.Proofs.Ybulkbfjm.lawS2820CExact
open Go.RowKit
set_option linter.unusedVariables false

theorem hide {p : Prop} (h : p) : Hid p := h
theorem eqf42 (fn : Fn) (first cap : Array Value) (w : World) : (binOp .eql 42 (.func fn first cap) .nilFunc).run Yba.prog w = .ok (.bool false) w := by rfl
theorem eqn42 (w : World) : (binOp .eql 42 .nilFunc .nilFunc).run Yba.prog w = .ok (.bool true) w := by rfl

theorem grow_one {w0 w : World} (o : Obj) (h : Below w0.heap.size w0 w) : Below w0.heap.size w0 (w.alloc o) := h.alloc h.size o
theorem cell_in {w0 w : World} (h : Below w0.heap.size w0 w) {a : Addr} {u : Value} (hu : w0.cell? a = some u) : w.cell? a = some u := (h.cell (World.block_lt_of_cell? w0 a hu)).trans hu

theorem ekey0_any (w0 : World) (s : ByteArray) (n : Int) (w : World) (h : Below w0.heap.size w0 w) :
    Calls Yba.prog 29 #[.agg #[.string s, .int .i64 n]] w fun e w' => e = .returned (.string s) ∧ Below w0.heap.size w0 w' := by
  have H := hide (grow_one (.cells #[.string s, .int .i64 n] 40) h)
  clear h
  go_enter Yba.func29, Yba.ntmps29
  go_wp2
  go_ret
  exact ⟨rfl, H.out⟩

theorem ekey1_any (w0 : World) (s : ByteArray) (n : Int) (w : World) (h : Below w0.heap.size w0 w) :
    Calls Yba.prog 30 #[.agg #[.string s, .int .i64 n]] w fun e w' => e = .returned (.int .i64 n) ∧ Below w0.heap.size w0 w' := by
  have H := hide (grow_one (.cells #[.string s, .int .i64 n] 40) h)
  clear h
  go_enter Yba.func30, Yba.ntmps30
  go_wp2
  go_ret
  exact ⟨rfl, H.out⟩

theorem erest_any (w0 : World) (br : Nat) (ans : Int) (s t : ByteArray) (m n : Int) (w : World) (hans : w0.cell? ⟨br, 0, none⟩ = some (.int .i64 ans)) (h : Below w0.heap.size w0 w) :
    Calls Yba.prog 27 #[.agg #[.string s, .int .i64 m], .agg #[.string t, .int .i64 n], .pointer (some ⟨br, 0, none⟩)] w fun e w' => e = .returned (.int .i64 ans) ∧ Below w0.heap.size w0 w' := by
  have h2 := grow_one (.cells #[.string t, .int .i64 n] 40) (grow_one (.cells #[.string s, .int .i64 m] 40) h)
  have c := cell_in h2 hans
  have H := hide h2
  clear h h2 hans
  go_enter Yba.func27, Yba.ntmps27
  go_wp2
  go_ret
  exact ⟨rfl, H.out⟩

theorem icmp_any (a b : Int) (w : World) :
    Calls Yba.prog 32 #[.int .i64 a, .int .i64 b] w fun e w' => e = .returned (.int .i64 (cmpI a b)) ∧ w' = w := by
  go_enter Yba.func32, Yba.ntmps32
  go_wp2
  all_goals go_ret
  · exact ⟨ret_int (cmpI_less ‹_›).symm, rfl⟩
  · exact ⟨ret_int (cmpI_more ‹_›).symm, rfl⟩
  · exact ⟨ret_int (cmpI_same ‹_› ‹_›).symm, rfl⟩

/-- The variable p in block bp points to an orderedPair in block bs; the boxed a and b lie in blocks xa and xb. -/
structure PairC (w : World) (bp bs xa xb : Nat) (k0 k1 : Value) (d0 d1 : Int) (r : Value) (sa sb : ByteArray) (na nb : Int) : Prop where
  p : w.cell? ⟨bp, 0, none⟩ = some (.pointer (some ⟨bs, 0, none⟩))
  f0 : w.cell? ⟨bs, 0, none⟩ = some k0
  f1 : w.cell? ⟨bs, 1, none⟩ = some k1
  f2 : w.cell? ⟨bs, 2, none⟩ = some (.int .i64 d0)
  f3 : w.cell? ⟨bs, 3, none⟩ = some (.int .i64 d1)
  f4 : w.cell? ⟨bs, 4, none⟩ = some r
  a0 : w.cell? ⟨xa, 0, none⟩ = some (.string sa)
  a1 : w.cell? ⟨xa, 1, none⟩ = some (.int .i64 na)
  b0 : w.cell? ⟨xb, 0, none⟩ = some (.string sb)
  b1 : w.cell? ⟨xb, 1, none⟩ = some (.int .i64 nb)

theorem PairC.kept {w0 w : World} {bp bs xa xb : Nat} {k0 k1 : Value} {d0 d1 : Int} {r : Value} {sa sb : ByteArray} {na nb : Int} (h : PairC w0 bp bs xa xb k0 k1 d0 d1 r sa sb na nb) (hc : Below w0.heap.size w0 w) : PairC w bp bs xa xb k0 k1 d0 d1 r sa sb na nb :=
  ⟨cell_in hc h.p, cell_in hc h.f0, cell_in hc h.f1, cell_in hc h.f2, cell_in hc h.f3, cell_in hc h.f4, cell_in hc h.a0, cell_in hc h.a1, cell_in hc h.b0, cell_in hc h.b1⟩

/-- The pair as the caller knows it. -/
structure PairP (w : World) (bp bs : Nat) (k0 k1 : Value) (d0 d1 : Int) (r : Value) : Prop where
  p : w.cell? ⟨bp, 0, none⟩ = some (.pointer (some ⟨bs, 0, none⟩))
  f0 : w.cell? ⟨bs, 0, none⟩ = some k0
  f1 : w.cell? ⟨bs, 1, none⟩ = some k1
  f2 : w.cell? ⟨bs, 2, none⟩ = some (.int .i64 d0)
  f3 : w.cell? ⟨bs, 3, none⟩ = some (.int .i64 d1)
  f4 : w.cell? ⟨bs, 4, none⟩ = some r

theorem below_two (w : World) (o o' : Obj) : Below w.heap.size w ((w.alloc o).alloc o') := ((Below.refl _ _).alloc (Nat.le_refl _) o).alloc (by simp) o'
theorem cell_two {w : World} {a : Addr} {u : Value} (o o' : Obj) (h : w.cell? a = some u) : ((w.alloc o).alloc o').cell? a = some u := cell_in (below_two w o o') h

theorem PairP.boxed {w : World} {bp bs : Nat} {k0 k1 : Value} {d0 d1 : Int} {r : Value} (h : PairP w bp bs k0 k1 d0 d1 r) (sa sb : ByteArray) (na nb : Int) :
    PairC ((w.alloc (.cells #[.string sa, .int .i64 na] 40)).alloc (.cells #[.string sb, .int .i64 nb] 40)) bp bs w.heap.size (w.heap.size + 1) k0 k1 d0 d1 r sa sb na nb :=
  ⟨cell_two _ _ h.p, cell_two _ _ h.f0, cell_two _ _ h.f1, cell_two _ _ h.f2, cell_two _ _ h.f3, cell_two _ _ h.f4, by simp, by simp, by simp, by simp⟩

theorem below_join {w w1 w2 : World} (h : Below w.heap.size w w1) (k : Below w1.heap.size w1 w2) : Below w.heap.size w w2 := h.trans (k.mono h.size)

set_option maxHeartbeats 6400000 in
set_option maxRecDepth 100000 in
theorem e45_first (bp bs : Nat) (sa sb : ByteArray) (na nb d0 d1 : Int) (r : Value) (w : World)
    (hP : PairP w bp bs (.func (.func 29) #[] #[]) (.func (.func 30) #[] #[]) d0 d1 r)
    (hne : (cmpS sa sb != 0) = true) :
    Calls Yba.prog 45 #[.agg #[.string sa, .int .i64 na], .agg #[.string sb, .int .i64 nb], .pointer (some ⟨bp, 0, none⟩)] w fun e w' => e = .returned (.int .i64 (wrap64 (d0 * cmpS sa sb))) ∧ Below w.heap.size w w' := by
  have HC : Hid (Below ((w.alloc (.cells #[.string sa, .int .i64 na] 40)).alloc (.cells #[.string sb, .int .i64 nb] 40)).heap.size ((w.alloc (.cells #[.string sa, .int .i64 na] 40)).alloc (.cells #[.string sb, .int .i64 nb] 40)) ((w.alloc (.cells #[.string sa, .int .i64 na] 40)).alloc (.cells #[.string sb, .int .i64 nb] 40)).drew) := hide (Below.refl _ _).drew
  have hP2 := hP.boxed sa sb na nb
  have HP := hide hP2
  have g0 := hP2.p
  have g1 := hP2.f0
  have HB := hide (below_two w (.cells #[.string sa, .int .i64 na] 40) (.cells #[.string sb, .int .i64 nb] 40))
  clear hP hP2
  go_enter Yba.func45, Yba.ntmps45
  go_wp2
  go_region_held3 (fun w' => w'.cell? ⟨bp, 0, none⟩ = some (.pointer (some ⟨bs, 0, none⟩)) ∧ w'.cell? ⟨bs, 0, none⟩ = some (.func (.func 29) #[] #[]) ∧ w'.cell? ⟨w.heap.size, 0, none⟩ = some (.string sa) ∧ w'.cell? ⟨w.heap.size, 1, none⟩ = some (.int .i64 na) ∧ w'.cell? ⟨w.heap.size + 1, 0, none⟩ = some (.string sb) ∧ w'.cell? ⟨w.heap.size + 1, 1, none⟩ = some (.int .i64 nb)) (go_keep) (first
    | (go_at_call_of 29 (Value.agg #[.string sa, .int .i64 na]); refine (ekey0_any ((w.alloc (.cells #[.string sa, .int .i64 na] 40)).alloc (.cells #[.string sb, .int .i64 nb] 40)) _ _ _ HC.out).mono ?_; rintro e w1 ⟨rfl, C1⟩; have P1 := HP.out.kept C1; have cp1 := P1.p; have cf1 := P1.f0; have ca1 := P1.a0; have cb1 := P1.a1; have cc1 := P1.b0; have cd1 := P1.b1; have HC1 := hide C1; clear C1 P1)
    | (go_at_call_of 29 (Value.agg #[.string sb, .int .i64 nb]); refine (ekey0_any ((w.alloc (.cells #[.string sa, .int .i64 na] 40)).alloc (.cells #[.string sb, .int .i64 nb] 40)) _ _ _ HC1.out).mono ?_; rintro e w2 ⟨rfl, C2⟩; have P2 := HP.out.kept C2; have cp2 := P2.p; have cf2 := P2.f0; have ca2 := P2.a0; have cb2 := P2.a1; have cc2 := P2.b0; have cd2 := P2.b1; have cg2 := P2.f2; have HC2 := hide C2; have HC2d := hide C2.drew; clear C2 P2)
    | (go_at_call 42; refine (compare_any _ _ _).mono ?_; rintro e w3 ⟨rfl, rfl⟩))
  go_wp2
  go_ret
  exact ⟨rfl, below_join HB.out HC2.out⟩

set_option maxHeartbeats 6400000 in
set_option maxRecDepth 100000 in
theorem e45_second (bp bs : Nat) (sa sb : ByteArray) (na nb d0 d1 : Int) (r : Value) (w : World)
    (hP : PairP w bp bs (.func (.func 29) #[] #[]) (.func (.func 30) #[] #[]) d0 d1 r)
    (hne : (cmpS sa sb != 0) = false) (hne1 : (cmpI na nb != 0) = true) :
    Calls Yba.prog 45 #[.agg #[.string sa, .int .i64 na], .agg #[.string sb, .int .i64 nb], .pointer (some ⟨bp, 0, none⟩)] w fun e w' => e = .returned (.int .i64 (wrap64 (d1 * cmpI na nb))) ∧ Below w.heap.size w w' := by
  have HC : Hid (Below ((w.alloc (.cells #[.string sa, .int .i64 na] 40)).alloc (.cells #[.string sb, .int .i64 nb] 40)).heap.size ((w.alloc (.cells #[.string sa, .int .i64 na] 40)).alloc (.cells #[.string sb, .int .i64 nb] 40)) ((w.alloc (.cells #[.string sa, .int .i64 na] 40)).alloc (.cells #[.string sb, .int .i64 nb] 40)).drew) := hide (Below.refl _ _).drew
  have hP2 := hP.boxed sa sb na nb
  have HP := hide hP2
  have g0 := hP2.p
  have g1 := hP2.f0
  have HB := hide (below_two w (.cells #[.string sa, .int .i64 na] 40) (.cells #[.string sb, .int .i64 nb] 40))
  clear hP hP2
  go_enter Yba.func45, Yba.ntmps45
  go_wp2
  go_region_held3 (fun w' => w'.cell? ⟨bp, 0, none⟩ = some (.pointer (some ⟨bs, 0, none⟩)) ∧ w'.cell? ⟨bs, 0, none⟩ = some (.func (.func 29) #[] #[]) ∧ w'.cell? ⟨w.heap.size, 0, none⟩ = some (.string sa) ∧ w'.cell? ⟨w.heap.size, 1, none⟩ = some (.int .i64 na) ∧ w'.cell? ⟨w.heap.size + 1, 0, none⟩ = some (.string sb) ∧ w'.cell? ⟨w.heap.size + 1, 1, none⟩ = some (.int .i64 nb)) (go_keep) (first
    | (go_at_call_of 29 (Value.agg #[.string sa, .int .i64 na]); refine (ekey0_any ((w.alloc (.cells #[.string sa, .int .i64 na] 40)).alloc (.cells #[.string sb, .int .i64 nb] 40)) _ _ _ HC.out).mono ?_; rintro e w1 ⟨rfl, C1⟩; have P1 := HP.out.kept C1; have cp1 := P1.p; have cf1 := P1.f0; have ca1 := P1.a0; have cb1 := P1.a1; have cc1 := P1.b0; have cd1 := P1.b1; have HC1 := hide C1; clear C1 P1)
    | (go_at_call_of 29 (Value.agg #[.string sb, .int .i64 nb]); refine (ekey0_any ((w.alloc (.cells #[.string sa, .int .i64 na] 40)).alloc (.cells #[.string sb, .int .i64 nb] 40)) _ _ _ HC1.out).mono ?_; rintro e w2 ⟨rfl, C2⟩; have P2 := HP.out.kept C2; have cp2 := P2.p; have cf2 := P2.f0; have ca2 := P2.a0; have cb2 := P2.a1; have cc2 := P2.b0; have cd2 := P2.b1; have cg2 := P2.f1; have HC2 := hide C2; have HC2d := hide C2.drew; clear C2 P2)
    | (go_at_call 42; refine (compare_any _ _ _).mono ?_; rintro e w3 ⟨rfl, rfl⟩))
  go_wp2
  go_region_held3 (fun w' => w'.cell? ⟨bp, 0, none⟩ = some (.pointer (some ⟨bs, 0, none⟩)) ∧ w'.cell? ⟨bs, 1, none⟩ = some (.func (.func 30) #[] #[]) ∧ w'.cell? ⟨w.heap.size, 0, none⟩ = some (.string sa) ∧ w'.cell? ⟨w.heap.size, 1, none⟩ = some (.int .i64 na) ∧ w'.cell? ⟨w.heap.size + 1, 0, none⟩ = some (.string sb) ∧ w'.cell? ⟨w.heap.size + 1, 1, none⟩ = some (.int .i64 nb)) (go_keep) (first
    | (go_at_call_of 30 (Value.agg #[.string sa, .int .i64 na]); refine (ekey1_any ((w.alloc (.cells #[.string sa, .int .i64 na] 40)).alloc (.cells #[.string sb, .int .i64 nb] 40)) _ _ _ HC2d.out).mono ?_; rintro e w3 ⟨rfl, C3⟩; have P3 := HP.out.kept C3; have cp3 := P3.p; have cf3 := P3.f1; have ca3 := P3.a0; have cb3 := P3.a1; have cc3 := P3.b0; have cd3 := P3.b1; have HC3 := hide C3; clear C3 P3)
    | (go_at_call_of 30 (Value.agg #[.string sb, .int .i64 nb]); refine (ekey1_any ((w.alloc (.cells #[.string sa, .int .i64 na] 40)).alloc (.cells #[.string sb, .int .i64 nb] 40)) _ _ _ HC3.out).mono ?_; rintro e w4 ⟨rfl, C4⟩; have P4 := HP.out.kept C4; have cp4 := P4.p; have cf4 := P4.f1; have ca4 := P4.a0; have cb4 := P4.a1; have cc4 := P4.b0; have cd4 := P4.b1; have cg4 := P4.f3; have cr4 := P4.f4; have HC4 := hide C4; have HC4d := hide C4.drew; clear C4 P4)
    | (go_at_call 15; refine (compareInt_any _ _ _).mono ?_; rintro e w5 ⟨rfl, rfl⟩))
  go_wp2
  go_ret
  exact ⟨rfl, below_join HB.out HC4.out⟩

set_option maxHeartbeats 6400000 in
set_option maxRecDepth 100000 in
theorem e45_none (bp bs : Nat) (sa sb : ByteArray) (na nb d0 d1 : Int) (w : World)
    (hP : PairP w bp bs (.func (.func 29) #[] #[]) (.func (.func 30) #[] #[]) d0 d1 .nilFunc)
    (hne : (cmpS sa sb != 0) = false) (hne1 : (cmpI na nb != 0) = false) :
    Calls Yba.prog 45 #[.agg #[.string sa, .int .i64 na], .agg #[.string sb, .int .i64 nb], .pointer (some ⟨bp, 0, none⟩)] w fun e w' => e = .returned (.int .i64 (wrap64 (d1 * cmpI na nb))) ∧ Below w.heap.size w w' := by
  have q4 := eqn42
  have HC : Hid (Below ((w.alloc (.cells #[.string sa, .int .i64 na] 40)).alloc (.cells #[.string sb, .int .i64 nb] 40)).heap.size ((w.alloc (.cells #[.string sa, .int .i64 na] 40)).alloc (.cells #[.string sb, .int .i64 nb] 40)) ((w.alloc (.cells #[.string sa, .int .i64 na] 40)).alloc (.cells #[.string sb, .int .i64 nb] 40)).drew) := hide (Below.refl _ _).drew
  have hP2 := hP.boxed sa sb na nb
  have HP := hide hP2
  have g0 := hP2.p
  have g1 := hP2.f0
  have HB := hide (below_two w (.cells #[.string sa, .int .i64 na] 40) (.cells #[.string sb, .int .i64 nb] 40))
  clear hP hP2
  go_enter Yba.func45, Yba.ntmps45
  go_wp2
  go_region_held3 (fun w' => w'.cell? ⟨bp, 0, none⟩ = some (.pointer (some ⟨bs, 0, none⟩)) ∧ w'.cell? ⟨bs, 0, none⟩ = some (.func (.func 29) #[] #[]) ∧ w'.cell? ⟨w.heap.size, 0, none⟩ = some (.string sa) ∧ w'.cell? ⟨w.heap.size, 1, none⟩ = some (.int .i64 na) ∧ w'.cell? ⟨w.heap.size + 1, 0, none⟩ = some (.string sb) ∧ w'.cell? ⟨w.heap.size + 1, 1, none⟩ = some (.int .i64 nb)) (go_keep) (first
    | (go_at_call_of 29 (Value.agg #[.string sa, .int .i64 na]); refine (ekey0_any ((w.alloc (.cells #[.string sa, .int .i64 na] 40)).alloc (.cells #[.string sb, .int .i64 nb] 40)) _ _ _ HC.out).mono ?_; rintro e w1 ⟨rfl, C1⟩; have P1 := HP.out.kept C1; have cp1 := P1.p; have cf1 := P1.f0; have ca1 := P1.a0; have cb1 := P1.a1; have cc1 := P1.b0; have cd1 := P1.b1; have HC1 := hide C1; clear C1 P1)
    | (go_at_call_of 29 (Value.agg #[.string sb, .int .i64 nb]); refine (ekey0_any ((w.alloc (.cells #[.string sa, .int .i64 na] 40)).alloc (.cells #[.string sb, .int .i64 nb] 40)) _ _ _ HC1.out).mono ?_; rintro e w2 ⟨rfl, C2⟩; have P2 := HP.out.kept C2; have cp2 := P2.p; have cf2 := P2.f0; have ca2 := P2.a0; have cb2 := P2.a1; have cc2 := P2.b0; have cd2 := P2.b1; have cg2 := P2.f1; have HC2 := hide C2; have HC2d := hide C2.drew; clear C2 P2)
    | (go_at_call 42; refine (compare_any _ _ _).mono ?_; rintro e w3 ⟨rfl, rfl⟩))
  go_wp2
  go_region_held3 (fun w' => w'.cell? ⟨bp, 0, none⟩ = some (.pointer (some ⟨bs, 0, none⟩)) ∧ w'.cell? ⟨bs, 1, none⟩ = some (.func (.func 30) #[] #[]) ∧ w'.cell? ⟨w.heap.size, 0, none⟩ = some (.string sa) ∧ w'.cell? ⟨w.heap.size, 1, none⟩ = some (.int .i64 na) ∧ w'.cell? ⟨w.heap.size + 1, 0, none⟩ = some (.string sb) ∧ w'.cell? ⟨w.heap.size + 1, 1, none⟩ = some (.int .i64 nb)) (go_keep) (first
    | (go_at_call_of 30 (Value.agg #[.string sa, .int .i64 na]); refine (ekey1_any ((w.alloc (.cells #[.string sa, .int .i64 na] 40)).alloc (.cells #[.string sb, .int .i64 nb] 40)) _ _ _ HC2d.out).mono ?_; rintro e w3 ⟨rfl, C3⟩; have P3 := HP.out.kept C3; have cp3 := P3.p; have cf3 := P3.f1; have ca3 := P3.a0; have cb3 := P3.a1; have cc3 := P3.b0; have cd3 := P3.b1; have HC3 := hide C3; clear C3 P3)
    | (go_at_call_of 30 (Value.agg #[.string sb, .int .i64 nb]); refine (ekey1_any ((w.alloc (.cells #[.string sa, .int .i64 na] 40)).alloc (.cells #[.string sb, .int .i64 nb] 40)) _ _ _ HC3.out).mono ?_; rintro e w4 ⟨rfl, C4⟩; have P4 := HP.out.kept C4; have cp4 := P4.p; have cf4 := P4.f1; have ca4 := P4.a0; have cb4 := P4.a1; have cc4 := P4.b0; have cd4 := P4.b1; have cg4 := P4.f3; have cr4 := P4.f4; have HC4 := hide C4; have HC4d := hide C4.drew; clear C4 P4)
    | (go_at_call 15; refine (compareInt_any _ _ _).mono ?_; rintro e w5 ⟨rfl, rfl⟩))
  go_wp2
  go_ret
  exact ⟨rfl, below_join HB.out HC4.out⟩

set_option maxHeartbeats 6400000 in
set_option maxRecDepth 100000 in
theorem e45_rest (bp bs br : Nat) (sa sb : ByteArray) (na nb d0 d1 : Int) (w : World)
    (hP : PairP w bp bs (.func (.func 29) #[] #[]) (.func (.func 30) #[] #[]) d0 d1 (.func (.func 27) #[] #[.pointer (some ⟨br, 0, none⟩)]))
    (hne : (cmpS sa sb != 0) = false) (hne1 : (cmpI na nb != 0) = false) (ans : Int) (hans : w.cell? ⟨br, 0, none⟩ = some (.int .i64 ans)) :
    Calls Yba.prog 45 #[.agg #[.string sa, .int .i64 na], .agg #[.string sb, .int .i64 nb], .pointer (some ⟨bp, 0, none⟩)] w fun e w' => e = .returned (.int .i64 ans) ∧ Below w.heap.size w w' := by
  have q4 := eqf42
  have AN := hide (cell_two (.cells #[.string sa, .int .i64 na] 40) (.cells #[.string sb, .int .i64 nb] 40) hans)
  clear hans
  have HC : Hid (Below ((w.alloc (.cells #[.string sa, .int .i64 na] 40)).alloc (.cells #[.string sb, .int .i64 nb] 40)).heap.size ((w.alloc (.cells #[.string sa, .int .i64 na] 40)).alloc (.cells #[.string sb, .int .i64 nb] 40)) ((w.alloc (.cells #[.string sa, .int .i64 na] 40)).alloc (.cells #[.string sb, .int .i64 nb] 40)).drew) := hide (Below.refl _ _).drew
  have hP2 := hP.boxed sa sb na nb
  have HP := hide hP2
  have g0 := hP2.p
  have g1 := hP2.f0
  have HB := hide (below_two w (.cells #[.string sa, .int .i64 na] 40) (.cells #[.string sb, .int .i64 nb] 40))
  clear hP hP2
  go_enter Yba.func45, Yba.ntmps45
  go_wp2
  go_region_held3 (fun w' => w'.cell? ⟨bp, 0, none⟩ = some (.pointer (some ⟨bs, 0, none⟩)) ∧ w'.cell? ⟨bs, 0, none⟩ = some (.func (.func 29) #[] #[]) ∧ w'.cell? ⟨w.heap.size, 0, none⟩ = some (.string sa) ∧ w'.cell? ⟨w.heap.size, 1, none⟩ = some (.int .i64 na) ∧ w'.cell? ⟨w.heap.size + 1, 0, none⟩ = some (.string sb) ∧ w'.cell? ⟨w.heap.size + 1, 1, none⟩ = some (.int .i64 nb)) (go_keep) (first
    | (go_at_call_of 29 (Value.agg #[.string sa, .int .i64 na]); refine (ekey0_any ((w.alloc (.cells #[.string sa, .int .i64 na] 40)).alloc (.cells #[.string sb, .int .i64 nb] 40)) _ _ _ HC.out).mono ?_; rintro e w1 ⟨rfl, C1⟩; have P1 := HP.out.kept C1; have cp1 := P1.p; have cf1 := P1.f0; have ca1 := P1.a0; have cb1 := P1.a1; have cc1 := P1.b0; have cd1 := P1.b1; have HC1 := hide C1; clear C1 P1)
    | (go_at_call_of 29 (Value.agg #[.string sb, .int .i64 nb]); refine (ekey0_any ((w.alloc (.cells #[.string sa, .int .i64 na] 40)).alloc (.cells #[.string sb, .int .i64 nb] 40)) _ _ _ HC1.out).mono ?_; rintro e w2 ⟨rfl, C2⟩; have P2 := HP.out.kept C2; have cp2 := P2.p; have cf2 := P2.f0; have ca2 := P2.a0; have cb2 := P2.a1; have cc2 := P2.b0; have cd2 := P2.b1; have cg2 := P2.f1; have HC2 := hide C2; have HC2d := hide C2.drew; clear C2 P2)
    | (go_at_call 42; refine (compare_any _ _ _).mono ?_; rintro e w3 ⟨rfl, rfl⟩))
  go_wp2
  go_region_held3 (fun w' => w'.cell? ⟨bp, 0, none⟩ = some (.pointer (some ⟨bs, 0, none⟩)) ∧ w'.cell? ⟨bs, 1, none⟩ = some (.func (.func 30) #[] #[]) ∧ w'.cell? ⟨w.heap.size, 0, none⟩ = some (.string sa) ∧ w'.cell? ⟨w.heap.size, 1, none⟩ = some (.int .i64 na) ∧ w'.cell? ⟨w.heap.size + 1, 0, none⟩ = some (.string sb) ∧ w'.cell? ⟨w.heap.size + 1, 1, none⟩ = some (.int .i64 nb)) (go_keep) (first
    | (go_at_call_of 30 (Value.agg #[.string sa, .int .i64 na]); refine (ekey1_any ((w.alloc (.cells #[.string sa, .int .i64 na] 40)).alloc (.cells #[.string sb, .int .i64 nb] 40)) _ _ _ HC2d.out).mono ?_; rintro e w3 ⟨rfl, C3⟩; have P3 := HP.out.kept C3; have cp3 := P3.p; have cf3 := P3.f1; have ca3 := P3.a0; have cb3 := P3.a1; have cc3 := P3.b0; have cd3 := P3.b1; have HC3 := hide C3; clear C3 P3)
    | (go_at_call_of 30 (Value.agg #[.string sb, .int .i64 nb]); refine (ekey1_any ((w.alloc (.cells #[.string sa, .int .i64 na] 40)).alloc (.cells #[.string sb, .int .i64 nb] 40)) _ _ _ HC3.out).mono ?_; rintro e w4 ⟨rfl, C4⟩; have P4 := HP.out.kept C4; have cp4 := P4.p; have cf4 := P4.f1; have ca4 := P4.a0; have cb4 := P4.a1; have cc4 := P4.b0; have cd4 := P4.b1; have cg4 := P4.f3; have cr4 := P4.f4; have HC4 := hide C4; have HC4d := hide C4.drew; clear C4 P4)
    | (go_at_call 15; refine (compareInt_any _ _ _).mono ?_; rintro e w5 ⟨rfl, rfl⟩))
  go_wp2
  go_region_held3 (fun w' => w'.cell? ⟨bp, 0, none⟩ = some (.pointer (some ⟨bs, 0, none⟩)) ∧ w'.cell? ⟨bs, 4, none⟩ = some (.func (.func 27) #[] #[.pointer (some ⟨br, 0, none⟩)]) ∧ w'.cell? ⟨w.heap.size, 0, none⟩ = some (.string sa) ∧ w'.cell? ⟨w.heap.size, 1, none⟩ = some (.int .i64 na) ∧ w'.cell? ⟨w.heap.size + 1, 0, none⟩ = some (.string sb) ∧ w'.cell? ⟨w.heap.size + 1, 1, none⟩ = some (.int .i64 nb)) (go_keep) (first
    | (go_at_call 27; refine (erest_any ((w.alloc (.cells #[.string sa, .int .i64 na] 40)).alloc (.cells #[.string sb, .int .i64 nb] 40)) br ans _ _ _ _ _ AN.out HC4d.out).mono ?_; rintro e w6 ⟨rfl, C6⟩; have P6 := HP.out.kept C6; have cp6 := P6.p; have cf6 := P6.f4; have ca6 := P6.a0; have cb6 := P6.a1; have cc6 := P6.b0; have cd6 := P6.b1; have HC6 := hide C6; clear C6 P6))
  go_wp2
  go_ret
  exact ⟨rfl, below_join HB.out HC6.out⟩

end Go.Proofs.Ybulkbfjm.lawS2820CExact
