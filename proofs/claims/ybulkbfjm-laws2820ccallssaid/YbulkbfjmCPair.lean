/-
  stringThenThen$1 (45) over the counting closures of LawS2820CCalls.
-/
import Derived.Test.YbulkbfjmCKeys
import Derived.Deep.RegionHeld3
namespace Go.Proofs.Ybulkbfjm
open Go.RowKit
set_option linter.unusedVariables false

theorem eqf42 (fn : Fn) (first cap : Array Value) (w : World) : (binOp .eql 42 (.func fn first cap) .nilFunc).run Yba.prog w = .ok (.bool false) w := by rfl
theorem eqn42 (w : World) : (binOp .eql 42 .nilFunc .nilFunc).run Yba.prog w = .ok (.bool true) w := by rfl

/-- The variable p in block bp points to an orderedPair in block bs; the boxed a and b lie in blocks xa and xb. -/
structure PairC (w : World) (bp bs xa xb : Nat) (k0 k1 : Value) (d0 d1 : Int) (r : Value) (sa sb : ByteArray) (na nb : Int) : Prop where
  p : w.cell? ⟨bp, 0, none⟩ = some (.pointer (some ⟨bs, 0, none⟩))
  f0 : w.cell? ⟨bs, 0, none⟩ = some k0
  f1 : w.cell? ⟨bs, 1, none⟩ = some k1
  f2 : w.cell? ⟨bs, 2, none⟩ = some (.int .i64 d0)
  f3 : w.cell? ⟨bs, 3, none⟩ = some (.int .i64 d1)
  f4 : w.cell? ⟨bs, 4, none⟩ = some r
  a0 : w.cell? ⟨xa, 0, none⟩ = some (.string sa)
  a1 : w.cell? ⟨xa, 1, none⟩ = some (.int .i64 na)
  b0 : w.cell? ⟨xb, 0, none⟩ = some (.string sb)
  b1 : w.cell? ⟨xb, 1, none⟩ = some (.int .i64 nb)

theorem PairC.kept {w0 w : World} {b bp bs xa xb : Nat} {n0 n1 nr : Int} {ok : Bool} {k0 k1 : Value} {d0 d1 : Int} {r : Value} {sa sb : ByteArray} {na nb : Int} (h : PairC w0 bp bs xa xb k0 k1 d0 d1 r sa sb na nb) (hc : CC w0 b n0 n1 nr ok w) (hp : b + 3 < bp) (hs : b + 3 < bs) (ha : b + 3 < xa) (hb : b + 3 < xb) : PairC w bp bs xa xb k0 k1 d0 d1 r sa sb na nb :=
  ⟨hc.cell (.inr hp) h.p, hc.cell (.inr hs) h.f0, hc.cell (.inr hs) h.f1, hc.cell (.inr hs) h.f2, hc.cell (.inr hs) h.f3, hc.cell (.inr hs) h.f4, hc.cell (.inr ha) h.a0, hc.cell (.inr ha) h.a1, hc.cell (.inr hb) h.b0, hc.cell (.inr hb) h.b1⟩

/-- The pair as the caller knows it. -/
structure PairP (w : World) (bp bs : Nat) (k0 k1 : Value) (d0 d1 : Int) (r : Value) : Prop where
  p : w.cell? ⟨bp, 0, none⟩ = some (.pointer (some ⟨bs, 0, none⟩))
  f0 : w.cell? ⟨bs, 0, none⟩ = some k0
  f1 : w.cell? ⟨bs, 1, none⟩ = some k1
  f2 : w.cell? ⟨bs, 2, none⟩ = some (.int .i64 d0)
  f3 : w.cell? ⟨bs, 3, none⟩ = some (.int .i64 d1)
  f4 : w.cell? ⟨bs, 4, none⟩ = some r

theorem cell_two {w : World} {a : Addr} {u : Value} (o o' : Obj) (h : w.cell? a = some u) : ((w.alloc o).alloc o').cell? a = some u := by
  have hl := World.block_lt_of_cell? w a h
  rw [World.cell?_alloc_lt _ _ _ (by simp; omega), World.cell?_alloc_lt _ _ _ hl]; exact h

theorem PairP.boxed {w : World} {bp bs : Nat} {k0 k1 : Value} {d0 d1 : Int} {r : Value} (h : PairP w bp bs k0 k1 d0 d1 r) (sa sb : ByteArray) (na nb : Int) :
    PairC ((w.alloc (.cells #[.string sa, .int .i64 na] 40)).alloc (.cells #[.string sb, .int .i64 nb] 40)) bp bs w.heap.size (w.heap.size + 1) k0 k1 d0 d1 r sa sb na nb :=
  ⟨cell_two _ _ h.p, cell_two _ _ h.f0, cell_two _ _ h.f1, cell_two _ _ h.f2, cell_two _ _ h.f3, cell_two _ _ h.f4, by simp, by simp, by simp, by simp⟩

theorem below_two (w : World) (o o' : Obj) : Below w.heap.size w ((w.alloc o).alloc o') := ((Below.refl _ _).alloc (Nat.le_refl _) o).alloc (by simp) o'

theorem le01 : (0 : Int) ≤ 0 ∧ (0 : Int) ≤ 10 := by omega
theorem le11 : (0 : Int) ≤ 0 + 1 ∧ (0 : Int) + 1 ≤ 10 := by omega

set_option maxHeartbeats 6400000 in
set_option maxRecDepth 100000 in
theorem c45_first (b bp bs : Nat) (sa sb : ByteArray) (na nb d0 d1 : Int) (r : Value) (w : World) (hp : b + 3 < bp) (hs : b + 3 < bs) (hC : CC w b 0 0 0 true w)
    (hP : PairP w bp bs (.func (.func 34) #[] #[.pointer (some ⟨b, 0, none⟩)]) (.func (.func 35) #[] #[.pointer (some ⟨b + 1, 0, none⟩)]) d0 d1 r)
    (hne : (cmpS sa sb != 0) = true) :
    Calls Yba.prog 45 #[.agg #[.string sa, .int .i64 na], .agg #[.string sb, .int .i64 nb], .pointer (some ⟨bp, 0, none⟩)] w fun e w' => e = .returned (.int .i64 (wrap64 (d0 * cmpS sa sb))) ∧ CC w b 2 0 0 true w' := by
  have hsz := lt_of_block hC.co
  have hxa : b + 3 < w.heap.size := by omega
  have hxb : b + 3 < w.heap.size + 1 := by omega
  have HC : Hid (CC ((w.alloc (.cells #[.string sa, .int .i64 na] 40)).alloc (.cells #[.string sb, .int .i64 nb] 40)) b 0 0 0 true ((w.alloc (.cells #[.string sa, .int .i64 na] 40)).alloc (.cells #[.string sb, .int .i64 nb] 40)).drew) := hide ((hC.alloc _).alloc _).over.drew
  have hP2 := hP.boxed sa sb na nb
  have HP := hide hP2
  have g0 := hP2.p
  have g1 := hP2.f0
  have HB := hide (below_two w (.cells #[.string sa, .int .i64 na] 40) (.cells #[.string sb, .int .i64 nb] 40))
  clear hC hP hP2
  go_enter Yba.func45, Yba.ntmps45
  go_wp2
  go_region_held3 (fun w' => w'.cell? ⟨bp, 0, none⟩ = some (.pointer (some ⟨bs, 0, none⟩)) ∧ w'.cell? ⟨bs, 0, none⟩ = some (.func (.func 34) #[] #[.pointer (some ⟨b, 0, none⟩)]) ∧ w'.cell? ⟨w.heap.size, 0, none⟩ = some (.string sa) ∧ w'.cell? ⟨w.heap.size, 1, none⟩ = some (.int .i64 na) ∧ w'.cell? ⟨w.heap.size + 1, 0, none⟩ = some (.string sb) ∧ w'.cell? ⟨w.heap.size + 1, 1, none⟩ = some (.int .i64 nb)) (go_keep) (first
    | (go_at_call_of 34 (Value.agg #[.string sa, .int .i64 na]); refine (ckey0_any ((w.alloc (.cells #[.string sa, .int .i64 na] 40)).alloc (.cells #[.string sb, .int .i64 nb] 40)) b _ _ _ _ _ _ _ le01 HC.out).mono ?_; rintro e w1 ⟨rfl, C1⟩; have P1 := HP.out.kept C1 hp hs hxa hxb; have cp1 := P1.p; have cf1 := P1.f0; have ca1 := P1.a0; have cb1 := P1.a1; have cc1 := P1.b0; have cd1 := P1.b1; have HC1 := hide C1; clear C1 P1)
    | (go_at_call_of 34 (Value.agg #[.string sb, .int .i64 nb]); refine (ckey0_any ((w.alloc (.cells #[.string sa, .int .i64 na] 40)).alloc (.cells #[.string sb, .int .i64 nb] 40)) b _ _ _ _ _ _ _ le11 HC1.out).mono ?_; rintro e w2 ⟨rfl, C2⟩; have P2 := HP.out.kept C2 hp hs hxa hxb; have cp2 := P2.p; have cf2 := P2.f0; have ca2 := P2.a0; have cb2 := P2.a1; have cc2 := P2.b0; have cd2 := P2.b1; have cg2 := P2.f2; have HC2 := hide C2; have HC2d := hide C2.drew; clear C2 P2)
    | (go_at_call 42; refine (compare_any _ _ _).mono ?_; rintro e w3 ⟨rfl, rfl⟩))
  go_wp2
  go_ret
  exact ⟨rfl, HC2.out.base HB.out⟩

set_option maxHeartbeats 6400000 in
set_option maxRecDepth 100000 in
theorem c45_second (b bp bs : Nat) (sa sb : ByteArray) (na nb d0 d1 : Int) (r : Value) (w : World) (hp : b + 3 < bp) (hs : b + 3 < bs) (hC : CC w b 0 0 0 true w)
    (hP : PairP w bp bs (.func (.func 34) #[] #[.pointer (some ⟨b, 0, none⟩)]) (.func (.func 35) #[] #[.pointer (some ⟨b + 1, 0, none⟩)]) d0 d1 r)
    (hne : (cmpS sa sb != 0) = false) (hne1 : (cmpI na nb != 0) = true) :
    Calls Yba.prog 45 #[.agg #[.string sa, .int .i64 na], .agg #[.string sb, .int .i64 nb], .pointer (some ⟨bp, 0, none⟩)] w fun e w' => e = .returned (.int .i64 (wrap64 (d1 * cmpI na nb))) ∧ CC w b 2 2 0 true w' := by
  have hsz := lt_of_block hC.co
  have hxa : b + 3 < w.heap.size := by omega
  have hxb : b + 3 < w.heap.size + 1 := by omega
  have HC : Hid (CC ((w.alloc (.cells #[.string sa, .int .i64 na] 40)).alloc (.cells #[.string sb, .int .i64 nb] 40)) b 0 0 0 true ((w.alloc (.cells #[.string sa, .int .i64 na] 40)).alloc (.cells #[.string sb, .int .i64 nb] 40)).drew) := hide ((hC.alloc _).alloc _).over.drew
  have hP2 := hP.boxed sa sb na nb
  have HP := hide hP2
  have g0 := hP2.p
  have g1 := hP2.f0
  have HB := hide (below_two w (.cells #[.string sa, .int .i64 na] 40) (.cells #[.string sb, .int .i64 nb] 40))
  clear hC hP hP2
  go_enter Yba.func45, Yba.ntmps45
  go_wp2
  go_region_held3 (fun w' => w'.cell? ⟨bp, 0, none⟩ = some (.pointer (some ⟨bs, 0, none⟩)) ∧ w'.cell? ⟨bs, 0, none⟩ = some (.func (.func 34) #[] #[.pointer (some ⟨b, 0, none⟩)]) ∧ w'.cell? ⟨w.heap.size, 0, none⟩ = some (.string sa) ∧ w'.cell? ⟨w.heap.size, 1, none⟩ = some (.int .i64 na) ∧ w'.cell? ⟨w.heap.size + 1, 0, none⟩ = some (.string sb) ∧ w'.cell? ⟨w.heap.size + 1, 1, none⟩ = some (.int .i64 nb)) (go_keep) (first
    | (go_at_call_of 34 (Value.agg #[.string sa, .int .i64 na]); refine (ckey0_any ((w.alloc (.cells #[.string sa, .int .i64 na] 40)).alloc (.cells #[.string sb, .int .i64 nb] 40)) b _ _ _ _ _ _ _ le01 HC.out).mono ?_; rintro e w1 ⟨rfl, C1⟩; have P1 := HP.out.kept C1 hp hs hxa hxb; have cp1 := P1.p; have cf1 := P1.f0; have ca1 := P1.a0; have cb1 := P1.a1; have cc1 := P1.b0; have cd1 := P1.b1; have HC1 := hide C1; clear C1 P1)
    | (go_at_call_of 34 (Value.agg #[.string sb, .int .i64 nb]); refine (ckey0_any ((w.alloc (.cells #[.string sa, .int .i64 na] 40)).alloc (.cells #[.string sb, .int .i64 nb] 40)) b _ _ _ _ _ _ _ le11 HC1.out).mono ?_; rintro e w2 ⟨rfl, C2⟩; have P2 := HP.out.kept C2 hp hs hxa hxb; have cp2 := P2.p; have cf2 := P2.f0; have ca2 := P2.a0; have cb2 := P2.a1; have cc2 := P2.b0; have cd2 := P2.b1; have cg2 := P2.f1; have HC2 := hide C2; have HC2d := hide C2.drew; clear C2 P2)
    | (go_at_call 42; refine (compare_any _ _ _).mono ?_; rintro e w3 ⟨rfl, rfl⟩))
  go_wp2
  go_region_held3 (fun w' => w'.cell? ⟨bp, 0, none⟩ = some (.pointer (some ⟨bs, 0, none⟩)) ∧ w'.cell? ⟨bs, 1, none⟩ = some (.func (.func 35) #[] #[.pointer (some ⟨b + 1, 0, none⟩)]) ∧ w'.cell? ⟨w.heap.size, 0, none⟩ = some (.string sa) ∧ w'.cell? ⟨w.heap.size, 1, none⟩ = some (.int .i64 na) ∧ w'.cell? ⟨w.heap.size + 1, 0, none⟩ = some (.string sb) ∧ w'.cell? ⟨w.heap.size + 1, 1, none⟩ = some (.int .i64 nb)) (go_keep) (first
    | (go_at_call_of 35 (Value.agg #[.string sa, .int .i64 na]); refine (ckey1_any ((w.alloc (.cells #[.string sa, .int .i64 na] 40)).alloc (.cells #[.string sb, .int .i64 nb] 40)) b _ _ _ _ _ _ _ le01 HC2d.out).mono ?_; rintro e w3 ⟨rfl, C3⟩; have P3 := HP.out.kept C3 hp hs hxa hxb; have cp3 := P3.p; have cf3 := P3.f1; have ca3 := P3.a0; have cb3 := P3.a1; have cc3 := P3.b0; have cd3 := P3.b1; have HC3 := hide C3; clear C3 P3)
    | (go_at_call_of 35 (Value.agg #[.string sb, .int .i64 nb]); refine (ckey1_any ((w.alloc (.cells #[.string sa, .int .i64 na] 40)).alloc (.cells #[.string sb, .int .i64 nb] 40)) b _ _ _ _ _ _ _ le11 HC3.out).mono ?_; rintro e w4 ⟨rfl, C4⟩; have P4 := HP.out.kept C4 hp hs hxa hxb; have cp4 := P4.p; have cf4 := P4.f1; have ca4 := P4.a0; have cb4 := P4.a1; have cc4 := P4.b0; have cd4 := P4.b1; have cg4 := P4.f3; have cr4 := P4.f4; have HC4 := hide C4; have HC4d := hide C4.drew; clear C4 P4)
    | (go_at_call 15; refine (compareInt_any _ _ _).mono ?_; rintro e w5 ⟨rfl, rfl⟩))
  go_wp2
  go_ret
  exact ⟨rfl, HC4.out.base HB.out⟩

set_option maxHeartbeats 6400000 in
set_option maxRecDepth 100000 in
theorem c45_none (b bp bs : Nat) (sa sb : ByteArray) (na nb d0 d1 : Int) (w : World) (hp : b + 3 < bp) (hs : b + 3 < bs) (hC : CC w b 0 0 0 true w)
    (hP : PairP w bp bs (.func (.func 34) #[] #[.pointer (some ⟨b, 0, none⟩)]) (.func (.func 35) #[] #[.pointer (some ⟨b + 1, 0, none⟩)]) d0 d1 .nilFunc)
    (hne : (cmpS sa sb != 0) = false) (hne1 : (cmpI na nb != 0) = false) :
    Calls Yba.prog 45 #[.agg #[.string sa, .int .i64 na], .agg #[.string sb, .int .i64 nb], .pointer (some ⟨bp, 0, none⟩)] w fun e w' => e = .returned (.int .i64 (wrap64 (d1 * cmpI na nb))) ∧ CC w b 2 2 0 true w' := by
  have q4 := eqn42
  have hsz := lt_of_block hC.co
  have hxa : b + 3 < w.heap.size := by omega
  have hxb : b + 3 < w.heap.size + 1 := by omega
  have HC : Hid (CC ((w.alloc (.cells #[.string sa, .int .i64 na] 40)).alloc (.cells #[.string sb, .int .i64 nb] 40)) b 0 0 0 true ((w.alloc (.cells #[.string sa, .int .i64 na] 40)).alloc (.cells #[.string sb, .int .i64 nb] 40)).drew) := hide ((hC.alloc _).alloc _).over.drew
  have hP2 := hP.boxed sa sb na nb
  have HP := hide hP2
  have g0 := hP2.p
  have g1 := hP2.f0
  have HB := hide (below_two w (.cells #[.string sa, .int .i64 na] 40) (.cells #[.string sb, .int .i64 nb] 40))
  clear hC hP hP2
  go_enter Yba.func45, Yba.ntmps45
  go_wp2
  go_region_held3 (fun w' => w'.cell? ⟨bp, 0, none⟩ = some (.pointer (some ⟨bs, 0, none⟩)) ∧ w'.cell? ⟨bs, 0, none⟩ = some (.func (.func 34) #[] #[.pointer (some ⟨b, 0, none⟩)]) ∧ w'.cell? ⟨w.heap.size, 0, none⟩ = some (.string sa) ∧ w'.cell? ⟨w.heap.size, 1, none⟩ = some (.int .i64 na) ∧ w'.cell? ⟨w.heap.size + 1, 0, none⟩ = some (.string sb) ∧ w'.cell? ⟨w.heap.size + 1, 1, none⟩ = some (.int .i64 nb)) (go_keep) (first
    | (go_at_call_of 34 (Value.agg #[.string sa, .int .i64 na]); refine (ckey0_any ((w.alloc (.cells #[.string sa, .int .i64 na] 40)).alloc (.cells #[.string sb, .int .i64 nb] 40)) b _ _ _ _ _ _ _ le01 HC.out).mono ?_; rintro e w1 ⟨rfl, C1⟩; have P1 := HP.out.kept C1 hp hs hxa hxb; have cp1 := P1.p; have cf1 := P1.f0; have ca1 := P1.a0; have cb1 := P1.a1; have cc1 := P1.b0; have cd1 := P1.b1; have HC1 := hide C1; clear C1 P1)
    | (go_at_call_of 34 (Value.agg #[.string sb, .int .i64 nb]); refine (ckey0_any ((w.alloc (.cells #[.string sa, .int .i64 na] 40)).alloc (.cells #[.string sb, .int .i64 nb] 40)) b _ _ _ _ _ _ _ le11 HC1.out).mono ?_; rintro e w2 ⟨rfl, C2⟩; have P2 := HP.out.kept C2 hp hs hxa hxb; have cp2 := P2.p; have cf2 := P2.f0; have ca2 := P2.a0; have cb2 := P2.a1; have cc2 := P2.b0; have cd2 := P2.b1; have cg2 := P2.f1; have HC2 := hide C2; have HC2d := hide C2.drew; clear C2 P2)
    | (go_at_call 42; refine (compare_any _ _ _).mono ?_; rintro e w3 ⟨rfl, rfl⟩))
  go_wp2
  go_region_held3 (fun w' => w'.cell? ⟨bp, 0, none⟩ = some (.pointer (some ⟨bs, 0, none⟩)) ∧ w'.cell? ⟨bs, 1, none⟩ = some (.func (.func 35) #[] #[.pointer (some ⟨b + 1, 0, none⟩)]) ∧ w'.cell? ⟨w.heap.size, 0, none⟩ = some (.string sa) ∧ w'.cell? ⟨w.heap.size, 1, none⟩ = some (.int .i64 na) ∧ w'.cell? ⟨w.heap.size + 1, 0, none⟩ = some (.string sb) ∧ w'.cell? ⟨w.heap.size + 1, 1, none⟩ = some (.int .i64 nb)) (go_keep) (first
    | (go_at_call_of 35 (Value.agg #[.string sa, .int .i64 na]); refine (ckey1_any ((w.alloc (.cells #[.string sa, .int .i64 na] 40)).alloc (.cells #[.string sb, .int .i64 nb] 40)) b _ _ _ _ _ _ _ le01 HC2d.out).mono ?_; rintro e w3 ⟨rfl, C3⟩; have P3 := HP.out.kept C3 hp hs hxa hxb; have cp3 := P3.p; have cf3 := P3.f1; have ca3 := P3.a0; have cb3 := P3.a1; have cc3 := P3.b0; have cd3 := P3.b1; have HC3 := hide C3; clear C3 P3)
    | (go_at_call_of 35 (Value.agg #[.string sb, .int .i64 nb]); refine (ckey1_any ((w.alloc (.cells #[.string sa, .int .i64 na] 40)).alloc (.cells #[.string sb, .int .i64 nb] 40)) b _ _ _ _ _ _ _ le11 HC3.out).mono ?_; rintro e w4 ⟨rfl, C4⟩; have P4 := HP.out.kept C4 hp hs hxa hxb; have cp4 := P4.p; have cf4 := P4.f1; have ca4 := P4.a0; have cb4 := P4.a1; have cc4 := P4.b0; have cd4 := P4.b1; have cg4 := P4.f3; have cr4 := P4.f4; have HC4 := hide C4; have HC4d := hide C4.drew; clear C4 P4)
    | (go_at_call 15; refine (compareInt_any _ _ _).mono ?_; rintro e w5 ⟨rfl, rfl⟩))
  go_wp2
  go_ret
  exact ⟨rfl, HC4.out.base HB.out⟩

set_option maxHeartbeats 6400000 in
set_option maxRecDepth 100000 in
theorem c45_rest (b bp bs ba bb br : Nat) (sa sb : ByteArray) (na nb d0 d1 : Int) (w : World) (hp : b + 3 < bp) (hs : b + 3 < bs) (hC : CC w b 0 0 0 true w)
    (hP : PairP w bp bs (.func (.func 34) #[] #[.pointer (some ⟨b, 0, none⟩)]) (.func (.func 35) #[] #[.pointer (some ⟨b + 1, 0, none⟩)]) d0 d1 (.func (.func 33) #[] #[.pointer (some ⟨b + 1 + 1, 0, none⟩), .pointer (some ⟨ba, 0, none⟩), .pointer (some ⟨bb, 0, none⟩), .pointer (some ⟨b + 1 + 1 + 1, 0, none⟩), .pointer (some ⟨br, 0, none⟩)]))
    (hne : (cmpS sa sb != 0) = false) (hne1 : (cmpI na nb != 0) = false) (ans : Int) (ha : ba < b) (hbb : bb < b) (hr : br < b)
    (a0 : w.cell? ⟨ba, 0, none⟩ = some (.string sa)) (a1 : w.cell? ⟨ba, 1, none⟩ = some (.int .i64 na)) (b0 : w.cell? ⟨bb, 0, none⟩ = some (.string sb)) (b1 : w.cell? ⟨bb, 1, none⟩ = some (.int .i64 nb)) (hans : w.cell? ⟨br, 0, none⟩ = some (.int .i64 ans)) :
    Calls Yba.prog 45 #[.agg #[.string sa, .int .i64 na], .agg #[.string sb, .int .i64 nb], .pointer (some ⟨bp, 0, none⟩)] w fun e w' => e = .returned (.int .i64 ans) ∧ CC w b 2 2 1 true w' := by
  have q4 := eqf42
  have A0 := hide (cell_two (.cells #[.string sa, .int .i64 na] 40) (.cells #[.string sb, .int .i64 nb] 40) a0)
  have A1 := hide (cell_two (.cells #[.string sa, .int .i64 na] 40) (.cells #[.string sb, .int .i64 nb] 40) a1)
  have B0 := hide (cell_two (.cells #[.string sa, .int .i64 na] 40) (.cells #[.string sb, .int .i64 nb] 40) b0)
  have B1 := hide (cell_two (.cells #[.string sa, .int .i64 na] 40) (.cells #[.string sb, .int .i64 nb] 40) b1)
  have AN := hide (cell_two (.cells #[.string sa, .int .i64 na] 40) (.cells #[.string sb, .int .i64 nb] 40) hans)
  clear a0 a1 b0 b1 hans
  have hsz := lt_of_block hC.co
  have hxa : b + 3 < w.heap.size := by omega
  have hxb : b + 3 < w.heap.size + 1 := by omega
  have HC : Hid (CC ((w.alloc (.cells #[.string sa, .int .i64 na] 40)).alloc (.cells #[.string sb, .int .i64 nb] 40)) b 0 0 0 true ((w.alloc (.cells #[.string sa, .int .i64 na] 40)).alloc (.cells #[.string sb, .int .i64 nb] 40)).drew) := hide ((hC.alloc _).alloc _).over.drew
  have hP2 := hP.boxed sa sb na nb
  have HP := hide hP2
  have g0 := hP2.p
  have g1 := hP2.f0
  have HB := hide (below_two w (.cells #[.string sa, .int .i64 na] 40) (.cells #[.string sb, .int .i64 nb] 40))
  clear hC hP hP2
  go_enter Yba.func45, Yba.ntmps45
  go_wp2
  go_region_held3 (fun w' => w'.cell? ⟨bp, 0, none⟩ = some (.pointer (some ⟨bs, 0, none⟩)) ∧ w'.cell? ⟨bs, 0, none⟩ = some (.func (.func 34) #[] #[.pointer (some ⟨b, 0, none⟩)]) ∧ w'.cell? ⟨w.heap.size, 0, none⟩ = some (.string sa) ∧ w'.cell? ⟨w.heap.size, 1, none⟩ = some (.int .i64 na) ∧ w'.cell? ⟨w.heap.size + 1, 0, none⟩ = some (.string sb) ∧ w'.cell? ⟨w.heap.size + 1, 1, none⟩ = some (.int .i64 nb)) (go_keep) (first
    | (go_at_call_of 34 (Value.agg #[.string sa, .int .i64 na]); refine (ckey0_any ((w.alloc (.cells #[.string sa, .int .i64 na] 40)).alloc (.cells #[.string sb, .int .i64 nb] 40)) b _ _ _ _ _ _ _ le01 HC.out).mono ?_; rintro e w1 ⟨rfl, C1⟩; have P1 := HP.out.kept C1 hp hs hxa hxb; have cp1 := P1.p; have cf1 := P1.f0; have ca1 := P1.a0; have cb1 := P1.a1; have cc1 := P1.b0; have cd1 := P1.b1; have HC1 := hide C1; clear C1 P1)
    | (go_at_call_of 34 (Value.agg #[.string sb, .int .i64 nb]); refine (ckey0_any ((w.alloc (.cells #[.string sa, .int .i64 na] 40)).alloc (.cells #[.string sb, .int .i64 nb] 40)) b _ _ _ _ _ _ _ le11 HC1.out).mono ?_; rintro e w2 ⟨rfl, C2⟩; have P2 := HP.out.kept C2 hp hs hxa hxb; have cp2 := P2.p; have cf2 := P2.f0; have ca2 := P2.a0; have cb2 := P2.a1; have cc2 := P2.b0; have cd2 := P2.b1; have cg2 := P2.f1; have HC2 := hide C2; have HC2d := hide C2.drew; clear C2 P2)
    | (go_at_call 42; refine (compare_any _ _ _).mono ?_; rintro e w3 ⟨rfl, rfl⟩))
  go_wp2
  go_region_held3 (fun w' => w'.cell? ⟨bp, 0, none⟩ = some (.pointer (some ⟨bs, 0, none⟩)) ∧ w'.cell? ⟨bs, 1, none⟩ = some (.func (.func 35) #[] #[.pointer (some ⟨b + 1, 0, none⟩)]) ∧ w'.cell? ⟨w.heap.size, 0, none⟩ = some (.string sa) ∧ w'.cell? ⟨w.heap.size, 1, none⟩ = some (.int .i64 na) ∧ w'.cell? ⟨w.heap.size + 1, 0, none⟩ = some (.string sb) ∧ w'.cell? ⟨w.heap.size + 1, 1, none⟩ = some (.int .i64 nb)) (go_keep) (first
    | (go_at_call_of 35 (Value.agg #[.string sa, .int .i64 na]); refine (ckey1_any ((w.alloc (.cells #[.string sa, .int .i64 na] 40)).alloc (.cells #[.string sb, .int .i64 nb] 40)) b _ _ _ _ _ _ _ le01 HC2d.out).mono ?_; rintro e w3 ⟨rfl, C3⟩; have P3 := HP.out.kept C3 hp hs hxa hxb; have cp3 := P3.p; have cf3 := P3.f1; have ca3 := P3.a0; have cb3 := P3.a1; have cc3 := P3.b0; have cd3 := P3.b1; have HC3 := hide C3; clear C3 P3)
    | (go_at_call_of 35 (Value.agg #[.string sb, .int .i64 nb]); refine (ckey1_any ((w.alloc (.cells #[.string sa, .int .i64 na] 40)).alloc (.cells #[.string sb, .int .i64 nb] 40)) b _ _ _ _ _ _ _ le11 HC3.out).mono ?_; rintro e w4 ⟨rfl, C4⟩; have P4 := HP.out.kept C4 hp hs hxa hxb; have cp4 := P4.p; have cf4 := P4.f1; have ca4 := P4.a0; have cb4 := P4.a1; have cc4 := P4.b0; have cd4 := P4.b1; have cg4 := P4.f3; have cr4 := P4.f4; have HC4 := hide C4; have HC4d := hide C4.drew; clear C4 P4)
    | (go_at_call 15; refine (compareInt_any _ _ _).mono ?_; rintro e w5 ⟨rfl, rfl⟩))
  go_wp2
  go_region_held3 (fun w' => w'.cell? ⟨bp, 0, none⟩ = some (.pointer (some ⟨bs, 0, none⟩)) ∧ w'.cell? ⟨bs, 4, none⟩ = some (.func (.func 33) #[] #[.pointer (some ⟨b + 1 + 1, 0, none⟩), .pointer (some ⟨ba, 0, none⟩), .pointer (some ⟨bb, 0, none⟩), .pointer (some ⟨b + 1 + 1 + 1, 0, none⟩), .pointer (some ⟨br, 0, none⟩)]) ∧ w'.cell? ⟨w.heap.size, 0, none⟩ = some (.string sa) ∧ w'.cell? ⟨w.heap.size, 1, none⟩ = some (.int .i64 na) ∧ w'.cell? ⟨w.heap.size + 1, 0, none⟩ = some (.string sb) ∧ w'.cell? ⟨w.heap.size + 1, 1, none⟩ = some (.int .i64 nb)) (go_keep) (first
    | (go_at_call 33; refine (crest_any ((w.alloc (.cells #[.string sa, .int .i64 na] 40)).alloc (.cells #[.string sb, .int .i64 nb] 40)) b ba bb br _ _ _ ans _ _ _ _ _ _ le01 ha hbb hr A0.out A1.out B0.out B1.out AN.out HC4d.out).mono ?_; rintro e w6 ⟨rfl, C6⟩; have P6 := HP.out.kept C6 hp hs hxa hxb; have cp6 := P6.p; have cf6 := P6.f4; have ca6 := P6.a0; have cb6 := P6.a1; have cc6 := P6.b0; have cd6 := P6.b1; have HC6 := hide C6; clear C6 P6))
  go_wp2
  go_ret
  exact ⟨rfl, HC6.out.base HB.out⟩

end Go.Proofs.Ybulkbfjm
