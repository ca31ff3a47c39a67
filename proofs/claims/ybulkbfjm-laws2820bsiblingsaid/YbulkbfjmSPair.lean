/-
  LawS2820BSibling: the closures 23, 24, 25; stringPairThen$1 (41) and pairThen$1 (43) over them: they only read.
-/
import Derived.Test.YbulkbfjmBat
import Derived.Deep.RegionHeld3
namespace Go.Proofs.Ybulkbfjm.lawS2820BSibling
open Go.RowKit
set_option linter.unusedVariables false

theorem hide {p : Prop} (h : p) : Hid p := h
theorem eqf29 (fn : Fn) (first cap : Array Value) (w : World) : (binOp .eql 29 (.func fn first cap) .nilFunc).run Yba.prog w = .ok (.bool false) w := by rfl
theorem eqn29 (w : World) : (binOp .eql 29 .nilFunc .nilFunc).run Yba.prog w = .ok (.bool true) w := by rfl

theorem skey0_any (B bk : Nat) (a : Option Addr) (len cap : Nat) (ss : List ByteArray) (i : Int) (w : World) (hrow : Row B w a len ss) (hk : w.cell? ⟨bk, 0, none⟩ = some (.slice a len cap)) :
    Calls Yba.prog 23 #[.int .i64 i, .pointer (some ⟨bk, 0, none⟩)] w fun e w' => e = .returned (.string (atS ss len i)) ∧ w' = w := by
  have R1 := hide hrow
  clear hrow
  go_enter Yba.func23, Yba.ntmps23
  go_wp2_with (go_at_call 18; refine (bat_any B _ _ _ ss _ _ R1.out).mono ?_; rintro e w' ⟨rfl, rfl⟩)
  go_ret
  exact ⟨rfl, rfl⟩

theorem skey1_any (B bk : Nat) (a : Option Addr) (len cap : Nat) (ss : List ByteArray) (i : Int) (w : World) (hrow : Row B w a len ss) (hk : w.cell? ⟨bk, 0, none⟩ = some (.slice a len cap)) :
    Calls Yba.prog 24 #[.int .i64 i, .pointer (some ⟨bk, 0, none⟩)] w fun e w' => e = .returned (.string (atS ss len i)) ∧ w' = w := by
  have R1 := hide hrow
  clear hrow
  go_enter Yba.func24, Yba.ntmps24
  go_wp2_with (go_at_call 18; refine (bat_any B _ _ _ ss _ _ R1.out).mono ?_; rintro e w' ⟨rfl, rfl⟩)
  go_ret
  exact ⟨rfl, rfl⟩

theorem srest_any (br : Nat) (mul x y : Int) (w : World) (hk : w.cell? ⟨br, 0, none⟩ = some (.int .i64 mul)) :
    Calls Yba.prog 25 #[.int .i64 x, .int .i64 y, .pointer (some ⟨br, 0, none⟩)] w fun e w' => e = .returned (.int .i64 (wrap64 (mul * wrap64 (x - y)))) ∧ w' = w := by
  go_enter Yba.func25, Yba.ntmps25
  go_wp2
  go_ret
  exact ⟨rfl, rfl⟩

/-- The variable p in block bp points to an orderedPair in block bs. -/
structure PairAt (w : World) (bp bs : Nat) (k0 k1 : Value) (d0 d1 : Int) (r : Value) : Prop where
  p : w.cell? ⟨bp, 0, none⟩ = some (.pointer (some ⟨bs, 0, none⟩))
  f0 : w.cell? ⟨bs, 0, none⟩ = some k0
  f1 : w.cell? ⟨bs, 1, none⟩ = some k1
  f2 : w.cell? ⟨bs, 2, none⟩ = some (.int .i64 d0)
  f3 : w.cell? ⟨bs, 3, none⟩ = some (.int .i64 d1)
  f4 : w.cell? ⟨bs, 4, none⟩ = some r

/-- What both orderings answer. -/
def answer (s0 s1 : List ByteArray) (l0 l1 : Nat) (d0 d1 : Int) (rest : Option Int) (x y : Int) : Int :=
  if cmpS (atS s0 l0 x) (atS s0 l0 y) != 0 then wrap64 (d0 * cmpS (atS s0 l0 x) (atS s0 l0 y))
  else if cmpS (atS s1 l1 x) (atS s1 l1 y) != 0 then wrap64 (d1 * cmpS (atS s1 l1 x) (atS s1 l1 y))
  else match rest with
    | none => wrap64 (d1 * cmpS (atS s1 l1 x) (atS s1 l1 y))
    | some mul => wrap64 (mul * wrap64 (x - y))

set_option maxHeartbeats 3200000 in
set_option maxRecDepth 100000 in
theorem s41_first (B bk0 bk1 bp bs : Nat) (a0 a1 : Option Addr) (l0 c0 l1 c1 : Nat) (s0 s1 : List ByteArray) (d0 d1 x y : Int) (r : Value) (w : World)
    (hr0 : Row B w a0 l0 s0) (hk0 : w.cell? ⟨bk0, 0, none⟩ = some (.slice a0 l0 c0)) (hr1 : Row B w a1 l1 s1) (hk1 : w.cell? ⟨bk1, 0, none⟩ = some (.slice a1 l1 c1)) (hP : PairAt w bp bs (.func (.func 23) #[] #[.pointer (some ⟨bk0, 0, none⟩)]) (.func (.func 24) #[] #[.pointer (some ⟨bk1, 0, none⟩)]) d0 d1 r)
    (hne : (cmpS (atS s0 l0 x) (atS s0 l0 y) != 0) = true) :
    Calls Yba.prog 41 #[.int .i64 x, .int .i64 y, .pointer (some ⟨bp, 0, none⟩)] w fun e w' => e = .returned (.int .i64 (wrap64 (d0 * cmpS (atS s0 l0 x) (atS s0 l0 y)))) ∧ ∃ n, w' = w.drewN n := by
  have q3 := eqf29
  have q4 := eqn29
  have HR0 : Hid (Row B w.drew a0 l0 s0) := hr0
  have HR1 : Hid (Row B w.drew.drew a1 l1 s1) := hr1
  have HK0 : Hid (w.drew.cell? ⟨bk0, 0, none⟩ = some (.slice a0 l0 c0)) := hk0
  have HK1 : Hid (w.drew.drew.cell? ⟨bk1, 0, none⟩ = some (.slice a1 l1 c1)) := hk1
  have g0 := hP.p
  have g1 := hP.f0
  have g2 := hP.f1
  have g3 := hP.f2
  have g4 := hP.f3
  have g5 := hP.f4
  clear hr0 hr1 hP hk0 hk1
  go_enter Yba.func41, Yba.ntmps41
  go_wp2
  go_region_held3 (fun w' => w'.cell? ⟨bp, 0, none⟩ = some (.pointer (some ⟨bs, 0, none⟩)) ∧ w'.cell? ⟨bs, 0, none⟩ = some (.func (.func 23) #[] #[.pointer (some ⟨bk0, 0, none⟩)])) (go_keep) (first
    | (go_at_call 23; refine (skey0_any B bk0 _ _ _ s0 _ w.drew HR0.out HK0.out).mono ?_; rintro e w1 ⟨rfl, rfl⟩)
    | (go_at_call 42; refine (compare_any _ _ _).mono ?_; rintro e w1 ⟨rfl, rfl⟩))
  go_wp2
  go_ret
  exact ⟨rfl, 1, rfl⟩

set_option maxHeartbeats 3200000 in
set_option maxRecDepth 100000 in
theorem s41_second (B bk0 bk1 bp bs : Nat) (a0 a1 : Option Addr) (l0 c0 l1 c1 : Nat) (s0 s1 : List ByteArray) (d0 d1 x y : Int) (r : Value) (w : World)
    (hr0 : Row B w a0 l0 s0) (hk0 : w.cell? ⟨bk0, 0, none⟩ = some (.slice a0 l0 c0)) (hr1 : Row B w a1 l1 s1) (hk1 : w.cell? ⟨bk1, 0, none⟩ = some (.slice a1 l1 c1)) (hP : PairAt w bp bs (.func (.func 23) #[] #[.pointer (some ⟨bk0, 0, none⟩)]) (.func (.func 24) #[] #[.pointer (some ⟨bk1, 0, none⟩)]) d0 d1 r)
    (hne : (cmpS (atS s0 l0 x) (atS s0 l0 y) != 0) = false) (hne1 : (cmpS (atS s1 l1 x) (atS s1 l1 y) != 0) = true) :
    Calls Yba.prog 41 #[.int .i64 x, .int .i64 y, .pointer (some ⟨bp, 0, none⟩)] w fun e w' => e = .returned (.int .i64 (wrap64 (d1 * cmpS (atS s1 l1 x) (atS s1 l1 y)))) ∧ ∃ n, w' = w.drewN n := by
  have q3 := eqf29
  have q4 := eqn29
  have HR0 : Hid (Row B w.drew a0 l0 s0) := hr0
  have HR1 : Hid (Row B w.drew.drew a1 l1 s1) := hr1
  have HK0 : Hid (w.drew.cell? ⟨bk0, 0, none⟩ = some (.slice a0 l0 c0)) := hk0
  have HK1 : Hid (w.drew.drew.cell? ⟨bk1, 0, none⟩ = some (.slice a1 l1 c1)) := hk1
  have g0 := hP.p
  have g1 := hP.f0
  have g2 := hP.f1
  have g3 := hP.f2
  have g4 := hP.f3
  have g5 := hP.f4
  clear hr0 hr1 hP hk0 hk1
  go_enter Yba.func41, Yba.ntmps41
  go_wp2
  go_region_held3 (fun w' => w'.cell? ⟨bp, 0, none⟩ = some (.pointer (some ⟨bs, 0, none⟩)) ∧ w'.cell? ⟨bs, 0, none⟩ = some (.func (.func 23) #[] #[.pointer (some ⟨bk0, 0, none⟩)])) (go_keep) (first
    | (go_at_call 23; refine (skey0_any B bk0 _ _ _ s0 _ w.drew HR0.out HK0.out).mono ?_; rintro e w1 ⟨rfl, rfl⟩)
    | (go_at_call 42; refine (compare_any _ _ _).mono ?_; rintro e w1 ⟨rfl, rfl⟩))
  go_wp2
  go_region_held3 (fun w' => w'.cell? ⟨bp, 0, none⟩ = some (.pointer (some ⟨bs, 0, none⟩)) ∧ w'.cell? ⟨bs, 1, none⟩ = some (.func (.func 24) #[] #[.pointer (some ⟨bk1, 0, none⟩)])) (go_keep) (first
    | (go_at_call 24; refine (skey1_any B bk1 _ _ _ s1 _ w.drew.drew HR1.out HK1.out).mono ?_; rintro e w1 ⟨rfl, rfl⟩)
    | (go_at_call 42; refine (compare_any _ _ _).mono ?_; rintro e w1 ⟨rfl, rfl⟩))
  go_wp2
  go_ret
  exact ⟨rfl, 2, rfl⟩

set_option maxHeartbeats 3200000 in
set_option maxRecDepth 100000 in
theorem s41_none (B bk0 bk1 bp bs : Nat) (a0 a1 : Option Addr) (l0 c0 l1 c1 : Nat) (s0 s1 : List ByteArray) (d0 d1 x y : Int) (w : World)
    (hr0 : Row B w a0 l0 s0) (hk0 : w.cell? ⟨bk0, 0, none⟩ = some (.slice a0 l0 c0)) (hr1 : Row B w a1 l1 s1) (hk1 : w.cell? ⟨bk1, 0, none⟩ = some (.slice a1 l1 c1)) (hP : PairAt w bp bs (.func (.func 23) #[] #[.pointer (some ⟨bk0, 0, none⟩)]) (.func (.func 24) #[] #[.pointer (some ⟨bk1, 0, none⟩)]) d0 d1 .nilFunc)
    (hne : (cmpS (atS s0 l0 x) (atS s0 l0 y) != 0) = false) (hne1 : (cmpS (atS s1 l1 x) (atS s1 l1 y) != 0) = false) :
    Calls Yba.prog 41 #[.int .i64 x, .int .i64 y, .pointer (some ⟨bp, 0, none⟩)] w fun e w' => e = .returned (.int .i64 (wrap64 (d1 * cmpS (atS s1 l1 x) (atS s1 l1 y)))) ∧ ∃ n, w' = w.drewN n := by
  have q3 := eqf29
  have q4 := eqn29
  have HR0 : Hid (Row B w.drew a0 l0 s0) := hr0
  have HR1 : Hid (Row B w.drew.drew a1 l1 s1) := hr1
  have HK0 : Hid (w.drew.cell? ⟨bk0, 0, none⟩ = some (.slice a0 l0 c0)) := hk0
  have HK1 : Hid (w.drew.drew.cell? ⟨bk1, 0, none⟩ = some (.slice a1 l1 c1)) := hk1
  have g0 := hP.p
  have g1 := hP.f0
  have g2 := hP.f1
  have g3 := hP.f2
  have g4 := hP.f3
  have g5 := hP.f4
  clear hr0 hr1 hP hk0 hk1
  go_enter Yba.func41, Yba.ntmps41
  go_wp2
  go_region_held3 (fun w' => w'.cell? ⟨bp, 0, none⟩ = some (.pointer (some ⟨bs, 0, none⟩)) ∧ w'.cell? ⟨bs, 0, none⟩ = some (.func (.func 23) #[] #[.pointer (some ⟨bk0, 0, none⟩)])) (go_keep) (first
    | (go_at_call 23; refine (skey0_any B bk0 _ _ _ s0 _ w.drew HR0.out HK0.out).mono ?_; rintro e w1 ⟨rfl, rfl⟩)
    | (go_at_call 42; refine (compare_any _ _ _).mono ?_; rintro e w1 ⟨rfl, rfl⟩))
  go_wp2
  go_region_held3 (fun w' => w'.cell? ⟨bp, 0, none⟩ = some (.pointer (some ⟨bs, 0, none⟩)) ∧ w'.cell? ⟨bs, 1, none⟩ = some (.func (.func 24) #[] #[.pointer (some ⟨bk1, 0, none⟩)])) (go_keep) (first
    | (go_at_call 24; refine (skey1_any B bk1 _ _ _ s1 _ w.drew.drew HR1.out HK1.out).mono ?_; rintro e w1 ⟨rfl, rfl⟩)
    | (go_at_call 42; refine (compare_any _ _ _).mono ?_; rintro e w1 ⟨rfl, rfl⟩))
  go_wp2
  go_ret
  exact ⟨rfl, 2, rfl⟩

set_option maxHeartbeats 3200000 in
set_option maxRecDepth 100000 in
theorem s41_rest (br : Nat) (mul : Int) (B bk0 bk1 bp bs : Nat) (a0 a1 : Option Addr) (l0 c0 l1 c1 : Nat) (s0 s1 : List ByteArray) (d0 d1 x y : Int) (w : World)
    (hr0 : Row B w a0 l0 s0) (hk0 : w.cell? ⟨bk0, 0, none⟩ = some (.slice a0 l0 c0)) (hr1 : Row B w a1 l1 s1) (hk1 : w.cell? ⟨bk1, 0, none⟩ = some (.slice a1 l1 c1)) (hP : PairAt w bp bs (.func (.func 23) #[] #[.pointer (some ⟨bk0, 0, none⟩)]) (.func (.func 24) #[] #[.pointer (some ⟨bk1, 0, none⟩)]) d0 d1 (.func (.func 25) #[] #[.pointer (some ⟨br, 0, none⟩)]))
    (hne : (cmpS (atS s0 l0 x) (atS s0 l0 y) != 0) = false) (hne1 : (cmpS (atS s1 l1 x) (atS s1 l1 y) != 0) = false) (hmul : w.cell? ⟨br, 0, none⟩ = some (.int .i64 mul)) :
    Calls Yba.prog 41 #[.int .i64 x, .int .i64 y, .pointer (some ⟨bp, 0, none⟩)] w fun e w' => e = .returned (.int .i64 (wrap64 (mul * wrap64 (x - y)))) ∧ ∃ n, w' = w.drewN n := by
  have q3 := eqf29
  have q4 := eqn29
  have HR0 : Hid (Row B w.drew a0 l0 s0) := hr0
  have HR1 : Hid (Row B w.drew.drew a1 l1 s1) := hr1
  have HK0 : Hid (w.drew.cell? ⟨bk0, 0, none⟩ = some (.slice a0 l0 c0)) := hk0
  have HK1 : Hid (w.drew.drew.cell? ⟨bk1, 0, none⟩ = some (.slice a1 l1 c1)) := hk1
  have g0 := hP.p
  have g1 := hP.f0
  have g2 := hP.f1
  have g3 := hP.f2
  have g4 := hP.f3
  have g5 := hP.f4
  clear hr0 hr1 hP hk0 hk1
  go_enter Yba.func41, Yba.ntmps41
  go_wp2
  go_region_held3 (fun w' => w'.cell? ⟨bp, 0, none⟩ = some (.pointer (some ⟨bs, 0, none⟩)) ∧ w'.cell? ⟨bs, 0, none⟩ = some (.func (.func 23) #[] #[.pointer (some ⟨bk0, 0, none⟩)])) (go_keep) (first
    | (go_at_call 23; refine (skey0_any B bk0 _ _ _ s0 _ w.drew HR0.out HK0.out).mono ?_; rintro e w1 ⟨rfl, rfl⟩)
    | (go_at_call 42; refine (compare_any _ _ _).mono ?_; rintro e w1 ⟨rfl, rfl⟩))
  go_wp2
  go_region_held3 (fun w' => w'.cell? ⟨bp, 0, none⟩ = some (.pointer (some ⟨bs, 0, none⟩)) ∧ w'.cell? ⟨bs, 1, none⟩ = some (.func (.func 24) #[] #[.pointer (some ⟨bk1, 0, none⟩)])) (go_keep) (first
    | (go_at_call 24; refine (skey1_any B bk1 _ _ _ s1 _ w.drew.drew HR1.out HK1.out).mono ?_; rintro e w1 ⟨rfl, rfl⟩)
    | (go_at_call 42; refine (compare_any _ _ _).mono ?_; rintro e w1 ⟨rfl, rfl⟩))
  go_wp2_with (go_at_call 25; refine (srest_any br mul x y w.drew.drew hmul).mono ?_; rintro e w6 ⟨rfl, rfl⟩)
  go_ret
  exact ⟨rfl, 2, rfl⟩

theorem s41_none_any (B bk0 bk1 bp bs : Nat) (a0 a1 : Option Addr) (l0 c0 l1 c1 : Nat) (s0 s1 : List ByteArray) (d0 d1 x y : Int) (w : World)
    (hr0 : Row B w a0 l0 s0) (hk0 : w.cell? ⟨bk0, 0, none⟩ = some (.slice a0 l0 c0)) (hr1 : Row B w a1 l1 s1) (hk1 : w.cell? ⟨bk1, 0, none⟩ = some (.slice a1 l1 c1)) (hP : PairAt w bp bs (.func (.func 23) #[] #[.pointer (some ⟨bk0, 0, none⟩)]) (.func (.func 24) #[] #[.pointer (some ⟨bk1, 0, none⟩)]) d0 d1 .nilFunc) :
    Calls Yba.prog 41 #[.int .i64 x, .int .i64 y, .pointer (some ⟨bp, 0, none⟩)] w fun e w' => e = .returned (.int .i64 (answer s0 s1 l0 l1 d0 d1 none x y)) ∧ ∃ n, w' = w.drewN n := by
  unfold answer
  cases e0 : (cmpS (atS s0 l0 x) (atS s0 l0 y) != 0)
  case true => rw [if_pos rfl]; exact s41_first B bk0 bk1 bp bs a0 a1 l0 c0 l1 c1 s0 s1 d0 d1 x y _ w hr0 hk0 hr1 hk1 hP e0
  case false =>
    rw [if_neg (by decide)]
    cases e1 : (cmpS (atS s1 l1 x) (atS s1 l1 y) != 0)
    case true => rw [if_pos rfl]; exact s41_second B bk0 bk1 bp bs a0 a1 l0 c0 l1 c1 s0 s1 d0 d1 x y _ w hr0 hk0 hr1 hk1 hP e0 e1
    case false => rw [if_neg (by decide)]; exact s41_none B bk0 bk1 bp bs a0 a1 l0 c0 l1 c1 s0 s1 d0 d1 x y w hr0 hk0 hr1 hk1 hP e0 e1

theorem s41_rest_any (br : Nat) (mul : Int) (B bk0 bk1 bp bs : Nat) (a0 a1 : Option Addr) (l0 c0 l1 c1 : Nat) (s0 s1 : List ByteArray) (d0 d1 x y : Int) (w : World)
    (hr0 : Row B w a0 l0 s0) (hk0 : w.cell? ⟨bk0, 0, none⟩ = some (.slice a0 l0 c0)) (hr1 : Row B w a1 l1 s1) (hk1 : w.cell? ⟨bk1, 0, none⟩ = some (.slice a1 l1 c1)) (hP : PairAt w bp bs (.func (.func 23) #[] #[.pointer (some ⟨bk0, 0, none⟩)]) (.func (.func 24) #[] #[.pointer (some ⟨bk1, 0, none⟩)]) d0 d1 (.func (.func 25) #[] #[.pointer (some ⟨br, 0, none⟩)]))
    (hmul : w.cell? ⟨br, 0, none⟩ = some (.int .i64 mul)) :
    Calls Yba.prog 41 #[.int .i64 x, .int .i64 y, .pointer (some ⟨bp, 0, none⟩)] w fun e w' => e = .returned (.int .i64 (answer s0 s1 l0 l1 d0 d1 (some mul) x y)) ∧ ∃ n, w' = w.drewN n := by
  unfold answer
  cases e0 : (cmpS (atS s0 l0 x) (atS s0 l0 y) != 0)
  case true => rw [if_pos rfl]; exact s41_first B bk0 bk1 bp bs a0 a1 l0 c0 l1 c1 s0 s1 d0 d1 x y _ w hr0 hk0 hr1 hk1 hP e0
  case false =>
    rw [if_neg (by decide)]
    cases e1 : (cmpS (atS s1 l1 x) (atS s1 l1 y) != 0)
    case true => rw [if_pos rfl]; exact s41_second B bk0 bk1 bp bs a0 a1 l0 c0 l1 c1 s0 s1 d0 d1 x y _ w hr0 hk0 hr1 hk1 hP e0 e1
    case false => rw [if_neg (by decide)]; exact s41_rest br mul B bk0 bk1 bp bs a0 a1 l0 c0 l1 c1 s0 s1 d0 d1 x y w hr0 hk0 hr1 hk1 hP e0 e1 hmul

set_option maxHeartbeats 3200000 in
set_option maxRecDepth 100000 in
theorem s43_first (B bk0 bk1 bp bs : Nat) (a0 a1 : Option Addr) (l0 c0 l1 c1 : Nat) (s0 s1 : List ByteArray) (d0 d1 x y : Int) (r : Value) (w : World)
    (hr0 : Row B w a0 l0 s0) (hk0 : w.cell? ⟨bk0, 0, none⟩ = some (.slice a0 l0 c0)) (hr1 : Row B w a1 l1 s1) (hk1 : w.cell? ⟨bk1, 0, none⟩ = some (.slice a1 l1 c1)) (hP : PairAt w bp bs (.func (.func 23) #[] #[.pointer (some ⟨bk0, 0, none⟩)]) (.func (.func 24) #[] #[.pointer (some ⟨bk1, 0, none⟩)]) d0 d1 r)
    (hne : (cmpS (atS s0 l0 x) (atS s0 l0 y) != 0) = true) :
    Calls Yba.prog 43 #[.int .i64 x, .int .i64 y, .pointer (some ⟨bp, 0, none⟩)] w fun e w' => e = .returned (.int .i64 (wrap64 (d0 * cmpS (atS s0 l0 x) (atS s0 l0 y)))) ∧ ∃ n, w' = w.drewN n := by
  have q3 := eqf29
  have q4 := eqn29
  have HR0 : Hid (Row B w.drew a0 l0 s0) := hr0
  have HR1 : Hid (Row B w.drew.drew a1 l1 s1) := hr1
  have HK0 : Hid (w.drew.cell? ⟨bk0, 0, none⟩ = some (.slice a0 l0 c0)) := hk0
  have HK1 : Hid (w.drew.drew.cell? ⟨bk1, 0, none⟩ = some (.slice a1 l1 c1)) := hk1
  have g0 := hP.p
  have g1 := hP.f0
  have g2 := hP.f1
  have g3 := hP.f2
  have g4 := hP.f3
  have g5 := hP.f4
  clear hr0 hr1 hP hk0 hk1
  go_enter Yba.func43, Yba.ntmps43
  go_wp2
  go_region_held3 (fun w' => w'.cell? ⟨bp, 0, none⟩ = some (.pointer (some ⟨bs, 0, none⟩)) ∧ w'.cell? ⟨bs, 0, none⟩ = some (.func (.func 23) #[] #[.pointer (some ⟨bk0, 0, none⟩)])) (go_keep) (first
    | (go_at_call 23; refine (skey0_any B bk0 _ _ _ s0 _ w.drew HR0.out HK0.out).mono ?_; rintro e w1 ⟨rfl, rfl⟩)
    | (go_at_call 44; refine (compareStr_any _ _ _).mono ?_; rintro e w1 ⟨rfl, rfl⟩))
  go_wp2
  go_ret
  exact ⟨rfl, 1, rfl⟩

set_option maxHeartbeats 3200000 in
set_option maxRecDepth 100000 in
theorem s43_second (B bk0 bk1 bp bs : Nat) (a0 a1 : Option Addr) (l0 c0 l1 c1 : Nat) (s0 s1 : List ByteArray) (d0 d1 x y : Int) (r : Value) (w : World)
    (hr0 : Row B w a0 l0 s0) (hk0 : w.cell? ⟨bk0, 0, none⟩ = some (.slice a0 l0 c0)) (hr1 : Row B w a1 l1 s1) (hk1 : w.cell? ⟨bk1, 0, none⟩ = some (.slice a1 l1 c1)) (hP : PairAt w bp bs (.func (.func 23) #[] #[.pointer (some ⟨bk0, 0, none⟩)]) (.func (.func 24) #[] #[.pointer (some ⟨bk1, 0, none⟩)]) d0 d1 r)
    (hne : (cmpS (atS s0 l0 x) (atS s0 l0 y) != 0) = false) (hne1 : (cmpS (atS s1 l1 x) (atS s1 l1 y) != 0) = true) :
    Calls Yba.prog 43 #[.int .i64 x, .int .i64 y, .pointer (some ⟨bp, 0, none⟩)] w fun e w' => e = .returned (.int .i64 (wrap64 (d1 * cmpS (atS s1 l1 x) (atS s1 l1 y)))) ∧ ∃ n, w' = w.drewN n := by
  have q3 := eqf29
  have q4 := eqn29
  have HR0 : Hid (Row B w.drew a0 l0 s0) := hr0
  have HR1 : Hid (Row B w.drew.drew a1 l1 s1) := hr1
  have HK0 : Hid (w.drew.cell? ⟨bk0, 0, none⟩ = some (.slice a0 l0 c0)) := hk0
  have HK1 : Hid (w.drew.drew.cell? ⟨bk1, 0, none⟩ = some (.slice a1 l1 c1)) := hk1
  have g0 := hP.p
  have g1 := hP.f0
  have g2 := hP.f1
  have g3 := hP.f2
  have g4 := hP.f3
  have g5 := hP.f4
  clear hr0 hr1 hP hk0 hk1
  go_enter Yba.func43, Yba.ntmps43
  go_wp2
  go_region_held3 (fun w' => w'.cell? ⟨bp, 0, none⟩ = some (.pointer (some ⟨bs, 0, none⟩)) ∧ w'.cell? ⟨bs, 0, none⟩ = some (.func (.func 23) #[] #[.pointer (some ⟨bk0, 0, none⟩)])) (go_keep) (first
    | (go_at_call 23; refine (skey0_any B bk0 _ _ _ s0 _ w.drew HR0.out HK0.out).mono ?_; rintro e w1 ⟨rfl, rfl⟩)
    | (go_at_call 44; refine (compareStr_any _ _ _).mono ?_; rintro e w1 ⟨rfl, rfl⟩))
  go_wp2
  go_region_held3 (fun w' => w'.cell? ⟨bp, 0, none⟩ = some (.pointer (some ⟨bs, 0, none⟩)) ∧ w'.cell? ⟨bs, 1, none⟩ = some (.func (.func 24) #[] #[.pointer (some ⟨bk1, 0, none⟩)])) (go_keep) (first
    | (go_at_call 24; refine (skey1_any B bk1 _ _ _ s1 _ w.drew.drew HR1.out HK1.out).mono ?_; rintro e w1 ⟨rfl, rfl⟩)
    | (go_at_call 44; refine (compareStr_any _ _ _).mono ?_; rintro e w1 ⟨rfl, rfl⟩))
  go_wp2
  go_ret
  exact ⟨rfl, 2, rfl⟩

set_option maxHeartbeats 3200000 in
set_option maxRecDepth 100000 in
theorem s43_none (B bk0 bk1 bp bs : Nat) (a0 a1 : Option Addr) (l0 c0 l1 c1 : Nat) (s0 s1 : List ByteArray) (d0 d1 x y : Int) (w : World)
    (hr0 : Row B w a0 l0 s0) (hk0 : w.cell? ⟨bk0, 0, none⟩ = some (.slice a0 l0 c0)) (hr1 : Row B w a1 l1 s1) (hk1 : w.cell? ⟨bk1, 0, none⟩ = some (.slice a1 l1 c1)) (hP : PairAt w bp bs (.func (.func 23) #[] #[.pointer (some ⟨bk0, 0, none⟩)]) (.func (.func 24) #[] #[.pointer (some ⟨bk1, 0, none⟩)]) d0 d1 .nilFunc)
    (hne : (cmpS (atS s0 l0 x) (atS s0 l0 y) != 0) = false) (hne1 : (cmpS (atS s1 l1 x) (atS s1 l1 y) != 0) = false) :
    Calls Yba.prog 43 #[.int .i64 x, .int .i64 y, .pointer (some ⟨bp, 0, none⟩)] w fun e w' => e = .returned (.int .i64 (wrap64 (d1 * cmpS (atS s1 l1 x) (atS s1 l1 y)))) ∧ ∃ n, w' = w.drewN n := by
  have q3 := eqf29
  have q4 := eqn29
  have HR0 : Hid (Row B w.drew a0 l0 s0) := hr0
  have HR1 : Hid (Row B w.drew.drew a1 l1 s1) := hr1
  have HK0 : Hid (w.drew.cell? ⟨bk0, 0, none⟩ = some (.slice a0 l0 c0)) := hk0
  have HK1 : Hid (w.drew.drew.cell? ⟨bk1, 0, none⟩ = some (.slice a1 l1 c1)) := hk1
  have g0 := hP.p
  have g1 := hP.f0
  have g2 := hP.f1
  have g3 := hP.f2
  have g4 := hP.f3
  have g5 := hP.f4
  clear hr0 hr1 hP hk0 hk1
  go_enter Yba.func43, Yba.ntmps43
  go_wp2
  go_region_held3 (fun w' => w'.cell? ⟨bp, 0, none⟩ = some (.pointer (some ⟨bs, 0, none⟩)) ∧ w'.cell? ⟨bs, 0, none⟩ = some (.func (.func 23) #[] #[.pointer (some ⟨bk0, 0, none⟩)])) (go_keep) (first
    | (go_at_call 23; refine (skey0_any B bk0 _ _ _ s0 _ w.drew HR0.out HK0.out).mono ?_; rintro e w1 ⟨rfl, rfl⟩)
    | (go_at_call 44; refine (compareStr_any _ _ _).mono ?_; rintro e w1 ⟨rfl, rfl⟩))
  go_wp2
  go_region_held3 (fun w' => w'.cell? ⟨bp, 0, none⟩ = some (.pointer (some ⟨bs, 0, none⟩)) ∧ w'.cell? ⟨bs, 1, none⟩ = some (.func (.func 24) #[] #[.pointer (some ⟨bk1, 0, none⟩)])) (go_keep) (first
    | (go_at_call 24; refine (skey1_any B bk1 _ _ _ s1 _ w.drew.drew HR1.out HK1.out).mono ?_; rintro e w1 ⟨rfl, rfl⟩)
    | (go_at_call 44; refine (compareStr_any _ _ _).mono ?_; rintro e w1 ⟨rfl, rfl⟩))
  go_wp2
  go_ret
  exact ⟨rfl, 2, rfl⟩

set_option maxHeartbeats 3200000 in
set_option maxRecDepth 100000 in
theorem s43_rest (br : Nat) (mul : Int) (B bk0 bk1 bp bs : Nat) (a0 a1 : Option Addr) (l0 c0 l1 c1 : Nat) (s0 s1 : List ByteArray) (d0 d1 x y : Int) (w : World)
    (hr0 : Row B w a0 l0 s0) (hk0 : w.cell? ⟨bk0, 0, none⟩ = some (.slice a0 l0 c0)) (hr1 : Row B w a1 l1 s1) (hk1 : w.cell? ⟨bk1, 0, none⟩ = some (.slice a1 l1 c1)) (hP : PairAt w bp bs (.func (.func 23) #[] #[.pointer (some ⟨bk0, 0, none⟩)]) (.func (.func 24) #[] #[.pointer (some ⟨bk1, 0, none⟩)]) d0 d1 (.func (.func 25) #[] #[.pointer (some ⟨br, 0, none⟩)]))
    (hne : (cmpS (atS s0 l0 x) (atS s0 l0 y) != 0) = false) (hne1 : (cmpS (atS s1 l1 x) (atS s1 l1 y) != 0) = false) (hmul : w.cell? ⟨br, 0, none⟩ = some (.int .i64 mul)) :
    Calls Yba.prog 43 #[.int .i64 x, .int .i64 y, .pointer (some ⟨bp, 0, none⟩)] w fun e w' => e = .returned (.int .i64 (wrap64 (mul * wrap64 (x - y)))) ∧ ∃ n, w' = w.drewN n := by
  have q3 := eqf29
  have q4 := eqn29
  have HR0 : Hid (Row B w.drew a0 l0 s0) := hr0
  have HR1 : Hid (Row B w.drew.drew a1 l1 s1) := hr1
  have HK0 : Hid (w.drew.cell? ⟨bk0, 0, none⟩ = some (.slice a0 l0 c0)) := hk0
  have HK1 : Hid (w.drew.drew.cell? ⟨bk1, 0, none⟩ = some (.slice a1 l1 c1)) := hk1
  have g0 := hP.p
  have g1 := hP.f0
  have g2 := hP.f1
  have g3 := hP.f2
  have g4 := hP.f3
  have g5 := hP.f4
  clear hr0 hr1 hP hk0 hk1
  go_enter Yba.func43, Yba.ntmps43
  go_wp2
  go_region_held3 (fun w' => w'.cell? ⟨bp, 0, none⟩ = some (.pointer (some ⟨bs, 0, none⟩)) ∧ w'.cell? ⟨bs, 0, none⟩ = some (.func (.func 23) #[] #[.pointer (some ⟨bk0, 0, none⟩)])) (go_keep) (first
    | (go_at_call 23; refine (skey0_any B bk0 _ _ _ s0 _ w.drew HR0.out HK0.out).mono ?_; rintro e w1 ⟨rfl, rfl⟩)
    | (go_at_call 44; refine (compareStr_any _ _ _).mono ?_; rintro e w1 ⟨rfl, rfl⟩))
  go_wp2
  go_region_held3 (fun w' => w'.cell? ⟨bp, 0, none⟩ = some (.pointer (some ⟨bs, 0, none⟩)) ∧ w'.cell? ⟨bs, 1, none⟩ = some (.func (.func 24) #[] #[.pointer (some ⟨bk1, 0, none⟩)])) (go_keep) (first
    | (go_at_call 24; refine (skey1_any B bk1 _ _ _ s1 _ w.drew.drew HR1.out HK1.out).mono ?_; rintro e w1 ⟨rfl, rfl⟩)
    | (go_at_call 44; refine (compareStr_any _ _ _).mono ?_; rintro e w1 ⟨rfl, rfl⟩))
  go_wp2_with (go_at_call 25; refine (srest_any br mul x y w.drew.drew hmul).mono ?_; rintro e w6 ⟨rfl, rfl⟩)
  go_ret
  exact ⟨rfl, 2, rfl⟩

theorem s43_none_any (B bk0 bk1 bp bs : Nat) (a0 a1 : Option Addr) (l0 c0 l1 c1 : Nat) (s0 s1 : List ByteArray) (d0 d1 x y : Int) (w : World)
    (hr0 : Row B w a0 l0 s0) (hk0 : w.cell? ⟨bk0, 0, none⟩ = some (.slice a0 l0 c0)) (hr1 : Row B w a1 l1 s1) (hk1 : w.cell? ⟨bk1, 0, none⟩ = some (.slice a1 l1 c1)) (hP : PairAt w bp bs (.func (.func 23) #[] #[.pointer (some ⟨bk0, 0, none⟩)]) (.func (.func 24) #[] #[.pointer (some ⟨bk1, 0, none⟩)]) d0 d1 .nilFunc) :
    Calls Yba.prog 43 #[.int .i64 x, .int .i64 y, .pointer (some ⟨bp, 0, none⟩)] w fun e w' => e = .returned (.int .i64 (answer s0 s1 l0 l1 d0 d1 none x y)) ∧ ∃ n, w' = w.drewN n := by
  unfold answer
  cases e0 : (cmpS (atS s0 l0 x) (atS s0 l0 y) != 0)
  case true => rw [if_pos rfl]; exact s43_first B bk0 bk1 bp bs a0 a1 l0 c0 l1 c1 s0 s1 d0 d1 x y _ w hr0 hk0 hr1 hk1 hP e0
  case false =>
    rw [if_neg (by decide)]
    cases e1 : (cmpS (atS s1 l1 x) (atS s1 l1 y) != 0)
    case true => rw [if_pos rfl]; exact s43_second B bk0 bk1 bp bs a0 a1 l0 c0 l1 c1 s0 s1 d0 d1 x y _ w hr0 hk0 hr1 hk1 hP e0 e1
    case false => rw [if_neg (by decide)]; exact s43_none B bk0 bk1 bp bs a0 a1 l0 c0 l1 c1 s0 s1 d0 d1 x y w hr0 hk0 hr1 hk1 hP e0 e1

theorem s43_rest_any (br : Nat) (mul : Int) (B bk0 bk1 bp bs : Nat) (a0 a1 : Option Addr) (l0 c0 l1 c1 : Nat) (s0 s1 : List ByteArray) (d0 d1 x y : Int) (w : World)
    (hr0 : Row B w a0 l0 s0) (hk0 : w.cell? ⟨bk0, 0, none⟩ = some (.slice a0 l0 c0)) (hr1 : Row B w a1 l1 s1) (hk1 : w.cell? ⟨bk1, 0, none⟩ = some (.slice a1 l1 c1)) (hP : PairAt w bp bs (.func (.func 23) #[] #[.pointer (some ⟨bk0, 0, none⟩)]) (.func (.func 24) #[] #[.pointer (some ⟨bk1, 0, none⟩)]) d0 d1 (.func (.func 25) #[] #[.pointer (some ⟨br, 0, none⟩)]))
    (hmul : w.cell? ⟨br, 0, none⟩ = some (.int .i64 mul)) :
    Calls Yba.prog 43 #[.int .i64 x, .int .i64 y, .pointer (some ⟨bp, 0, none⟩)] w fun e w' => e = .returned (.int .i64 (answer s0 s1 l0 l1 d0 d1 (some mul) x y)) ∧ ∃ n, w' = w.drewN n := by
  unfold answer
  cases e0 : (cmpS (atS s0 l0 x) (atS s0 l0 y) != 0)
  case true => rw [if_pos rfl]; exact s43_first B bk0 bk1 bp bs a0 a1 l0 c0 l1 c1 s0 s1 d0 d1 x y _ w hr0 hk0 hr1 hk1 hP e0
  case false =>
    rw [if_neg (by decide)]
    cases e1 : (cmpS (atS s1 l1 x) (atS s1 l1 y) != 0)
    case true => rw [if_pos rfl]; exact s43_second B bk0 bk1 bp bs a0 a1 l0 c0 l1 c1 s0 s1 d0 d1 x y _ w hr0 hk0 hr1 hk1 hP e0 e1
    case false => rw [if_neg (by decide)]; exact s43_rest br mul B bk0 bk1 bp bs a0 a1 l0 c0 l1 c1 s0 s1 d0 d1 x y w hr0 hk0 hr1 hk1 hP e0 e1 hmul

end Go.Proofs.Ybulkbfjm.lawS2820BSibling
