/-
  stringPairThen[int]$1 (41) over the counting closures of LawS2820BModel.
-/
import Derived.Test.YbulkbfjmBat
import Derived.Deep.RegionHeld3
namespace Go.Proofs.Ybulkbfjm
open Go.RowKit
set_option linter.unusedVariables false

theorem hide {p : Prop} (h : p) : Hid p := h

theorem eqf29 (fn : Fn) (first cap : Array Value) (w : World) : (binOp .eql 29 (.func fn first cap) .nilFunc).run Yba.prog w = .ok (.bool false) w := by rfl
theorem eqn29 (w : World) : (binOp .eql 29 .nilFunc .nilFunc).run Yba.prog w = .ok (.bool true) w := by rfl

/-- The variable p in block bp points to an orderedPair in block bs. -/
structure PairAt (w : World) (bp bs : Nat) (k0 k1 : Value) (d0 d1 : Int) (r : Value) : Prop where
  p : w.cell? ⟨bp, 0, none⟩ = some (.pointer (some ⟨bs, 0, none⟩))
  f0 : w.cell? ⟨bs, 0, none⟩ = some k0
  f1 : w.cell? ⟨bs, 1, none⟩ = some k1
  f2 : w.cell? ⟨bs, 2, none⟩ = some (.int .i64 d0)
  f3 : w.cell? ⟨bs, 3, none⟩ = some (.int .i64 d1)
  f4 : w.cell? ⟨bs, 4, none⟩ = some r

theorem PairAt.kept {w0 w : World} {b bp bs : Nat} {n0 n1 nr ra rb : Int} {k0 k1 : Value} {d0 d1 : Int} {r : Value} (h : PairAt w0 bp bs k0 k1 d0 d1 r) (hc : Cnt w0 b n0 n1 nr ra rb w) (hp : b + 4 < bp) (hs : b + 4 < bs) : PairAt w bp bs k0 k1 d0 d1 r :=
  ⟨hc.cell (.inr hp) h.p, hc.cell (.inr hs) h.f0, hc.cell (.inr hs) h.f1, hc.cell (.inr hs) h.f2, hc.cell (.inr hs) h.f3, hc.cell (.inr hs) h.f4⟩

theorem le01 : (0 : Int) ≤ 0 ∧ (0 : Int) ≤ 10 := by omega
theorem le11 : (0 : Int) ≤ 0 + 1 ∧ (0 : Int) + 1 ≤ 10 := by omega

set_option maxHeartbeats 1600000 in
set_option maxRecDepth 100000 in
theorem m41_first (b bk0 bk1 bp bs : Nat) (a0 a1 : Option Addr) (l0 c0 l1 c1 : Nat) (s0 s1 : List ByteArray) (d0 d1 x y : Int) (r : Value) (w : World) (h0 : bk0 < b) (hp : b + 4 < bp) (hs : b + 4 < bs)
    (hr0 : Row b w a0 l0 s0) (hk0 : w.cell? ⟨bk0, 0, none⟩ = some (.slice a0 l0 c0)) (hC : Cnt w b 0 0 0 (-1) (-1) w)
    (hP : PairAt w bp bs (.func (.func 17) #[] #[.pointer (some ⟨b, 0, none⟩), .pointer (some ⟨bk0, 0, none⟩)]) (.func (.func 19) #[] #[.pointer (some ⟨b + 1, 0, none⟩), .pointer (some ⟨bk1, 0, none⟩)]) d0 d1 r)
    (hne : (cmpS (atS s0 l0 x) (atS s0 l0 y) != 0) = true) :
    Calls Yba.prog 41 #[.int .i64 x, .int .i64 y, .pointer (some ⟨bp, 0, none⟩)] w fun e w' => e = .returned (.int .i64 (wrap64 (d0 * cmpS (atS s0 l0 x) (atS s0 l0 y)))) ∧ Cnt w b 2 0 0 (-1) (-1) w' := by
  have HC : Hid (Cnt w b 0 0 0 (-1) (-1) w.drew) := hide hC.drew
  have HR := hide hr0
  have HP := hide hP
  have g0 := hP.p
  have g1 := hP.f0
  clear hC hr0 hP
  go_enter Yba.func41, Yba.ntmps41
  go_wp2
  go_region_held3 (fun w' => w'.cell? ⟨bp, 0, none⟩ = some (.pointer (some ⟨bs, 0, none⟩)) ∧ w'.cell? ⟨bs, 0, none⟩ = some (.func (.func 17) #[] #[.pointer (some ⟨b, 0, none⟩), .pointer (some ⟨bk0, 0, none⟩)])) (go_keep) (first
    | (go_at_call_of 17 (Value.int .i64 x); refine (mkey0_any w b bk0 _ _ _ _ _ _ _ _ s0 x _ h0 le01 HR.out hk0 HC.out).mono ?_; rintro e w1 ⟨rfl, C1⟩; have P1 := HP.out.kept C1 hp hs; have cp1 := P1.p; have cf1 := P1.f0; have HC1 := hide C1; clear C1 P1)
    | (go_at_call_of 17 (Value.int .i64 y); refine (mkey0_any w b bk0 _ _ _ _ _ _ _ _ s0 y _ h0 le11 HR.out hk0 HC1.out).mono ?_; rintro e w2 ⟨rfl, C2⟩; have P2 := HP.out.kept C2 hp hs; have cp2 := P2.p; have cf2 := P2.f0; have cg2 := P2.f2; have HC2 := hide C2; clear C2 P2)
    | (go_at_call 42; refine (compare_any _ _ _).mono ?_; rintro e w3 ⟨rfl, rfl⟩))
  go_wp2
  go_ret
  exact ⟨rfl, HC2.out⟩

/-- The closure 'rest' of LawS2820BModel. -/
theorem mrest_any (w0 : World) (b br : Nat) (n0 n1 nr ra rb ans x y : Int) (w : World) (hbr : br < b) (hn : 0 ≤ nr ∧ nr ≤ 10) (hk : w0.cell? ⟨br, 0, none⟩ = some (.int .i64 ans)) (h : Cnt w0 b n0 n1 nr ra rb w) :
    Calls Yba.prog 20 #[.int .i64 x, .int .i64 y, .pointer (some ⟨b + 1 + 1, 0, none⟩), .pointer (some ⟨b + 1 + 1 + 1, 0, none⟩), .pointer (some ⟨b + 1 + 1 + 1 + 1, 0, none⟩), .pointer (some ⟨br, 0, none⟩)] w fun e w' =>
      e = .returned (.int .i64 ans) ∧ Cnt w0 b n0 n1 (nr + 1) x y w' := by
  obtain ⟨hn0, hn1⟩ := hn
  have q0 := cell_of_one h.cr
  have e0 := free_of_one h.cr
  have C1 := h.set2 (nr + 1)
  have e1 := free_of_one C1.ca
  have q1 := cell_of_one C1.ca
  have C2 := C1.set3 x
  have e2 := free_of_one C2.cb
  have q2 := cell_of_one C2.cb
  have C3 := C2.set4 y
  have q3 := C3.cell (.inl hbr) hk
  have H3 := hide C3
  clear C1 C2 C3 h hk
  go_enter Yba.func20, Yba.ntmps20
  go_wp2
  go_ret
  exact ⟨rfl, H3.out⟩

set_option maxHeartbeats 3200000 in
set_option maxRecDepth 100000 in
theorem m41_second (b bk0 bk1 bp bs : Nat) (a0 a1 : Option Addr) (l0 c0 l1 c1 : Nat) (s0 s1 : List ByteArray) (d0 d1 x y : Int) (r : Value) (w : World) (h0 : bk0 < b) (h1 : bk1 < b) (hp : b + 4 < bp) (hs : b + 4 < bs)
    (hr0 : Row b w a0 l0 s0) (hk0 : w.cell? ⟨bk0, 0, none⟩ = some (.slice a0 l0 c0)) (hr1 : Row b w a1 l1 s1) (hk1 : w.cell? ⟨bk1, 0, none⟩ = some (.slice a1 l1 c1)) (hC : Cnt w b 0 0 0 (-1) (-1) w)
    (hP : PairAt w bp bs (.func (.func 17) #[] #[.pointer (some ⟨b, 0, none⟩), .pointer (some ⟨bk0, 0, none⟩)]) (.func (.func 19) #[] #[.pointer (some ⟨b + 1, 0, none⟩), .pointer (some ⟨bk1, 0, none⟩)]) d0 d1 r)
    (hne : (cmpS (atS s0 l0 x) (atS s0 l0 y) != 0) = false) (hz : cmpS (atS s0 l0 x) (atS s0 l0 y) = 0)
    (hne1 : (cmpS (atS s1 l1 x) (atS s1 l1 y) != 0) = true) :
    Calls Yba.prog 41 #[.int .i64 x, .int .i64 y, .pointer (some ⟨bp, 0, none⟩)] w fun e w' => e = .returned (.int .i64 (wrap64 (d1 * cmpS (atS s1 l1 x) (atS s1 l1 y)))) ∧ Cnt w b 2 2 0 (-1) (-1) w' := by
  have HC : Hid (Cnt w b 0 0 0 (-1) (-1) w.drew) := hide hC.drew
  have HR := hide hr0
  have HR1 := hide hr1
  have HP := hide hP
  have HZ := hide hz
  have g0 := hP.p
  have g1 := hP.f0
  clear hC hr0 hr1 hP hz
  go_enter Yba.func41, Yba.ntmps41
  go_wp2
  go_region_held3 (fun w' => w'.cell? ⟨bp, 0, none⟩ = some (.pointer (some ⟨bs, 0, none⟩)) ∧ w'.cell? ⟨bs, 0, none⟩ = some (.func (.func 17) #[] #[.pointer (some ⟨b, 0, none⟩), .pointer (some ⟨bk0, 0, none⟩)])) (go_keep) (first
    | (go_at_call_of 17 (Value.int .i64 x); refine (mkey0_any w b bk0 _ _ _ _ _ _ _ _ s0 x _ h0 le01 HR.out hk0 HC.out).mono ?_; rintro e w1 ⟨rfl, C1⟩; have P1 := HP.out.kept C1 hp hs; have cp1 := P1.p; have cf1 := P1.f0; have HC1 := hide C1; clear C1 P1)
    | (go_at_call_of 17 (Value.int .i64 y); refine (mkey0_any w b bk0 _ _ _ _ _ _ _ _ s0 y _ h0 le11 HR.out hk0 HC1.out).mono ?_; rintro e w2 ⟨rfl, C2⟩; have P2 := HP.out.kept C2 hp hs; have cp2 := P2.p; have cf2 := P2.f0; have cg2 := P2.f1; have HC2 := hide C2; have HC2d := hide C2.drew; clear C2 P2)
    | (go_at_call 42; refine (compare_any _ _ _).mono ?_; rintro e w3 ⟨rfl, rfl⟩))
  go_wp2
  go_region_held3 (fun w' => w'.cell? ⟨bp, 0, none⟩ = some (.pointer (some ⟨bs, 0, none⟩)) ∧ w'.cell? ⟨bs, 1, none⟩ = some (.func (.func 19) #[] #[.pointer (some ⟨b + 1, 0, none⟩), .pointer (some ⟨bk1, 0, none⟩)])) (go_keep) (first
    | (go_at_call_of 19 (Value.int .i64 x); refine (mkey1_any w b bk1 _ _ _ _ _ _ _ _ s1 x _ h1 le01 HR1.out hk1 HC2d.out).mono ?_; rintro e w3 ⟨rfl, C3⟩; have P3 := HP.out.kept C3 hp hs; have cp3 := P3.p; have cf3 := P3.f1; have HC3 := hide C3; clear C3 P3)
    | (go_at_call_of 19 (Value.int .i64 y); refine (mkey1_any w b bk1 _ _ _ _ _ _ _ _ s1 y _ h1 le11 HR1.out hk1 HC3.out).mono ?_; rintro e w4 ⟨rfl, C4⟩; have P4 := HP.out.kept C4 hp hs; have cp4 := P4.p; have cf4 := P4.f1; have cd4 := P4.f3; have cr4 := P4.f4; have HC4 := hide C4; clear C4 P4)
    | (go_at_call 42; refine (compare_any _ _ _).mono ?_; rintro e w5 ⟨rfl, rfl⟩))
  go_wp2
  go_ret
  exact ⟨rfl, HC4.out⟩

set_option maxHeartbeats 3200000 in
set_option maxRecDepth 100000 in
theorem m41_none (b bk0 bk1 bp bs : Nat) (a0 a1 : Option Addr) (l0 c0 l1 c1 : Nat) (s0 s1 : List ByteArray) (d0 d1 x y : Int) (w : World) (h0 : bk0 < b) (h1 : bk1 < b) (hp : b + 4 < bp) (hs : b + 4 < bs)
    (hr0 : Row b w a0 l0 s0) (hk0 : w.cell? ⟨bk0, 0, none⟩ = some (.slice a0 l0 c0)) (hr1 : Row b w a1 l1 s1) (hk1 : w.cell? ⟨bk1, 0, none⟩ = some (.slice a1 l1 c1)) (hC : Cnt w b 0 0 0 (-1) (-1) w)
    (hP : PairAt w bp bs (.func (.func 17) #[] #[.pointer (some ⟨b, 0, none⟩), .pointer (some ⟨bk0, 0, none⟩)]) (.func (.func 19) #[] #[.pointer (some ⟨b + 1, 0, none⟩), .pointer (some ⟨bk1, 0, none⟩)]) d0 d1 .nilFunc)
    (hne : (cmpS (atS s0 l0 x) (atS s0 l0 y) != 0) = false) (hz : cmpS (atS s0 l0 x) (atS s0 l0 y) = 0)
    (hne1 : (cmpS (atS s1 l1 x) (atS s1 l1 y) != 0) = false) :
    Calls Yba.prog 41 #[.int .i64 x, .int .i64 y, .pointer (some ⟨bp, 0, none⟩)] w fun e w' => e = .returned (.int .i64 (wrap64 (d1 * cmpS (atS s1 l1 x) (atS s1 l1 y)))) ∧ Cnt w b 2 2 0 (-1) (-1) w' := by
  have q4 := eqn29
  have HC : Hid (Cnt w b 0 0 0 (-1) (-1) w.drew) := hide hC.drew
  have HR := hide hr0
  have HR1 := hide hr1
  have HP := hide hP
  have HZ := hide hz
  have g0 := hP.p
  have g1 := hP.f0
  clear hC hr0 hr1 hP hz
  go_enter Yba.func41, Yba.ntmps41
  go_wp2
  go_region_held3 (fun w' => w'.cell? ⟨bp, 0, none⟩ = some (.pointer (some ⟨bs, 0, none⟩)) ∧ w'.cell? ⟨bs, 0, none⟩ = some (.func (.func 17) #[] #[.pointer (some ⟨b, 0, none⟩), .pointer (some ⟨bk0, 0, none⟩)])) (go_keep) (first
    | (go_at_call_of 17 (Value.int .i64 x); refine (mkey0_any w b bk0 _ _ _ _ _ _ _ _ s0 x _ h0 le01 HR.out hk0 HC.out).mono ?_; rintro e w1 ⟨rfl, C1⟩; have P1 := HP.out.kept C1 hp hs; have cp1 := P1.p; have cf1 := P1.f0; have HC1 := hide C1; clear C1 P1)
    | (go_at_call_of 17 (Value.int .i64 y); refine (mkey0_any w b bk0 _ _ _ _ _ _ _ _ s0 y _ h0 le11 HR.out hk0 HC1.out).mono ?_; rintro e w2 ⟨rfl, C2⟩; have P2 := HP.out.kept C2 hp hs; have cp2 := P2.p; have cf2 := P2.f0; have cg2 := P2.f1; have HC2 := hide C2; have HC2d := hide C2.drew; clear C2 P2)
    | (go_at_call 42; refine (compare_any _ _ _).mono ?_; rintro e w3 ⟨rfl, rfl⟩))
  go_wp2
  go_region_held3 (fun w' => w'.cell? ⟨bp, 0, none⟩ = some (.pointer (some ⟨bs, 0, none⟩)) ∧ w'.cell? ⟨bs, 1, none⟩ = some (.func (.func 19) #[] #[.pointer (some ⟨b + 1, 0, none⟩), .pointer (some ⟨bk1, 0, none⟩)])) (go_keep) (first
    | (go_at_call_of 19 (Value.int .i64 x); refine (mkey1_any w b bk1 _ _ _ _ _ _ _ _ s1 x _ h1 le01 HR1.out hk1 HC2d.out).mono ?_; rintro e w3 ⟨rfl, C3⟩; have P3 := HP.out.kept C3 hp hs; have cp3 := P3.p; have cf3 := P3.f1; have HC3 := hide C3; clear C3 P3)
    | (go_at_call_of 19 (Value.int .i64 y); refine (mkey1_any w b bk1 _ _ _ _ _ _ _ _ s1 y _ h1 le11 HR1.out hk1 HC3.out).mono ?_; rintro e w4 ⟨rfl, C4⟩; have P4 := HP.out.kept C4 hp hs; have cp4 := P4.p; have cf4 := P4.f1; have cd4 := P4.f3; have cr4 := P4.f4; have HC4 := hide C4; clear C4 P4)
    | (go_at_call 42; refine (compare_any _ _ _).mono ?_; rintro e w5 ⟨rfl, rfl⟩))
  go_wp2
  go_ret
  exact ⟨rfl, HC4.out⟩

set_option maxHeartbeats 3200000 in
set_option maxRecDepth 100000 in
theorem m41_rest (br : Nat) (ans : Int) (b bk0 bk1 bp bs : Nat) (a0 a1 : Option Addr) (l0 c0 l1 c1 : Nat) (s0 s1 : List ByteArray) (d0 d1 x y : Int) (w : World) (h0 : bk0 < b) (h1 : bk1 < b) (hp : b + 4 < bp) (hs : b + 4 < bs)
    (hr0 : Row b w a0 l0 s0) (hk0 : w.cell? ⟨bk0, 0, none⟩ = some (.slice a0 l0 c0)) (hr1 : Row b w a1 l1 s1) (hk1 : w.cell? ⟨bk1, 0, none⟩ = some (.slice a1 l1 c1)) (hC : Cnt w b 0 0 0 (-1) (-1) w)
    (hP : PairAt w bp bs (.func (.func 17) #[] #[.pointer (some ⟨b, 0, none⟩), .pointer (some ⟨bk0, 0, none⟩)]) (.func (.func 19) #[] #[.pointer (some ⟨b + 1, 0, none⟩), .pointer (some ⟨bk1, 0, none⟩)]) d0 d1 (.func (.func 20) #[] #[.pointer (some ⟨b + 1 + 1, 0, none⟩), .pointer (some ⟨b + 1 + 1 + 1, 0, none⟩), .pointer (some ⟨b + 1 + 1 + 1 + 1, 0, none⟩), .pointer (some ⟨br, 0, none⟩)]))
    (hne : (cmpS (atS s0 l0 x) (atS s0 l0 y) != 0) = false) (hz : cmpS (atS s0 l0 x) (atS s0 l0 y) = 0)
    (hne1 : (cmpS (atS s1 l1 x) (atS s1 l1 y) != 0) = false) (hbr : br < b) (hans : w.cell? ⟨br, 0, none⟩ = some (.int .i64 ans)) :
    Calls Yba.prog 41 #[.int .i64 x, .int .i64 y, .pointer (some ⟨bp, 0, none⟩)] w fun e w' => e = .returned (.int .i64 ans) ∧ Cnt w b 2 2 1 x y w' := by
  have q4 := eqf29
  have HC : Hid (Cnt w b 0 0 0 (-1) (-1) w.drew) := hide hC.drew
  have HR := hide hr0
  have HR1 := hide hr1
  have HP := hide hP
  have HZ := hide hz
  have g0 := hP.p
  have g1 := hP.f0
  clear hC hr0 hr1 hP hz
  go_enter Yba.func41, Yba.ntmps41
  go_wp2
  go_region_held3 (fun w' => w'.cell? ⟨bp, 0, none⟩ = some (.pointer (some ⟨bs, 0, none⟩)) ∧ w'.cell? ⟨bs, 0, none⟩ = some (.func (.func 17) #[] #[.pointer (some ⟨b, 0, none⟩), .pointer (some ⟨bk0, 0, none⟩)])) (go_keep) (first
    | (go_at_call_of 17 (Value.int .i64 x); refine (mkey0_any w b bk0 _ _ _ _ _ _ _ _ s0 x _ h0 le01 HR.out hk0 HC.out).mono ?_; rintro e w1 ⟨rfl, C1⟩; have P1 := HP.out.kept C1 hp hs; have cp1 := P1.p; have cf1 := P1.f0; have HC1 := hide C1; clear C1 P1)
    | (go_at_call_of 17 (Value.int .i64 y); refine (mkey0_any w b bk0 _ _ _ _ _ _ _ _ s0 y _ h0 le11 HR.out hk0 HC1.out).mono ?_; rintro e w2 ⟨rfl, C2⟩; have P2 := HP.out.kept C2 hp hs; have cp2 := P2.p; have cf2 := P2.f0; have cg2 := P2.f1; have HC2 := hide C2; have HC2d := hide C2.drew; clear C2 P2)
    | (go_at_call 42; refine (compare_any _ _ _).mono ?_; rintro e w3 ⟨rfl, rfl⟩))
  go_wp2
  go_region_held3 (fun w' => w'.cell? ⟨bp, 0, none⟩ = some (.pointer (some ⟨bs, 0, none⟩)) ∧ w'.cell? ⟨bs, 1, none⟩ = some (.func (.func 19) #[] #[.pointer (some ⟨b + 1, 0, none⟩), .pointer (some ⟨bk1, 0, none⟩)])) (go_keep) (first
    | (go_at_call_of 19 (Value.int .i64 x); refine (mkey1_any w b bk1 _ _ _ _ _ _ _ _ s1 x _ h1 le01 HR1.out hk1 HC2d.out).mono ?_; rintro e w3 ⟨rfl, C3⟩; have P3 := HP.out.kept C3 hp hs; have cp3 := P3.p; have cf3 := P3.f1; have HC3 := hide C3; clear C3 P3)
    | (go_at_call_of 19 (Value.int .i64 y); refine (mkey1_any w b bk1 _ _ _ _ _ _ _ _ s1 y _ h1 le11 HR1.out hk1 HC3.out).mono ?_; rintro e w4 ⟨rfl, C4⟩; have P4 := HP.out.kept C4 hp hs; have cp4 := P4.p; have cf4 := P4.f1; have cd4 := P4.f3; have cr4 := P4.f4; have HC4 := hide C4; clear C4 P4)
    | (go_at_call 42; refine (compare_any _ _ _).mono ?_; rintro e w5 ⟨rfl, rfl⟩))
  go_wp2_with (go_at_call 20; refine (mrest_any w b br _ _ _ _ _ ans x y _ hbr le01 hans HC4.out).mono ?_; rintro e w6 ⟨rfl, C6⟩)
  go_ret
  exact ⟨rfl, C6⟩

end Go.Proofs.Ybulkbfjm
