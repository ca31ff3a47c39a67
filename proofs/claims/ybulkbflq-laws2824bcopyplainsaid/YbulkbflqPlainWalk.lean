/-
  LawS2824BCopyPlain (3): the walk.
-/
import Derived.Test.YbulkbflqWant
import Derived.Test.YbulkbflqCheck
namespace Go.Proofs.Ybulkbflq.lawS2824BCopyPlain
open Go.RowKit
set_option linter.unusedVariables false

set_option maxHeartbeats 6400000 in
set_option maxRecDepth 100000 in
theorem walk (a : Option Addr) (n cap : Nat) (its : Nat → Item) (w : World) (hm : n ≤ maxLen) (hI : Items w.heap.size w a n its) (hS : ∀ i, i < n → (its i).sl ≤ maxLen) :
    Calls Yba.prog 3 #[.slice a n cap] w fun e w' => e = .returned (.bool true) ∧ Below w.heap.size w w' := by
  have HI := hide hI
  have HS := hide hS
  clear hI hS
  go_enter Yba.func3, Yba.ntmps3
  go_wp2_with fail
  refine (big_any a n cap its w hm HI.out HS.out).mono ?_
  rintro e w1 ⟨⟨rfl, hsm⟩ | rfl, hb1⟩
  case inr =>
    have HB1 := hide hb1
    clear hb1
    go_wp2
    go_ret
    exact ⟨rfl, HB1.out⟩
  case inl =>
    obtain ⟨hn, hsl⟩ := hsm
    have hs1 := hb1.size
    have hI1 : Items w1.heap.size w1 a n its := (HI.out.kept hb1.block).up hs1
    have HI1 := hide hI1
    have HB1 := hide hb1
    have HSL := hide hsl
    clear hI1 hb1 hsl
    go_wp2_with fail
    refine (build_any a n cap its w1 hn HI1.out HSL.out).mono ?_
    rintro e Wt ⟨rfl, hT⟩
    obtain ⟨v, hv1, hv2, hv3⟩ := root_plain w1 n its hn HSL.out Wt hT
    have hcop : Cop (Wt.alloc (.cells #[.int .i64 0, .nilFunc] 29)) Wt.heap.size 0 .nilFunc := heap_alloc_new _ _
    have hcall := hv3 (Wt.alloc (.cells #[.int .i64 0, .nilFunc] 29)) (fun k hk => Below.heap_alloc _ _ _ hk) hcop
    have HCall := hide hcall
    have HT := hide hT
    have HV := hide (And.intro hv1 hv2)
    clear hcall hT hv1 hv2 hv3 hcop
    go_wp2_with fail
    refine HCall.out.mono ?_
    rintro e w2 ⟨rfl, hL⟩
    have eW : (Wt.alloc (.cells #[.int .i64 0, .nilFunc] 29)).heap.size = Wt.heap.size + 1 := by simp
    have hT := HT.out
    have hTs := hT.size
    have hbt := HB1.out.trans (hT.below.mono hs1)
    have hst : ∀ k, k < Wt.heap.size → w2.heap[k]? = Wt.heap[k]? := fun k hk => (hL.step.block k (by rw [eW]; omega) (by omega)).trans (Below.heap_alloc _ _ _ hk)
    have hsz2 : Wt.heap.size + 1 + 1 + 1 ≤ w2.heap.size := by have := hL.size; rw [eW] at this; exact this
    have hb2 : Below w.heap.size w w2 := hbt.trans ⟨hL.step.os, hL.step.tape, hL.step.output, by omega, fun k hk => hst k (by omega)⟩
    have hnew := hL.new
    have hrow := hL.row
    have hcop2 := hL.cop
    rw [eW] at hnew hrow
    obtain ⟨cur, hc1, hc2, hc3⟩ := hrow
    obtain ⟨⟨ro, ro1, ro2, ro3⟩, hO⟩ := HV.out
    have hrt := lt_of_block hT.root
    have hrw := lt_of_block ro1
    have hchk := check_any w.heap.size (Wt.heap.size + 1 + 1 + 1) (w1.heap.size + 1 + 1) (w1.heap.size + 1) w1.heap.size (Wt.heap.size + 1 + 1) (Wt.heap.size + 1) a n cap its v Wt w2 hn HSL.out hb2.size (HI.out.kept hb2.block) (by omega)
      ((hst _ hrt).trans hT.root) hnew ⟨ro, (hst _ hrw).trans ro1, ro2, ro3⟩ ⟨cur, hc1, hc2, hc3⟩ hO (by omega) hst
    have HChk := hide hchk
    have HB2 := hide hb2
    have HCop := hide hcop2
    clear eW hT hbt hst hnew hcop2 hc1 hc2 hc3 ro1 ro2 ro3 hO hchk hb2 hL
    go_wp2_with fail
    refine HChk.out.mono ?_
    rintro e w3 ⟨rfl, hb3⟩
    have hb23 : Below w.heap.size w w3 := HB2.out.trans (hb3.mono HB2.out.size)
    have hcop3 : Cop w3 Wt.heap.size (wrap64 (0 + 1 + total (fun i => itemSize (its i)) n)) .nilFunc := (hb3.block _ (by omega)).trans HCop.out
    have hs3 := hb3.size
    have HB3 := hide hb23
    have HCop3 := hide hcop3
    have hn' : (n : Int) ≤ 300 := by omega
    clear hb3 hb23 hcop3
    go_wp2
    go_loopw [6, 28] (fun x i wr => ∃ k : Nat, k ≤ n ∧ i = .int .i64 k ∧ x = .int .i64 (wrap64 (want its k)) ∧ Below w3.heap.size w3 wr) (fun _ i _ => n - (intOf i).toNat)
    case atStart => exact ⟨0, Nat.zero_le _, rfl, by rw [show wrap64 (want its 0) = 1 from by simp [want, total, wrap64]], Below.refl _ _⟩
    case round =>
      obtain ⟨k, hk, rfl, rfl, hBel⟩ := hrel
      by_cases hkl : k < n
      · have hkl' : (k : Int) < (n : Int) := by omega
        have hsz := hBel.size
        have hs0 := HB3.out.size
        obtain ⟨b, off, rfl, hb, h1, h2, h3, hrow, hk0, hk1⟩ := (HI.out.kept (fun j hj => (hBel.block j (by omega)).trans (HB3.out.block j hj))) k hkl
        have hw0 := fun h => want_0 (its := its) (k := k) h
        have hw1 := fun h => want_1 (its := its) (k := k) h
        have hw2 := fun h0 h1 => want_2 (its := its) (k := k) h0 h1
        have HSk := hide (HSL.out k hkl)
        generalize hit : its k = it at *
        obtain ⟨kind, text, sa, sl, sc, ss⟩ := it
        simp only at h1 h2 h3 hk0 hk1 hw0 hw1 hw2
        obtain ⟨wk, hwk⟩ : ∃ wk, wk = want its k := ⟨_, rfl⟩
        rw [← hwk] at hw0 hw1 hw2 ⊢
        have HW0 := hide hw0
        have HW1 := hide hw1
        have HW2 := hide hw2
        have HRow := hide (hrow.kept (w' := wr.alloc (.cells #[.int .u8 kind, .string text, .slice sa sl sc] 36)) (fun j hj => Below.heap_alloc _ _ _ (by omega)))
        have HB := hide (hBel.alloc hsz (.cells #[.int .u8 kind, .string text, .slice sa sl sc] 36))
        clear hBel hrow hit hw0 hw1 hw2 hwk
        have hkk : kind % 4 = 0 ∨ kind % 4 = 1 ∨ (¬ kind % 4 = 0 ∧ ¬ kind % 4 = 1) := by omega
        rcases hkk with hkk | hkk | ⟨hkk, hkk1⟩
        · have t0 : (kind % 4 == 0) = true := by simp [hkk]
          have HK := hide (HW0.out hkk)
          clear hkk
          go_wp2
          go_roundw
          case rel => exact ⟨k + 1, by omega, by go_num, by rw [HK.out]; first | rfl | (rw [wrap_add, wrap_add']), HB.out⟩
          case measure => simp [intOf]; omega
        · have t0 : (kind % 4 == 0) = false := by simp [hkk]
          have t1 : (kind % 4 == 1) = true := by simp [hkk]
          have HK := hide (HW1.out hkk)
          clear hkk
          go_wp2
          go_roundw
          case rel => exact ⟨k + 1, by omega, by go_num, by rw [HK.out]; first | rfl | (rw [wrap_add]), HB.out⟩
          case measure => simp [intOf]; omega
        · have t0 : (kind % 4 == 0) = false := by simp [hkk]
          have t1 : (kind % 4 == 1) = false := by simp [hkk1]
          have HK := hide (HW2.out hkk hkk1)
          clear hkk hkk1
          have hsl' : (sl : Int) ≤ 300 := by have h300 : sl ≤ 300 := HSk.out; omega
          go_wp2
          go_loopw [6, 40] (fun x i wv => ∃ j : Nat, j ≤ sl ∧ i = .int .i64 j ∧ x = .int .i64 (wrap64 (wk + 1 + total (strSize ss) j)) ∧ wv = wr.alloc (.cells #[.int .u8 kind, .string text, .slice sa sl sc] 36)) (fun _ i _ => sl - (intOf i).toNat)
          case atStart => exact ⟨0, Nat.zero_le _, rfl, by rw [wrap_add]; simp [total], rfl⟩
          case round =>
            obtain ⟨j, hj, rfl, rfl, rfl⟩ := hrel
            by_cases hjl : j < sl
            · have hjl' : (j : Int) < (sl : Int) := by omega
              obtain ⟨b2, off2, rfl, hb2, hc2⟩ := HRow.out j hjl
              have hstep : total (strSize ss) (j + 1) = total (strSize ss) j + (1 + ((ss.getD j ByteArray.empty).size : Int)) := rfl
              obtain ⟨t, ht⟩ : ∃ t, t = ss.getD j ByteArray.empty := ⟨_, rfl⟩
              rw [← ht] at hc2 hstep
              have HStep := hide hstep
              obtain ⟨tj, htj⟩ : ∃ tj, tj = total (strSize ss) j := ⟨_, rfl⟩
              have HTj := hide htj
              rw [← htj]
              clear ht hstep htj
              go_wp2
              go_roundw
              case rel => exact ⟨j + 1, by omega, by go_num, by rw [HStep.out, ← HTj.out, wrap_add, wrap_add', Int.add_assoc (wk + 1)], by first | rfl | trivial⟩
              case measure => simp [intOf]; omega
            · obtain rfl : j = sl := by omega
              go_wp2
              go_roundw
              case rel => exact ⟨k + 1, by omega, by go_num, by rw [HK.out], HB.out⟩
              case measure => simp [intOf]; omega
      · obtain rfl : k = n := by omega
        have hc0 := ((hBel.block Wt.heap.size (by omega)).trans HCop3.out)
        have c0 := cell_of_row (k := 0) (u := .int .i64 (wrap64 (0 + 1 + total (fun i => itemSize (its i)) k))) hc0 rfl
        have e0 : (0 : Int) + 1 + total (fun i => itemSize (its i)) k = want its k := by simp [want]
        rw [e0] at c0
        have HF := hide (HB3.out.trans (hBel.mono HB3.out.size))
        clear e0 hc0 hBel
        go_wp2
        go_ret
        exact ⟨by simp, HF.out⟩
end Go.Proofs.Ybulkbflq.lawS2824BCopyPlain
