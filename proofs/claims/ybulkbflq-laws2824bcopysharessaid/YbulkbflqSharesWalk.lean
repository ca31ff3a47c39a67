/-
  LawS2824BCopyShares (4): the walk.
-/
import Derived.Test.YbulkbflqSWant
import Derived.Test.YbulkbflqCheck
namespace Go.Proofs.Ybulkbflq.lawS2824BCopyShares
open Go.RowKit
set_option linter.unusedVariables false

set_option maxHeartbeats 12800000 in
set_option maxRecDepth 100000 in
theorem walk (a : Option Addr) (n cap : Nat) (its : Nat → Item) (w : World) (hm : n ≤ maxLen) (hI : Items w.heap.size w a n its) (hS : ∀ i, i < n → (its i).sl ≤ maxLen) :
    Calls Yba.prog 4 #[.slice a n cap] w fun e w' => e = .returned (.bool true) ∧ Below w.heap.size w w' := by
  have hmf : ∀ (fn : Fn) (first cap : Array Value) (w : World), (Instr.makeFunc fn first cap).run Yba.prog w = .ok (.func fn first cap) w := fun _ _ _ _ => rfl
  have HI := hide hI
  have HS := hide hS
  clear hI hS
  go_enter Yba.func4, Yba.ntmps4
  go_wp2_with fail
  refine (big_any a n cap its w hm HI.out HS.out).mono ?_
  rintro e w1 ⟨⟨rfl, hsm⟩ | rfl, hb1⟩
  case inr =>
    have HB1 := hide hb1
    clear hb1
    go_wp2
    go_ret
    exact ⟨rfl, HB1.out⟩
  case inl =>
    obtain ⟨hn, hsl⟩ := hsm
    have hs1 := hb1.size
    have hI1 : Items w1.heap.size w1 a n its := (HI.out.kept hb1.block).up hs1
    have HI1 := hide hI1
    have HB1 := hide hb1
    have HSL := hide hsl
    clear hI1 hb1 hsl
    go_wp2_with fail
    refine (build_any a n cap its w1 hn HI1.out HSL.out).mono ?_
    rintro e Wt ⟨rfl, hT⟩
    obtain ⟨v, hv1, hv2, hv3⟩ := root_sh w1 n its hn HSL.out Wt hT
    have h2 := two_in Wt (.cells #[.int .i64 0] 3) (.cells #[.int .i64 0, .func (.func 9) #[] #[.pointer (some ⟨Wt.heap.size, 0, none⟩)]] 29) Wt.heap.size rfl
    have hst : St ((Wt.alloc (.cells #[.int .i64 0] 3)).alloc (.cells #[.int .i64 0, .func (.func 9) #[] #[.pointer (some ⟨Wt.heap.size, 0, none⟩)]] 29)) (Wt.heap.size + 1) Wt.heap.size 0 0 (SH Wt.heap.size) := by
      have z0 : wrap64 0 = 0 := by simp [wrap64]
      refine ⟨?_, ?_⟩
      · rw [z0]; exact h2.2
      · rw [z0]; exact h2.1
    have hcall := hv3 ((Wt.alloc (.cells #[.int .i64 0] 3)).alloc (.cells #[.int .i64 0, .func (.func 9) #[] #[.pointer (some ⟨Wt.heap.size, 0, none⟩)]] 29)) (fun k hk => (Below.heap_alloc _ _ _ (by simp; omega)).trans (Below.heap_alloc _ _ _ hk)) hst
    have HCall := hide hcall
    have HT := hide hT
    have HV := hide (And.intro hv1 hv2)
    clear hcall hT hv1 hv2 hv3 hst h2
    go_wp2_with fail
    refine HCall.out.mono ?_
    rintro e w2 ⟨W2, rfl, hW2, hL⟩
    have eW : ((Wt.alloc (.cells #[.int .i64 0] 3)).alloc (.cells #[.int .i64 0, .func (.func 9) #[] #[.pointer (some ⟨Wt.heap.size, 0, none⟩)]] 29)).heap.size = Wt.heap.size + 1 + 1 := by simp
    have hT := HT.out
    have hTs := hT.size
    have hbt := HB1.out.trans (hT.below.mono hs1)
    have hz2 := hW2.size
    rw [eW] at hz2
    have hLs := hL.size
    have hst : ∀ k, k < Wt.heap.size → w2.heap[k]? = Wt.heap[k]? := fun k hk => (hL.step.block k (by omega) (by omega) (by omega)).trans ((hW2.block k (by rw [eW]; omega) (by omega) (by omega)).trans ((Below.heap_alloc _ _ _ (by simp; omega)).trans (Below.heap_alloc _ _ _ hk)))
    have hb2 : Below w.heap.size w w2 := hbt.trans ⟨hL.step.os.trans hW2.os, hL.step.tape.trans hW2.tape, hL.step.output.trans hW2.output, by omega, fun k hk => hst k (by omega)⟩
    have hnew := hL.new
    obtain ⟨cur, hc1, hc2, hc3⟩ := hL.row
    obtain ⟨⟨ro, ro1, ro2, ro3⟩, hO⟩ := HV.out
    have hrt := lt_of_block hT.root
    have hrw := lt_of_block ro1
    have hchk := check_any w.heap.size (W2.heap.size + 1 + 1) (w1.heap.size + 1 + 1) (w1.heap.size + 1) w1.heap.size (W2.heap.size + 1) W2.heap.size a n cap its v Wt w2 hn HSL.out hb2.size (HI.out.kept hb2.block) (by omega)
      ((hst _ hrt).trans hT.root) hnew ⟨ro, (hst _ hrw).trans ro1, ro2, ro3⟩ ⟨cur, hc1, hc2, hc3⟩ hO (by omega) hst
    have HChk := hide hchk
    have HB2 := hide hb2
    have HSt := hide hL.st
    have hsz2 : Wt.heap.size + 1 + 1 ≤ w2.heap.size := by omega
    clear eW hT hbt hst hnew hc1 hc2 hc3 ro1 ro2 ro3 hO hchk hb2 hL hW2
    go_wp2_with fail
    refine HChk.out.mono ?_
    rintro e w3 ⟨rfl, hb3⟩
    have hb23 : Below w.heap.size w w3 := HB2.out.trans (hb3.mono HB2.out.size)
    have hst3 : St w3 (Wt.heap.size + 1) Wt.heap.size (0 + 1 + total (fun i => sSize (its i)) n) (0 + 1 + total (fun i => sCalls (its i)) n) (SH Wt.heap.size) := ⟨(hb3.block _ (by omega)).trans HSt.out.cop, (hb3.block _ (by omega)).trans HSt.out.cnt⟩
    have hs3 := hb3.size
    have HB3 := hide hb23
    have HSt3 := hide hst3
    have hn' : (n : Int) ≤ 300 := by omega
    clear hb3 hb23 hst3
    go_wp2
    go_loopw [7, 8, 34] (fun y x i wr => ∃ k : Nat, k ≤ n ∧ i = .int .i64 k ∧ x = .int .i64 (wrap64 (wS its k)) ∧ y = .int .i64 (wrap64 (wC n its k)) ∧ Below w3.heap.size w3 wr) (fun _ _ i _ => n - (intOf i).toNat)
    case atStart => exact ⟨0, Nat.zero_le _, rfl, by rw [show wrap64 (wS its 0) = 1 from by simp [wS, total, wrap64]], by rw [show wC n its 0 = 1 + (n : Int) from by simp [wC, total], wrap_small hn], Below.refl _ _⟩
    case round =>
      obtain ⟨k, hk, rfl, rfl, rfl, hBel⟩ := hrel
      by_cases hkl : k < n
      · have hkl' : (k : Int) < (n : Int) := by omega
        have hsz := hBel.size
        have hs0 := HB3.out.size
        obtain ⟨b, off, rfl, hb, h1, h2, h3, hrow, hk0, hk1⟩ := (HI.out.kept (fun j hj => (hBel.block j (by omega)).trans (HB3.out.block j hj))) k hkl
        have hw0 := fun h => next_0 (n := n) (its := its) (k := k) h
        have hw1 := fun h => next_1 (n := n) (its := its) (k := k) h
        have hw2 := fun h => next_2 (n := n) (its := its) (k := k) h
        have hw3 := fun h0 h1 h2 hs => next_3 (n := n) (its := its) (k := k) h0 h1 h2 hs
        have hw4 := fun h0 h1 h2 hs => next_3one (n := n) (its := its) (k := k) h0 h1 h2 hs
        have HSk := hide (HSL.out k hkl)
        generalize hit : its k = it at *
        obtain ⟨kind, text, sa, sl, sc, ss⟩ := it
        simp only at h1 h2 h3 hk0 hk1 hw0 hw1 hw2 hw3 hw4
        obtain ⟨wk, hwk⟩ : ∃ wk, wk = wS its k := ⟨_, rfl⟩
        obtain ⟨ck, hck⟩ : ∃ ck, ck = wC n its k := ⟨_, rfl⟩
        rw [← hwk, ← hck] at hw0 hw1 hw2 hw3 hw4 ⊢
        have HW0 := hide hw0
        have HW1 := hide hw1
        have HW2 := hide hw2
        have HW3 := hide hw3
        have HW4 := hide hw4
        have HRow := hide (hrow.kept (w' := wr.alloc (.cells #[.int .u8 kind, .string text, .slice sa sl sc] 36)) (fun j hj => Below.heap_alloc _ _ _ (by omega)))
        have HB := hide (hBel.alloc hsz (.cells #[.int .u8 kind, .string text, .slice sa sl sc] 36))
        have h300 : sl ≤ 300 := HSk.out
        have hsl' : (sl : Int) ≤ 300 := by omega
        clear hBel hrow hit hw0 hw1 hw2 hw3 hw4 hwk hck
        have hkk : kind % 4 = 0 ∨ kind % 4 = 1 ∨ kind % 4 = 2 ∨ (¬ kind % 4 = 0 ∧ ¬ kind % 4 = 1 ∧ ¬ kind % 4 = 2) := by omega
        rcases hkk with hkk | hkk | hkk | ⟨hkk, hkk1, hkk2⟩
        · have t0 : (kind % 4 == 0) = true := by simp [hkk]
          obtain ⟨e1, e2⟩ := HW0.out hkk
          have E1 := hide e1
          have E2 := hide e2
          clear hkk e1 e2
          cases ho : ((text.size : Int) % 2 == 1)
          · have EO := hide (odd_no ho)
            go_wp2
            go_roundw
            case rel => exact ⟨k + 1, by omega, by go_num, by rw [E1.out, EO.out, Int.add_zero], by rw [E2.out], HB.out⟩
            case measure => simp [intOf]; omega
          · have EO := hide (odd_yes ho)
            go_wp2
            go_roundw
            case rel => exact ⟨k + 1, by omega, by go_num, by rw [E1.out, EO.out]; rw [wrap_add, wrap_add'], by rw [E2.out], HB.out⟩
            case measure => simp [intOf]; omega
        · have t0 : (kind % 4 == 0) = false := by simp [hkk]
          have t1 : (kind % 4 == 1) = true := by simp [hkk]
          obtain ⟨e1, e2⟩ := HW1.out hkk
          have E1 := hide e1
          have E2 := hide e2
          clear hkk e1 e2
          go_wp2
          go_roundw
          case rel => exact ⟨k + 1, by omega, by go_num, by rw [E1.out]; rw [wrap_add], by rw [E2.out], HB.out⟩
          case measure => simp [intOf]; omega
        · have t0 : (kind % 4 == 0) = false := by simp [hkk]
          have t1 : (kind % 4 == 1) = false := by simp [hkk]
          have t2 : (kind % 4 == 2) = true := by simp [hkk]
          obtain ⟨e1, e2⟩ := HW2.out hkk
          have E1 := hide e1
          have E2 := hide e2
          clear hkk e1 e2
          go_wp2
          go_loopw [8, 93] (fun x i wv => ∃ j : Nat, j ≤ sl ∧ i = .int .i64 j ∧ x = .int .i64 (wrap64 (wk + 1 + total (oddAt ss) j)) ∧ wv = wr.alloc (.cells #[.int .u8 kind, .string text, .slice sa sl sc] 36)) (fun _ i _ => sl - (intOf i).toNat)
          case atStart => exact ⟨0, Nat.zero_le _, rfl, by rw [wrap_add]; simp [total], rfl⟩
          case round =>
            obtain ⟨j, hj, rfl, rfl, rfl⟩ := hrel
            by_cases hjl : j < sl
            · have hjl' : (j : Int) < (sl : Int) := by omega
              obtain ⟨b2, off2, rfl, hb2, hc2⟩ := HRow.out j hjl
              have hstep : total (oddAt ss) (j + 1) = total (oddAt ss) j + oddSize (ss.getD j ByteArray.empty) := rfl
              obtain ⟨t, ht⟩ : ∃ t, t = ss.getD j ByteArray.empty := ⟨_, rfl⟩
              rw [← ht] at hc2 hstep
              have HStep := hide hstep
              obtain ⟨tj, htj⟩ : ∃ tj, tj = total (oddAt ss) j := ⟨_, rfl⟩
              have HTj := hide htj
              rw [← htj]
              clear ht hstep htj
              cases ho : ((t.size : Int) % 2 == 1)
              · have EO := hide (odd_no ho)
                go_wp2
                go_roundw
                case rel => exact ⟨j + 1, by omega, by go_num, by rw [HStep.out, ← HTj.out, EO.out, Int.add_zero], by first | rfl | trivial⟩
                case measure => simp [intOf]; omega
              · have EO := hide (odd_yes ho)
                go_wp2
                go_roundw
                case rel => exact ⟨j + 1, by omega, by go_num, by rw [HStep.out, ← HTj.out, EO.out, wrap_add, wrap_add', Int.add_assoc (wk + 1)], by first | rfl | trivial⟩
                case measure => simp [intOf]; omega
            · obtain rfl : j = sl := by omega
              go_wp2
              go_roundw
              case rel => exact ⟨k + 1, by omega, by go_num, by rw [E1.out], by rw [E2.out]; rw [wrap_add], HB.out⟩
              case measure => simp [intOf]; omega
        · have t0 : (kind % 4 == 0) = false := by simp [hkk]
          have t1 : (kind % 4 == 1) = false := by simp [hkk1]
          have t2 : (kind % 4 == 2) = false := by simp [hkk2]
          by_cases hs : sl = 1
          · obtain ⟨e1, e2⟩ := HW4.out hkk hkk1 hkk2 hs
            have E1 := hide e1
            have E2 := hide e2
            subst hs
            obtain ⟨b2, off2, rfl, hb2, hc2⟩ := HRow.out 0 (show 0 < 1 from Nat.zero_lt_one)
            obtain ⟨t, ht⟩ : ∃ t, t = ss.getD 0 ByteArray.empty := ⟨_, rfl⟩
            rw [← ht] at hc2
            have HT := hide ht
            simp only [Nat.add_zero] at hc2
            clear hkk hkk1 hkk2 e1 e2 ht
            cases ho : ((t.size : Int) % 2 == 1)
            · have EO := hide (odd_no ho)
              go_wp2
              go_roundw
              case rel => exact ⟨k + 1, by omega, by go_num, by rw [E1.out, ← HT.out, EO.out, Int.add_zero]; rw [wrap_add], by rw [E2.out]; rw [wrap_add], HB.out⟩
              case measure => simp [intOf]; omega
            · have EO := hide (odd_yes ho)
              go_wp2
              go_roundw
              case rel => exact ⟨k + 1, by omega, by go_num, by rw [E1.out, ← HT.out, EO.out]; rw [wrap_add, wrap_add', Int.add_assoc (wrap64 wk), wrap_add, Int.add_assoc wk], by rw [E2.out]; rw [wrap_add], HB.out⟩
              case measure => simp [intOf]; omega
          · obtain ⟨e1, e2⟩ := HW3.out hkk hkk1 hkk2 hs
            have E1 := hide e1
            have E2 := hide e2
            have t3 : ((sl : Int) == 1) = false := beq_eq_false_iff_ne.2 (by omega)
            clear hkk hkk1 hkk2 e1 e2
            go_wp2
            go_roundw
            case rel => exact ⟨k + 1, by omega, by go_num, by rw [E1.out]; rw [wrap_add], by rw [E2.out], HB.out⟩
            case measure => simp [intOf]; omega
      · obtain rfl : k = n := by omega
        have hc0 := (hBel.block (Wt.heap.size + 1) (by omega)).trans HSt3.out.cop
        have hq0 := (hBel.block Wt.heap.size (by omega)).trans HSt3.out.cnt
        have c0 := cell_of_row (k := 0) (u := .int .i64 (wrap64 (0 + 1 + total (fun i => sSize (its i)) k))) hc0 rfl
        have c1 := cell_of_row (k := 1) (u := .func (.func 9) #[] #[.pointer (some ⟨Wt.heap.size, 0, none⟩)]) hc0 rfl
        have c2 := cell_of_row (k := 0) (u := .int .i64 (wrap64 (0 + 1 + total (fun i => sCalls (its i)) k))) hq0 rfl
        have e0 : (0 : Int) + 1 + total (fun i => sSize (its i)) k = wS its k := by simp [wS]
        have e1 : (0 : Int) + 1 + total (fun i => sCalls (its i)) k = wC k its k := by rw [total_calls]; unfold wC; omega
        rw [e0] at c0
        rw [e1] at c2
        have a7 := neqf27
        have HF := hide (HB3.out.trans (hBel.mono HB3.out.size))
        clear e0 e1 hc0 hq0 hBel
        go_wp2
        go_ret
        exact ⟨by simp, HF.out⟩
end Go.Proofs.Ybulkbflq.lawS2824BCopyShares
