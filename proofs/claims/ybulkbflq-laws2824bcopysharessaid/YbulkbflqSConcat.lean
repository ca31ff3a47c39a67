/-
  copyMerged (13) at a scalar and copy (7) at a concatenation of scalars, with the sharing closure.
-/
import Derived.Test.YbulkbflqSList
namespace Go.Proofs.Ybulkbflq.lawS2824BCopyShares
open Go.RowKit
set_option linter.unusedVariables false

set_option maxHeartbeats 1600000 in
set_option maxRecDepth 100000 in
theorem merge_one (c q : Nat) (hcq : c ≠ q) (line col : Int) (t : ByteArray) (Z Y : Int) (w : World) (h : St w c q Z Y (SH q)) :
    Calls Yba.prog 13 #[.pointer (some ⟨c, 0, none⟩), .iface 41 (.agg #[.string ⟨#[]⟩, .int .i64 line, .int .i64 col, .int .i64 0, .string t, .bool false]), .bool false] w fun e w' =>
      e = .returned (.iface 41 (.agg #[.string ⟨#[]⟩, .int .i64 line, .int .i64 col, .int .i64 0, .string t, .bool false])) ∧ St w' c q (Z + oddSize t) (Y + 1) (SH q) ∧ Step2 c q w w' := by
  have a7 := eqf27
  have c1 : w.cell? ⟨c, 1, none⟩ = some (.func (.func 9) #[] #[.pointer (some ⟨q, 0, none⟩)]) := h.cop.cell1
  have HH := hide h
  clear h
  go_enter Yba.func13, Yba.ntmps13
  go_wp2_with (go_at_call 7; refine (scal_sh c q hcq line col t Z Y _ HH.out).mono ?_; rintro e w1 ⟨rfl, hC, hS⟩; have HC := hide hC; have HS := hide hS; clear hC hS)
  go_ret
  exact ⟨rfl, HC.out, HS.out⟩

set_option maxHeartbeats 1600000 in
set_option maxRecDepth 100000 in
theorem merge_many (c q : Nat) (hcq : c ≠ q) (line col : Int) (t : ByteArray) (Z Y : Int) (w : World) (h : St w c q Z Y (SH q)) :
    Calls Yba.prog 13 #[.pointer (some ⟨c, 0, none⟩), .iface 41 (.agg #[.string ⟨#[]⟩, .int .i64 line, .int .i64 col, .int .i64 0, .string t, .bool false]), .bool true] w fun e w' =>
      e = .returned (.iface 41 (.agg #[.string ⟨#[]⟩, .int .i64 line, .int .i64 col, .int .i64 0, .string t, .bool false])) ∧ St w' c q Z Y (SH q) ∧ Step2 c q w w' := by
  have a7 := eqf27
  have c1 : w.cell? ⟨c, 1, none⟩ = some (.func (.func 9) #[] #[.pointer (some ⟨q, 0, none⟩)]) := h.cop.cell1
  have f1 := h.cop.free 1
  have h2 := h.put hcq (.func (.func 17) #[] #[])
  have H2 := hide h2
  have h3 := h2.alloc (.cells #[.string ⟨#[]⟩, .int .i64 line, .int .i64 col, .int .i64 0, .string t, .bool false] 41)
  have d1 := h3.cop.cell1
  have g1 := h3.cop.free 1
  have H3 := hide h3
  have HS := hide (((Step2.refl c q w).setCop 1 (.func (.func 17) #[] #[])).alloc (.cells #[.string ⟨#[]⟩, .int .i64 line, .int .i64 col, .int .i64 0, .string t, .bool false] 41))
  clear h h2 h3
  go_enter Yba.func13, Yba.ntmps13
  go_wp2_with fail
  refine (scal_is c q hcq line col t Z Y _ H2.out).mono ?_
  rintro e w1 ⟨rfl, rfl⟩
  go_wp2
  go_ret
  exact ⟨rfl, H3.out.put hcq _, HS.out.setCop 1 _⟩

/-- What is counted, and asked, of the parts of a concatenation of m scalars. -/
def partSize (m : Nat) (ss : List ByteArray) (j : Nat) : Int := if 2 ≤ m then 0 else oddSize (ss.getD j ByteArray.empty)
def partCalls (m : Nat) (j : Nat) : Int := if 2 ≤ m then 0 else 1

theorem merge_sh (c q m j : Nat) (hcq : c ≠ q) (line col : Int) (ss : List ByteArray) (t : ByteArray) (ht : t = ss.getD j ByteArray.empty) (b : Bool) (hb : b = decide (2 ≤ m)) (Z Y : Int) (w : World) (h : St w c q Z Y (SH q)) :
    Calls Yba.prog 13 #[.pointer (some ⟨c, 0, none⟩), .iface 41 (.agg #[.string ⟨#[]⟩, .int .i64 line, .int .i64 col, .int .i64 0, .string t, .bool false]), .bool b] w fun e w' =>
      e = .returned (.iface 41 (.agg #[.string ⟨#[]⟩, .int .i64 line, .int .i64 col, .int .i64 0, .string t, .bool false])) ∧ St w' c q (Z + partSize m ss j) (Y + partCalls m j) (SH q) ∧ Step2 c q w w' := by
  subst ht
  subst hb
  unfold partSize partCalls
  by_cases h2 : 2 ≤ m
  · rw [if_pos h2, if_pos h2, Int.add_zero, Int.add_zero, decide_eq_true h2]
    exact merge_many c q hcq line col _ Z Y w h
  · rw [if_neg h2, if_neg h2, decide_eq_false h2]
    exact merge_one c q hcq line col _ Z Y w h

/-- The concatenation's loop after k rounds; w: the world behind the closure's answer. -/
structure CInvS (w : World) (c q m : Nat) (p : Nat → Value) (sz cl : Nat → Int) (Z Y : Int) (k : Nat) (wr : World) : Prop where
  row : ∃ cur : Array Value, wr.heap[w.heap.size]? = some (.cells cur 31 (0, 0)) ∧ cur.size = m ∧ ∀ j, j < k → cur[j]? = some (p j)
  st : St wr c q (Z + 1 + total sz k) (Y + total cl k) (SH q)
  step : Step2 c q w wr
  size : w.heap.size + 1 ≤ wr.heap.size

theorem CInvS.start {w : World} {c q m : Nat} {p : Nat → Value} {sz cl : Nat → Int} {Z Y : Int} (hcq : c ≠ q) (h : St w c q Z Y (SH q)) :
    CInvS w c q m p sz cl Z Y 0 ((w.setCell ⟨c, 0, none⟩ (.int .i64 (wrap64 (Z + 1)))).alloc (.cells (rowN m) 31)) := by
  have hs : (w.setCell ⟨c, 0, none⟩ (.int .i64 (wrap64 (Z + 1)))).heap.size = w.heap.size := by simp [World.setCell]
  refine ⟨⟨rowN m, ?_, rowN_size m, fun i hi => absurd hi (Nat.not_lt_zero _)⟩, ?_, ((Step2.refl c q w).setCop 0 _).alloc _, by simp [hs]⟩
  · rw [← hs]; exact heap_alloc_new _ _
  · have e : Z + 1 + total sz 0 = Z + 1 := by simp [total]
    have e2 : Y + total cl 0 = Y := by simp [total]
    rw [e, e2]
    exact (h.add hcq 1).alloc _

theorem CInvS.next {w : World} {c q m : Nat} {p : Nat → Value} {sz cl : Nat → Int} {Z Y : Int} {k : Nat} {wr w2 : World} (hc : c < w.heap.size) (hq : q < w.heap.size) (h : CInvS w c q m p sz cl Z Y k wr) (hk : k < m) (hx : Step2 c q wr w2)
    (hs0 : St w2 c q (Z + 1 + total sz k + sz k) (Y + total cl k + cl k) (SH q)) : CInvS w c q m p sz cl Z Y (k + 1) (w2.setCell ⟨w.heap.size, k, none⟩ (p k)) := by
  have hs := h.size
  have hs2 := hx.size
  obtain ⟨cur, h1, h2, h3⟩ := h.row
  have h1' : w2.heap[w.heap.size]? = some (.cells cur 31 (0, 0)) := (hx.block _ (by omega) (by omega) (by omega)).trans h1
  refine ⟨⟨cur.setIfInBounds k (p k), row_setCell h1', by simpa using h2, set_get (by omega) h3 rfl⟩, ⟨?_, ?_⟩, ?_, by simp [World.setCell]; omega⟩
  · show (w2.setCell ⟨w.heap.size, k, none⟩ (p k)).heap[c]? = _
    rw [Below.heap_setCell _ _ _ _ (by show c ≠ w.heap.size; omega)]
    have := hs0.cop
    rw [Int.add_assoc] at this
    exact this
  · rw [Below.heap_setCell _ _ _ _ (by show q ≠ w.heap.size; omega)]
    have := hs0.cnt
    rw [Int.add_assoc] at this
    exact this
  · have h3 := h.step.trans hx
    exact ⟨h3.os, h3.tape, h3.output, by simp [World.setCell]; omega, fun b hb hbc hbq => (Below.heap_setCell _ _ _ _ (by show b ≠ w.heap.size; omega)).trans (h3.block b hb hbc hbq)⟩

set_option maxHeartbeats 6400000 in
set_option maxRecDepth 100000 in
theorem concat_sh (c q C S m : Nat) (hcq : c ≠ q) (line : Int) (ss : List ByteArray) (app : Bool) (Z Y : Int) (w0 : World) (hm : m ≤ 300) (hst0 : St w0 c q Z Y (SH q)) (hcC : C ≠ c) (hqC : C ≠ q) (hcS : S ≠ c) (hqS : S ≠ q)
    (hC : w0.heap[C]? = some (.cells #[.slice (some ⟨S, 0, none⟩) m m, .slice none 0 0, .bool app] 53 (0, 0)))
    (hS : ∃ cur : Array Value, w0.heap[S]? = some (.cells cur 31 (0, 0)) ∧ cur.size = m ∧ ∀ j, j < m → cur[j]? = some (part line ss j)) :
    Calls Yba.prog 7 #[.pointer (some ⟨c, 0, none⟩), .iface 51 (.pointer (some ⟨C, 0, none⟩))] w0 fun e w' => ∃ w w1, e = .returned (.iface 51 (.pointer (some ⟨w1.heap.size, 0, none⟩))) ∧ Step2 c q w0 w ∧
      CInvS w c q m (part line ss) (partSize m ss) (partCalls m) Z (Y + 1) m w1 ∧ w' = (w1.alloc (.cells #[.slice (some ⟨w.heap.size, 0, none⟩) m m, .slice none 0 0, .bool app] 53)).drew := by
  have a1 := ta_51_54
  have a2 := ta_51_24
  have a3 := ta_51_56
  have a4 := ta_51_51
  have a7 := neqf27
  have cs1 : w0.cell? ⟨c, 1, none⟩ = some (.func (.func 9) #[] #[.pointer (some ⟨q, 0, none⟩)]) := hst0.cop.cell1
  have HSt0 := hide hst0
  have hltc := lt_of_block hst0.cop
  have hltq := lt_of_block hst0.cnt
  have hltC0 := lt_of_block hC
  have hltS0 : S < w0.heap.size := by obtain ⟨cur, h1, _⟩ := hS; exact lt_of_block h1
  have hm' : (m : Int) ≤ 300 := by omega
  have HC := hide hC
  have HS := hide hS
  clear hS hst0 hC
  go_enter Yba.func7, Yba.ntmps7
  go_wp2_with fail
  refine (ask_51 c q hcq _ Z Y _ _ HSt0.out).mono ?_
  rintro e w ⟨rfl, h1, h2⟩
  have hsw := h2.size
  have c0 := h1.cop.cell0
  have f0 := h1.cop.free 0
  have hmk := make_row m hm
  have hw : wrap64 (wrap64 Z + 1) = wrap64 (Z + 1) := wrap_add _ _
  have hC1 : (w.setCell ⟨c, 0, none⟩ (.int .i64 (wrap64 (Z + 1)))).heap[C]? = _ := (Below.heap_setCell _ _ _ _ hcC).trans ((h2.block C hltC0 hcC hqC).trans HC.out)
  have p0 := cell_of_row (k := 0) (u := .slice (some ⟨S, 0, none⟩) m m) hC1 rfl
  have hsz1 : (w.setCell ⟨c, 0, none⟩ (.int .i64 (wrap64 (Z + 1)))).heap.size = w.heap.size := by simp [World.setCell]
  have hltC : C < w.heap.size := by omega
  have p1 := (World.cell?_alloc_lt (w.setCell ⟨c, 0, none⟩ (.int .i64 (wrap64 (Z + 1)))) (.cells (rowN m) 31) ⟨C, 0, none⟩ (by rw [hsz1]; exact hltC)).trans p0
  have hlt : c < w.heap.size := by omega
  have hlq : q < w.heap.size := by omega
  have hne0 : w.heap.size ≠ c := by omega
  have hnq0 : w.heap.size ≠ q := by omega
  have H1 := hide h1
  have H2 := hide h2
  clear h1 h2 hC1 hsz1
  go_wp2
  go_loopw [118] (fun i wr => ∃ k : Nat, k ≤ m ∧ i = .int .i64 k ∧ CInvS w c q m (part line ss) (partSize m ss) (partCalls m) Z (Y + 1) k wr) (fun i _ => m - (intOf i).toNat)
  case atStart => exact ⟨0, Nat.zero_le _, rfl, CInvS.start hcq H1.out⟩
  case round =>
    obtain ⟨k, hk, rfl, hB⟩ := hrel
    by_cases hkl : k < m
    · have hkl' : (k : Int) < (m : Int) := by omega
      have hsz := hB.size
      have hStp := H2.out.trans hB.step
      obtain ⟨src, hs1, hs2, hs3⟩ := HS.out
      have hsS := (hStp.block S (lt_of_block hs1) hcS hqS).trans hs1
      have q0 : wr.cell? ⟨S, k, none⟩ = some (.iface 41 (.agg #[.string ⟨#[]⟩, .int .i64 line, .int .i64 ((k : Int) + 1), .int .i64 0, .string (ss.getD k ByteArray.empty), .bool false])) := cell_of_row hsS (hs3 k hkl)
      have q1 : wr.cell? ⟨C, 0, none⟩ = some (.slice (some ⟨S, 0, none⟩) m m) := cell_of_row ((hStp.block C hltC0 hcC hqC).trans HC.out) rfl
      obtain ⟨cur, hc1, hc2, hc3⟩ := hB.row
      obtain ⟨u0, hu0⟩ : ∃ u, cur[k]? = some u := ⟨cur[k]'(by omega), by simp [hc2, hkl]⟩
      have HSc : Hid (Scals wr S m) := ⟨src, hsS, hs2, fun j hj => ⟨_, hs3 j hj⟩⟩
      have HCur := hide hc1
      have HU := hide hu0
      have HB := hide hB
      have HSt1 := hide (hB.st.alloc (.cells #[.slice (some ⟨S, 0, none⟩) m m] 43))
      obtain ⟨t, ht⟩ : ∃ t, t = ss.getD k ByteArray.empty := ⟨_, rfl⟩
      rw [← ht] at q0
      have HT := hide ht
      clear hB hs1 hs2 hs3 hsS hc1 hc2 hc3 hu0 p0 p1 c0 cs1 f0 hmk ht hw hStp
      go_wp2_with fail
      refine (merged_any S m k _ hm hkl HSc.out).mono ?_
      rintro e w1 ⟨rfl, rfl⟩
      generalize hbb : decide (2 ≤ m) = bb
      have HBB := hide hbb.symm
      clear hbb
      go_wp2_with fail
      refine (merge_sh c q m k hcq line ((k : Int) + 1) ss t HT.out bb HBB.out _ _ _ HSt1.out).mono ?_
      rintro e w1 ⟨rfl, hC, hSt⟩
      have hSt2 := (Step2.refl c q wr).alloc (.cells #[.slice (some ⟨S, 0, none⟩) m m] 43) |>.trans hSt
      have m2 := (hSt2.block w.heap.size (by omega) hne0 hnq0).trans HCur.out
      have m3 := cell_of_row m2 HU.out
      have m4 := free_of_row (k := k) m2
      have HC2 := hide hC
      have HS2 := hide hSt2
      clear hC hSt hSt2 m2
      go_wp2
      have hfin := HB.out.next hlt hlq hkl HS2.out HC2.out
      rw [show part line ss k = .iface 41 (.agg #[.string ⟨#[]⟩, .int .i64 line, .int .i64 ((k : Int) + 1), .int .i64 0, .string t, .bool false]) from by rw [HT.out]; rfl] at hfin
      go_roundw
      case rel => exact ⟨k + 1, by omega, by go_num, hfin⟩
      case measure => simp [intOf]; omega
    · obtain rfl : k = m := by omega
      have hCr := ((H2.out.trans hB.step).block C hltC0 hcC hqC).trans HC.out
      have q1 := cell_of_row (k := 1) (u := .slice none 0 0) hCr rfl
      have q2 := cell_of_row (k := 2) (u := .bool app) hCr rfl
      have HB := hide hB
      clear hB hCr p0 p1 c0 cs1 f0 hmk hw
      go_wp2_with fail
      go_region_held3 (fun w' => w'.cell? ⟨C, 1, none⟩ = some (.slice none 0 0) ∧ w'.cell? ⟨C, 2, none⟩ = some (.bool app)) (go_keep) (first | fail)
      go_wp2
      go_ret
      exact ⟨w, wr, rfl, H2.out, HB.out, rfl⟩
end Go.Proofs.Ybulkbflq.lawS2824BCopyShares
