/-
  (*copier).copy (7) at a list, whatever its elements, with the sharing closure.
-/
import Derived.Test.YbulkbflqSLeaf
namespace Go.Proofs.Ybulkbflq.lawS2824BCopyShares
open Go.RowKit
set_option linter.unusedVariables false

/-- The list's loop after k rounds; w: the world behind the closure's answer. -/
structure LInvS (w : World) (c q n : Nat) (f : ByteArray) (l col : Int) (sz cl : Nat → Int) (Rel : Nat → Nat → Value → World → Prop) (Z Y : Int) (k : Nat) (wr : World) : Prop where
  new : wr.heap[w.heap.size + 1]? = some (.cells #[.string f, .int .i64 l, .int .i64 col, .slice (some ⟨w.heap.size, 0, none⟩) n n] 45 (0, 0))
  row : RowRel wr (w.heap.size + 1 + 1) w.heap.size n k Rel
  st : St wr c q (Z + 1 + total sz k) (Y + total cl k) (SH q)
  step : Step2 c q w wr
  size : w.heap.size + 1 + 1 ≤ wr.heap.size

theorem LInvS.next {w : World} {c q n : Nat} {f : ByteArray} {l col : Int} {sz cl : Nat → Int} {Rel : Nat → Nat → Value → World → Prop} {Z Y : Int} {k : Nat} {wr w2 : World} {v : Value} (hst : Stable Rel) (hc : c < w.heap.size) (hq : q < w.heap.size) (h : LInvS w c q n f l col sz cl Rel Z Y k wr) (hk : k < n)
    (hx : Step2 c q wr w2) (hs0 : St w2 c q (Z + 1 + total sz k + sz k) (Y + total cl k + cl k) (SH q)) (hv : Rel (w.heap.size + 1 + 1) k v w2) : LInvS w c q n f l col sz cl Rel Z Y (k + 1) (w2.setCell ⟨w.heap.size, k, none⟩ v) := by
  have hs := h.size
  have hs2 := hx.size
  refine ⟨?_, h.row.step hst (by omega) hk (fun b hb hbb => hx.block b hb (by omega) (by omega)) hv, ⟨?_, ?_⟩, ?_, by simp [World.setCell]; omega⟩
  · rw [Below.heap_setCell _ _ _ _ (by show w.heap.size + 1 ≠ w.heap.size; omega), hx.block _ (by omega) (by omega) (by omega)]
    exact h.new
  · show (w2.setCell ⟨w.heap.size, k, none⟩ v).heap[c]? = _
    rw [Below.heap_setCell _ _ _ _ (by show c ≠ w.heap.size; omega)]
    have := hs0.cop
    rw [Int.add_assoc] at this
    exact this
  · rw [Below.heap_setCell _ _ _ _ (by show q ≠ w.heap.size; omega)]
    have := hs0.cnt
    rw [Int.add_assoc] at this
    exact this
  · have h3 := h.step.trans hx
    exact ⟨h3.os, h3.tape, h3.output, by simp [World.setCell]; omega, fun b hb hbc hbq => (Below.heap_setCell _ _ _ _ (by show b ≠ w.heap.size; omega)).trans (h3.block b hb hbc hbq)⟩

theorem LInvS.start {w : World} {c q n : Nat} {f : ByteArray} {l col : Int} {sz cl : Nat → Int} {Rel : Nat → Nat → Value → World → Prop} {Z Y : Int} (hcq : c ≠ q) (h : St w c q Z Y (SH q)) :
    LInvS w c q n f l col sz cl Rel Z Y 0 ((((w.setCell ⟨c, 0, none⟩ (.int .i64 (wrap64 (Z + 1)))).alloc (.cells (rowN n) 31)).alloc (.cells #[.string f, .int .i64 l, .int .i64 col, .slice (some ⟨w.heap.size, 0, none⟩) n n] 45)).drew) := by
  have hs : (w.setCell ⟨c, 0, none⟩ (.int .i64 (wrap64 (Z + 1)))).heap.size = w.heap.size := by simp [World.setCell]
  have h2 := two_in (w.setCell ⟨c, 0, none⟩ (.int .i64 (wrap64 (Z + 1)))) (.cells (rowN n) 31) (.cells #[.string f, .int .i64 l, .int .i64 col, .slice (some ⟨w.heap.size, 0, none⟩) n n] 45) w.heap.size hs.symm
  refine ⟨h2.2, ⟨rowN n, h2.1, rowN_size n, fun i hi => absurd hi (Nat.not_lt_zero _)⟩, ?_, ((((Step2.refl c q w).setCop 0 _).alloc _).alloc _).drew, ?_⟩
  · have := (((h.add hcq 1).alloc (.cells (rowN n) 31)).alloc (.cells #[.string f, .int .i64 l, .int .i64 col, .slice (some ⟨w.heap.size, 0, none⟩) n n] 45)).drew
    have e : Z + 1 + total sz 0 = Z + 1 := by simp [total]
    have e2 : Y + total cl 0 = Y := by simp [total]
    rw [e, e2]
    exact this
  · show w.heap.size + 1 + 1 ≤ (((w.setCell _ _).alloc _).alloc _).heap.size
    simp [hs]

set_option maxHeartbeats 6400000 in
set_option maxRecDepth 100000 in
theorem list_sh (c q L SI n : Nat) (hcq : c ≠ q) (f : ByteArray) (l col : Int) (v : Nat → Value) (sz cl : Nat → Int) (Rel : Nat → Nat → Value → World → Prop) (Z Y : Int) (w0 : World) (hn : n ≤ 300) (hst0 : St w0 c q Z Y (SH q)) (hcL : L ≠ c) (hqL : L ≠ q) (hcS : SI ≠ c) (hqS : SI ≠ q)
    (hL : w0.heap[L]? = some (.cells #[.string f, .int .i64 l, .int .i64 col, .slice (some ⟨SI, 0, none⟩) n n] 45 (0, 0)))
    (hS : ∃ cur : Array Value, w0.heap[SI]? = some (.cells cur 31 (0, 0)) ∧ cur.size = n ∧ ∀ i, i < n → cur[i]? = some (v i)) (hst : Stable Rel)
    (hel : ∀ (B i : Nat) (Z Y : Int) (w1 : World), i < n → B ≤ w1.heap.size → Step2 c q w0 w1 → St w1 c q Z Y (SH q) → Calls Yba.prog 7 #[.pointer (some ⟨c, 0, none⟩), v i] w1 fun e w' => ∃ t x, e = .returned (.iface t x) ∧ Rel B i (.iface t x) w' ∧ St w' c q (Z + sz i) (Y + cl i) (SH q) ∧ Step2 c q w1 w') :
    Calls Yba.prog 7 #[.pointer (some ⟨c, 0, none⟩), .iface 24 (.pointer (some ⟨L, 0, none⟩))] w0 fun e w' => ∃ w, e = .returned (.iface 24 (.pointer (some ⟨w.heap.size + 1, 0, none⟩))) ∧ Step2 c q w0 w ∧ LInvS w c q n f l col sz cl Rel Z (Y + 1) n w' := by
  have a1 := ta_24_54
  have a2 := ta_24_24
  have a7 := neqf27
  have cs1 : w0.cell? ⟨c, 1, none⟩ = some (.func (.func 9) #[] #[.pointer (some ⟨q, 0, none⟩)]) := hst0.cop.cell1
  have HSt0 := hide hst0
  have HL := hide hL
  have HST := hide hst
  have HEL := hide hel
  have HS := hide hS
  have hltc := lt_of_block hst0.cop
  have hltq := lt_of_block hst0.cnt
  have hltL0 := lt_of_block hL
  have hn' : (n : Int) ≤ 300 := by omega
  clear hel hS hst hst0 hL
  go_enter Yba.func7, Yba.ntmps7
  go_wp2_with fail
  refine (ask_24 c q hcq _ Z Y _ _ HSt0.out).mono ?_
  rintro e w ⟨rfl, h1, h2⟩
  have hsw := h2.size
  have c0 := h1.cop.cell0
  have f0 := h1.cop.free 0
  have hmk := make_row n hn
  have hw : wrap64 (wrap64 Z + 1) = wrap64 (Z + 1) := wrap_add _ _
  have hL1 : (w.setCell ⟨c, 0, none⟩ (.int .i64 (wrap64 (Z + 1)))).heap[L]? = _ := (Below.heap_setCell _ _ _ _ hcL).trans ((h2.block L hltL0 hcL hqL).trans HL.out)
  have p0 := cell_of_row (k := 0) (u := .string f) hL1 rfl
  have p1 := cell_of_row (k := 1) (u := .int .i64 l) hL1 rfl
  have p2 := cell_of_row (k := 2) (u := .int .i64 col) hL1 rfl
  have p3 := cell_of_row (k := 3) (u := .slice (some ⟨SI, 0, none⟩) n n) hL1 rfl
  have hlt : c < w.heap.size := by omega
  have hlq : q < w.heap.size := by omega
  have hltL : L < w.heap.size := by omega
  have hne0 : w.heap.size ≠ c := by omega
  have hne1 : w.heap.size + 1 ≠ c := by omega
  have hnq0 : w.heap.size ≠ q := by omega
  have hnq1 : w.heap.size + 1 ≠ q := by omega
  have H1 := hide h1
  have H2 := hide h2
  clear h1 h2 hL1
  go_wp2_with fail
  go_region_held3 (fun w' => w'.cell? ⟨L, 0, none⟩ = some (.string f) ∧ w'.cell? ⟨L, 1, none⟩ = some (.int .i64 l) ∧ w'.cell? ⟨L, 2, none⟩ = some (.int .i64 col) ∧ w'.cell? ⟨L, 3, none⟩ = some (.slice (some ⟨SI, 0, none⟩) n n)) (go_keep) (first | fail)
  go_wp2
  go_loopw [66] (fun i wr => ∃ k : Nat, k ≤ n ∧ i = .int .i64 k ∧ LInvS w c q n f l col sz cl Rel Z (Y + 1) k wr) (fun i _ => n - (intOf i).toNat)
  case atStart => exact ⟨0, Nat.zero_le _, rfl, LInvS.start hcq H1.out⟩
  case round =>
    obtain ⟨k, hk, rfl, hB⟩ := hrel
    by_cases hkl : k < n
    · have hkl' : (k : Int) < (n : Int) := by omega
      have hsz := hB.size
      obtain ⟨src, hs1, hs2, hs3⟩ := HS.out
      have hStp := H2.out.trans hB.step
      have q0 : wr.cell? ⟨SI, k, none⟩ = some (v k) := cell_of_row ((hStp.block SI (lt_of_block hs1) hcS hqS).trans hs1) (hs3 k hkl)
      have q1 : wr.cell? ⟨w.heap.size + 1, 3, none⟩ = some (.slice (some ⟨w.heap.size, 0, none⟩) n n) := cell_of_row hB.new rfl
      obtain ⟨cur, hc1, hc2, hc3⟩ := hB.row
      obtain ⟨u0, hu0⟩ : ∃ u, cur[k]? = some u := ⟨cur[k]'(by omega), by simp [hc2, hkl]⟩
      have HCur := hide hc1
      have HU := hide hu0
      have HB := hide hB
      have HSt := hide hB.st.drew
      have HStp := hide hStp.drew
      have hsB : w.heap.size + 1 + 1 ≤ wr.drew.heap.size := hsz
      clear hB hs1 hs2 hs3 hc1 hc2 hc3 hu0 p0 p1 p2 p3 c0 cs1 f0 hmk hw hStp
      go_wp2_with fail
      go_region_held3 (fun w' => w'.cell? ⟨w.heap.size + 1, 3, none⟩ = some (.slice (some ⟨w.heap.size, 0, none⟩) n n)) (go_keep) (first
        | (go_at_call 7; refine (HEL.out (w.heap.size + 1 + 1) k _ _ _ hkl hsB HStp.out HSt.out).mono ?_; rintro e w1 ⟨t, x, rfl, hR, hC, hSt⟩; have m1 := cell_of_row ((hSt.block (w.heap.size + 1) (Nat.lt_of_lt_of_le (Nat.lt_succ_self _) hsz) hne1 hnq1).trans HB.out.new) (u := .slice (some ⟨w.heap.size, 0, none⟩) n n) (k := 3) rfl; have m2 := (hSt.block w.heap.size (Nat.lt_of_lt_of_le (Nat.lt_succ_of_lt (Nat.lt_succ_self _)) hsz) hne0 hnq0).trans HCur.out; have m3 := cell_of_row m2 HU.out; have m4 := free_of_row (k := k) m2; have HR := hide hR; have HC2 := hide hC; have HS2 := hide hSt; clear hR hC hSt m2))
      go_wp2
      have hfin := HB.out.next HST.out hlt hlq hkl ((Step2.refl c q wr).drew.trans HS2.out) HC2.out HR.out
      go_roundw
      case rel => exact ⟨k + 1, by omega, by go_num, hfin⟩
      case measure => simp [intOf]; omega
    · obtain rfl : k = n := by omega
      go_wp2
      go_ret
      exact ⟨w, rfl, H2.out, hB⟩
end Go.Proofs.Ybulkbflq.lawS2824BCopyShares
