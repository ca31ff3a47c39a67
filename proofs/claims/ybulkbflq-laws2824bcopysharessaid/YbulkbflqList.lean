/-
  (*copier).copy (7) at a list, whatever its elements; no sharing.
-/
import Derived.Test.YbulkbflqLeaf
namespace Go.Proofs.Ybulkbflq
open Go.RowKit
set_option linter.unusedVariables false

def total (sz : Nat → Int) : Nat → Int
  | 0 => 0
  | k + 1 => total sz k + sz k

theorem wrap_add (a b : Int) : wrap64 (wrap64 a + b) = wrap64 (a + b) := by unfold wrap64; omega
theorem wrap_add' (a b : Int) : wrap64 (a + wrap64 b) = wrap64 (a + b) := by unfold wrap64; omega

/-- A row of n values in block RI; of the first k Rel holds. -/
def RowRel (w : World) (B RI n k : Nat) (Rel : Nat → Nat → Value → World → Prop) : Prop :=
  ∃ cur : Array Value, w.heap[RI]? = some (.cells cur 31 (0, 0)) ∧ cur.size = n ∧ ∀ i, i < k → ∃ u, cur[i]? = some u ∧ Rel B i u w

def Stable (Rel : Nat → Nat → Value → World → Prop) : Prop := ∀ B i u w w', Rel B i u w → (∀ k, B ≤ k → k < w.heap.size → w'.heap[k]? = w.heap[k]?) → Rel B i u w'

theorem RowRel.step {w w2 : World} {B RI n k : Nat} {Rel : Nat → Nat → Value → World → Prop} {v : Value} (hst : Stable Rel) (h : RowRel w B RI n k Rel) (hRI : RI < B) (hk : k < n) (hx : ∀ b, b < w.heap.size → (b = RI ∨ B ≤ b) → w2.heap[b]? = w.heap[b]?) (hv : Rel B k v w2) :
    RowRel (w2.setCell ⟨RI, k, none⟩ v) B RI n (k + 1) Rel := by
  obtain ⟨cur, h1, h2, h3⟩ := h
  have h1' : w2.heap[RI]? = some (.cells cur 31 (0, 0)) := (hx RI (lt_of_block h1) (.inl rfl)).trans h1
  refine ⟨cur.setIfInBounds k v, row_setCell h1', by simpa using h2, fun i hi => ?_⟩
  have hs2 : ∀ b, B ≤ b → b < w2.heap.size → (w2.setCell ⟨RI, k, none⟩ v).heap[b]? = w2.heap[b]? := fun b hb _ => Below.heap_setCell _ _ _ _ (by show b ≠ RI; omega)
  rw [Array.getElem?_setIfInBounds]
  by_cases e : k = i
  · subst e
    exact ⟨v, by simp [h2, hk], hst _ _ _ _ _ hv hs2⟩
  · rw [if_neg e]
    obtain ⟨u, hu, hn⟩ := h3 i (by omega)
    exact ⟨u, hu, hst _ _ _ _ _ (hst _ _ _ _ _ hn (fun b hb hlt => hx b hlt (.inr hb))) hs2⟩

/-- The list's loop after k rounds. -/
structure LInv (w : World) (c n : Nat) (f : ByteArray) (l col : Int) (sz : Nat → Int) (Rel : Nat → Nat → Value → World → Prop) (z : Int) (k : Nat) (wr : World) : Prop where
  new : wr.heap[w.heap.size + 1]? = some (.cells #[.string f, .int .i64 l, .int .i64 col, .slice (some ⟨w.heap.size, 0, none⟩) n n] 45 (0, 0))
  row : RowRel wr (w.heap.size + 1 + 1) w.heap.size n k Rel
  cop : Cop wr c (wrap64 (z + 1 + total sz k)) .nilFunc
  step : Step c w wr
  size : w.heap.size + 1 + 1 ≤ wr.heap.size

theorem LInv.next {w : World} {c n : Nat} {f : ByteArray} {l col : Int} {sz : Nat → Int} {Rel : Nat → Nat → Value → World → Prop} {z : Int} {k : Nat} {wr w2 : World} {v : Value} (hst : Stable Rel) (hc : c < w.heap.size) (h : LInv w c n f l col sz Rel z k wr) (hk : k < n)
    (hx : Step c wr w2) (hcop : Cop w2 c (wrap64 (wrap64 (z + 1 + total sz k) + sz k)) .nilFunc) (hv : Rel (w.heap.size + 1 + 1) k v w2) : LInv w c n f l col sz Rel z (k + 1) (w2.setCell ⟨w.heap.size, k, none⟩ v) := by
  have hs := h.size
  have hs2 := hx.size
  refine ⟨?_, h.row.step hst (by omega) hk (fun b hb hbb => hx.block b hb (by omega)) hv, ?_, ?_, by simp [World.setCell]; omega⟩
  · rw [Below.heap_setCell _ _ _ _ (by show w.heap.size + 1 ≠ w.heap.size; omega), hx.block _ (by omega) (by omega)]
    exact h.new
  · show (w2.setCell ⟨w.heap.size, k, none⟩ v).heap[c]? = _
    rw [Below.heap_setCell _ _ _ _ (by show c ≠ w.heap.size; omega)]
    rw [wrap_add, Int.add_assoc] at hcop
    exact hcop
  · have h3 := h.step.trans hx
    exact ⟨h3.os, h3.tape, h3.output, by simp [World.setCell]; omega, fun b hb hbc => (Below.heap_setCell _ _ _ _ (by show b ≠ w.heap.size; omega)).trans (h3.block b hb hbc)⟩

theorem two_in (W : World) (o o' : Obj) (m : Nat) (hm : m = W.heap.size) : ((W.alloc o).alloc o').heap[m]? = some o ∧ ((W.alloc o).alloc o').heap[m + 1]? = some o' := by
  subst hm
  constructor
  · rw [Below.heap_alloc _ _ _ (by simp), heap_alloc_new]
  · have : W.heap.size + 1 = (W.alloc o).heap.size := by simp
    rw [this, heap_alloc_new]

theorem LInv.start {w : World} {c n : Nat} {f : ByteArray} {l col : Int} {sz : Nat → Int} {Rel : Nat → Nat → Value → World → Prop} {z : Int} (h : Cop w c z .nilFunc) :
    LInv w c n f l col sz Rel z 0 ((((w.setCell ⟨c, 0, none⟩ (.int .i64 (wrap64 (z + 1)))).alloc (.cells (rowN n) 31)).alloc (.cells #[.string f, .int .i64 l, .int .i64 col, .slice (some ⟨w.heap.size, 0, none⟩) n n] 45)).drew) := by
  have hs : (w.setCell ⟨c, 0, none⟩ (.int .i64 (wrap64 (z + 1)))).heap.size = w.heap.size := by simp [World.setCell]
  have h2 := two_in (w.setCell ⟨c, 0, none⟩ (.int .i64 (wrap64 (z + 1)))) (.cells (rowN n) 31) (.cells #[.string f, .int .i64 l, .int .i64 col, .slice (some ⟨w.heap.size, 0, none⟩) n n] 45) w.heap.size hs.symm
  refine ⟨h2.2, ⟨rowN n, h2.1, rowN_size n, fun i hi => absurd hi (Nat.not_lt_zero _)⟩, ?_, ((((Step.refl c w).setCop 0 _).alloc _).alloc _).drew, ?_⟩
  · have := ((h.set (wrap64 (z + 1))).alloc (.cells (rowN n) 31)).alloc (.cells #[.string f, .int .i64 l, .int .i64 col, .slice (some ⟨w.heap.size, 0, none⟩) n n] 45)
    have e : z + 1 + total sz 0 = z + 1 := by simp [total]
    rw [e]
    exact this.drew
  · show w.heap.size + 1 + 1 ≤ (((w.setCell _ _).alloc _).alloc _).heap.size
    simp [hs]

set_option maxHeartbeats 6400000 in
set_option maxRecDepth 100000 in
theorem list_plain (c L SI n : Nat) (f : ByteArray) (l col : Int) (v : Nat → Value) (sz : Nat → Int) (Rel : Nat → Nat → Value → World → Prop) (z : Int) (w : World) (hn : n ≤ 300) (hcop : Cop w c z .nilFunc) (hcL : L ≠ c) (hcS : SI ≠ c)
    (hL : w.heap[L]? = some (.cells #[.string f, .int .i64 l, .int .i64 col, .slice (some ⟨SI, 0, none⟩) n n] 45 (0, 0)))
    (hS : ∃ cur : Array Value, w.heap[SI]? = some (.cells cur 31 (0, 0)) ∧ cur.size = n ∧ ∀ i, i < n → cur[i]? = some (v i)) (hst : Stable Rel)
    (hel : ∀ (B i : Nat) (z : Int) (w1 : World), i < n → B ≤ w1.heap.size → Step c w w1 → Cop w1 c z .nilFunc → Calls Yba.prog 7 #[.pointer (some ⟨c, 0, none⟩), v i] w1 fun e w' => ∃ t x, e = .returned (.iface t x) ∧ Rel B i (.iface t x) w' ∧ Cop w' c (wrap64 (z + sz i)) .nilFunc ∧ Step c w1 w') :
    Calls Yba.prog 7 #[.pointer (some ⟨c, 0, none⟩), .iface 24 (.pointer (some ⟨L, 0, none⟩))] w fun e w' => e = .returned (.iface 24 (.pointer (some ⟨w.heap.size + 1, 0, none⟩))) ∧ LInv w c n f l col sz Rel z n w' := by
  have a1 := ta_24_54
  have a2 := ta_24_24
  have a7 := neqn27
  have c0 := hcop.cell0
  have c1 := hcop.cell1
  have f0 := hcop.free 0
  have hlt := lt_of_block hcop
  have hltL := lt_of_block hL
  have hmk := make_row n hn
  have hn' : (n : Int) ≤ 300 := by omega
  have h1 : Cop (w.setCell ⟨c, 0, none⟩ (.int .i64 (wrap64 (z + 1)))) c (wrap64 (z + 1)) .nilFunc := hcop.set _
  have hL1 : (w.setCell ⟨c, 0, none⟩ (.int .i64 (wrap64 (z + 1)))).heap[L]? = _ := (Below.heap_setCell _ _ _ _ hcL).trans hL
  have p0 := cell_of_row (k := 0) (u := .string f) hL1 rfl
  have p1 := cell_of_row (k := 1) (u := .int .i64 l) hL1 rfl
  have p2 := cell_of_row (k := 2) (u := .int .i64 col) hL1 rfl
  have p3 := cell_of_row (k := 3) (u := .slice (some ⟨SI, 0, none⟩) n n) hL1 rfl
  have HL := hide hL
  have HST := hide hst
  have HEL := hide hel
  have HS := hide hS
  have HC := hide hcop
  have hne0 : w.heap.size ≠ c := by omega
  have hne1 : w.heap.size + 1 ≠ c := by omega
  clear hel hS hst hcop hL h1 hL1
  go_enter Yba.func7, Yba.ntmps7
  go_wp2_with fail
  go_region_held3 (fun w' => w'.cell? ⟨L, 0, none⟩ = some (.string f) ∧ w'.cell? ⟨L, 1, none⟩ = some (.int .i64 l) ∧ w'.cell? ⟨L, 2, none⟩ = some (.int .i64 col) ∧ w'.cell? ⟨L, 3, none⟩ = some (.slice (some ⟨SI, 0, none⟩) n n)) (go_keep) (first | fail)
  go_wp2
  go_loopw [66] (fun i wr => ∃ k : Nat, k ≤ n ∧ i = .int .i64 k ∧ LInv w c n f l col sz Rel z k wr) (fun i _ => n - (intOf i).toNat)
  case atStart => exact ⟨0, Nat.zero_le _, rfl, LInv.start HC.out⟩
  case round =>
    obtain ⟨k, hk, rfl, hB⟩ := hrel
    by_cases hkl : k < n
    · have hkl' : (k : Int) < (n : Int) := by omega
      have hsz := hB.size
      obtain ⟨src, hs1, hs2, hs3⟩ := HS.out
      have q0 : wr.cell? ⟨SI, k, none⟩ = some (v k) := cell_of_row ((hB.step.block SI (lt_of_block hs1) hcS).trans hs1) (hs3 k hkl)
      have q1 : wr.cell? ⟨w.heap.size + 1, 3, none⟩ = some (.slice (some ⟨w.heap.size, 0, none⟩) n n) := cell_of_row hB.new rfl
      obtain ⟨cur, hc1, hc2, hc3⟩ := hB.row
      obtain ⟨u0, hu0⟩ : ∃ u, cur[k]? = some u := ⟨cur[k]'(by omega), by simp [hc2, hkl]⟩
      have HCur := hide hc1
      have HU := hide hu0
      have HB := hide hB
      have HCop : Hid (Cop wr.drew c (wrap64 (z + 1 + total sz k)) .nilFunc) := hB.cop
      have HStp := hide hB.step.drew
      have hsB : w.heap.size + 1 + 1 ≤ wr.drew.heap.size := hsz
      clear hB hs1 hs2 hs3 hc1 hc2 hc3 hu0 p0 p1 p2 p3 c0 c1 f0 hmk
      go_wp2_with fail
      go_region_held3 (fun w' => w'.cell? ⟨w.heap.size + 1, 3, none⟩ = some (.slice (some ⟨w.heap.size, 0, none⟩) n n)) (go_keep) (first
        | (go_at_call 7; refine (HEL.out (w.heap.size + 1 + 1) k _ _ hkl hsB HStp.out HCop.out).mono ?_; rintro e w1 ⟨t, x, rfl, hR, hC, hSt⟩; have m1 := cell_of_row ((hSt.block (w.heap.size + 1) (Nat.lt_of_lt_of_le (Nat.lt_succ_self _) hsz) hne1).trans HB.out.new) (u := .slice (some ⟨w.heap.size, 0, none⟩) n n) (k := 3) rfl; have m2 := (hSt.block w.heap.size (Nat.lt_of_lt_of_le (Nat.lt_succ_of_lt (Nat.lt_succ_self _)) hsz) hne0).trans HCur.out; have m3 := cell_of_row m2 HU.out; have m4 := free_of_row (k := k) m2; have HR := hide hR; have HC2 := hide hC; have HS2 := hide hSt; clear hR hC hSt m2))
      go_wp2
      have hfin := HB.out.next HST.out hlt hkl ((Step.refl c wr).drew.trans HS2.out) HC2.out HR.out
      go_roundw
      case rel => exact ⟨k + 1, by omega, by go_num, hfin⟩
      case measure => simp [intOf]; omega
    · obtain rfl : k = n := by omega
      go_wp2
      go_ret
      exact ⟨rfl, hB⟩
end Go.Proofs.Ybulkbflq
