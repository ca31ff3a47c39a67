/-
  zzs2824bbuild (6).
-/
import Derived.Test.YbulkbflqTree
import Derived.Deep.RegionHeld3
namespace Go.Proofs.Ybulkbflq
open Go.RowKit
set_option linter.unusedVariables false

/-- The building after k rounds. -/
structure Bld (w : World) (n : Nat) (its : Nat → Item) (k : Nat) (wr : World) : Prop where
  root : wr.heap[w.heap.size + 1]? = some (.cells #[.string ⟨#[]⟩, .int .i64 1000, .int .i64 0, .slice (some ⟨w.heap.size, 0, none⟩) n n] 45 (0, 0))
  row : RowAt wr (w.heap.size + 1 + 1) w.heap.size n k its
  below : Below w.heap.size w wr
  size : w.heap.size + 1 + 1 ≤ wr.heap.size

theorem Bld.drew {w : World} {n : Nat} {its : Nat → Item} {k : Nat} {wr : World} (h : Bld w n its k wr) : Bld w n its k wr.drew := ⟨h.root, h.row, h.below.drew, h.size⟩

theorem Bld.step {w : World} {n : Nat} {its : Nat → Item} {k : Nat} {wr w2 : World} {v : Value} (h : Bld w n its k wr) (hk : k < n) (hx : Below wr.heap.size wr w2) (hv : Node w2 (w.heap.size + 1 + 1) v k (its k)) : Bld w n its (k + 1) (w2.setCell ⟨w.heap.size, k, none⟩ v) := by
  have hs := h.size
  have hs2 := hx.size
  refine ⟨?_, h.row.step (by omega) hk (fun b hb _ => hx.block b hb) hv, (h.below.trans (hx.mono (by omega))).setCell (Nat.le_refl _) _, by simp [World.setCell]; omega⟩
  rw [Below.heap_setCell _ _ _ _ (by show w.heap.size + 1 ≠ w.heap.size; omega), hx.block _ (by omega)]
  exact h.root

theorem two_at (W : World) (o o' : Obj) : ((W.alloc o).alloc o').heap[W.heap.size]? = some o ∧ ((W.alloc o).alloc o').heap[W.heap.size + 1]? = some o' := by
  constructor
  · rw [Below.heap_alloc _ _ _ (by simp), heap_alloc_new]
  · have : W.heap.size + 1 = (W.alloc o).heap.size := by simp
    rw [this, heap_alloc_new]

theorem node_list {W : World} {B S k : Nat} {cur : Array Value} {it : Item} (hS : S = W.heap.size) (hB : B ≤ S) (hm : it.kind % 4 = 2) (hc : cur.size = it.sl ∧ ∀ j, j < it.sl → cur[j]? = some (part (k : Int) it.ss j)) :
    Node ((W.alloc (.cells cur 31)).alloc (.cells #[.string ⟨#[]⟩, .int .i64 (k : Int), .int .i64 0, .slice (some ⟨S, 0, none⟩) it.sl it.sl] 45)) B (.iface 24 (.pointer (some ⟨S + 1, 0, none⟩))) k it := by
  subst hS
  have h := two_at W (.cells cur 31) (.cells #[.string ⟨#[]⟩, .int .i64 (k : Int), .int .i64 0, .slice (some ⟨W.heap.size, 0, none⟩) it.sl it.sl] 45)
  exact .inr (.inr (.inl ⟨hm, W.heap.size + 1, W.heap.size, rfl, by omega, hB, h.2, cur, h.1, hc.1, hc.2⟩))

theorem node_concat {W : World} {B S k : Nat} {cur : Array Value} {it : Item} (hS : S = W.heap.size) (hB : B ≤ S) (hm : it.kind % 4 = 3) (hc : cur.size = it.sl ∧ ∀ j, j < it.sl → cur[j]? = some (part (k : Int) it.ss j)) :
    Node ((W.alloc (.cells cur 31)).alloc (.cells #[.slice (some ⟨S, 0, none⟩) it.sl it.sl, .slice none 0 0, .bool (decide (128 ≤ it.kind))] 53)) B (.iface 51 (.pointer (some ⟨S + 1, 0, none⟩))) k it := by
  subst hS
  have h := two_at W (.cells cur 31) (.cells #[.slice (some ⟨W.heap.size, 0, none⟩) it.sl it.sl, .slice none 0 0, .bool (decide (128 ≤ it.kind))] 53)
  exact .inr (.inr (.inr ⟨hm, W.heap.size + 1, W.heap.size, rfl, by omega, hB, h.2, cur, h.1, hc.1, hc.2⟩))

set_option maxHeartbeats 6400000 in
set_option maxRecDepth 100000 in
theorem build_any (a : Option Addr) (n cap : Nat) (its : Nat → Item) (w : World) (hn : n ≤ 300) (hI : Items w.heap.size w a n its) (hsl : ∀ i, i < n → (its i).sl ≤ 300) :
    Calls Yba.prog 6 #[.slice a n cap] w fun e w' => e = .returned (.pointer (some ⟨w.heap.size + 1, 0, none⟩)) ∧ Bld w n its n w' := by
  have hmk := make_row n hn
  have hn' : (n : Int) ≤ 300 := by omega
  have HI := hide hI
  have HSL := hide hsl
  clear hI hsl
  go_enter Yba.func6, Yba.ntmps6
  go_wp2
  go_loopw [14] (fun i wr => ∃ k : Nat, k ≤ n ∧ i = .int .i64 k ∧ Bld w n its k wr) (fun i _ => n - (intOf i).toNat)
  case atStart =>
    have h := two_at w (.cells (rowN n) 31) (.cells #[.string ⟨#[]⟩, .int .i64 1000, .int .i64 0, .slice (some ⟨w.heap.size, 0, none⟩) n n] 45)
    exact ⟨0, Nat.zero_le _, rfl, h.2, ⟨rowN n, h.1, rowN_size n, fun i hi => absurd hi (Nat.not_lt_zero _)⟩, ((Below.refl _ _).alloc (Nat.le_refl _) _).alloc (by simp) _, by simp⟩
  case round =>
    obtain ⟨k, hk, rfl, hB⟩ := hrel
    clear hmk
    by_cases hkl : k < n
    · have hkl' : (k : Int) < (n : Int) := by omega
      obtain ⟨b, off, rfl, hb, h1, h2, h3, hrow, hk0, hk1⟩ := (HI.out.kept hB.below.block) k hkl
      have hsz := hB.size
      have HSk := hide (HSL.out k hkl)
      have HB := hide hB
      obtain ⟨cur, hc1, hc2, hc3⟩ := hB.row
      have r3 : wr.cell? ⟨w.heap.size + 1, 3, none⟩ = some (.slice (some ⟨w.heap.size, 0, none⟩) n n) := cell_of_row hB.root rfl
      have HRow := hide hrow
      obtain ⟨u, hcz⟩ : ∃ u, cur[k]? = some u := ⟨cur[k]'(by omega), by simp [hc2, hkl]⟩
      have rk := cell_of_row hc1 hcz
      have rf := free_of_row (k := k) hc1
      generalize hit : its k = it at *
      have HIT := hide hit
      clear hB hrow hc1 hc3 hc2 hcz hit
      obtain ⟨kind, text, sa, sl, sc, ss⟩ := it
      simp only at h1 h2 h3 hk0 hk1
      have B1 := hide ((Below.refl wr.heap.size wr).alloc (Nat.le_refl _) (.cells #[.int .u8 kind, .string text, .slice sa sl sc] 36))
      have r3' := (B1.out.cell (p := ⟨w.heap.size + 1, 3, none⟩) (by show w.heap.size + 1 < wr.heap.size; omega)).trans r3
      have rk' := (B1.out.cell (p := ⟨w.heap.size, k, none⟩) (by show w.heap.size < wr.heap.size; omega)).trans rk
      have rf' := (B1.out.frozen (p := ⟨w.heap.size, k, none⟩) (by show w.heap.size < wr.heap.size; omega)).trans rf
      have B2 : Hid (∀ o, Below wr.heap.size wr ((wr.alloc (.cells #[.int .u8 kind, .string text, .slice sa sl sc] 36)).alloc o)) := fun o => B1.out.alloc (by simp) o
      have B3 : Hid (∀ o o', Below wr.heap.size wr (((wr.alloc (.cells #[.int .u8 kind, .string text, .slice sa sl sc] 36)).alloc o).alloc o')) := fun o o' => (B2.out o).alloc (by simp; omega) o'
      have r32 := fun o => ((B2.out o).cell (p := ⟨w.heap.size + 1, 3, none⟩) (by show w.heap.size + 1 < wr.heap.size; omega)).trans r3
      have rk2 := fun o => ((B2.out o).cell (p := ⟨w.heap.size, k, none⟩) (by show w.heap.size < wr.heap.size; omega)).trans rk
      have rf2 := fun o => ((B2.out o).frozen (p := ⟨w.heap.size, k, none⟩) (by show w.heap.size < wr.heap.size; omega)).trans rf
      have r33 := fun o o' => ((B3.out o o').cell (p := ⟨w.heap.size + 1, 3, none⟩) (by show w.heap.size + 1 < wr.heap.size; omega)).trans r3
      have rk3 := fun o o' => ((B3.out o o').cell (p := ⟨w.heap.size, k, none⟩) (by show w.heap.size < wr.heap.size; omega)).trans rk
      have rf3 := fun o o' => ((B3.out o o').frozen (p := ⟨w.heap.size, k, none⟩) (by show w.heap.size < wr.heap.size; omega)).trans rf
      have hsB : w.heap.size ≤ ((wr.alloc (.cells #[.int .u8 kind, .string text, .slice sa sl sc] 36)).drew).heap.size := by show w.heap.size ≤ (wr.alloc _).heap.size; simp; omega
      have HRow1 : Hid (Row w.heap.size (wr.alloc (.cells #[.int .u8 kind, .string text, .slice sa sl sc] 36)).drew sa sl ss) := HRow.out.kept (fun j hj => B1.out.block j (by omega))
      have ne1 : w.heap.size ≠ wr.heap.size := by omega
      have ne2 : w.heap.size + 1 ≠ wr.heap.size := by omega
      have hkk : kind % 4 = 0 ∨ kind % 4 = 1 ∨ kind % 4 = 2 ∨ kind % 4 = 3 := by omega
      rcases hkk with hkk | hkk | hkk | hkk
      · have t0 : (kind % 4 == 0) = true := by simp [hkk]
        have HK := hide hkk
        clear hkk
        go_wp2_with fail
        go_region_held3 (fun w' => w'.cell? ⟨w.heap.size + 1, 3, none⟩ = some (.slice (some ⟨w.heap.size, 0, none⟩) n n) ∧ w'.cell? ⟨wr.heap.size, 0, none⟩ = some (.int .u8 kind) ∧ w'.cell? ⟨wr.heap.size, 1, none⟩ = some (.string text) ∧ w'.cell? ⟨wr.heap.size, 2, none⟩ = some (.slice sa sl sc)) (go_keep) (first | fail)
        go_wp2
        have hfin := Bld.step (v := scal (k : Int) 0 text) HB.out hkl B1.out (.inl (by rw [HIT.out]; exact ⟨HK.out, rfl⟩))
        go_roundw
        case rel => exact ⟨k + 1, by omega, by go_num, hfin.drew⟩
        case measure => simp [intOf]; omega
      · have t0 : (kind % 4 == 0) = false := by simp [hkk]
        have t1 : (kind % 4 == 1) = true := by simp [hkk]
        have HK := hide hkk
        clear hkk
        go_wp2_with fail
        go_region_held3 (fun w' => w'.cell? ⟨w.heap.size + 1, 3, none⟩ = some (.slice (some ⟨w.heap.size, 0, none⟩) n n) ∧ w'.cell? ⟨wr.heap.size, 0, none⟩ = some (.int .u8 kind) ∧ w'.cell? ⟨wr.heap.size, 1, none⟩ = some (.string text) ∧ w'.cell? ⟨wr.heap.size, 2, none⟩ = some (.slice sa sl sc)) (go_keep) (first | fail)
        go_wp2
        have hfin := Bld.step (v := .iface 46 (.pointer (some ⟨wr.heap.size + 1, 0, none⟩))) HB.out hkl (B2.out (.cells #[.string ⟨#[]⟩, .int .i64 (k : Int), .int .i64 0, .pointer none, .pointer none, .int .i64 0, .bool (decide (128 ≤ kind))] 49)) (.inr (.inl (by rw [HIT.out]; exact ⟨HK.out, _, rfl⟩)))
        go_roundw
        case rel => exact ⟨k + 1, by omega, by go_num, hfin.drew⟩
        case measure => simp [intOf]; omega
      · have t0 : (kind % 4 == 0) = false := by simp [hkk]
        have t1 : (kind % 4 == 1) = false := by simp [hkk]
        have t2 : (kind % 4 == 2) = true := by simp [hkk]
        have HK := hide hkk
        clear hkk
        go_wp2_with fail
        go_region_held3 (fun w' => w'.cell? ⟨w.heap.size + 1, 3, none⟩ = some (.slice (some ⟨w.heap.size, 0, none⟩) n n) ∧ w'.cell? ⟨wr.heap.size, 0, none⟩ = some (.int .u8 kind) ∧ w'.cell? ⟨wr.heap.size, 1, none⟩ = some (.string text) ∧ w'.cell? ⟨wr.heap.size, 2, none⟩ = some (.slice sa sl sc)) (go_keep) (first
          | (go_at_call 10; refine (scalars_any w.heap.size _ _ _ ss _ _ hsB HSk.out HRow1.out).mono ?_; rintro e w1 ⟨rfl, cur2, rfl, hcs, hcur2⟩; have HP := hide (And.intro hcs hcur2); clear hcs hcur2))
        go_wp2
        have hnode := node_list (W := wr.alloc (.cells #[.int .u8 kind, .string text, .slice sa sl sc] 36)) (B := w.heap.size + 1 + 1) (S := wr.heap.size + 1) (k := k) (cur := cur2) (it := ⟨kind, text, sa, sl, sc, ss⟩) (by simp) (by omega) HK.out HP.out
        rw [← HIT.out] at hnode
        have hfin := Bld.step HB.out hkl (B3.out _ _) hnode
        rw [HIT.out] at hfin
        go_roundw
        case rel => exact ⟨k + 1, by omega, by go_num, hfin.drew⟩
        case measure => simp [intOf]; omega
      · have t0 : (kind % 4 == 0) = false := by simp [hkk]
        have t1 : (kind % 4 == 1) = false := by simp [hkk]
        have t2 : (kind % 4 == 2) = false := by simp [hkk]
        have HK := hide hkk
        clear hkk
        go_wp2_with fail
        go_region_held3 (fun w' => w'.cell? ⟨w.heap.size + 1, 3, none⟩ = some (.slice (some ⟨w.heap.size, 0, none⟩) n n) ∧ w'.cell? ⟨wr.heap.size, 0, none⟩ = some (.int .u8 kind) ∧ w'.cell? ⟨wr.heap.size, 1, none⟩ = some (.string text) ∧ w'.cell? ⟨wr.heap.size, 2, none⟩ = some (.slice sa sl sc)) (go_keep) (first
          | (go_at_call 10; refine (scalars_any w.heap.size _ _ _ ss _ _ hsB HSk.out HRow1.out).mono ?_; rintro e w1 ⟨rfl, cur2, rfl, hcs, hcur2⟩; have HP := hide (And.intro hcs hcur2); clear hcs hcur2))
        go_wp2
        have hnode := node_concat (W := wr.alloc (.cells #[.int .u8 kind, .string text, .slice sa sl sc] 36)) (B := w.heap.size + 1 + 1) (S := wr.heap.size + 1) (k := k) (cur := cur2) (it := ⟨kind, text, sa, sl, sc, ss⟩) (by simp) (by omega) HK.out HP.out
        rw [← HIT.out] at hnode
        have hfin := Bld.step HB.out hkl (B3.out _ _) hnode
        rw [HIT.out] at hfin
        go_roundw
        case rel => exact ⟨k + 1, by omega, by go_num, hfin.drew⟩
        case measure => simp [intOf]; omega
    · obtain rfl : k = n := by omega
      go_wp2
      go_ret
      exact ⟨rfl, hB⟩
end Go.Proofs.Ybulkbflq
