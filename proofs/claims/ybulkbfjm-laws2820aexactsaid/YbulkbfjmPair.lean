/-
  The two comparison closures of compareKey (functions 38 and 39) over the logging closures of LawS2820AExact.
-/
import Derived.Test.YbulkbfjmLogs
import Derived.Deep.RegionHeld3
namespace Go.Proofs.Ybulkbfjm
open Go.RowKit

structure Both (w0 w : World) (bk bc : Nat) (vk vc : Value) (xs ys : List Int) : Prop where
  lk : Log w w0.heap.size bk vk xs
  lc : Log w w0.heap.size bc vc ys
  os : w.os = w0.os
  tape : w.tape = w0.tape
  output : w.output = w0.output
  size : w0.heap.size ≤ w.heap.size
  block : ∀ k, k < w0.heap.size → k ≠ bk → k ≠ bc → w.heap[k]? = w0.heap[k]?

theorem Both.drew {w0 w : World} {bk bc : Nat} {vk vc : Value} {xs ys : List Int} (h : Both w0 w bk bc vk vc xs ys) : Both w0 w.drew bk bc vk vc xs ys :=
  ⟨h.lk, h.lc, h.os, h.tape, h.output, h.size, h.block⟩

theorem log_other {w w' : World} {base b c : Nat} {v v' : Value} {xs : List Int} (h : Log w base b v xs) (hk : But w w' c v') (hbc : b ≠ c) (hb : some b ≠ v'.ownBlock) (hc : c < base) (hv : v.ownBlock = none ∨ v.ownBlock ≠ v'.ownBlock) : Log w' base b v xs := by
  obtain ⟨h1, h2, h3⟩ := h
  refine ⟨(hk.block b (lt_of_block h1) hbc hb).trans h1, h2, ?_⟩
  rcases h3 with h3 | ⟨g, cap, cur, rfl, hg, hh, r⟩
  · exact .inl h3
  · refine .inr ⟨g, cap, cur, rfl, hg, (hk.block g (lt_of_block hh) (by omega) ?_).trans hh, r⟩
    rcases hv with hv | hv
    · simp [Value.ownBlock] at hv
    · simpa [Value.ownBlock] using hv

theorem Both.cell {w0 w : World} {bk bc : Nat} {vk vc : Value} {xs ys : List Int} (h : Both w0 w bk bc vk vc xs ys) {k : Nat} {u : Value} (h1 : k ≠ bk) (h2 : k ≠ bc) (hu : w0.cell? ⟨k, 0, none⟩ = some u) : w.cell? ⟨k, 0, none⟩ = some u :=
  (World.cell?_of_block (h.block k (World.block_lt_of_cell? w0 _ hu) h1 h2)).trans hu

theorem one_le (a : Int) : (([] : List Int) ++ [a]).length ≤ 10 := by simp

theorem key_both (w0 : World) (bk bc : Nat) (vk : Value) (xs ys : List Int) (x : Int) (w : World) (hk : bk < w0.heap.size) (hc : bc < w0.heap.size) (hkc : bk ≠ bc) (hn : xs.length ≤ 10) (h : Both w0 w bk bc vk (.slice none 0 0) xs ys) :
    Calls Yba.prog 9 #[.int .i64 x, .pointer (some ⟨bk, 0, none⟩)] w fun e w' => e = .returned (.int .i64 (bits .xor .i64 x 42)) ∧ ∃ vk', Both w0 w' bk bc vk' (.slice none 0 0) (xs ++ [x]) ys := by
  refine (key_any w0.heap.size bk vk xs x w hk h.size hn h.lk).mono ?_
  rintro e w' ⟨rfl, v', hl, hb⟩
  refine ⟨rfl, v', hl, log_other h.lc hb (Ne.symm hkc) (fun e => ?_) hk (.inl rfl), hb.os.trans h.os, hb.tape.trans h.tape, hb.output.trans h.output, Nat.le_trans h.size hb.size, fun k h1 h2 h3 => ?_⟩
  · have := (h.lk.2.lt bc e.symm).1; omega
  · have hs := h.size
    exact (hb.block k (by omega) h2 (fun e => by have := (h.lk.2.lt k e.symm).1; omega)).trans (h.block k h1 h2 h3)

theorem cmp_both (w0 : World) (bk bc : Nat) (vk : Value) (xs : List Int) (x y : Int) (w : World) (hc : bc < w0.heap.size) (hkc : bk ≠ bc) (h : Both w0 w bk bc vk (.slice none 0 0) xs []) :
    Calls Yba.prog 10 #[.int .i64 x, .int .i64 y, .pointer (some ⟨bc, 0, none⟩)] w fun e w' => e = .returned (.int .i64 (wrap64 (x - wrap64 (2 * y)))) ∧ ∃ vc', Both w0 w' bk bc vk vc' xs [x, y] := by
  refine (cmp_any w0.heap.size bc (.slice none 0 0) [] x y w hc h.size (by simp) h.lc).mono ?_
  rintro e w' ⟨rfl, v', hl, hb⟩
  refine ⟨rfl, v', log_other h.lk hb hkc (by simp [Value.ownBlock]) hc ?_, hl, hb.os.trans h.os, hb.tape.trans h.tape, hb.output.trans h.output, Nat.le_trans h.size hb.size, fun k h1 h2 h3 => ?_⟩
  · cases hv : vk.ownBlock with
    | none => exact .inl rfl
    | some g => exact .inr (by simp [Value.ownBlock])
  · have hs := h.size
    exact (hb.block k (by omega) h3 (by simp [Value.ownBlock])).trans (h.block k h1 h2 h3)

set_option maxHeartbeats 1600000 in
set_option maxRecDepth 100000 in
theorem asc_any (a b : Int) (bk bc pk pc : Nat) (w : World) (hk : bk < w.heap.size) (hc : bc < w.heap.size) (hkc : bk ≠ bc) (h1 : pk ≠ bk) (h2 : pk ≠ bc) (h3 : pc ≠ bk) (h4 : pc ≠ bc)
    (hbk : w.heap[bk]? = some (.cells #[.slice none 0 0] 22 (0, 0))) (hbc : w.heap[bc]? = some (.cells #[.slice none 0 0] 22 (0, 0)))
    (hpk : w.cell? ⟨pk, 0, none⟩ = some (.func (.func 9) #[] #[.pointer (some ⟨bk, 0, none⟩)])) (hpc : w.cell? ⟨pc, 0, none⟩ = some (.func (.func 10) #[] #[.pointer (some ⟨bc, 0, none⟩)])) :
    Calls Yba.prog 39 #[.int .i64 a, .int .i64 b, .pointer (some ⟨pc, 0, none⟩), .pointer (some ⟨pk, 0, none⟩)] w fun e w' =>
      e = .returned (.int .i64 (wrap64 (bits .xor .i64 a 42 - wrap64 (2 * bits .xor .i64 b 42)))) ∧ ∃ vk vc, Both w w' bk bc vk vc [a, b] [bits .xor .i64 a 42, bits .xor .i64 b 42] := by
  have B0 : Hid (Both w w.drew bk bc (.slice none 0 0) (.slice none 0 0) [] []) := hide ⟨⟨hbk, World.ownsRow_nil _ _ _ _⟩, ⟨hbc, World.ownsRow_nil _ _ _ _⟩, rfl, rfl, rfl, Nat.le_refl _, fun _ _ _ _ => rfl⟩
  go_enter Yba.func39, Yba.ntmps39
  go_wp2
  go_region_held3 (fun w' => w'.cell? ⟨pk, 0, none⟩ = some (.func (.func 9) #[] #[.pointer (some ⟨bk, 0, none⟩)]) ∧ w'.cell? ⟨pc, 0, none⟩ = some (.func (.func 10) #[] #[.pointer (some ⟨bc, 0, none⟩)])) (go_keep) (first
    | (go_at_call_of 9 (Value.int .i64 a); refine (key_both w bk bc _ [] [] a _ hk hc hkc (Nat.zero_le _) B0.out).mono ?_; rintro e w1 ⟨rfl, vk1, B1⟩; have cK1 := B1.cell h1 h2 hpk; have cC1 := B1.cell h3 h4 hpc; have HB1 := hide B1; clear B1)
    | (go_at_call_of 9 (Value.int .i64 b); refine (key_both w bk bc _ ([] ++ [a]) [] b _ hk hc hkc (one_le a) HB1.out).mono ?_; rintro e w2 ⟨rfl, vk2, B2⟩; have cK2 := B2.cell h1 h2 hpk; have cC2 := B2.cell h3 h4 hpc; have HB2 := hide B2; clear B2)
    | (go_at_call 10; refine (cmp_both w bk bc _ _ _ _ _ hc hkc HB2.out).mono ?_; rintro e w3 ⟨rfl, vc3, B3⟩; have cK3 := B3.cell h1 h2 hpk; have cC3 := B3.cell h3 h4 hpc; have HB3 := hide B3; clear B3))
  go_wp2
  go_ret
  exact ⟨rfl, _, _, HB3.out⟩

set_option maxHeartbeats 1600000 in
set_option maxRecDepth 100000 in
theorem desc_any (a b : Int) (bk bc pk pc : Nat) (w : World) (hk : bk < w.heap.size) (hc : bc < w.heap.size) (hkc : bk ≠ bc) (h1 : pk ≠ bk) (h2 : pk ≠ bc) (h3 : pc ≠ bk) (h4 : pc ≠ bc)
    (hbk : w.heap[bk]? = some (.cells #[.slice none 0 0] 22 (0, 0))) (hbc : w.heap[bc]? = some (.cells #[.slice none 0 0] 22 (0, 0)))
    (hpk : w.cell? ⟨pk, 0, none⟩ = some (.func (.func 9) #[] #[.pointer (some ⟨bk, 0, none⟩)])) (hpc : w.cell? ⟨pc, 0, none⟩ = some (.func (.func 10) #[] #[.pointer (some ⟨bc, 0, none⟩)])) :
    Calls Yba.prog 38 #[.int .i64 a, .int .i64 b, .pointer (some ⟨pc, 0, none⟩), .pointer (some ⟨pk, 0, none⟩)] w fun e w' =>
      e = .returned (.int .i64 (wrap64 (bits .xor .i64 b 42 - wrap64 (2 * bits .xor .i64 a 42)))) ∧ ∃ vk vc, Both w w' bk bc vk vc [b, a] [bits .xor .i64 b 42, bits .xor .i64 a 42] := by
  have B0 : Hid (Both w w.drew bk bc (.slice none 0 0) (.slice none 0 0) [] []) := hide ⟨⟨hbk, World.ownsRow_nil _ _ _ _⟩, ⟨hbc, World.ownsRow_nil _ _ _ _⟩, rfl, rfl, rfl, Nat.le_refl _, fun _ _ _ _ => rfl⟩
  go_enter Yba.func38, Yba.ntmps38
  go_wp2
  go_region_held3 (fun w' => w'.cell? ⟨pk, 0, none⟩ = some (.func (.func 9) #[] #[.pointer (some ⟨bk, 0, none⟩)]) ∧ w'.cell? ⟨pc, 0, none⟩ = some (.func (.func 10) #[] #[.pointer (some ⟨bc, 0, none⟩)])) (go_keep) (first
    | (go_at_call_of 9 (Value.int .i64 b); refine (key_both w bk bc _ [] [] b _ hk hc hkc (Nat.zero_le _) B0.out).mono ?_; rintro e w1 ⟨rfl, vk1, B1⟩; have cK1 := B1.cell h1 h2 hpk; have cC1 := B1.cell h3 h4 hpc; have HB1 := hide B1; clear B1)
    | (go_at_call_of 9 (Value.int .i64 a); refine (key_both w bk bc _ ([] ++ [b]) [] a _ hk hc hkc (one_le b) HB1.out).mono ?_; rintro e w2 ⟨rfl, vk2, B2⟩; have cK2 := B2.cell h1 h2 hpk; have cC2 := B2.cell h3 h4 hpc; have HB2 := hide B2; clear B2)
    | (go_at_call 10; refine (cmp_both w bk bc _ _ _ _ _ hc hkc HB2.out).mono ?_; rintro e w3 ⟨rfl, vc3, B3⟩; have cK3 := B3.cell h1 h2 hpk; have cC3 := B3.cell h3 h4 hpc; have HB3 := hide B3; clear B3))
  go_wp2
  go_ret
  exact ⟨rfl, _, _, HB3.out⟩

end Go.Proofs.Ybulkbfjm
