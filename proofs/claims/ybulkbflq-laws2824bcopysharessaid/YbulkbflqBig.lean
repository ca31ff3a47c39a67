/-
  zzs2824bbig (5).
-/
import Derived.Test.YbulkbflqTree
namespace Go.Proofs.Ybulkbflq
open Go.RowKit
set_option linter.unusedVariables false

def Small (n : Nat) (its : Nat → Item) : Prop := n ≤ 300 ∧ ∀ i, i < n → (its i).sl ≤ 300

set_option maxHeartbeats 1600000 in
set_option maxRecDepth 100000 in
theorem big_any (a : Option Addr) (n cap : Nat) (its : Nat → Item) (w : World) (hm : n ≤ maxLen) (hI : Items w.heap.size w a n its) (hS : ∀ i, i < n → (its i).sl ≤ maxLen) :
    Calls Yba.prog 5 #[.slice a n cap] w fun e w' => ((e = .returned (.bool false) ∧ Small n its) ∨ e = .returned (.bool true)) ∧ Below w.heap.size w w' := by
  unfold maxLen at hm
  have hm' : (n : Int) ≤ 9223372036854775807 := by omega
  have HI := hide hI
  have HS := hide hS
  clear hI hS
  by_cases hn : n ≤ 300
  · have hn' : (n : Int) ≤ 300 := by omega
    go_enter Yba.func5, Yba.ntmps5
    go_wp2
    go_loopw [10] (fun i wr => ∃ k : Nat, k ≤ n ∧ i = .int .i64 k ∧ (∀ j, j < k → (its j).sl ≤ 300) ∧ Below w.heap.size w wr) (fun i _ => n - (intOf i).toNat)
    case atStart => exact ⟨0, Nat.zero_le _, rfl, fun j hj => absurd hj (Nat.not_lt_zero _), Below.refl _ _⟩
    case round =>
      obtain ⟨k, hk, rfl, hsm, hB⟩ := hrel
      have HSM := hide hsm
      have HB := hide hB
      clear hsm
      by_cases hkl : k < n
      · have hkl' : (k : Int) < (n : Int) := by omega
        obtain ⟨b, off, rfl, hb, h1, h2, h3, hrow, hk0, hk1⟩ := (HI.out.kept hB.block) k hkl
        have hsz := hB.size
        have hmx := HS.out k hkl
        unfold maxLen at hmx
        have HIT : Hid (its k = its k) := rfl
        clear hB hrow
        obtain ⟨sl, hsl⟩ : ∃ sl, sl = (its k).sl := ⟨_, rfl⟩
        rw [← hsl] at h3 hmx
        have HSl := hide hsl
        clear hsl
        by_cases hbig : sl ≤ 300
        · have hbig' : (sl : Int) ≤ 300 := by omega
          go_wp2
          go_roundw
          case rel => exact ⟨k + 1, by omega, by go_num, fun j hj => by
            by_cases e : j = k
            · subst e; rw [← HSl.out]; exact hbig
            · exact HSM.out j (by omega), HB.out.alloc (by omega) _⟩
          case measure => simp [intOf]; omega
        · have hbig' : (300 : Int) < (sl : Int) := by omega
          go_wp2
          go_ret
          exact ⟨.inr rfl, HB.out.alloc (by omega) _⟩
      · obtain rfl : k = n := by omega
        go_wp2
        go_ret
        exact ⟨.inl ⟨rfl, hn, HSM.out⟩, HB.out⟩
  · have hn' : (300 : Int) < (n : Int) := by omega
    go_enter Yba.func5, Yba.ntmps5
    go_wp2
    go_ret
    exact ⟨.inr rfl, Below.refl _ _⟩
end Go.Proofs.Ybulkbflq
