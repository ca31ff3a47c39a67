/-
  What the want-loop of LawS2824BCopyShares needs.
-/
import Derived.Test.YbulkbflqSNodes
import Derived.Test.YbulkbflqWant
namespace Go.Proofs.Ybulkbflq.lawS2824BCopyShares
open Go.RowKit
set_option linter.unusedVariables false

theorem total_one (m : Nat) : total (fun _ => 1) m = m := by
  induction m with
  | zero => rfl
  | succ m ih => simp [total, ih]

theorem total_zero {f : Nat → Int} (m : Nat) (h : ∀ j, j < m → f j = 0) : total f m = 0 := by
  induction m with
  | zero => rfl
  | succ m ih => simp [total, ih (fun j hj => h j (by omega)), h m (by omega)]

/-- Asked beyond the once. -/
def xCalls (it : Item) : Int := if it.kind % 4 = 0 then 0 else if it.kind % 4 = 1 then 0 else if it.kind % 4 = 2 then it.sl else if it.sl = 1 then 1 else 0

theorem calls_many {m : Nat} (h : m ≠ 1) : total (partCalls m) m = 0 := by
  by_cases h0 : m = 0
  · subst h0; rfl
  · exact total_zero m (fun j _ => by unfold partCalls; rw [if_pos (by omega)])
theorem size_many {m : Nat} (ss : List ByteArray) (h : m ≠ 1) : total (partSize m ss) m = 0 := by
  by_cases h0 : m = 0
  · subst h0; rfl
  · exact total_zero m (fun j _ => by unfold partSize; rw [if_pos (by omega)])

theorem sCalls_eq (it : Item) : sCalls it = 1 + xCalls it := by
  unfold sCalls xCalls
  by_cases h0 : it.kind % 4 = 0
  · simp [h0]
  · by_cases h1 : it.kind % 4 = 1
    · simp [h1]
    · by_cases h2 : it.kind % 4 = 2
      · simp [h2, total_one]
      · rw [if_neg h0, if_neg h1, if_neg h2, if_neg h0, if_neg h1, if_neg h2]
        by_cases hs : it.sl = 1
        · rw [hs]; simp [total, partCalls]
        · rw [calls_many hs, if_neg hs]

theorem total_calls (its : Nat → Item) (n : Nat) : total (fun i => sCalls (its i)) n = n + total (fun i => xCalls (its i)) n := by
  induction n with
  | zero => rfl
  | succ n ih =>
    have e := sCalls_eq (its n)
    show total _ n + sCalls (its n) = ((n + 1 : Nat) : Int) + (total _ n + xCalls (its n))
    omega

def wS (its : Nat → Item) (k : Nat) : Int := 1 + total (fun i => sSize (its i)) k
def wC (n : Nat) (its : Nat → Item) (k : Nat) : Int := 1 + n + total (fun i => xCalls (its i)) k

theorem odd_yes {t : ByteArray} (h : ((t.size : Int) % 2 == 1) = true) : oddSize t = 1 + t.size := by
  have h' : (t.size : Int) % 2 = 1 := by simpa using h
  unfold oddSize
  rw [if_neg (by simp [h'])]
theorem odd_no {t : ByteArray} (h : ((t.size : Int) % 2 == 1) = false) : oddSize t = 0 := by
  have h' : (t.size : Int) % 2 ≠ 1 := by simpa using h
  have h2 : (t.size : Int) % 2 = 0 := by omega
  unfold oddSize
  rw [if_pos (by simp [h2])]

/-- One item further. -/
theorem next_0 {n : Nat} {its : Nat → Item} {k : Nat} (h : (its k).kind % 4 = 0) : wS its (k + 1) = wS its k + oddSize (its k).text ∧ wC n its (k + 1) = wC n its k := by
  constructor
  · simp [wS, total, sSize, h, Int.add_assoc]
  · simp [wC, total, xCalls, h]
theorem next_1 {n : Nat} {its : Nat → Item} {k : Nat} (h : (its k).kind % 4 = 1) : wS its (k + 1) = wS its k + 1 ∧ wC n its (k + 1) = wC n its k := by
  constructor
  · simp [wS, total, sSize, h, Int.add_assoc]
  · simp [wC, total, xCalls, h]
theorem next_2 {n : Nat} {its : Nat → Item} {k : Nat} (h : (its k).kind % 4 = 2) : wS its (k + 1) = wS its k + 1 + total (oddAt (its k).ss) (its k).sl ∧ wC n its (k + 1) = wC n its k + (its k).sl := by
  constructor
  · simp [wS, total, sSize, h, Int.add_assoc]
  · simp [wC, total, xCalls, h, Int.add_assoc]
theorem next_3 {n : Nat} {its : Nat → Item} {k : Nat} (h0 : ¬ (its k).kind % 4 = 0) (h1 : ¬ (its k).kind % 4 = 1) (h2 : ¬ (its k).kind % 4 = 2) (hs : (its k).sl ≠ 1) : wS its (k + 1) = wS its k + 1 ∧ wC n its (k + 1) = wC n its k := by
  constructor
  · simp [wS, total, sSize, h0, h1, h2, Int.add_assoc, size_many _ hs]
  · simp [wC, total, xCalls, h0, h1, h2, hs]
theorem next_3one {n : Nat} {its : Nat → Item} {k : Nat} (h0 : ¬ (its k).kind % 4 = 0) (h1 : ¬ (its k).kind % 4 = 1) (h2 : ¬ (its k).kind % 4 = 2) (hs : (its k).sl = 1) : wS its (k + 1) = wS its k + 1 + oddSize ((its k).ss.getD 0 ByteArray.empty) ∧ wC n its (k + 1) = wC n its k + 1 := by
  constructor
  · simp [wS, total, sSize, h0, h1, h2, Int.add_assoc, hs, partSize]
  · simp [wC, total, xCalls, h0, h1, h2, hs, Int.add_assoc]

theorem wrap_small {n : Nat} (h : n ≤ 300) : wrap64 (1 + (n : Int)) = 1 + n := by unfold wrap64; omega

end Go.Proofs.Ybulkbflq.lawS2824BCopyShares
