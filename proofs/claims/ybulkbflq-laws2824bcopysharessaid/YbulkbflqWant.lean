/-
  What the want-loop of LawS2824BCopyPlain needs.
-/
import Derived.Test.YbulkbflqNodes
import Derived.Test.YbulkbflqBig
namespace Go.Proofs.Ybulkbflq
open Go.RowKit
set_option linter.unusedVariables false

theorem Row.up {B B' : Nat} {w : World} {a : Option Addr} {len : Nat} {ss : List ByteArray} (h : Row B w a len ss) (hb : B ≤ B') : Row B' w a len ss := fun j hj => by
  obtain ⟨b, off, h1, h2, h3⟩ := h j hj
  exact ⟨b, off, h1, by omega, h3⟩
theorem Items.up {B B' : Nat} {w : World} {a : Option Addr} {n : Nat} {its : Nat → Item} (h : Items B w a n its) (hb : B ≤ B') : Items B' w a n its := fun i hi => by
  obtain ⟨b, off, h1, h2, h3, h4, h5, h6, h7⟩ := h i hi
  exact ⟨b, off, h1, by omega, h3, h4, h5, h6.up hb, h7⟩

/-- What is wanted after k items. -/
def want (its : Nat → Item) (k : Nat) : Int := 1 + total (fun i => itemSize (its i)) k

theorem want_0 {its : Nat → Item} {k : Nat} (h : (its k).kind % 4 = 0) : want its (k + 1) = want its k + (1 + (its k).text.size) := by simp [want, total, itemSize, h, Int.add_assoc]
theorem want_1 {its : Nat → Item} {k : Nat} (h : (its k).kind % 4 = 1) : want its (k + 1) = want its k + 1 := by simp [want, total, itemSize, h, Int.add_assoc]
theorem want_2 {its : Nat → Item} {k : Nat} (h0 : ¬ (its k).kind % 4 = 0) (h1 : ¬ (its k).kind % 4 = 1) : want its (k + 1) = want its k + 1 + total (strSize (its k).ss) (its k).sl := by simp [want, total, itemSize, h0, h1, Int.add_assoc]

end Go.Proofs.Ybulkbflq
