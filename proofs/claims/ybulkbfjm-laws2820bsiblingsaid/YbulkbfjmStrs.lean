/-
  strings.Compare (42), bytealg.CompareString (49), cmp.Compare[int] (15), the strings' plain comparisons.
-/
import Derived.Test.YbulkbfjmRows
import Derived.WalkKit
import Derived.WalkLawsBesides
import Derived.Laws.EntriesVeiled
import Derived.Lib.Bytealg
namespace Go.Proofs.Ybulkbfjm
open Go.RowKit

/-- strings.Compare's answer. -/
def cmpS (a b : ByteArray) : Int := Lib.compareBytes a.data.toList b.data.toList

set_option maxHeartbeats 1000000 in
set_option maxRecDepth 100000 in
theorem compareString_any (a b : ByteArray) (w : World) :
    Calls Yba.prog 49 #[.string a, .string b] w fun e w' => e = .returned (.int .i64 (cmpS a b)) ∧ w' = w := by
  go_enter Yba.func49, Yba.ntmps49
  go_wp2
  rw [run_callFunc_extern Yba.func51 (by kernel_rfl) (by kernel_rfl) (by kernel_rfl) (e := Extern.BytealgCompare.compare) (by kernel_rfl), Lib.run_compareString]
  simp only [Result.andThen]
  rw [Oper.upon_value]
  go_wp2
  go_ret
  exact ⟨rfl, rfl⟩

theorem compare_any (a b : ByteArray) (w : World) :
    Calls Yba.prog 42 #[.string a, .string b] w fun e w' => e = .returned (.int .i64 (cmpS a b)) ∧ w' = w := by
  go_enter Yba.func42, Yba.ntmps42
  go_wp2_with (go_at_call 49; refine (compareString_any _ _ _).mono ?_; rintro e w' ⟨rfl, rfl⟩)
  go_ret
  exact ⟨rfl, rfl⟩

theorem compareBytes_cases : ∀ (x y : List UInt8), (Op.bytesLess x y = true → Lib.compareBytes x y = -1) ∧ (Op.bytesLess x y = false → x ≠ y → Lib.compareBytes x y = 1) ∧ Lib.compareBytes x x = 0
  | [], [] => by simp [Op.bytesLess, Lib.compareBytes]
  | [], _ :: _ => by simp [Op.bytesLess, Lib.compareBytes]
  | a :: x, [] => by
    have h := (compareBytes_cases x x).2.2
    simp [Op.bytesLess, Lib.compareBytes, h]
  | a :: x, b :: y => by
    have ih := compareBytes_cases x y
    refine ⟨fun h => ?_, fun h hne => ?_, ?_⟩
    · simp only [Op.bytesLess, Bool.or_eq_true, decide_eq_true_eq, Bool.and_eq_true, beq_iff_eq] at h
      rcases h with h | ⟨rfl, h⟩
      · simp [Lib.compareBytes, h]
      · simp [Lib.compareBytes, ih.1 h]
    · simp only [Op.bytesLess, Bool.or_eq_false_iff, decide_eq_false_iff_not, Bool.and_eq_false_iff, beq_eq_false_iff_ne] at h
      obtain ⟨h1, h2⟩ := h
      by_cases hab : a = b
      · subst hab
        have hxy : x ≠ y := fun e => hne (by rw [e])
        have h3 : Op.bytesLess x y = false := by rcases h2 with h2 | h2; exact absurd rfl h2; exact h2
        simp [Lib.compareBytes, ih.2.1 h3 hxy]
      · have : b < a := UInt8.lt_of_le_of_ne (UInt8.not_lt.1 h1) (Ne.symm hab)
        simp [Lib.compareBytes, h1, this]
    · have h := (compareBytes_cases x x).2.2
      simp [Lib.compareBytes, h]

theorem cmpS_range (a b : ByteArray) : cmpS a b = -1 ∨ cmpS a b = 0 ∨ cmpS a b = 1 := by
  have h := compareBytes_cases a.data.toList b.data.toList
  unfold cmpS
  cases hl : Op.bytesLess a.data.toList b.data.toList with
  | true => exact .inl (h.1 hl)
  | false =>
    by_cases he : a.data.toList = b.data.toList
    · rw [he]; exact .inr (.inl ((compareBytes_cases b.data.toList b.data.toList).2.2))
    · exact .inr (.inr (h.2.1 hl he))

theorem cmpS_less {a b : ByteArray} (h : Op.bytesLess a.toList b.toList = true) : cmpS a b = -1 := by
  rw [Lib.toList_data, Lib.toList_data] at h
  exact (compareBytes_cases _ _).1 h
theorem cmpS_more {a b : ByteArray} (h : Op.bytesLess a.toList b.toList = false) (h2 : (!a.toList == b.toList) = true) : cmpS a b = 1 := by
  rw [Lib.toList_data, Lib.toList_data] at h h2
  exact (compareBytes_cases _ _).2.1 h (by simpa using h2)
theorem cmpS_same {a b : ByteArray} (h2 : (!a.toList == b.toList) = false) : cmpS a b = 0 := by
  rw [Lib.toList_data, Lib.toList_data] at h2
  have e : a.data.toList = b.data.toList := by simpa using h2
  unfold cmpS
  rw [e]
  exact (compareBytes_cases b.data.toList b.data.toList).2.2

theorem ret_int {k : IntKind} {a b : Int} (h : a = b) : Ending.returned (.int k a) = .returned (.int k b) := by rw [h]

/-- zzs2820bcmp: the law's own comparison of two strings. -/
theorem bcmp_any (a b : ByteArray) (w : World) :
    Calls Yba.prog 22 #[.string a, .string b] w fun e w' => e = .returned (.int .i64 (cmpS a b)) ∧ w' = w := by
  go_enter Yba.func22, Yba.ntmps22
  go_wp2
  all_goals go_ret
  · exact ⟨ret_int (cmpS_less ‹_›).symm, rfl⟩
  · exact ⟨ret_int (cmpS_more ‹_› ‹_›).symm, rfl⟩
  · exact ⟨ret_int (cmpS_same ‹_›).symm, rfl⟩

theorem isNaNs_any (a : ByteArray) (w : World) : Calls Yba.prog 50 #[.string a] w fun e w' => e = .returned (.bool false) ∧ w' = w := by
  go_enter Yba.func50, Yba.ntmps50
  go_wp2
  go_ret
  exact ⟨by simp, rfl⟩

theorem compareStr_any (a b : ByteArray) (w : World) :
    Calls Yba.prog 44 #[.string a, .string b] w fun e w' => e = .returned (.int .i64 (cmpS a b)) ∧ w' = w := by
  go_enter Yba.func44, Yba.ntmps44
  go_wp2_with (go_at_call 50; refine (isNaNs_any _ _).mono ?_; rintro e w' ⟨rfl, rfl⟩)
  all_goals go_ret
  · exact ⟨ret_int (cmpS_less ‹_›).symm, rfl⟩
  · exact ⟨ret_int (cmpS_more ‹_› ‹_›).symm, rfl⟩
  · exact ⟨ret_int (cmpS_same ‹_›).symm, rfl⟩

def cmpI (x y : Int) : Int := if x < y then -1 else if y < x then 1 else 0
theorem cmpI_less {x y : Int} (h : x < y) : cmpI x y = -1 := by simp [cmpI, h]
theorem cmpI_more {x y : Int} (h : y < x) : cmpI x y = 1 := by have : ¬ x < y := by omega
                                                               simp [cmpI, h, this]
theorem cmpI_same {x y : Int} (h : y ≤ x) (h' : x ≤ y) : cmpI x y = 0 := by have h1 : ¬ x < y := by omega
                                                                            have h2 : ¬ y < x := by omega
                                                                            simp [cmpI, h1, h2]

theorem isNaN_any (a : Int) (w : World) : Calls Yba.prog 40 #[.int .i64 a] w fun e w' => e = .returned (.bool false) ∧ w' = w := by
  go_enter Yba.func40, Yba.ntmps40
  go_wp2
  go_ret
  exact ⟨by simp, rfl⟩

theorem compareInt_any (a b : Int) (w : World) :
    Calls Yba.prog 15 #[.int .i64 a, .int .i64 b] w fun e w' => e = .returned (.int .i64 (cmpI a b)) ∧ w' = w := by
  go_enter Yba.func15, Yba.ntmps15
  go_wp2_with (go_at_call 40; refine (isNaN_any _ _).mono ?_; rintro e w' ⟨rfl, rfl⟩)
  all_goals go_ret
  · exact ⟨ret_int (cmpI_less ‹_›).symm, rfl⟩
  · exact ⟨ret_int (cmpI_more ‹_›).symm, rfl⟩
  · exact ⟨ret_int (cmpI_same ‹_› ‹_›).symm, rfl⟩

end Go.Proofs.Ybulkbfjm
