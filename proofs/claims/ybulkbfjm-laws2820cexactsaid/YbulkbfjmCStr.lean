/-
  zzs2820ccmp (31): a comparison byte by byte, in a loop; it answers as strings.Compare.
-/
import Derived.Test.YbulkbfjmStrs
import Derived.Deep.QuietTactic
import Derived.BigQuiet
namespace Go.Proofs.Ybulkbfjm
open Go.RowKit

theorem hideC {p : Prop} (h : p) : Hid p := h

theorem drop_cons (s : ByteArray) (k : Nat) (h : k < s.size) : s.data.toList.drop k = s[k] :: s.data.toList.drop (k + 1) := by
  rw [List.drop_eq_getElem_cons (by simpa using h)]; rfl

/-- How far the loop has come: the first k bytes are the same. -/
def Upto (x y : ByteArray) (k : Nat) : Prop := cmpS x y = Lib.compareBytes (x.data.toList.drop k) (y.data.toList.drop k)

theorem upto_zero (x y : ByteArray) : Upto x y 0 := rfl
theorem upto_less {x y : ByteArray} {k : Nat} (h : Upto x y k) (hx : k < x.size) (hy : k < y.size) (hl : (x[k].toNat : Int) < (y[k].toNat : Int)) : cmpS x y = -1 := by
  have : x[k] < y[k] := by rw [UInt8.lt_iff_toNat_lt]; omega
  rw [h, drop_cons x k hx, drop_cons y k hy, Lib.compareBytes, if_pos this]
theorem upto_more {x y : ByteArray} {k : Nat} (h : Upto x y k) (hx : k < x.size) (hy : k < y.size) (hl : (y[k].toNat : Int) < (x[k].toNat : Int)) : cmpS x y = 1 := by
  have h1 : ¬ x[k] < y[k] := by rw [UInt8.lt_iff_toNat_lt]; omega
  have h2 : y[k] < x[k] := by rw [UInt8.lt_iff_toNat_lt]; omega
  rw [h, drop_cons x k hx, drop_cons y k hy, Lib.compareBytes, if_neg h1, if_pos h2]
theorem upto_next {x y : ByteArray} {k : Nat} (h : Upto x y k) (hx : k < x.size) (hy : k < y.size) (hl : (y[k].toNat : Int) ≤ (x[k].toNat : Int)) (hm : (x[k].toNat : Int) ≤ (y[k].toNat : Int)) : Upto x y (k + 1) := by
  have h1 : ¬ x[k] < y[k] := by rw [UInt8.lt_iff_toNat_lt]; omega
  have h2 : ¬ y[k] < x[k] := by rw [UInt8.lt_iff_toNat_lt]; omega
  unfold Upto at h ⊢
  rw [h, drop_cons x k hx, drop_cons y k hy, Lib.compareBytes, if_neg h1, if_neg h2]
theorem upto_end_less {x y : ByteArray} {k : Nat} (h : Upto x y k) (hx : k = x.size) (hl : x.size < y.size) : cmpS x y = -1 := by
  subst hx
  have e : x.data.toList.drop x.size = [] := List.drop_eq_nil_of_le (by rw [Array.length_toList]; exact Nat.le_refl _)
  rw [h, e, drop_cons y _ hl]; rfl
theorem upto_end_more {x y : ByteArray} {k : Nat} (h : Upto x y k) (hy : k = y.size) (hl : y.size < x.size) : cmpS x y = 1 := by
  subst hy
  have e : y.data.toList.drop y.size = [] := List.drop_eq_nil_of_le (by rw [Array.length_toList]; exact Nat.le_refl _)
  rw [h, e, drop_cons x _ hl]; rfl
theorem upto_end_same {x y : ByteArray} {k : Nat} (h : Upto x y k) (hx : k = x.size) (hl : x.size = y.size) : cmpS x y = 0 := by
  subst hx
  have e : x.data.toList.drop x.size = [] := List.drop_eq_nil_of_le (by rw [Array.length_toList]; exact Nat.le_refl _)
  have e2 : y.data.toList.drop x.size = [] := by rw [hl]; exact List.drop_eq_nil_of_le (by rw [Array.length_toList]; exact Nat.le_refl _)
  rw [h, e, e2]; rfl

theorem drewN_add (w : World) (m n : Nat) : (w.drewN m).drewN n = w.drewN (m + n) := by
  simp [World.drewN, Nat.add_assoc]

set_option maxHeartbeats 1600000 in
set_option maxRecDepth 100000 in
theorem ccmp_any (x y : ByteArray) (w : World) (hx : x.size ≤ 4096) (hy : y.size ≤ 4096) :
    Calls Yba.prog 31 #[.string x, .string y] w fun e w' => e = .returned (.int .i64 (cmpS x y)) ∧ ∃ n, w' = w.drewN n := by
  by_cases hlt : y.size < x.size
  · have hne : ¬ x.size < y.size := by omega
    go_enter Yba.func31, Yba.ntmps31
    go_wp2
    go_loopw [6] (fun i wr => ∃ k n : Nat, k ≤ y.size ∧ i = .int .i64 k ∧ Upto x y k ∧ wr = w.drewN n) (fun i _ => y.size - (intOf i).toNat)
    case atStart => exact ⟨0, 0, Nat.zero_le _, rfl, upto_zero x y, rfl⟩
    case round =>
      obtain ⟨k, n, hk, rfl, hu, rfl⟩ := hrel
      by_cases hkl : k < y.size
      · have hky : (k : Int) < (y.size : Int) := by omega
        have hkx : (k : Int) < (x.size : Int) := by omega
        have hky' : k < y.size := by omega
        have hkx' : k < x.size := by omega
        go_wp2_with fail
        go_quiet (fail)
        go_wp2
        · go_ret
          exact ⟨ret_int (upto_less hu hkx' hky' (by omega)).symm, _, drewN_add _ _ _⟩
        · go_quiet (fail)
          go_wp2
          · go_ret
            exact ⟨ret_int (upto_more hu hkx' hky' (by omega)).symm, _, (congrArg (fun v => World.drewN v _) (drewN_add _ _ _)).trans (drewN_add _ _ _)⟩
          · go_roundw
            case rel => exact ⟨k + 1, _, by omega, by go_num, upto_next hu hkx' hky' (by omega) (by omega), rfl⟩
            case measure => simp [intOf]; omega
      · go_wp2
        go_ret
        exact ⟨ret_int (upto_end_more hu (by omega) hlt).symm, n, rfl⟩
  by_cases hgt : x.size < y.size
  · have hd : True := trivial
    go_enter Yba.func31, Yba.ntmps31
    go_wp2
    go_loopw [6] (fun i wr => ∃ k n : Nat, k ≤ x.size ∧ i = .int .i64 k ∧ Upto x y k ∧ wr = w.drewN n) (fun i _ => x.size - (intOf i).toNat)
    case atStart => exact ⟨0, 0, Nat.zero_le _, rfl, upto_zero x y, rfl⟩
    case round =>
      obtain ⟨k, n, hk, rfl, hu, rfl⟩ := hrel
      by_cases hkl : k < x.size
      · have hky : (k : Int) < (y.size : Int) := by omega
        have hkx : (k : Int) < (x.size : Int) := by omega
        have hky' : k < y.size := by omega
        have hkx' : k < x.size := by omega
        go_wp2_with fail
        go_quiet (fail)
        go_wp2
        · go_ret
          exact ⟨ret_int (upto_less hu hkx' hky' (by omega)).symm, _, drewN_add _ _ _⟩
        · go_quiet (fail)
          go_wp2
          · go_ret
            exact ⟨ret_int (upto_more hu hkx' hky' (by omega)).symm, _, (congrArg (fun v => World.drewN v _) (drewN_add _ _ _)).trans (drewN_add _ _ _)⟩
          · go_roundw
            case rel => exact ⟨k + 1, _, by omega, by go_num, upto_next hu hkx' hky' (by omega) (by omega), rfl⟩
            case measure => simp [intOf]; omega
      · go_wp2
        go_ret
        exact ⟨ret_int (upto_end_less hu (by omega) hgt).symm, n, rfl⟩
  · have he : x.size = y.size := by omega
    have HE := hideC he
    have h1 : x.size ≤ y.size := by omega
    have h2 : y.size ≤ x.size := by omega
    clear he
    go_enter Yba.func31, Yba.ntmps31
    go_wp2
    go_loopw [6] (fun i wr => ∃ k n : Nat, k ≤ x.size ∧ i = .int .i64 k ∧ Upto x y k ∧ wr = w.drewN n) (fun i _ => x.size - (intOf i).toNat)
    case atStart => exact ⟨0, 0, Nat.zero_le _, rfl, upto_zero x y, rfl⟩
    case round =>
      obtain ⟨k, n, hk, rfl, hu, rfl⟩ := hrel
      by_cases hkl : k < x.size
      · have hky : (k : Int) < (y.size : Int) := by omega
        have hkx : (k : Int) < (x.size : Int) := by omega
        have hky' : k < y.size := by omega
        have hkx' : k < x.size := by omega
        go_wp2_with fail
        go_quiet (fail)
        go_wp2
        · go_ret
          exact ⟨ret_int (upto_less hu hkx' hky' (by omega)).symm, _, drewN_add _ _ _⟩
        · go_quiet (fail)
          go_wp2
          · go_ret
            exact ⟨ret_int (upto_more hu hkx' hky' (by omega)).symm, _, (congrArg (fun v => World.drewN v _) (drewN_add _ _ _)).trans (drewN_add _ _ _)⟩
          · go_roundw
            case rel => exact ⟨k + 1, _, by omega, by go_num, upto_next hu hkx' hky' (by omega) (by omega), rfl⟩
            case measure => simp [intOf]; omega
      · go_wp2
        go_ret
        exact ⟨ret_int (upto_end_same hu (by omega) HE.out).symm, n, rfl⟩
end Go.Proofs.Ybulkbfjm
