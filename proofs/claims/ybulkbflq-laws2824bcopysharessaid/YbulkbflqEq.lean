/-
  '==' of pointers and of interface values, as this law meets it.
-/
import Derived.Test.YbulkbflqTypes
import Derived.LaidEql
namespace Go.Proofs.Ybulkbflq
open Go.RowKit

theorem ptr_ne {t e : TypeId} {j : TypeInfo} (ht : Yba.prog.underlying t = some (.pointer e)) (hte : Yba.prog.info? e = some j) (hsz : j.size ≠ 0) {a b : Nat} {ca cb : Array Value} {ta tb : TypeId} (w : World) (hne : a ≠ b)
    (ha : w.heap[a]? = some (.cells ca ta (0, 0))) (hb : w.heap[b]? = some (.cells cb tb (0, 0))) :
    (binOp .eql t (.pointer (some ⟨a, 0, none⟩)) (.pointer (some ⟨b, 0, none⟩))).run Yba.prog w = .ok (.bool false) w := by
  have hne' : (⟨a, 0, none⟩ : Addr) ≠ ⟨b, 0, none⟩ := fun e => hne (by injection e)
  have h : ∀ d : Nat, (Op.equalIn (d + 1) t (.pointer (some ⟨a, 0, none⟩)) (.pointer (some ⟨b, 0, none⟩))).run Yba.prog w = .ok false w := fun d => by
    simp [Op.equalIn, run_underlying ht, sizeOf, typeInfo, hte, hsz, run_sameAddr_other (P := Yba.prog) w (a := ⟨a, 0, none⟩) (b := ⟨b, 0, none⟩) hne' ha hb]
  simp only [binOp]
  simp [Op.equal, Op.maxDepth, h 9999]

theorem Yba.size45 : (Yba.prog.info? 45).map (fun j => j.size) = some 4 := by kernel_rfl
theorem Yba.size53 : (Yba.prog.info? 53).map (fun j => j.size) = some 3 := by kernel_rfl
theorem Yba.size49 : (Yba.prog.info? 49).map (fun j => j.size) = some 7 := by kernel_rfl
theorem Yba.comp46 : (Yba.prog.info? 46).map (fun j => j.comparable) = some true := by kernel_rfl

theorem ptr24 {a b : Nat} {ca cb : Array Value} {ta tb : TypeId} (w : World) (hne : a ≠ b) (ha : w.heap[a]? = some (.cells ca ta (0, 0))) (hb : w.heap[b]? = some (.cells cb tb (0, 0))) :
    (binOp .eql 24 (.pointer (some ⟨a, 0, none⟩)) (.pointer (some ⟨b, 0, none⟩))).run Yba.prog w = .ok (.bool false) w := by
  obtain ⟨j, hj, hs⟩ := Option.map_eq_some_iff.1 Yba.size45
  exact ptr_ne Yba.underlying24 hj (by omega) w hne ha hb
theorem ptr51 {a b : Nat} {ca cb : Array Value} {ta tb : TypeId} (w : World) (hne : a ≠ b) (ha : w.heap[a]? = some (.cells ca ta (0, 0))) (hb : w.heap[b]? = some (.cells cb tb (0, 0))) :
    (binOp .eql 51 (.pointer (some ⟨a, 0, none⟩)) (.pointer (some ⟨b, 0, none⟩))).run Yba.prog w = .ok (.bool false) w := by
  obtain ⟨j, hj, hs⟩ := Option.map_eq_some_iff.1 Yba.size53
  exact ptr_ne Yba.underlying51 hj (by omega) w hne ha hb

theorem if46 (a : Addr) (w : World) : (binOp .neq 31 (.iface 46 (.pointer (some a))) (.iface 46 (.pointer (some a)))).run Yba.prog w = .ok (.bool false) w := by
  obtain ⟨i, hi, hc⟩ := Option.map_eq_some_iff.1 Yba.comp46
  obtain ⟨j, hj, _⟩ := Option.map_eq_some_iff.1 Yba.size49
  simp only [binOp]
  simp [Op.equal, Op.maxDepth, run_equalIn_iface_ptr_same (P := Yba.prog) w 9998 a Yba.underlying31 Yba.underlying46 hi hc hj]
end Go.Proofs.Ybulkbflq
