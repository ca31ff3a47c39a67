/-
  (*copier).copy (7) at a scalar and at a substitution, with the sharing closure of LawS2824BCopyShares (9).
-/
import Derived.Test.YbulkbflqConcat
import Derived.Test.YbulkbflqNodes
namespace Go.Proofs.Ybulkbflq.lawS2824BCopyShares
open Go.RowKit
set_option linter.unusedVariables false

/-- The closure over the counter in block q. -/
def SH (q : Nat) : Value := .func (.func 9) #[] #[.pointer (some ⟨q, 0, none⟩)]

/-- The copier in block c, the counter in block q; both count as Go's int does. -/
structure St (w : World) (c q : Nat) (Z Y : Int) (sh : Value) : Prop where
  cop : Cop w c (wrap64 Z) sh
  cnt : w.heap[q]? = some (.cells #[.int .i64 (wrap64 Y)] 3 (0, 0))

structure Step2 (c q : Nat) (w w' : World) : Prop where
  os : w'.os = w.os
  tape : w'.tape = w.tape
  output : w'.output = w.output
  size : w.heap.size ≤ w'.heap.size
  block : ∀ k, k < w.heap.size → k ≠ c → k ≠ q → w'.heap[k]? = w.heap[k]?

theorem Step2.refl (c q : Nat) (w : World) : Step2 c q w w := ⟨rfl, rfl, rfl, Nat.le_refl _, fun _ _ _ _ => rfl⟩
theorem Step2.trans {c q : Nat} {a b d : World} (h : Step2 c q a b) (k : Step2 c q b d) : Step2 c q a d := by
  have hs := h.size
  exact ⟨k.os.trans h.os, k.tape.trans h.tape, k.output.trans h.output, Nat.le_trans h.size k.size, fun i hi hc hq => (k.block i (by omega) hc hq).trans (h.block i hi hc hq)⟩
theorem Step2.drew {c q : Nat} {a b : World} (h : Step2 c q a b) : Step2 c q a b.drew := ⟨h.os, h.tape, h.output, h.size, h.block⟩
theorem Step2.alloc {c q : Nat} {a b : World} (h : Step2 c q a b) (o : Obj) : Step2 c q a (b.alloc o) := by
  have hs := h.size
  exact ⟨h.os, h.tape, h.output, by simp; omega, fun i hi hc hq => (Below.heap_alloc _ _ _ (by omega)).trans (h.block i hi hc hq)⟩
theorem Step2.setCop {c q : Nat} {a b : World} (h : Step2 c q a b) (o : Nat) (u : Value) : Step2 c q a (b.setCell ⟨c, o, none⟩ u) :=
  ⟨h.os, h.tape, h.output, by simp [World.setCell]; exact h.size, fun i hi hc hq => (Below.heap_setCell _ _ _ _ hc).trans (h.block i hi hc hq)⟩
theorem Step2.setCnt {c q : Nat} {a b : World} (h : Step2 c q a b) (o : Nat) (u : Value) : Step2 c q a (b.setCell ⟨q, o, none⟩ u) :=
  ⟨h.os, h.tape, h.output, by simp [World.setCell]; exact h.size, fun i hi hc hq => (Below.heap_setCell _ _ _ _ hq).trans (h.block i hi hc hq)⟩

theorem St.alloc {w : World} {c q : Nat} {Z Y : Int} {sh : Value} (h : St w c q Z Y sh) (o : Obj) : St (w.alloc o) c q Z Y sh := ⟨h.cop.alloc o, (Below.heap_alloc _ _ _ (lt_of_block h.cnt)).trans h.cnt⟩
theorem St.drew {w : World} {c q : Nat} {Z Y : Int} {sh : Value} (h : St w c q Z Y sh) : St w.drew c q Z Y sh := ⟨h.cop.drew, h.cnt⟩
theorem St.add {w : World} {c q : Nat} {Z Y : Int} {sh : Value} (hcq : c ≠ q) (h : St w c q Z Y sh) (d : Int) : St (w.setCell ⟨c, 0, none⟩ (.int .i64 (wrap64 (Z + d)))) c q (Z + d) Y sh :=
  ⟨h.cop.set _, (Below.heap_setCell _ _ _ _ (Ne.symm hcq)).trans h.cnt⟩
theorem St.put {w : World} {c q : Nat} {Z Y : Int} {sh : Value} (hcq : c ≠ q) (h : St w c q Z Y sh) (sh' : Value) : St (w.setCell ⟨c, 1, none⟩ sh') c q Z Y sh' :=
  ⟨h.cop.put _, (Below.heap_setCell _ _ _ _ (Ne.symm hcq)).trans h.cnt⟩
theorem St.tick {w : World} {c q : Nat} {Z Y : Int} {sh : Value} (hcq : c ≠ q) (h : St w c q Z Y sh) : St (w.setCell ⟨q, 0, none⟩ (.int .i64 (wrap64 (Y + 1)))) c q Z (Y + 1) sh :=
  ⟨(Below.heap_setCell _ _ _ _ hcq).trans h.cop, one_setCell h.cnt⟩

/-- The closure at a scalar. -/
theorem ask_scal (c q : Nat) (hcq : c ≠ q) (line col : Int) (t : ByteArray) (Z Y : Int) (sh : Value) (w : World) (h : St w c q Z Y sh) :
    Calls Yba.prog 9 #[.iface 41 (.agg #[.string ⟨#[]⟩, .int .i64 line, .int .i64 col, .int .i64 0, .string t, .bool false]), .pointer (some ⟨q, 0, none⟩)] w fun e w' =>
      e = .returned (.bool ((t.size : Int) % 2 == 0)) ∧ St w' c q Z (Y + 1) sh ∧ Step2 c q w w' := by
  have a5 := ta_41_41
  have c0 := cell_of_one h.cnt
  have f0 := free_of_one h.cnt
  have hlt := lt_of_block h.cnt
  have H1 := hide ((h.tick hcq).alloc (.cells #[.string ⟨#[]⟩, .int .i64 line, .int .i64 col, .int .i64 0, .string t, .bool false] 41))
  have H2 := hide (((Step2.refl c q w).setCnt 0 (.int .i64 (wrap64 (Y + 1)))).alloc (.cells #[.string ⟨#[]⟩, .int .i64 line, .int .i64 col, .int .i64 0, .string t, .bool false] 41))
  have hw : wrap64 (wrap64 Y + 1) = wrap64 (Y + 1) := wrap_add _ _
  clear h
  go_enter Yba.func9, Yba.ntmps9
  go_wp2
  go_ret
  exact ⟨rfl, H1.out, H2.out⟩

theorem ask_46 (c q : Nat) (hcq : c ≠ q) (x : Value) (Z Y : Int) (sh : Value) (w : World) (h : St w c q Z Y sh) :
    Calls Yba.prog 9 #[.iface 46 x, .pointer (some ⟨q, 0, none⟩)] w fun e w' => e = .returned (.bool false) ∧ St w' c q Z (Y + 1) sh ∧ Step2 c q w w' := by
  have a5 := ta_46_41
  have c0 := cell_of_one h.cnt
  have f0 := free_of_one h.cnt
  have hlt := lt_of_block h.cnt
  have H1 := hide ((h.tick hcq).alloc (.cells #[.string ⟨#[]⟩, .int .i64 0, .int .i64 0, .int .i64 0, .string ⟨#[]⟩, .bool false] 41))
  have H2 := hide (((Step2.refl c q w).setCnt 0 (.int .i64 (wrap64 (Y + 1)))).alloc (.cells #[.string ⟨#[]⟩, .int .i64 0, .int .i64 0, .int .i64 0, .string ⟨#[]⟩, .bool false] 41))
  have hw : wrap64 (wrap64 Y + 1) = wrap64 (Y + 1) := wrap_add _ _
  clear h
  go_enter Yba.func9, Yba.ntmps9
  go_wp2
  go_ret
  exact ⟨rfl, H1.out, H2.out⟩

theorem ask_24 (c q : Nat) (hcq : c ≠ q) (x : Value) (Z Y : Int) (sh : Value) (w : World) (h : St w c q Z Y sh) :
    Calls Yba.prog 9 #[.iface 24 x, .pointer (some ⟨q, 0, none⟩)] w fun e w' => e = .returned (.bool false) ∧ St w' c q Z (Y + 1) sh ∧ Step2 c q w w' := by
  have a5 := ta_24_41
  have c0 := cell_of_one h.cnt
  have f0 := free_of_one h.cnt
  have hlt := lt_of_block h.cnt
  have H1 := hide ((h.tick hcq).alloc (.cells #[.string ⟨#[]⟩, .int .i64 0, .int .i64 0, .int .i64 0, .string ⟨#[]⟩, .bool false] 41))
  have H2 := hide (((Step2.refl c q w).setCnt 0 (.int .i64 (wrap64 (Y + 1)))).alloc (.cells #[.string ⟨#[]⟩, .int .i64 0, .int .i64 0, .int .i64 0, .string ⟨#[]⟩, .bool false] 41))
  have hw : wrap64 (wrap64 Y + 1) = wrap64 (Y + 1) := wrap_add _ _
  clear h
  go_enter Yba.func9, Yba.ntmps9
  go_wp2
  go_ret
  exact ⟨rfl, H1.out, H2.out⟩

theorem ask_51 (c q : Nat) (hcq : c ≠ q) (x : Value) (Z Y : Int) (sh : Value) (w : World) (h : St w c q Z Y sh) :
    Calls Yba.prog 9 #[.iface 51 x, .pointer (some ⟨q, 0, none⟩)] w fun e w' => e = .returned (.bool false) ∧ St w' c q Z (Y + 1) sh ∧ Step2 c q w w' := by
  have a5 := ta_51_41
  have c0 := cell_of_one h.cnt
  have f0 := free_of_one h.cnt
  have hlt := lt_of_block h.cnt
  have H1 := hide ((h.tick hcq).alloc (.cells #[.string ⟨#[]⟩, .int .i64 0, .int .i64 0, .int .i64 0, .string ⟨#[]⟩, .bool false] 41))
  have H2 := hide (((Step2.refl c q w).setCnt 0 (.int .i64 (wrap64 (Y + 1)))).alloc (.cells #[.string ⟨#[]⟩, .int .i64 0, .int .i64 0, .int .i64 0, .string ⟨#[]⟩, .bool false] 41))
  have hw : wrap64 (wrap64 Y + 1) = wrap64 (Y + 1) := wrap_add _ _
  clear h
  go_enter Yba.func9, Yba.ntmps9
  go_wp2
  go_ret
  exact ⟨rfl, H1.out, H2.out⟩

theorem scalar_scal (line col : Int) (t : ByteArray) (w : World) :
    Calls Yba.prog 17 #[.iface 41 (.agg #[.string ⟨#[]⟩, .int .i64 line, .int .i64 col, .int .i64 0, .string t, .bool false])] w fun e w' => e = .returned (.bool true) ∧ w' = w.alloc (.cells #[.string ⟨#[]⟩, .int .i64 line, .int .i64 col, .int .i64 0, .string t, .bool false] 41) := by
  have a5 := ta_41_41
  go_enter Yba.func17, Yba.ntmps17
  go_wp2
  go_ret
  exact ⟨rfl, rfl⟩

/-- What is counted of a scalar: nothing where its length is even. -/
def oddSize (t : ByteArray) : Int := if (t.size : Int) % 2 == 0 then 0 else 1 + t.size

set_option maxHeartbeats 1600000 in
set_option maxRecDepth 100000 in
theorem scal_even (c q : Nat) (hcq : c ≠ q) (line col : Int) (t : ByteArray) (Z Y : Int) (w : World) (he : ((t.size : Int) % 2 == 0) = true) (h : St w c q Z Y (SH q)) :
    Calls Yba.prog 7 #[.pointer (some ⟨c, 0, none⟩), .iface 41 (.agg #[.string ⟨#[]⟩, .int .i64 line, .int .i64 col, .int .i64 0, .string t, .bool false])] w fun e w' => e = .returned (.iface 41 (.agg #[.string ⟨#[]⟩, .int .i64 line, .int .i64 col, .int .i64 0, .string t, .bool false])) ∧ St w' c q Z (Y + 1) (SH q) ∧ Step2 c q w w' := by
  have a7 := neqf27
  have c1 : w.cell? ⟨c, 1, none⟩ = some (.func (.func 9) #[] #[.pointer (some ⟨q, 0, none⟩)]) := h.cop.cell1
  have HH := hide h
  clear h
  go_enter Yba.func7, Yba.ntmps7
  go_wp2_with fail
  refine (ask_scal c q hcq line col t Z Y _ _ HH.out).mono ?_
  rintro e w1 ⟨rfl, h1, h2⟩
  have H1 := hide h1
  have H2 := hide h2
  clear h1 h2
  go_wp2
  go_ret
  exact ⟨rfl, H1.out, H2.out⟩

set_option maxHeartbeats 1600000 in
set_option maxRecDepth 100000 in
theorem scal_odd (c q : Nat) (hcq : c ≠ q) (line col : Int) (t : ByteArray) (Z Y : Int) (w : World) (he : ((t.size : Int) % 2 == 0) = false) (h : St w c q Z Y (SH q)) :
    Calls Yba.prog 7 #[.pointer (some ⟨c, 0, none⟩), .iface 41 (.agg #[.string ⟨#[]⟩, .int .i64 line, .int .i64 col, .int .i64 0, .string t, .bool false])] w fun e w' => e = .returned (.iface 41 (.agg #[.string ⟨#[]⟩, .int .i64 line, .int .i64 col, .int .i64 0, .string t, .bool false])) ∧ St w' c q (Z + (1 + t.size)) (Y + 1) (SH q) ∧ Step2 c q w w' := by
  have a1 := ta_41_54
  have a2 := ta_41_24
  have a3 := ta_41_56
  have a4 := ta_41_51
  have a5 := ta_41_41
  have a6 := ta_41_46
  have a7 := neqf27
  have c1 : w.cell? ⟨c, 1, none⟩ = some (.func (.func 9) #[] #[.pointer (some ⟨q, 0, none⟩)]) := h.cop.cell1
  have HH := hide h
  clear h
  go_enter Yba.func7, Yba.ntmps7
  go_wp2_with fail
  refine (ask_scal c q hcq line col t Z Y _ _ HH.out).mono ?_
  rintro e w1 ⟨rfl, h1, h2⟩
  have hlt := lt_of_block h1.cop
  have h3 := h1.alloc (.cells #[.string ⟨#[]⟩, .int .i64 line, .int .i64 col, .int .i64 0, .string t, .bool false] 41)
  have d0 := h3.cop.cell0
  have f0 := h3.cop.free 0
  have H1 := hide ((h1.add hcq (1 + (t.size : Int))).alloc (.cells #[.string ⟨#[]⟩, .int .i64 line, .int .i64 col, .int .i64 0, .string t, .bool false] 41)).drew
  have H2 := hide (((h2.setCop 0 (.int .i64 (wrap64 (Z + (1 + (t.size : Int)))))).alloc (.cells #[.string ⟨#[]⟩, .int .i64 line, .int .i64 col, .int .i64 0, .string t, .bool false] 41)).drew)
  have hw : wrap64 (wrap64 Z + wrap64 (1 + (t.size : Int))) = wrap64 (Z + (1 + (t.size : Int))) := by rw [wrap_add, wrap_add']
  have HW := hide hw
  clear h1 h2 h3 hw
  go_wp2
  go_region
  go_wp2
  go_ret
  refine ⟨rfl, ?_, ?_⟩
  · have := H1.out; rw [← HW.out] at this; exact this
  · have := H2.out; rw [← HW.out] at this; exact this

theorem scal_sh (c q : Nat) (hcq : c ≠ q) (line col : Int) (t : ByteArray) (Z Y : Int) (w : World) (h : St w c q Z Y (SH q)) :
    Calls Yba.prog 7 #[.pointer (some ⟨c, 0, none⟩), .iface 41 (.agg #[.string ⟨#[]⟩, .int .i64 line, .int .i64 col, .int .i64 0, .string t, .bool false])] w fun e w' => e = .returned (.iface 41 (.agg #[.string ⟨#[]⟩, .int .i64 line, .int .i64 col, .int .i64 0, .string t, .bool false])) ∧ St w' c q (Z + oddSize t) (Y + 1) (SH q) ∧ Step2 c q w w' := by
  cases he : ((t.size : Int) % 2 == 0)
  · have e : oddSize t = 1 + t.size := by unfold oddSize; rw [he]; rfl
    rw [e]
    exact scal_odd c q hcq line col t Z Y w he h
  · have e : oddSize t = 0 := by unfold oddSize; rw [he]; rfl
    rw [e, Int.add_zero]
    exact scal_even c q hcq line col t Z Y w he h

set_option maxRecDepth 100000 in
/-- Under isScalar a scalar is shared. -/
theorem scal_is (c q : Nat) (hcq : c ≠ q) (line col : Int) (t : ByteArray) (Z Y : Int) (w : World) (h : St w c q Z Y (.func (.func 17) #[] #[])) :
    Calls Yba.prog 7 #[.pointer (some ⟨c, 0, none⟩), .iface 41 (.agg #[.string ⟨#[]⟩, .int .i64 line, .int .i64 col, .int .i64 0, .string t, .bool false])] w fun e w' => e = .returned (.iface 41 (.agg #[.string ⟨#[]⟩, .int .i64 line, .int .i64 col, .int .i64 0, .string t, .bool false])) ∧ w' = w.alloc (.cells #[.string ⟨#[]⟩, .int .i64 line, .int .i64 col, .int .i64 0, .string t, .bool false] 41) := by
  have a7 := neqf27
  have c1 := h.cop.cell1
  clear h
  go_enter Yba.func7, Yba.ntmps7
  go_wp2_with (go_at_call 17; refine (scalar_scal line col t _).mono ?_; rintro e w1 ⟨rfl, rfl⟩)
  go_ret
  exact ⟨rfl, rfl⟩

set_option maxHeartbeats 1600000 in
set_option maxRecDepth 100000 in
theorem subst_sh (c q P : Nat) (hcq : c ≠ q) (Z Y : Int) (w : World) (h : St w c q Z Y (SH q)) :
    Calls Yba.prog 7 #[.pointer (some ⟨c, 0, none⟩), .iface 46 (.pointer (some ⟨P, 0, none⟩))] w fun e w' => e = .returned (.iface 46 (.pointer (some ⟨P, 0, none⟩))) ∧ St w' c q (Z + 1) (Y + 1) (SH q) ∧ Step2 c q w w' := by
  have a1 := ta_46_54
  have a2 := ta_46_24
  have a3 := ta_46_56
  have a4 := ta_46_51
  have a5 := ta_46_41
  have a6 := ta_46_46
  have a7 := neqf27
  have c1 : w.cell? ⟨c, 1, none⟩ = some (.func (.func 9) #[] #[.pointer (some ⟨q, 0, none⟩)]) := h.cop.cell1
  have HH := hide h
  clear h
  go_enter Yba.func7, Yba.ntmps7
  go_wp2_with fail
  refine (ask_46 c q hcq _ Z Y _ _ HH.out).mono ?_
  rintro e w1 ⟨rfl, h1, h2⟩
  have d0 := h1.cop.cell0
  have f0 := h1.cop.free 0
  have H1 := hide (h1.add hcq 1)
  have H2 := hide (h2.setCop 0 (.int .i64 (wrap64 (Z + 1))))
  have hw : wrap64 (wrap64 Z + 1) = wrap64 (Z + 1) := wrap_add _ _
  clear h1 h2
  go_wp2
  go_ret
  exact ⟨rfl, H1.out, H2.out⟩
end Go.Proofs.Ybulkbflq.lawS2824BCopyShares
