/-
  The proof of 'Rows.LawS2820AExactSaid'.
-/
import Derived.Test.YbulkbfjmPair
import Derived.Test.YbulkbfjmMade
import Derived.ProofKit
import Derived.OpenShut
import Derived.ShutString
import Derived.ChangeOld
import Derived.Below
import Derived.Deep.Light
namespace Go.Proofs.Ybulkbfjm.lawS2820AExact
open Go.ChangeShapes Go.WideShapes Go.ChangeAt Go.RowKit
set_option linter.unusedSimpArgs false
set_option linter.unusedVariables false

theorem own : ownKnob Yba.prog.godebug = none := by kernel_rfl

theorem then_nil (b : Nat) (fn : Fn) (f c : Array Value) (w : World) (h : w.cell? ⟨b, 0, none⟩ = some (.func fn f c)) :
    Calls Yba.prog 46 #[.slice none 0 0, .pointer (some ⟨b, 0, none⟩)] w fun e w' => e = .returned (.func fn f c) ∧ w' = w.alloc (.cells #[.nilFunc] 29) := by
  have q4 := eqn29
  have h2 : (w.alloc (.cells #[.nilFunc] 29)).cell? ⟨b, 0, none⟩ = some (.func fn f c) := (World.cell?_alloc_lt _ _ _ (World.block_lt_of_cell? w _ h)).trans h
  go_enter Yba.func46, Yba.ntmps46
  go_wp2
  go_ret
  exact ⟨rfl, rfl⟩

theorem log_two {w : World} {base b : Nat} {v : Value} {x y : Int} (h : Log w base b v [x, y]) :
    ∃ g cap, v = .slice (some ⟨g, 0, none⟩) 2 cap ∧ w.cell? ⟨b, 0, none⟩ = some (.slice (some ⟨g, 0, none⟩) 2 cap) ∧ w.cell? ⟨g, 0, none⟩ = some (.int .i64 x) ∧ w.cell? ⟨g, 1, none⟩ = some (.int .i64 y) := by
  obtain ⟨h1, h2⟩ := h
  rcases h2.2 with ⟨_, h0⟩ | ⟨g, cap, cur, rfl, hg, hh, r⟩
  · simp at h0
  · have c := h2.cells (g := g) rfl
    refine ⟨g, cap, rfl, cell_of_one h1, ?_, ?_⟩
    · simpa [Addr.add] using c 0 (.int .i64 x) (by simp)
    · simpa [Addr.add] using c 1 (.int .i64 y) (by simp)

theorem heap_alloc_if (w : World) (o : Obj) (k : Nat) : (w.alloc o).heap[k]? = if k = w.heap.size then some o else w.heap[k]? := by
  show (w.heap.push o)[k]? = _
  rw [Array.getElem?_push]

theorem below_both {w W w1 : World} {bk bc : Nat} {vk vc : Value} {xs ys : List Int} (hW : Below w.heap.size w W) (h : Both W w1 bk bc vk vc xs ys) (hk : w.heap.size ≤ bk) (hc : w.heap.size ≤ bc) : Below w.heap.size w w1 := by
  have hs := hW.size
  exact hW.trans ⟨h.os, h.tape, h.output, h.size, fun k hlt => h.block k (by omega) (by omega) (by omega)⟩

set_option maxHeartbeats 1600000 in
set_option maxRecDepth 100000 in
theorem walk_asc (a b dir : Int) (hd : ¬ dir < 0) (w : World) :
    Calls Yba.prog 3 #[.int .i64 a, .int .i64 b, .int .i64 dir] w fun e w' => e = .returned (.bool true) ∧ Below w.heap.size w w' := by
  have hmf : ∀ (fn : Fn) (first cap : Array Value) (w : World), (Instr.makeFunc fn first cap).run Yba.prog w = .ok (.func fn first cap) w := fun _ _ _ _ => rfl
  have q2 := eqf25
  have q3 := eqf29
  have q5 := neqi20
  go_enter Yba.func3, Yba.ntmps3
  go_wp2_with (first | (go_at_call 11; refine (compareKey_asc _ _ _ _ _ _ _ _ hd _).mono ?_; rintro e w' ⟨rfl, rfl⟩))
  refine (then_nil _ (.func 39) #[] #[.pointer (some ⟨w.heap.size + 1 + 1 + 1, 0, none⟩), .pointer (some ⟨w.heap.size + 1 + 1, 0, none⟩)] _ ?_).mono ?_
  · go_simp
  rintro e w' ⟨rfl, rfl⟩
  go_wp2_with fail
  refine (asc_any a b w.heap.size (w.heap.size + 1) (w.heap.size + 1 + 1) (w.heap.size + 1 + 1 + 1) _ ?_ ?_ ?_ ?_ ?_ ?_ ?_ ?_ ?_ ?_ ?_).mono ?_
  · go_light; simp; omega
  · go_light; simp
  · go_light; omega
  · go_light; omega
  · go_light; omega
  · go_light; omega
  · go_light; omega
  · go_light; simp only [heap_alloc_if, World.size_alloc, Nat.add_assoc, Nat.reduceAdd, Nat.left_eq_add, Nat.add_left_cancel_iff, Nat.reduceEqDiff, if_false, if_true, reduceIte, Nat.one_ne_zero]
  · go_light; simp only [heap_alloc_if, World.size_alloc, Nat.add_assoc, Nat.reduceAdd, Nat.left_eq_add, Nat.add_left_cancel_iff, Nat.reduceEqDiff, if_false, if_true, reduceIte, Nat.one_ne_zero]
  · go_simp
  · go_simp
  rintro e w1 ⟨rfl, vk, vc, hB⟩
  have hBel := below_both (w := w) (by repeat (first | exact Below.refl _ _ | (refine Below.alloc ?_ (by simp <;> omega) _))) hB (Nat.le_refl _) (by omega)
  obtain ⟨gk, ck, rfl, k0, k1, k2⟩ := log_two hB.lk
  obtain ⟨gc, cc, rfl, c0, c1, c2⟩ := log_two hB.lc
  have HB := hide hBel
  clear hB hBel
  go_wp2
  go_ret
  exact ⟨rfl, HB.out⟩
set_option maxHeartbeats 1600000 in
set_option maxRecDepth 100000 in
theorem walk_desc (a b dir : Int) (hd : dir < 0) (w : World) :
    Calls Yba.prog 3 #[.int .i64 a, .int .i64 b, .int .i64 dir] w fun e w' => e = .returned (.bool true) ∧ Below w.heap.size w w' := by
  have hmf : ∀ (fn : Fn) (first cap : Array Value) (w : World), (Instr.makeFunc fn first cap).run Yba.prog w = .ok (.func fn first cap) w := fun _ _ _ _ => rfl
  have q2 := eqf25
  have q3 := eqf29
  have q5 := neqi20
  go_enter Yba.func3, Yba.ntmps3
  go_wp2_with (first | (go_at_call 11; refine (compareKey_desc _ _ _ _ _ _ _ _ hd _).mono ?_; rintro e w' ⟨rfl, rfl⟩))
  refine (then_nil _ (.func 38) #[] #[.pointer (some ⟨w.heap.size + 1 + 1 + 1, 0, none⟩), .pointer (some ⟨w.heap.size + 1 + 1, 0, none⟩)] _ ?_).mono ?_
  · go_simp
  rintro e w' ⟨rfl, rfl⟩
  go_wp2_with fail
  refine (desc_any a b w.heap.size (w.heap.size + 1) (w.heap.size + 1 + 1) (w.heap.size + 1 + 1 + 1) _ ?_ ?_ ?_ ?_ ?_ ?_ ?_ ?_ ?_ ?_ ?_).mono ?_
  · go_light; simp; omega
  · go_light; simp
  · go_light; omega
  · go_light; omega
  · go_light; omega
  · go_light; omega
  · go_light; omega
  · go_light; simp only [heap_alloc_if, World.size_alloc, Nat.add_assoc, Nat.reduceAdd, Nat.left_eq_add, Nat.add_left_cancel_iff, Nat.reduceEqDiff, if_false, if_true, reduceIte, Nat.one_ne_zero]
  · go_light; simp only [heap_alloc_if, World.size_alloc, Nat.add_assoc, Nat.reduceAdd, Nat.left_eq_add, Nat.add_left_cancel_iff, Nat.reduceEqDiff, if_false, if_true, reduceIte, Nat.one_ne_zero]
  · go_simp
  · go_simp
  rintro e w1 ⟨rfl, vk, vc, hB⟩
  have hBel := below_both (w := w) (by repeat (first | exact Below.refl _ _ | (refine Below.alloc ?_ (by simp <;> omega) _))) hB (Nat.le_refl _) (by omega)
  obtain ⟨gk, ck, rfl, k0, k1, k2⟩ := log_two hB.lk
  obtain ⟨gc, cc, rfl, c0, c1, c2⟩ := log_two hB.lc
  have HB := hide hBel
  clear hB hBel
  go_wp2
  go_ret
  exact ⟨rfl, HB.out⟩

theorem walk (a0 : Int) (a1 : Int) (a2 : Int) (w : World) :
    Calls Yba.prog 3 #[.int .i64 a0, .int .i64 a1, .int .i64 a2] w fun e w' => e = .returned (.bool true) ∧ Below w.heap.size w w' := by
  by_cases hd : a2 < 0
  · exact walk_desc a0 a1 a2 hd w
  · exact walk_asc a0 a1 a2 hd w

set_option maxRecDepth 100000 in
theorem lifted (os : Os) (started : os.Started) (H : Type) (enc : TypeId × Value → H) :
    ReturnsInHanded {} Yba.checked os 3 .any (Rows.lawS2820AExactSpec.pre6 enc Yba.prog Yba.f3 Rows.lawS2820AExactRow.domain false) (Rows.lawS2820AExactSpec.post enc Yba.prog Yba.f3 false true false false) := by
  refine returnsInHanded_of_change (C := Yba.checked) own started (by kernel_rfl) Yba.func3
    (ChangeSpec.witness6 (enc := enc) (C := Yba.checked) false ⟨#[], #[.int .i64 0, .int .i64 0, .int .i64 0], []⟩ 8 (by kernel_rfl) (by kernel_rfl) (by kernel_rfl) (by kernel_rfl)) ?_
  intro W base args ds gs before hval0 hW hcnd _
  have hval : ∀ (j : Nat) t v, Yba.f3.params[j]? = some t → args[j]? = some v → Value.okWide Yba.prog W .any base t v := hval0
  have hW' := hW
  obtain ⟨p, q, hA0, hV, rfl, hfz, hnd⟩ := hW
  have hA : DataW.TrodAll enc Yba.prog W 0 (fun _ => true) true Yba.f3.params.toList args.toList ds p := hA0
  rw [Yba.params3] at hA hval
  obtain ⟨v0, vs0, d0, ds0, p0, q0, hargs, rfl, rfl, h0, r0⟩ := trodAll_cons hA
  obtain ⟨v1, vs1, d1, ds1, p1, q1, rfl, rfl, rfl, h1, r1⟩ := trodAll_cons r0
  obtain ⟨v2, vs2, d2, ds2, p2, q2, rfl, rfl, rfl, h2, r2⟩ := trodAll_cons r1
  obtain ⟨rfl, rfl, rfl⟩ := trodAll_nil r2
  obtain rfl : args = #[v0, v1, v2] := by cases args; simp_all
  obtain ⟨rfl, rfl⟩ := trodVars_none hV
  obtain ⟨a0, rfl, rfl, rfl, w0⟩ := open_int Yba.underlying3 (hval 0 3 v0 rfl rfl) h0
  obtain ⟨a1, rfl, rfl, rfl, w1⟩ := open_int Yba.underlying3 (hval 1 3 v1 rfl rfl) h1
  obtain ⟨a2, rfl, rfl, rfl, w2⟩ := open_int Yba.underlying3 (hval 2 3 v2 rfl rfl) h2
  clear hA0 hval0
  refine (walk a0 a1 a2 W).mono fun e W' ⟨he, bel⟩ => ?_
  subst he
  exact ⟨_, rfl, _, _, _, [], _, [], hW', trodAll_mk1 (shut_bool Yba.underlying4 _), (trodAll_cons_mk (shut_int Yba.underlying3 w0) (trodAll_cons_mk (shut_int Yba.underlying3 w1) (trodAll_cons_mk (shut_int Yba.underlying3 w2) trodAll_mk0))), rfl, bel.frame _, fun h => by cases h⟩

theorem over : Rows.lawS2820AExactRow.holds Yba.pinned (OpenSpec.ofChange Rows.lawS2820AExactSpec) :=
  OpenClaim.holds_of_wide 3 Yba.f3 rfl rfl rfl rfl rfl rfl rfl ⟨rfl, rfl, rfl, rfl, rfl⟩ rfl rfl rfl rfl rfl (by kernel_rfl) Yba.func3 (by kernel_rfl)
    (of_decide_eq_true (by kernel_rfl)) (by unfold Func.isWrapper; first | (rw [if_pos (by decide +kernel)]; kernel_rfl) | (rw [if_neg (by decide +kernel)]; exact ⟨rfl, rfl⟩))
    (fun os started H enc _ => lifted os started H enc)

theorem proved : Rows.LawS2820AExactSaid :=
  over
end Go.Proofs.Ybulkbfjm.lawS2820AExact
