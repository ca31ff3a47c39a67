/-
  The proof of 'Rows.LawS2820BSiblingSaid'.
-/
import Derived.Test.YbulkbfjmBSiblingWalk
import Derived.ProofKit
import Derived.OpenShut
import Derived.ShutString
import Derived.ChangeOld
import Derived.Below
import Derived.SliceStrings
namespace Go.Proofs.Ybulkbfjm.lawS2820BSibling
open Go.ChangeShapes Go.WideShapes Go.ChangeAt Go.RowKit
set_option linter.unusedVariables false

theorem own : ownKnob Yba.prog.godebug = none := by kernel_rfl
theorem laidOut : laidOutB Yba.prog = true := by kernel_rfl

set_option maxRecDepth 100000 in
theorem walk_long0 (a0 a1 : Option Addr) (l0 c0 l1 c1 : Nat) (d0 d1 ia ib ans : Int) (hr : Bool) (w : World) (h0 : 1024 < l0) :
    Calls Yba.prog 6 #[.slice a0 l0 c0, .slice a1 l1 c1, .int .i64 d0, .int .i64 d1, .int .u8 ia, .int .u8 ib, .bool hr, .int .i64 ans] w fun e w' => e = .returned (.bool true) ∧ Below w.heap.size w w' := by
  have g0 : (1024 : Int) < l0 := by omega
  go_enter Yba.func6, Yba.ntmps6
  go_wp2
  go_ret
  exact ⟨rfl, by repeat (first | exact Below.refl _ _ | (refine Below.alloc ?_ (by simp <;> omega) _))⟩

set_option maxRecDepth 100000 in
theorem walk_long1 (a0 a1 : Option Addr) (l0 c0 l1 c1 : Nat) (d0 d1 ia ib ans : Int) (hr : Bool) (w : World) (h0 : l0 ≤ 1024) (h1 : 1024 < l1) :
    Calls Yba.prog 6 #[.slice a0 l0 c0, .slice a1 l1 c1, .int .i64 d0, .int .i64 d1, .int .u8 ia, .int .u8 ib, .bool hr, .int .i64 ans] w fun e w' => e = .returned (.bool true) ∧ Below w.heap.size w w' := by
  have g0 : (l0 : Int) ≤ 1024 := by omega
  have g1 : (1024 : Int) < l1 := by omega
  go_enter Yba.func6, Yba.ntmps6
  go_wp2
  go_ret
  exact ⟨rfl, by repeat (first | exact Below.refl _ _ | (refine Below.alloc ?_ (by simp <;> omega) _))⟩

theorem walk (a0 a1 : Option Addr) (l0 c0 l1 c1 : Nat) (s0 s1 : List ByteArray) (d0 d1 ia ib : Int) (hr : Bool) (ans : Int) (w : World) (hia : 0 ≤ ia) (hia' : ia ≤ 255) (hib : 0 ≤ ib) (hib' : ib ≤ 255) (hr0 : Row w.heap.size w a0 l0 s0) (hr1 : Row w.heap.size w a1 l1 s1) :
    Calls Yba.prog 6 #[.slice a0 l0 c0, .slice a1 l1 c1, .int .i64 d0, .int .i64 d1, .int .u8 ia, .int .u8 ib, .bool hr, .int .i64 ans] w fun e w' => e = .returned (.bool true) ∧ Below w.heap.size w w' := by
  by_cases h0 : 1024 < l0
  · exact walk_long0 a0 a1 l0 c0 l1 c1 d0 d1 ia ib ans hr w h0
  by_cases h1 : 1024 < l1
  · exact walk_long1 a0 a1 l0 c0 l1 c1 d0 d1 ia ib ans hr w (by omega) h1
  cases hr with
  | true => exact walk_rest a0 a1 l0 c0 l1 c1 s0 s1 d0 d1 ia ib ans w (by omega) (by omega) hia hia' hib hib' hr0 hr1
  | false => exact walk_none a0 a1 l0 c0 l1 c1 s0 s1 d0 d1 ia ib ans w (by omega) (by omega) hia hia' hib hib' hr0 hr1

/-- A slice of strings that came in: what the walk is told of it. -/
theorem row_of {H : Type} {enc : TypeId × Value → H} {W : World} {a0 : Option Addr} {len cap : Nat} {x : DataW H} {ps : List MemPlace}
    (h : DataW.Trod enc Yba.prog W 0 (fun _ => true) true 32 (.slice a0 len cap) x ps) : ∃ ss, Row W.heap.size W a0 len ss := by
  obtain ⟨fuel, hf⟩ := h
  rcases open_strings Yba.underlying32 Yba.underlying9 (by kernel_rfl) hf with ⟨hcs, _⟩ | ⟨y, l, c, ss, hcs, _, hl, hm, hz, _, hcell, _⟩
  · simp [Value.cells] at hcs
    obtain ⟨rfl, rfl, rfl⟩ := hcs
    exact ⟨[], fun j hj => absurd hj (Nat.not_lt_zero _)⟩
  · simp [Value.cells] at hcs
    obtain ⟨rfl, rfl, rfl⟩ := hcs
    refine ⟨ss, fun j hj => ?_⟩
    simp only [if_true] at hz
    have hc := hcell j (by omega)
    obtain ⟨b, off, spot⟩ := y
    have hs : spot = none := by simpa [Addr.add] using World.cell?_spot (hcell 0 (by omega))
    subst hs
    have hc' : W.cell? ⟨b, off + j, none⟩ = some (.string (ss.getD j ByteArray.empty)) := by rw [← add_plain]; exact hc
    exact ⟨b, off, rfl, World.block_lt_of_cell? W _ hc', hc'⟩

set_option maxRecDepth 100000 in
theorem lifted (os : Os) (started : os.Started) (H : Type) (enc : TypeId × Value → H) :
    ReturnsInHanded {} Yba.checked os 6 .any (Rows.lawS2820BSiblingSpec.pre6 enc Yba.prog Yba.f6 Rows.lawS2820BSiblingRow.domain false) (Rows.lawS2820BSiblingSpec.post enc Yba.prog Yba.f6 false true false false) := by
  refine returnsInHanded_of_change (C := Yba.checked) own started (by kernel_rfl) Yba.func6
    (ChangeSpec.witness6 (enc := enc) (C := Yba.checked) false ⟨#[], #[.slice none 0 0, .slice none 0 0, .int .i64 0, .int .i64 0, .int .u8 0, .int .u8 0, .bool false, .int .i64 0], []⟩ 8 (by kernel_rfl) (by kernel_rfl) (by kernel_rfl) (by kernel_rfl)) ?_
  intro W base args ds gs before hval0 hW hcnd _
  have hval : ∀ (j : Nat) t v, Yba.f6.params[j]? = some t → args[j]? = some v → Value.okWide Yba.prog W .any base t v := hval0
  have hW' := hW
  obtain ⟨p, q, hA0, hV, rfl, hfz, hnd⟩ := hW
  have hA : DataW.TrodAll enc Yba.prog W 0 (fun _ => true) true Yba.f6.params.toList args.toList ds p := hA0
  rw [Yba.params6] at hA hval
  obtain ⟨v0, vs0, d0, ds0, p0, q0, hargs, rfl, rfl, h0, r0⟩ := trodAll_cons hA
  obtain ⟨v1, vs1, d1, ds1, p1, q1, rfl, rfl, rfl, h1, r1⟩ := trodAll_cons r0
  obtain ⟨v2, vs2, d2, ds2, p2, q2, rfl, rfl, rfl, h2, r2⟩ := trodAll_cons r1
  obtain ⟨v3, vs3, d3, ds3, p3, q3, rfl, rfl, rfl, h3, r3⟩ := trodAll_cons r2
  obtain ⟨v4, vs4, d4, ds4, p4, q4, rfl, rfl, rfl, h4, r4⟩ := trodAll_cons r3
  obtain ⟨v5, vs5, d5, ds5, p5, q5, rfl, rfl, rfl, h5, r5⟩ := trodAll_cons r4
  obtain ⟨v6, vs6, d6, ds6, p6, q6, rfl, rfl, rfl, h6, r6⟩ := trodAll_cons r5
  obtain ⟨v7, vs7, d7, ds7, p7, q7, rfl, rfl, rfl, h7, r7⟩ := trodAll_cons r6
  obtain ⟨rfl, rfl, rfl⟩ := trodAll_nil r7
  obtain rfl : args = #[v0, v1, v2, v3, v4, v5, v6, v7] := by cases args; simp_all
  obtain ⟨rfl, rfl⟩ := trodVars_none hV
  obtain ⟨a0, len0, cap0, rfl⟩ := okWide_slice Yba.underlying32 (hval 0 32 v0 rfl rfl)
  obtain ⟨a1, len1, cap1, rfl⟩ := okWide_slice Yba.underlying32 (hval 1 32 v1 rfl rfl)
  have k0 := h0
  have k1 := h1
  have lt0 : ∀ x ∈ p0, x.block < W.heap.size := by obtain ⟨m, hm⟩ := k0; exact DataW.trod_lt m _ _ _ hm
  have lt1 : ∀ x ∈ p1, x.block < W.heap.size := by obtain ⟨m, hm⟩ := k1; exact DataW.trod_lt m _ _ _ hm
  obtain ⟨z0, w0⟩ := row_of h0
  obtain ⟨z1, w1⟩ := row_of h1
  obtain ⟨a2, rfl, rfl, rfl, w2⟩ := open_int Yba.underlying3 (hval 2 3 v2 rfl rfl) h2
  obtain ⟨a3, rfl, rfl, rfl, w3⟩ := open_int Yba.underlying3 (hval 3 3 v3 rfl rfl) h3
  obtain ⟨a4, rfl, rfl, rfl, w4⟩ := open_int Yba.underlying5 (hval 4 5 v4 rfl rfl) h4
  obtain ⟨a5, rfl, rfl, rfl, w5⟩ := open_int Yba.underlying5 (hval 5 5 v5 rfl rfl) h5
  obtain ⟨a6, rfl, rfl, rfl⟩ := open_bool Yba.underlying4 (hval 6 4 v6 rfl rfl) h6
  obtain ⟨a7, rfl, rfl, rfl, w7⟩ := open_int Yba.underlying3 (hval 7 3 v7 rfl rfl) h7
  clear hA0 hval0
  have b4 := bounds_u8 w4
  have b5 := bounds_u8 w5
  refine (walk a0 a1 len0 cap0 len1 cap1 z0 z1 a2 a3 a4 a5 a6 a7 W b4.1 b4.2 b5.1 b5.2 w0 w1).mono fun e W' ⟨he, bel⟩ => ?_
  subst he
  exact ⟨_, rfl, _, _, _, [], _, [], hW', trodAll_mk1 (shut_bool Yba.underlying4 _), (trodAll_cons_mk (Below.trod laidOut (by kernel_rfl) (of_decide_eq_true (by kernel_rfl)) k0 bel lt0) (trodAll_cons_mk (Below.trod laidOut (by kernel_rfl) (of_decide_eq_true (by kernel_rfl)) k1 bel lt1) (trodAll_cons_mk (shut_int Yba.underlying3 w2) (trodAll_cons_mk (shut_int Yba.underlying3 w3) (trodAll_cons_mk (shut_int Yba.underlying5 w4) (trodAll_cons_mk (shut_int Yba.underlying5 w5) (trodAll_cons_mk (shut_bool Yba.underlying4 a6) (trodAll_cons_mk (shut_int Yba.underlying3 w7) trodAll_mk0)))))))), rfl, bel.frame _, fun h => by cases h⟩

theorem over : Rows.lawS2820BSiblingRow.holds Yba.pinned (OpenSpec.ofChange Rows.lawS2820BSiblingSpec) :=
  OpenClaim.holds_of_wide 6 Yba.f6 rfl rfl rfl rfl rfl rfl rfl ⟨rfl, rfl, rfl, rfl, rfl⟩ rfl rfl rfl rfl rfl (by kernel_rfl) Yba.func6 (by kernel_rfl)
    (of_decide_eq_true (by kernel_rfl)) (by unfold Func.isWrapper; first | (rw [if_pos (by decide +kernel)]; kernel_rfl) | (rw [if_neg (by decide +kernel)]; exact ⟨rfl, rfl⟩))
    (fun os started H enc _ => lifted os started H enc)

theorem proved : Rows.LawS2820BSiblingSaid :=
  over
end Go.Proofs.Ybulkbfjm.lawS2820BSibling
