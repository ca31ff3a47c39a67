/-
  The proof of 'Rows.LawS2820CExactSaid'.
-/
import Derived.Test.YbulkbfjmCExactW1
import Derived.Test.YbulkbfjmCExactW2
import Derived.ProofKit
import Derived.OpenShut
import Derived.ShutString
import Derived.ChangeOld
import Derived.Below
import Derived.Lib.SmallJoins
namespace Go.Proofs.Ybulkbfjm.lawS2820CExact
open Go.ChangeShapes Go.WideShapes Go.ChangeAt Go.RowKit Go.Joins
set_option linter.unusedVariables false

theorem own : ownKnob Yba.prog.godebug = none := by kernel_rfl
theorem laidOut : laidOutB Yba.prog = true := by kernel_rfl
theorem cells40 : Yba.prog.cellsOf 40 = 2 := by kernel_rfl

set_option maxRecDepth 100000 in
theorem walk_long0 (sa sb : ByteArray) (na nb d0 d1 ans : Int) (sS sN hr : Bool) (w : World) (h0 : 4096 < sa.size) :
    Calls Yba.prog 7 #[.agg #[.string sa, .int .i64 na], .agg #[.string sb, .int .i64 nb], .int .i64 d0, .int .i64 d1, .bool sS, .bool sN, .bool hr, .int .i64 ans] w fun e w' => e = .returned (.bool true) ∧ Below w.heap.size w w' := by
  have g0 : (4096 : Int) < sa.size := by omega
  go_enter Yba.func7, Yba.ntmps7
  go_wp2
  go_ret
  exact ⟨rfl, by repeat (first | exact Below.refl _ _ | (refine Below.alloc ?_ (by simp <;> omega) _))⟩

set_option maxRecDepth 100000 in
theorem walk_long1 (sa sb : ByteArray) (na nb d0 d1 ans : Int) (sS sN hr : Bool) (w : World) (h0 : sa.size ≤ 4096) (h1 : 4096 < sb.size) :
    Calls Yba.prog 7 #[.agg #[.string sa, .int .i64 na], .agg #[.string sb, .int .i64 nb], .int .i64 d0, .int .i64 d1, .bool sS, .bool sN, .bool hr, .int .i64 ans] w fun e w' => e = .returned (.bool true) ∧ Below w.heap.size w w' := by
  have g0 : (sa.size : Int) ≤ 4096 := by omega
  have g1 : (4096 : Int) < sb.size := by omega
  go_enter Yba.func7, Yba.ntmps7
  go_wp2
  go_ret
  exact ⟨rfl, by repeat (first | exact Below.refl _ _ | (refine Below.alloc ?_ (by simp <;> omega) _))⟩

theorem walk (sa sb : ByteArray) (na nb d0 d1 ans : Int) (sS sN hr : Bool) (w : World) :
    Calls Yba.prog 7 #[.agg #[.string sa, .int .i64 na], .agg #[.string sb, .int .i64 nb], .int .i64 d0, .int .i64 d1, .bool sS, .bool sN, .bool hr, .int .i64 ans] w fun e w' => e = .returned (.bool true) ∧ Below w.heap.size w w' := by
  by_cases h0 : 4096 < sa.size
  · exact walk_long0 sa sb na nb d0 d1 ans sS sN hr w h0
  by_cases h1 : 4096 < sb.size
  · exact walk_long1 sa sb na nb d0 d1 ans sS sN hr w (by omega) h1
  have g0 : sa.size ≤ 4096 := by omega
  have g1 : sb.size ≤ 4096 := by omega
  match sS, sN, hr with
  | true, true, true => exact walk_ttt sa sb na nb d0 d1 ans w g0 g1
  | true, false, true => exact walk_tft sa sb na nb d0 d1 ans w g0 g1
  | false, true, true => exact walk_ftt sa sb na nb d0 d1 ans w g0 g1
  | false, false, true => exact walk_fft sa sb na nb d0 d1 ans w g0 g1
  | true, true, false => exact walk_ttf sa sb na nb d0 d1 ans w g0 g1
  | true, false, false => exact walk_tff sa sb na nb d0 d1 ans w g0 g1
  | false, true, false => exact walk_ftf sa sb na nb d0 d1 ans w g0 g1
  | false, false, false => exact walk_fff sa sb na nb d0 d1 ans w g0 g1

/-- An item that came in. -/
theorem item_of {H : Type} {enc : TypeId × Value → H} {W : World} {base : Nat} {v : Value} {d : DataW H} {p : List MemPlace} (hv : Value.okWide Yba.prog W .any base 40 v)
    (h : DataW.Trod enc Yba.prog W 0 (fun _ => true) true 40 v d p) : ∃ (s : ByteArray) (n : Int), v = .agg #[.string s, .int .i64 n] := by
  obtain ⟨c0, c1, y0, y1, m, rfl, _, _, hy0, hy1⟩ := open_agg2 Yba.underlying40 (by kernel_rfl) cells40 hv h
  obtain ⟨s, e0, _, _⟩ := DataW.trod_string Yba.underlying9 hy0
  obtain ⟨n, e1, _, _⟩ := DataW.trod_int Yba.underlying3 hy1
  simp at e0 e1
  exact ⟨s, n, by rw [e0, e1]⟩

set_option maxRecDepth 100000 in
theorem lifted (os : Os) (started : os.Started) (H : Type) (enc : TypeId × Value → H) :
    ReturnsInHanded {} Yba.checked os 7 .any (Rows.lawS2820CExactSpec.pre6 enc Yba.prog Yba.f7 Rows.lawS2820CExactRow.domain false) (Rows.lawS2820CExactSpec.post enc Yba.prog Yba.f7 false true false false) := by
  refine returnsInHanded_of_change (C := Yba.checked) own started (by kernel_rfl) Yba.func7
    (ChangeSpec.witness6 (enc := enc) (C := Yba.checked) false ⟨#[], #[.agg #[.string ⟨#[]⟩, .int .i64 0], .agg #[.string ⟨#[]⟩, .int .i64 0], .int .i64 0, .int .i64 0, .bool false, .bool false, .bool false, .int .i64 0], []⟩ 8 (by kernel_rfl) (by kernel_rfl) (by kernel_rfl) (by kernel_rfl)) ?_
  intro W base args ds gs before hval0 hW hcnd _
  have hval : ∀ (j : Nat) t v, Yba.f7.params[j]? = some t → args[j]? = some v → Value.okWide Yba.prog W .any base t v := hval0
  have hW' := hW
  obtain ⟨p, q, hA0, hV, rfl, hfz, hnd⟩ := hW
  have hA : DataW.TrodAll enc Yba.prog W 0 (fun _ => true) true Yba.f7.params.toList args.toList ds p := hA0
  rw [Yba.params7] at hA hval
  obtain ⟨v0, vs0, d0, ds0, p0, q0, hargs, rfl, rfl, h0, r0⟩ := trodAll_cons hA
  obtain ⟨v1, vs1, d1, ds1, p1, q1, rfl, rfl, rfl, h1, r1⟩ := trodAll_cons r0
  obtain ⟨v2, vs2, d2, ds2, p2, q2, rfl, rfl, rfl, h2, r2⟩ := trodAll_cons r1
  obtain ⟨v3, vs3, d3, ds3, p3, q3, rfl, rfl, rfl, h3, r3⟩ := trodAll_cons r2
  obtain ⟨v4, vs4, d4, ds4, p4, q4, rfl, rfl, rfl, h4, r4⟩ := trodAll_cons r3
  obtain ⟨v5, vs5, d5, ds5, p5, q5, rfl, rfl, rfl, h5, r5⟩ := trodAll_cons r4
  obtain ⟨v6, vs6, d6, ds6, p6, q6, rfl, rfl, rfl, h6, r6⟩ := trodAll_cons r5
  obtain ⟨v7, vs7, d7, ds7, p7, q7, rfl, rfl, rfl, h7, r7⟩ := trodAll_cons r6
  obtain ⟨rfl, rfl, rfl⟩ := trodAll_nil r7
  obtain rfl : args = #[v0, v1, v2, v3, v4, v5, v6, v7] := by cases args; simp_all
  obtain ⟨rfl, rfl⟩ := trodVars_none hV
  have k0 := h0
  have k1 := h1
  have lt0 : ∀ x ∈ p0, x.block < W.heap.size := by obtain ⟨m, hm⟩ := k0; exact DataW.trod_lt m _ _ _ hm
  have lt1 : ∀ x ∈ p1, x.block < W.heap.size := by obtain ⟨m, hm⟩ := k1; exact DataW.trod_lt m _ _ _ hm
  obtain ⟨sa, na, rfl⟩ := item_of (hval 0 40 v0 rfl rfl) h0
  obtain ⟨sb, nb, rfl⟩ := item_of (hval 1 40 v1 rfl rfl) h1
  obtain ⟨a2, rfl, rfl, rfl, w2⟩ := open_int Yba.underlying3 (hval 2 3 v2 rfl rfl) h2
  obtain ⟨a3, rfl, rfl, rfl, w3⟩ := open_int Yba.underlying3 (hval 3 3 v3 rfl rfl) h3
  obtain ⟨a4, rfl, rfl, rfl⟩ := open_bool Yba.underlying4 (hval 4 4 v4 rfl rfl) h4
  obtain ⟨a5, rfl, rfl, rfl⟩ := open_bool Yba.underlying4 (hval 5 4 v5 rfl rfl) h5
  obtain ⟨a6, rfl, rfl, rfl⟩ := open_bool Yba.underlying4 (hval 6 4 v6 rfl rfl) h6
  obtain ⟨a7, rfl, rfl, rfl, w7⟩ := open_int Yba.underlying3 (hval 7 3 v7 rfl rfl) h7
  clear hA0 hval0
  refine (walk sa sb na nb a2 a3 a7 a4 a5 a6 W).mono fun e W' ⟨he, bel⟩ => ?_
  subst he
  exact ⟨_, rfl, _, _, _, [], _, [], hW', trodAll_mk1 (shut_bool Yba.underlying4 _), (trodAll_cons_mk (Below.trod laidOut (by kernel_rfl) (of_decide_eq_true (by kernel_rfl)) k0 bel lt0) (trodAll_cons_mk (Below.trod laidOut (by kernel_rfl) (of_decide_eq_true (by kernel_rfl)) k1 bel lt1) (trodAll_cons_mk (shut_int Yba.underlying3 w2) (trodAll_cons_mk (shut_int Yba.underlying3 w3) (trodAll_cons_mk (shut_bool Yba.underlying4 a4) (trodAll_cons_mk (shut_bool Yba.underlying4 a5) (trodAll_cons_mk (shut_bool Yba.underlying4 a6) (trodAll_cons_mk (shut_int Yba.underlying3 w7) trodAll_mk0)))))))), rfl, bel.frame _, fun h => by cases h⟩

theorem over : Rows.lawS2820CExactRow.holds Yba.pinned (OpenSpec.ofChange Rows.lawS2820CExactSpec) :=
  OpenClaim.holds_of_wide 7 Yba.f7 rfl rfl rfl rfl rfl rfl rfl ⟨rfl, rfl, rfl, rfl, rfl⟩ rfl rfl rfl rfl rfl (by kernel_rfl) Yba.func7 (by kernel_rfl)
    (of_decide_eq_true (by kernel_rfl)) (by unfold Func.isWrapper; first | (rw [if_pos (by decide +kernel)]; kernel_rfl) | (rw [if_neg (by decide +kernel)]; exact ⟨rfl, rfl⟩))
    (fun os started H enc _ => lifted os started H enc)

theorem proved : Rows.LawS2820CExactSaid :=
  over
end Go.Proofs.Ybulkbfjm.lawS2820CExact
