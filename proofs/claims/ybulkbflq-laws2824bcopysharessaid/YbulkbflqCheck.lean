/-
  zzs2824bcheck (8).
-/
import Derived.Test.YbulkbflqNodes
import Derived.Test.YbulkbflqSame
import Derived.Test.YbulkbflqEq
namespace Go.Proofs.Ybulkbflq
open Go.RowKit
set_option linter.unusedVariables false

theorem drew_heap (w : World) : w.drew.heap = w.heap := rfl

set_option maxHeartbeats 12800000 in
set_option maxRecDepth 100000 in
theorem check_any (B B' Bo R RI NL NI : Nat) (a : Option Addr) (n cap : Nat) (its : Nat → Item) (v : Nat → Value) (Wt w : World) (hn : n ≤ 300) (hsl : ∀ i, i < n → (its i).sl ≤ 300) (hB : B ≤ w.heap.size) (hI : Items B w a n its) (hne : NL ≠ R)
    (hR : w.heap[R]? = some (.cells #[.string ⟨#[]⟩, .int .i64 1000, .int .i64 0, .slice (some ⟨RI, 0, none⟩) n n] 45 (0, 0))) (hNL : w.heap[NL]? = some (.cells #[.string ⟨#[]⟩, .int .i64 1000, .int .i64 0, .slice (some ⟨NI, 0, none⟩) n n] 45 (0, 0)))
    (hRI : ∃ cur : Array Value, w.heap[RI]? = some (.cells cur 31 (0, 0)) ∧ cur.size = n ∧ ∀ i, i < n → cur[i]? = some (v i))
    (hNI : ∃ cur : Array Value, w.heap[NI]? = some (.cells cur 31 (0, 0)) ∧ cur.size = n ∧ ∀ i, i < n → ∃ u, cur[i]? = some u ∧ CopyOf (v i) B' i (its i) u w)
    (hO : ∀ i, i < n → Node Wt Bo (v i) i (its i)) (hW : Wt.heap.size ≤ B') (hsame : ∀ k, k < Wt.heap.size → w.heap[k]? = Wt.heap[k]?) :
    Calls Yba.prog 8 #[.pointer (some ⟨R, 0, none⟩), .iface 24 (.pointer (some ⟨NL, 0, none⟩)), .slice a n cap] w fun e w' => e = .returned (.bool true) ∧ Below w.heap.size w w' := by
  have b1 := ta_24_24
  have b2 := ta_41_41
  have b3 := ta_51_51
  have b4 := if46
  have hn' : (n : Int) ≤ 300 := by omega
  have r0 := cell_of_row (k := 0) (u := .string ⟨#[]⟩) hR rfl
  have r1 := cell_of_row (k := 1) (u := .int .i64 1000) hR rfl
  have r2 := cell_of_row (k := 2) (u := .int .i64 0) hR rfl
  have r3 := cell_of_row (k := 3) (u := .slice (some ⟨RI, 0, none⟩) n n) hR rfl
  have s0 := cell_of_row (k := 0) (u := .string ⟨#[]⟩) hNL rfl
  have s1 := cell_of_row (k := 1) (u := .int .i64 1000) hNL rfl
  have s2 := cell_of_row (k := 2) (u := .int .i64 0) hNL rfl
  have s3 := cell_of_row (k := 3) (u := .slice (some ⟨NI, 0, none⟩) n n) hNL rfl
  have hpe := fun (w' : World) (h1 : w'.heap[NL]? = some (.cells #[.string ⟨#[]⟩, .int .i64 1000, .int .i64 0, .slice (some ⟨NI, 0, none⟩) n n] 45 (0, 0))) (h2 : w'.heap[R]? = some (.cells #[.string ⟨#[]⟩, .int .i64 1000, .int .i64 0, .slice (some ⟨RI, 0, none⟩) n n] 45 (0, 0))) => ptr24 w' hne h1 h2
  have HI := hide hI
  have HSL := hide hsl
  have HRI := hide hRI
  have HNI := hide hNI
  have HO := hide hO
  have HSame := hide hsame
  clear hI hsl hRI hNI hO hsame
  go_enter Yba.func8, Yba.ntmps8
  go_wp2_with fail
  go_region_held3 (fun w' => w'.heap[NL]? = some (.cells #[.string ⟨#[]⟩, .int .i64 1000, .int .i64 0, .slice (some ⟨NI, 0, none⟩) n n] 45 (0, 0)) ∧ w'.heap[R]? = some (.cells #[.string ⟨#[]⟩, .int .i64 1000, .int .i64 0, .slice (some ⟨RI, 0, none⟩) n n] 45 (0, 0)) ∧ w'.cell? ⟨NL, 0, none⟩ = some (.string ⟨#[]⟩) ∧ w'.cell? ⟨NL, 1, none⟩ = some (.int .i64 1000) ∧ w'.cell? ⟨NL, 2, none⟩ = some (.int .i64 0) ∧ w'.cell? ⟨NL, 3, none⟩ = some (.slice (some ⟨NI, 0, none⟩) n n) ∧ w'.cell? ⟨R, 0, none⟩ = some (.string ⟨#[]⟩) ∧ w'.cell? ⟨R, 1, none⟩ = some (.int .i64 1000) ∧ w'.cell? ⟨R, 2, none⟩ = some (.int .i64 0) ∧ w'.cell? ⟨R, 3, none⟩ = some (.slice (some ⟨RI, 0, none⟩) n n)) (simp [*, drew_heap]) (first | fail)
  go_wp2
  go_loopw [58] (fun i wr => ∃ k : Nat, k ≤ n ∧ i = .int .i64 k ∧ Below w.heap.size w wr) (fun i _ => n - (intOf i).toNat)
  case atStart => exact ⟨0, Nat.zero_le _, rfl, (Below.refl _ _).drew⟩
  case round =>
    obtain ⟨k, hk, rfl, hBel⟩ := hrel
    by_cases hkl : k < n
    · have hkl' : (k : Int) < (n : Int) := by omega
      obtain ⟨b, off, rfl, hb, h1, h2, h3, hrow, hk0, hk1⟩ := (HI.out.kept (fun j hj => hBel.block j (by omega))) k hkl
      have hsz := hBel.size
      have HSk := hide (HSL.out k hkl)
      obtain ⟨ro, ro1, ro2, ro3⟩ := HRI.out
      obtain ⟨rn, rn1, rn2, rn3⟩ := HNI.out
      obtain ⟨u, hu, hcp, hsub⟩ := rn3 k hkl
      have hOk := HO.out k hkl
      have hvk := ro3 k hkl
      generalize hit : its k = it at *
      generalize v k = vk at *
      obtain ⟨kind, text, sa, sl, sc, ss⟩ := it
      simp only at h1 h2 h3 hk0 hk1
      have B1 : Below w.heap.size w (wr.alloc (.cells #[.int .u8 kind, .string text, .slice sa sl sc] 36)) := hBel.alloc hsz _
      have HB1 := hide B1
      have up : ∀ {x : Addr} {y : Value}, w.cell? x = some y → (wr.alloc (.cells #[.int .u8 kind, .string text, .slice sa sl sc] 36)).cell? x = some y := fun {x y} hx => (B1.cell (World.block_lt_of_cell? w x hx)).trans hx
      have uph : ∀ {x : Nat} {y : Obj}, w.heap[x]? = some y → (wr.alloc (.cells #[.int .u8 kind, .string text, .slice sa sl sc] 36)).heap[x]? = some y := fun {x y} hx => (B1.block x (lt_of_block hx)).trans hx
      have q0 := up (cell_of_row ro1 hvk)
      have q1 := up (cell_of_row rn1 hu)
      have q2 := up r3
      have q3 := up s3
      have HB := hide hBel
      have HRow := hide hrow
      have HIT := hide hit
      clear hBel hrow hit ro1 ro2 ro3 rn1 rn2 rn3 hu hvk r0 r1 r2 r3 s0 s1 s2 s3 hpe hR hNL
      have hkk : kind % 4 = 0 ∨ kind % 4 = 1 ∨ kind % 4 = 2 ∨ kind % 4 = 3 := by omega
      rcases hcp with ⟨hm, rfl⟩ | ⟨hm, P, hu1⟩ | ⟨hm, L', S', rfl, hL', hS', g1, g2⟩ | ⟨hm, L', S', rfl, hL', hS', g1, g2⟩
      · have hm : kind % 4 = 0 := hm
        have t0 : (kind % 4 == 0) = true := by simp [hm]
        have q1' : (wr.alloc (.cells #[.int .u8 kind, .string text, .slice sa sl sc] 36)).cell? ⟨NI, k, none⟩ = some (.iface 41 (.agg #[.string ⟨#[]⟩, .int .i64 (k : Int), .int .i64 0, .int .i64 0, .string text, .bool false])) := q1
        clear hkk hm q1 hOk hsub B1 up uph
        go_wp2
        go_roundw
        case rel => exact ⟨k + 1, by omega, by go_num, (HB1.out).alloc (by simp; omega) _⟩
        case measure => simp [intOf]; omega
      · have hm : kind % 4 = 1 := hm
        have t0 : (kind % 4 == 0) = false := by simp [hm]
        have t1 : (kind % 4 == 1) = true := by simp [hm]
        obtain rfl := hsub hm
        subst hu1
        clear hkk hm hOk hsub B1 up uph
        go_wp2
        go_roundw
        case rel => exact ⟨k + 1, by omega, by go_num, HB1.out⟩
        case measure => simp [intOf]; omega
      · have hm : kind % 4 = 2 := hm
        have t0 : (kind % 4 == 0) = false := by simp [hm]
        have t1 : (kind % 4 == 1) = false := by simp [hm]
        have t2 : (kind % 4 == 2) = true := by simp [hm]
        obtain ⟨L, S, rfl, hLt, o1⟩ : ∃ L S, vk = .iface 24 (.pointer (some ⟨L, 0, none⟩)) ∧ L < Wt.heap.size ∧ Wt.heap[L]? = some (.cells #[.string ⟨#[]⟩, .int .i64 (k : Int), .int .i64 0, .slice (some ⟨S, 0, none⟩) sl sl] 45 (0, 0)) := by
          rcases hOk with ⟨hm2, _⟩ | ⟨hm2, _⟩ | ⟨hm2, L, S, e, _, _, o1, _⟩ | ⟨hm2, _⟩
          · have : kind % 4 = 0 := hm2; omega
          · have : kind % 4 = 1 := hm2; omega
          · exact ⟨L, S, e, lt_of_block o1, o1⟩
          · have : kind % 4 = 3 := hm2; omega
        have o2 := (HSame.out L hLt).trans o1
        have hLL : L' ≠ L := by omega
        have e1 := uph g1
        have e2 := uph o2
        have x0 := cell_of_row (k := 0) (u := .string ⟨#[]⟩) e1 rfl
        have x1 := cell_of_row (k := 1) (u := .int .i64 (k : Int)) e1 rfl
        have x2 := cell_of_row (k := 2) (u := .int .i64 0) e1 rfl
        have x3 := cell_of_row (k := 3) (u := .slice (some ⟨S', 0, none⟩) sl sl) e1 rfl
        have y0 := cell_of_row (k := 0) (u := .string ⟨#[]⟩) e2 rfl
        have y1 := cell_of_row (k := 1) (u := .int .i64 (k : Int)) e2 rfl
        have y2 := cell_of_row (k := 2) (u := .int .i64 0) e2 rfl
        have y3 := cell_of_row (k := 3) (u := .slice (some ⟨S, 0, none⟩) sl sl) e2 rfl
        have hpe := fun (w' : World) (h1 : w'.heap[L']? = some (.cells #[.string ⟨#[]⟩, .int .i64 (k : Int), .int .i64 0, .slice (some ⟨S', 0, none⟩) sl sl] 45 (0, 0))) (h2 : w'.heap[L]? = some (.cells #[.string ⟨#[]⟩, .int .i64 (k : Int), .int .i64 0, .slice (some ⟨S, 0, none⟩) sl sl] 45 (0, 0))) => ptr24 w' hLL h1 h2
        have HRow1 : Hid (Row B (wr.alloc (.cells #[.int .u8 kind, .string text, .slice sa sl sc] 36)).drew sa sl ss) := HRow.out.kept (fun j hj => Below.heap_alloc _ _ _ (by omega))
        have HG : Hid (∃ cur : Array Value, (wr.alloc (.cells #[.int .u8 kind, .string text, .slice sa sl sc] 36)).drew.heap[S']? = some (.cells cur 31 (0, 0)) ∧ cur.size = sl ∧ ∀ j, j < sl → cur[j]? = some (part (k : Int) ss j)) := by
          obtain ⟨cur, c1, c2, c3⟩ := g2
          exact ⟨cur, uph c1, c2, c3⟩
        have itlt : (⟨wr.heap.size, 2, none⟩ : Addr).block < (wr.alloc (.cells #[.int .u8 kind, .string text, .slice sa sl sc] 36)).drew.heap.size := by show wr.heap.size < (wr.alloc _).heap.size; simp
        have hsB : B ≤ (wr.alloc (.cells #[.int .u8 kind, .string text, .slice sa sl sc] 36)).drew.heap.size := by show B ≤ (wr.alloc _).heap.size; simp; omega
        clear hkk hm hOk hsub B1 up uph g1 g2 o1 o2
        go_wp2_with fail
        go_region_held3 (fun w' => w'.heap[L']? = some (.cells #[.string ⟨#[]⟩, .int .i64 (k : Int), .int .i64 0, .slice (some ⟨S', 0, none⟩) sl sl] 45 (0, 0)) ∧ w'.heap[L]? = some (.cells #[.string ⟨#[]⟩, .int .i64 (k : Int), .int .i64 0, .slice (some ⟨S, 0, none⟩) sl sl] 45 (0, 0)) ∧ w'.cell? ⟨L', 0, none⟩ = some (.string ⟨#[]⟩) ∧ w'.cell? ⟨L', 1, none⟩ = some (.int .i64 (k : Int)) ∧ w'.cell? ⟨L', 2, none⟩ = some (.int .i64 0) ∧ w'.cell? ⟨L', 3, none⟩ = some (.slice (some ⟨S', 0, none⟩) sl sl) ∧ w'.cell? ⟨L, 0, none⟩ = some (.string ⟨#[]⟩) ∧ w'.cell? ⟨L, 1, none⟩ = some (.int .i64 (k : Int)) ∧ w'.cell? ⟨L, 2, none⟩ = some (.int .i64 0) ∧ w'.cell? ⟨L, 3, none⟩ = some (.slice (some ⟨S, 0, none⟩) sl sl) ∧ w'.cell? ⟨wr.heap.size, 2, none⟩ = some (.slice sa sl sc)) (simp [*, drew_heap]) (first
          | (go_at_call 15; refine (same_any B S' _ _ _ _ _ _ ss _ HSk.out hsB HRow1.out HG.out).mono ?_; rintro e w1 ⟨rfl, hW1⟩; have m0 := (hW1.block L' (lt_of_block e1)).trans e1; have m1 := (hW1.block L (lt_of_block e2)).trans e2; have n0 := cell_of_row (k := 0) (u := .string ⟨#[]⟩) m0 rfl; have n1 := cell_of_row (k := 1) (u := .int .i64 (k : Int)) m0 rfl; have n2 := cell_of_row (k := 2) (u := .int .i64 0) m0 rfl; have n3 := cell_of_row (k := 3) (u := .slice (some ⟨S', 0, none⟩) sl sl) m0 rfl; have o0 := cell_of_row (k := 0) (u := .string ⟨#[]⟩) m1 rfl; have o1 := cell_of_row (k := 1) (u := .int .i64 (k : Int)) m1 rfl; have o2 := cell_of_row (k := 2) (u := .int .i64 0) m1 rfl; have o3 := cell_of_row (k := 3) (u := .slice (some ⟨S, 0, none⟩) sl sl) m1 rfl; have m2 := hW1.cell (p := ⟨wr.heap.size, 2, none⟩) itlt; have HW1 := hide hW1; clear hW1))
        go_wp2
        go_roundw
        case rel => exact ⟨k + 1, by omega, by go_num, (HB1.out.drew).trans (HW1.out.mono (by show w.heap.size ≤ (wr.alloc _).heap.size; simp; omega))⟩
        case measure => simp [intOf]; omega
      · have hm : kind % 4 = 3 := hm
        have t0 : (kind % 4 == 0) = false := by simp [hm]
        have t1 : (kind % 4 == 1) = false := by simp [hm]
        have t2 : (kind % 4 == 2) = false := by simp [hm]
        generalize happ : decide (128 ≤ kind) = app at g1
        obtain ⟨L, S, rfl, hLt, o1⟩ : ∃ L S, vk = .iface 51 (.pointer (some ⟨L, 0, none⟩)) ∧ L < Wt.heap.size ∧ Wt.heap[L]? = some (.cells #[.slice (some ⟨S, 0, none⟩) sl sl, .slice none 0 0, .bool app] 53 (0, 0)) := by
          rcases hOk with ⟨hm2, _⟩ | ⟨hm2, _⟩ | ⟨hm2, _⟩ | ⟨hm2, L, S, e, _, _, o1, _⟩
          · have : kind % 4 = 0 := hm2; omega
          · have : kind % 4 = 1 := hm2; omega
          · have : kind % 4 = 2 := hm2; omega
          · rw [← happ]; exact ⟨L, S, e, lt_of_block o1, o1⟩
        have o2 := (HSame.out L hLt).trans o1
        have hLL : L' ≠ L := by omega
        have e1 := uph g1
        have e2 := uph o2
        have x0 := cell_of_row (k := 0) (u := .slice (some ⟨S', 0, none⟩) sl sl) e1 rfl
        have x2 := cell_of_row (k := 2) (u := .bool app) e1 rfl
        have y0 := cell_of_row (k := 0) (u := .slice (some ⟨S, 0, none⟩) sl sl) e2 rfl
        have y2 := cell_of_row (k := 2) (u := .bool app) e2 rfl
        have hpe := fun (w' : World) (h1 : w'.heap[L']? = some (.cells #[.slice (some ⟨S', 0, none⟩) sl sl, .slice none 0 0, .bool app] 53 (0, 0))) (h2 : w'.heap[L]? = some (.cells #[.slice (some ⟨S, 0, none⟩) sl sl, .slice none 0 0, .bool app] 53 (0, 0))) => ptr51 w' hLL h1 h2
        have HRow1 : Hid (Row B (wr.alloc (.cells #[.int .u8 kind, .string text, .slice sa sl sc] 36)).drew sa sl ss) := HRow.out.kept (fun j hj => Below.heap_alloc _ _ _ (by omega))
        have HG : Hid (∃ cur : Array Value, (wr.alloc (.cells #[.int .u8 kind, .string text, .slice sa sl sc] 36)).drew.heap[S']? = some (.cells cur 31 (0, 0)) ∧ cur.size = sl ∧ ∀ j, j < sl → cur[j]? = some (part (k : Int) ss j)) := by
          obtain ⟨cur, c1, c2, c3⟩ := g2
          exact ⟨cur, uph c1, c2, c3⟩
        have itlt : (⟨wr.heap.size, 2, none⟩ : Addr).block < (wr.alloc (.cells #[.int .u8 kind, .string text, .slice sa sl sc] 36)).drew.heap.size := by show wr.heap.size < (wr.alloc _).heap.size; simp
        have hsB : B ≤ (wr.alloc (.cells #[.int .u8 kind, .string text, .slice sa sl sc] 36)).drew.heap.size := by show B ≤ (wr.alloc _).heap.size; simp; omega
        clear hkk hm hOk hsub B1 up uph g1 g2 o1 o2 happ
        go_wp2_with fail
        go_region_held3 (fun w' => w'.heap[L']? = some (.cells #[.slice (some ⟨S', 0, none⟩) sl sl, .slice none 0 0, .bool app] 53 (0, 0)) ∧ w'.heap[L]? = some (.cells #[.slice (some ⟨S, 0, none⟩) sl sl, .slice none 0 0, .bool app] 53 (0, 0)) ∧ w'.cell? ⟨L', 0, none⟩ = some (.slice (some ⟨S', 0, none⟩) sl sl) ∧ w'.cell? ⟨L', 2, none⟩ = some (.bool app) ∧ w'.cell? ⟨L, 0, none⟩ = some (.slice (some ⟨S, 0, none⟩) sl sl) ∧ w'.cell? ⟨L, 2, none⟩ = some (.bool app) ∧ w'.cell? ⟨wr.heap.size, 2, none⟩ = some (.slice sa sl sc)) (simp [*, drew_heap]) (first
          | (go_at_call 15; refine (same_any B S' _ _ _ _ _ _ ss _ HSk.out hsB HRow1.out HG.out).mono ?_; rintro e w1 ⟨rfl, hW1⟩; have m0 := (hW1.block L' (lt_of_block e1)).trans e1; have m1 := (hW1.block L (lt_of_block e2)).trans e2; have n0 := cell_of_row (k := 0) (u := .slice (some ⟨S', 0, none⟩) sl sl) m0 rfl; have n2 := cell_of_row (k := 2) (u := .bool app) m0 rfl; have o0 := cell_of_row (k := 0) (u := .slice (some ⟨S, 0, none⟩) sl sl) m1 rfl; have o2 := cell_of_row (k := 2) (u := .bool app) m1 rfl; have m2 := hW1.cell (p := ⟨wr.heap.size, 2, none⟩) itlt; have HW1 := hide hW1; clear hW1))
        go_wp2
        go_roundw
        case rel => exact ⟨k + 1, by omega, by go_num, (HB1.out.drew).trans (HW1.out.mono (by show w.heap.size ≤ (wr.alloc _).heap.size; simp; omega))⟩
        case measure => simp [intOf]; omega
    · obtain rfl : k = n := by omega
      go_wp2
      go_ret
      exact ⟨rfl, hBel⟩
end Go.Proofs.Ybulkbflq
