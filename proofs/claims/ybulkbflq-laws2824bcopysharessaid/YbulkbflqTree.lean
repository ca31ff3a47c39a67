/-
  The law's trees in memory.
-/
import Derived.Test.YbulkbflqScal
namespace Go.Proofs.Ybulkbflq
open Go.RowKit
set_option linter.unusedVariables false

/-- An item as it lies in the argument. -/
structure Item where
  kind : Int
  text : ByteArray
  sa : Option Addr
  sl : Nat
  sc : Nat
  ss : List ByteArray

/-- The argument: n items, three cells each, in a block below B. -/
def Items (B : Nat) (w : World) (a : Option Addr) (n : Nat) (its : Nat → Item) : Prop :=
  ∀ i, i < n → ∃ b off, a = some ⟨b, off, none⟩ ∧ b < B ∧ w.cell? ⟨b, off + i * 3, none⟩ = some (.int .u8 (its i).kind) ∧ w.cell? ⟨b, off + i * 3 + 1, none⟩ = some (.string (its i).text) ∧
    w.cell? ⟨b, off + i * 3 + 2, none⟩ = some (.slice (its i).sa (its i).sl (its i).sc) ∧ Row B w (its i).sa (its i).sl (its i).ss ∧ 0 ≤ (its i).kind ∧ (its i).kind ≤ 255

theorem Items.kept {B : Nat} {w w' : World} {a : Option Addr} {n : Nat} {its : Nat → Item} (h : Items B w a n its) (hk : ∀ k, k < B → w'.heap[k]? = w.heap[k]?) : Items B w' a n its := fun i hi => by
  obtain ⟨b, off, h1, h2, h3, h4, h5, h6, h7, h8⟩ := h i hi
  exact ⟨b, off, h1, h2, (World.cell?_of_block (a := ⟨b, _, none⟩) (hk b h2)).trans h3, (World.cell?_of_block (a := ⟨b, _, none⟩) (hk b h2)).trans h4, (World.cell?_of_block (a := ⟨b, _, none⟩) (hk b h2)).trans h5, h6.kept hk, h7, h8⟩

/-- The scalars of item it, number i, in block S. -/
def PartsAt (w : World) (S : Nat) (i : Nat) (it : Item) : Prop :=
  ∃ cur : Array Value, w.heap[S]? = some (.cells cur 31 (0, 0)) ∧ cur.size = it.sl ∧ ∀ j, j < it.sl → cur[j]? = some (part (i : Int) it.ss j)

/-- The value v is the tree of item it, number i; its blocks lie from B on. -/
def Node (w : World) (B : Nat) (v : Value) (i : Nat) (it : Item) : Prop :=
  (it.kind % 4 = 0 ∧ v = scal (i : Int) 0 it.text) ∨
  (it.kind % 4 = 1 ∧ ∃ P : Nat, v = .iface 46 (.pointer (some ⟨P, 0, none⟩))) ∨
  (it.kind % 4 = 2 ∧ ∃ L S : Nat, v = .iface 24 (.pointer (some ⟨L, 0, none⟩)) ∧ B ≤ L ∧ B ≤ S ∧ w.heap[L]? = some (.cells #[.string ⟨#[]⟩, .int .i64 (i : Int), .int .i64 0, .slice (some ⟨S, 0, none⟩) it.sl it.sl] 45 (0, 0)) ∧ PartsAt w S i it) ∨
  (it.kind % 4 = 3 ∧ ∃ C S : Nat, v = .iface 51 (.pointer (some ⟨C, 0, none⟩)) ∧ B ≤ C ∧ B ≤ S ∧ w.heap[C]? = some (.cells #[.slice (some ⟨S, 0, none⟩) it.sl it.sl, .slice none 0 0, .bool (decide (128 ≤ it.kind))] 53 (0, 0)) ∧ PartsAt w S i it)

theorem PartsAt.kept {w w' : World} {S i : Nat} {it : Item} (h : PartsAt w S i it) (hk : w'.heap[S]? = w.heap[S]?) : PartsAt w' S i it := by
  obtain ⟨cur, h1, h2, h3⟩ := h
  exact ⟨cur, hk.trans h1, h2, h3⟩

theorem Node.kept {w w' : World} {B : Nat} {v : Value} {i : Nat} {it : Item} (h : Node w B v i it) (hk : ∀ k, B ≤ k → k < w.heap.size → w'.heap[k]? = w.heap[k]?) : Node w' B v i it := by
  rcases h with h | h | ⟨hm, L, S, hv, hL, hS, h1, h2⟩ | ⟨hm, L, S, hv, hL, hS, h1, h2⟩
  · exact .inl h
  · exact .inr (.inl h)
  · obtain ⟨cur, h3, h4⟩ := h2
    exact .inr (.inr (.inl ⟨hm, L, S, hv, hL, hS, (hk L hL (lt_of_block h1)).trans h1, cur, (hk S hS (lt_of_block h3)).trans h3, h4⟩))
  · obtain ⟨cur, h3, h4⟩ := h2
    exact .inr (.inr (.inr ⟨hm, L, S, hv, hL, hS, (hk L hL (lt_of_block h1)).trans h1, cur, (hk S hS (lt_of_block h3)).trans h3, h4⟩))

theorem Node.up {w : World} {B B' : Nat} {v : Value} {i : Nat} {it : Item} (h : Node w B v i it) (hB : B' ≤ B) : Node w B' v i it := by
  rcases h with h | h | ⟨hm, L, S, hv, hL, hS, h1, h2⟩ | ⟨hm, L, S, hv, hL, hS, h1, h2⟩
  · exact .inl h
  · exact .inr (.inl h)
  · exact .inr (.inr (.inl ⟨hm, L, S, hv, by omega, by omega, h1, h2⟩))
  · exact .inr (.inr (.inr ⟨hm, L, S, hv, by omega, by omega, h1, h2⟩))

/-- A row of n values in block RI, the first k of them the trees of the items. -/
def RowAt (w : World) (B RI n k : Nat) (its : Nat → Item) : Prop :=
  ∃ cur : Array Value, w.heap[RI]? = some (.cells cur 31 (0, 0)) ∧ cur.size = n ∧ ∀ i, i < k → ∃ v, cur[i]? = some v ∧ Node w B v i (its i)

theorem row_setCell {w : World} {b k : Nat} {cur : Array Value} {t : TypeId} {u : Value} (h : w.heap[b]? = some (.cells cur t (0, 0))) : (w.setCell ⟨b, k, none⟩ u).heap[b]? = some (.cells (cur.setIfInBounds k u) t (0, 0)) := by
  have hlt := lt_of_block h
  have h' : w.heap[b] = .cells cur t (0, 0) := by simpa [Array.getElem?_eq_getElem hlt] using h
  show (w.heap.modify b _)[b]? = _
  rw [Array.getElem?_eq_getElem (by simpa using hlt), Array.getElem_modify_self, h']
  rfl

theorem cell_of_row {w : World} {b k : Nat} {cur : Array Value} {t : TypeId} {u : Value} (h : w.heap[b]? = some (.cells cur t (0, 0))) (hu : cur[k]? = some u) : w.cell? ⟨b, k, none⟩ = some u := by simp [World.cell?, h, hu]
theorem free_of_row {w : World} {b k : Nat} {cur : Array Value} {t : TypeId} (h : w.heap[b]? = some (.cells cur t (0, 0))) : w.frozen? ⟨b, k, none⟩ = false := by simp [World.frozen?, h]

/-- One more value is laid into the row. -/
theorem RowAt.step {w w2 : World} {B RI n k : Nat} {its : Nat → Item} {v : Value} (h : RowAt w B RI n k its) (hRI : RI < B) (hk : k < n) (hx : ∀ b, b < w.heap.size → (b = RI ∨ B ≤ b) → w2.heap[b]? = w.heap[b]?) (hv : Node w2 B v k (its k)) :
    RowAt (w2.setCell ⟨RI, k, none⟩ v) B RI n (k + 1) its := by
  obtain ⟨cur, h1, h2, h3⟩ := h
  have h1' : w2.heap[RI]? = some (.cells cur 31 (0, 0)) := (hx RI (lt_of_block h1) (.inl rfl)).trans h1
  refine ⟨cur.setIfInBounds k v, row_setCell h1', by simpa using h2, fun i hi => ?_⟩
  have hst : ∀ b, B ≤ b → b < w2.heap.size → (w2.setCell ⟨RI, k, none⟩ v).heap[b]? = w2.heap[b]? := fun b hb _ => Below.heap_setCell _ _ _ _ (by show b ≠ RI; omega)
  rw [Array.getElem?_setIfInBounds]
  by_cases e : k = i
  · subst e
    exact ⟨v, by simp [h2, hk], hv.kept hst⟩
  · rw [if_neg e]
    obtain ⟨u, hu, hn⟩ := h3 i (by omega)
    exact ⟨u, hu, (hn.kept (fun b hb hlt => hx b hlt (.inr hb))).kept hst⟩

theorem RowAt.kept {w w' : World} {B RI n k : Nat} {its : Nat → Item} (h : RowAt w B RI n k its) (hk : ∀ b, b < w.heap.size → (b = RI ∨ B ≤ b) → w'.heap[b]? = w.heap[b]?) : RowAt w' B RI n k its := by
  obtain ⟨cur, h1, h2, h3⟩ := h
  refine ⟨cur, (hk RI (lt_of_block h1) (.inl rfl)).trans h1, h2, fun i hi => ?_⟩
  obtain ⟨u, hu, hn⟩ := h3 i hi
  exact ⟨u, hu, hn.kept (fun b hb hlt => hk b hlt (.inr hb))⟩

end Go.Proofs.Ybulkbflq
