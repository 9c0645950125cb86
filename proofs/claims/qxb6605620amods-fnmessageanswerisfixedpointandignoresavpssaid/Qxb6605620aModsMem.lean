/- How the arguments and the copies lie in memory (seat b6605620aM); zzCloneBytes and zzCloneU32 in those words. -/
import Derived.Test.Qxb6605620aModsClone
namespace Go.Proofs.Qxb6605620aMods
open Go.RowKit

theorem cell_lt {w : World} {p : Addr} {v : Value} (h : w.cell? p = some v) : p.block < w.heap.size := by
  rcases Nat.lt_or_ge p.block w.heap.size with h1 | h1
  · exact h1
  · simp [World.cell?, Array.getElem?_eq_none h1] at h

theorem cell_keep {w w' : World} {p : Addr} {v : Value} (hb : Below w.heap.size w w') (h : w.cell? p = some v) : w'.cell? p = some v :=
  (hb.cell (cell_lt h)).trans h

/-- a slice of integers: nil, or its first len cells hold xs -/
structure Ints (k : IntKind) (w : World) (a : Option Addr) (len : Nat) (xs : List Int) : Prop where
  size : xs.length = len
  nil : a = none → len = 0
  cell : ∀ x, a = some x → ∀ i, i < len → w.cell? (x.add i) = some (.int k (xs.getD i 0))

theorem Ints.later {k : IntKind} {w w' : World} {a : Option Addr} {len : Nat} {xs : List Int} (h : Ints k w a len xs) (hb : Below w.heap.size w w') : Ints k w' a len xs :=
  ⟨h.size, h.nil, fun x hx i hi => cell_keep hb (h.cell x hx i hi)⟩

/-- where there is an element: the address is plain -/
theorem Ints.place {k : IntKind} {w : World} {a : Option Addr} {len : Nat} {xs : List Int} (h : Ints k w a len xs) {i : Nat} (hi : i < len) :
    ∃ b off, a = some ⟨b, off, none⟩ ∧ ∀ j, j < len → w.cell? ⟨b, off + j, none⟩ = some (.int k (xs.getD j 0)) := by
  cases ha : a with
  | none => have := h.nil ha; omega
  | some x =>
    have hc := h.cell x ha
    rw [← h.size] at hc hi
    obtain ⟨b, off, rfl, hcb⟩ := ints_at hc (by omega)
    exact ⟨b, off, rfl, fun j hj => hcb j (by rw [h.size]; exact hj)⟩

/-- a slice of byte slices -/
structure Datas (w : World) (a : Option Addr) (len : Nat) (A : Nat → Option Addr) (L C : Nat → Nat) (Z : Nat → List Int) : Prop where
  nil : a = none → len = 0
  cell : ∀ x, a = some x → ∀ i, i < len → w.cell? (x.add i) = some (.slice (A i) (L i) (C i))
  row : ∀ i, i < len → Ints .u8 w (A i) (L i) (Z i)

theorem Datas.later {w w' : World} {a : Option Addr} {len : Nat} {A : Nat → Option Addr} {L C : Nat → Nat} {Z : Nat → List Int} (h : Datas w a len A L C Z) (hb : Below w.heap.size w w') : Datas w' a len A L C Z :=
  ⟨h.nil, fun x hx i hi => cell_keep hb (h.cell x hx i hi), fun i hi => (h.row i hi).later hb⟩

theorem Datas.place {w : World} {a : Option Addr} {len : Nat} {A : Nat → Option Addr} {L C : Nat → Nat} {Z : Nat → List Int} (h : Datas w a len A L C Z) {i : Nat} (hi : i < len) :
    ∃ b off, a = some ⟨b, off, none⟩ ∧ ∀ j, j < len → w.cell? ⟨b, off + j, none⟩ = some (.slice (A j) (L j) (C j)) := by
  cases ha : a with
  | none => have := h.nil ha; omega
  | some x =>
    have hc := h.cell x ha
    obtain ⟨b, off, spot⟩ := x
    have hspot : spot = none := by simpa [Addr.add] using World.cell?_spot (hc 0 (by omega))
    subst hspot
    exact ⟨b, off, rfl, fun j hj => by rw [← Go.WideShapes.add_plain]; exact hc j hj⟩

theorem rowOf_get (k : IntKind) (xs : List Int) (i : Nat) (h : i < xs.length) : (rowOf k xs)[i]? = some (.int k (xs.getD i 0)) := by
  simp [rowOf, h]

theorem ints_new (k : IntKind) (w : World) (xs : List Int) (len : Nat) (hl : xs.length = len) (t : TypeId) : Ints k (w.alloc (.cells (rowOf k xs) t)) (some ⟨w.heap.size, 0, none⟩) len xs :=
  ⟨hl, (fun h => by cases h), fun x hx i hi => by
    cases hx
    rw [Go.WideShapes.add_plain, Nat.zero_add, World.cell?_alloc_new]
    exact rowOf_get k xs i (by omega)⟩

theorem clone8_any (a : Option Addr) (len cap : Nat) (xs : List Int) (w : World) (h : Ints .u8 w a len xs) (hlen : len ≤ 1048576) :
    Calls Trym.prog 8 #[.slice a len cap] w fun e w' => ∃ a' c', e = .returned (.slice a' len c') ∧ Ints .u8 w' a' len xs ∧ Below w.heap.size w w' ∧ (∀ x, a' = some x → w.heap.size ≤ x.block) := by
  cases ha : a with
  | none =>
    have h0 := h.nil ha
    subst ha
    refine (clone8_nil w len cap).mono ?_
    rintro e w' ⟨rfl, rfl⟩
    exact ⟨none, 0, by rw [h0], h, Below.refl _ _, fun x hx => by cases hx⟩
  | some x =>
    have hl := h.size
    subst hl
    refine (clone8_some x cap xs w (by omega) (h.cell x ha)).mono ?_
    rintro e w' ⟨rfl, rfl⟩
    exact ⟨_, _, rfl, ints_new .u8 w xs _ rfl 5, (Below.refl _ _).alloc (Nat.le_refl _) _, fun x hx => by cases hx; exact Nat.le_refl _⟩

theorem clone13_any (a : Option Addr) (len cap : Nat) (xs : List Int) (w : World) (h : Ints .u32 w a len xs) (hlen : len ≤ 1048576) :
    Calls Trym.prog 13 #[.slice a len cap] w fun e w' => ∃ a' c', e = .returned (.slice a' len c') ∧ Ints .u32 w' a' len xs ∧ Below w.heap.size w w' ∧ (∀ x, a' = some x → w.heap.size ≤ x.block) := by
  cases ha : a with
  | none =>
    have h0 := h.nil ha
    subst ha
    refine (clone13_nil w len cap).mono ?_
    rintro e w' ⟨rfl, rfl⟩
    exact ⟨none, 0, by rw [h0], h, Below.refl _ _, fun x hx => by cases hx⟩
  | some x =>
    have hl := h.size
    subst hl
    refine (clone13_some x cap xs w (by omega) (h.cell x ha)).mono ?_
    rintro e w' ⟨rfl, rfl⟩
    exact ⟨_, _, rfl, ints_new .u32 w xs _ rfl 26, (Below.refl _ _).alloc (Nat.le_refl _) _, fun x hx => by cases hx; exact Nat.le_refl _⟩

/-! ### a block of the call's own -/
theorem blk_cell {w : World} {B : Nat} {Cc : Array Value} {t : TypeId} (h : w.heap[B]? = some (.cells Cc t (0, 0))) (k : Nat) : w.cell? ⟨B, k, none⟩ = Cc[k]? := by
  simp [World.cell?, h]
theorem blk_free {w : World} {B : Nat} {Cc : Array Value} {t : TypeId} (h : w.heap[B]? = some (.cells Cc t (0, 0))) (k : Nat) : w.frozen? ⟨B, k, none⟩ = false := by
  simp [World.frozen?, h]
theorem blk_store {w : World} {B : Nat} {Cc : Array Value} {t : TypeId} (h : w.heap[B]? = some (.cells Cc t (0, 0))) (k : Nat) (v : Value) :
    (w.setCell ⟨B, k, none⟩ v).heap[B]? = some (.cells (Cc.setIfInBounds k v) t (0, 0)) := by
  simp [World.setCell, Array.getElem?_modify, h]
theorem blk_size {w : World} {B : Nat} {o : Obj} (h : w.heap[B]? = some o) : B < w.heap.size := by
  rcases Nat.lt_or_ge B w.heap.size with h1 | h1
  · exact h1
  · rw [Array.getElem?_eq_none h1] at h; cases h
theorem Ints.store {k : IntKind} {w : World} {a : Option Addr} {len : Nat} {xs : List Int} (h : Ints k w a len xs) {B o : Nat} (hne : ∀ x, a = some x → B < x.block) (v : Value) : Ints k (w.setCell ⟨B, o, none⟩ v) a len xs :=
  ⟨h.size, h.nil, fun x hx i hi => by
    rw [← h.cell x hx i hi]
    refine World.cell?_of_block (w := w) (Below.heap_setCell _ _ _ _ ?_)
    have := hne x hx
    have e : (x.add i).block = x.block := by unfold Addr.add; split <;> rfl
    rw [e]
    show x.block ≠ B
    omega⟩

end Go.Proofs.Qxb6605620aMods
