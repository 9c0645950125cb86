/- zzCloneData (seat b6605620aM). -/
import Derived.Test.Qxb6605620aModsGuards
namespace Go.Proofs.Qxb6605620aMods
open Go.RowKit

theorem Trym.info22 : (Trym.prog.info? 22).map (fun i => (i.zero, i.size, i.bytes)) = some (some (.slice none 0 0), 1, 24) := by kernel_rfl

set_option maxRecDepth 100000 in
set_option maxHeartbeats 400000 in
theorem data14_nil (w : World) (l c : Nat) :
    Calls Trym.prog 14 #[.slice none l c] w fun e w' => e = .returned (.slice none 0 0) ∧ w' = w := by
  have hnil := fun w => Lib.run_eql_slice_nil (P := Trym.prog) w 28 22 none l c 0 0 Trym.underlying28
  go_enter Trym.func14, Trym.ntmps14
  go_wp2
  go_ret
  exact ⟨rfl, rfl⟩

/-- what stands behind k rounds -/
structure Part (w : World) (n k : Nat) (L : Nat → Nat) (Z : Nat → List Int) (wr : World) : Prop where
  below : Below w.heap.size w wr
  rows : ∃ (Cc : Array Value) (A' : Nat → Option Addr) (C' : Nat → Nat), Cc.size = n ∧ wr.heap[w.heap.size]? = some (.cells Cc 22 (0, 0)) ∧
    ∀ j, j < k → Cc[j]? = some (.slice (A' j) (L j) (C' j)) ∧ Ints .u8 wr (A' j) (L j) (Z j) ∧ ∀ x, A' j = some x → w.heap.size < x.block

theorem part_start (w : World) (n : Nat) (L : Nat → Nat) (Z : Nat → List Int) (Cc : Array Value) (hs : Cc.size = n) : Part w n 0 L Z (w.alloc (.cells Cc 22)) :=
  ⟨(Below.refl _ _).alloc (Nat.le_refl _) _, Cc, fun _ => none, fun _ => 0, hs, (MapKept.heap_alloc w _).1, fun j hj => absurd hj (by omega)⟩

/-- one round: a copy is made (w1), its slice is stored -/
theorem part_step {w wr w1 : World} {n k : Nat} {L : Nat → Nat} {Z : Nat → List Int} {a' : Option Addr} {c' : Nat} (h : Part w n k L Z wr) (hk : k < n) (hi : Ints .u8 w1 a' (L k) (Z k))
    (hb : Below wr.heap.size wr w1) (hx : ∀ x, a' = some x → wr.heap.size ≤ x.block) : Part w n (k + 1) L Z (w1.setCell ⟨w.heap.size, k, none⟩ (.slice a' (L k) c')) := by
  obtain ⟨hw, Cc, A', C', hs, hblk, hall⟩ := h
  have hlt := blk_size hblk
  have hblk1 : w1.heap[w.heap.size]? = some (.cells Cc 22 (0, 0)) := (hb.block _ hlt).trans hblk
  refine ⟨(hw.trans (hb.mono (by omega))).setCell (Nat.le_refl _) _, Cc.setIfInBounds k (.slice a' (L k) c'), fun j => if j = k then a' else A' j, fun j => if j = k then c' else C' j, by simp [hs], blk_store hblk1 k _, ?_⟩
  intro j hj
  by_cases e : j = k
  · subst e
    simp only [if_true]
    exact ⟨by rw [Array.getElem?_setIfInBounds, if_pos rfl, if_pos (by omega)], hi.store (fun x hxx => by have := hx x hxx; omega) _, fun x hxx => by have := hx x hxx; omega⟩
  · simp only [if_neg e]
    obtain ⟨h1, h2, h3⟩ := hall j (by omega)
    exact ⟨by rw [Array.getElem?_setIfInBounds, if_neg (by omega)]; exact h1, (h2.later hb).store h3 _, h3⟩

theorem part_end {w wr : World} {n : Nat} {L : Nat → Nat} {Z : Nat → List Int} (h : Part w n n L Z wr) : ∃ A' C', Datas wr (some ⟨w.heap.size, 0, none⟩) n A' L C' Z ∧ Below w.heap.size w wr := by
  obtain ⟨hw, Cc, A', C', hs, hblk, hall⟩ := h
  refine ⟨A', C', ⟨(fun h => by cases h), fun x hx i hi => ?_, fun i hi => (hall i hi).2.1⟩, hw⟩
  cases hx
  rw [Go.WideShapes.add_plain, Nat.zero_add, blk_cell hblk]
  exact (hall i hi).1

set_option maxRecDepth 100000 in
set_option maxHeartbeats 400000 in
theorem data14_some (x : Addr) (len cap : Nat) (A : Nat → Option Addr) (L C : Nat → Nat) (Z : Nat → List Int) (w : World) (hD : Datas w (some x) len A L C Z) (hlen : len ≤ 65536) (hS : Short len L) :
    Calls Trym.prog 14 #[.slice (some x) len cap] w fun e w' => e = .returned (.slice (some ⟨w.heap.size, 0, none⟩) len len) ∧ Part w len len L Z w' := by
  have hnil := fun w => Lib.run_eql_slice_nil (P := Trym.prog) w 28 22 (some x) len cap 0 0 Trym.underlying28
  have hmk := run_make_row' (P := Trym.prog) 28 22 (.slice none 0 0) 24 Trym.underlying28 Trym.info22 rfl .i64 .i64 len (by omega) (by omega)
  obtain ⟨C0, HC0, hC0s⟩ : ∃ C0, Hid (C0 = madeCells #[Value.slice none 0 0] len) ∧ Hid (C0.size = len) := ⟨_, rfl, size_madeCells _ _⟩
  rw [← HC0.out] at hmk
  have HD : Hid (Datas w (some x) len A L C Z) := hD
  clear hD
  go_enter Trym.func14, Trym.ntmps14
  go_wp2
  go_loopw [4] (fun i wr => ∃ k : Nat, k ≤ len ∧ i = .int .i64 k ∧ Hid (Part w len k L Z wr)) (fun i _ => len - (intOf i).toNat)
  case atStart => exact ⟨0, Nat.zero_le _, rfl, part_start w len L Z C0 hC0s⟩
  case round =>
    clear hmk HC0 hC0s C0
    obtain ⟨k, hk, rfl, hP⟩ := hrel
    by_cases hlt : k < len
    · obtain ⟨b, off, hxx, hc⟩ := HD.out.place hlt
      cases hxx
      have hck := cell_keep hP.out.below (hc k hlt)
      have hin : Hid (Ints .u8 wr (A k) (L k) (Z k)) := (HD.out.row k hlt).later hP.out.below
      clear hc
      go_wp2_with fail
      refine (clone8_any (A k) (L k) (C k) (Z k) _ hin.out (hS k hlt)).mono ?_
      rintro e w1 ⟨a', c', rfl, hi1, hb1, hx1⟩
      have HP : Hid (Part w len (k + 1) L Z (w1.setCell ⟨w.heap.size, k, none⟩ (.slice a' (L k) c'))) := part_step hP.out hlt hi1 hb1 hx1
      obtain ⟨v, hv, hf⟩ : ∃ v, w1.cell? ⟨w.heap.size, k, none⟩ = some v ∧ w1.frozen? ⟨w.heap.size, k, none⟩ = false := by
        obtain ⟨hw, Cc, A', C', hs, hblk, hall⟩ := hP.out
        have hblk1 : w1.heap[w.heap.size]? = some (.cells Cc 22 (0, 0)) := (hb1.block _ (blk_size hblk)).trans hblk
        exact ⟨Cc[k]'(by omega), by rw [blk_cell hblk1, Array.getElem?_eq_getElem (by omega)], blk_free hblk1 k⟩
      clear hi1 hb1 hx1 hck hin hP
      go_wp2
      go_roundw
      case rel => exact ⟨k + 1, by omega, by go_num, HP⟩
      case measure => simp [intOf]; omega
    · go_wp2
      go_ret
      exact ⟨rfl, by have := hP.out; rwa [show k = len from by omega] at this⟩

theorem data14_any (a : Option Addr) (len cap : Nat) (A : Nat → Option Addr) (L C : Nat → Nat) (Z : Nat → List Int) (w : World) (hD : Datas w a len A L C Z) (hlen : len ≤ 65536) (hS : Short len L) :
    Calls Trym.prog 14 #[.slice a len cap] w fun e w' => ∃ a' c' A' C', e = .returned (.slice a' len c') ∧ Datas w' a' len A' L C' Z ∧ Below w.heap.size w w' := by
  cases ha : a with
  | none =>
    have h0 := hD.nil ha
    subst ha
    refine (data14_nil w len cap).mono ?_
    rintro e w' ⟨rfl, rfl⟩
    exact ⟨none, 0, A, C, by rw [h0], hD, Below.refl _ _⟩
  | some x =>
    subst ha
    refine (data14_some x len cap A L C Z w hD hlen hS).mono ?_
    rintro e w' ⟨rfl, hP⟩
    obtain ⟨A', C', h1, h2⟩ := part_end hP
    exact ⟨_, _, A', C', rfl, h1, h2⟩

end Go.Proofs.Qxb6605620aMods
