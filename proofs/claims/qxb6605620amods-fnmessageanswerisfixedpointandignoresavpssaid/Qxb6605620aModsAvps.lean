/- zzAVPs (seat b6605620aM). -/
import Derived.Test.Qxb6605620aModsGuards
import Derived.BigQuiet
import Derived.BigRegion
import Derived.Deep.QuietTactic
import Derived.Deep.RegionHeld3
namespace Go.Proofs.Qxb6605620aMods
open Go.RowKit

theorem Trym.info44 : (Trym.prog.info? 44).map (fun i => (i.zero, i.size, i.bytes)) = some (some (.agg #[.int .u32 0, .int .u8 0, .int .u32 0, .slice none 0 0]), 4, 40) := by kernel_rfl

set_option maxRecDepth 100000 in
set_option maxHeartbeats 400000 in
theorem avps15_nil (w : World) (l c : Nat) (v1 v2 v3 : Value) :
    Calls Trym.prog 15 #[.slice none l c, v1, v2, v3] w fun e w' => e = .returned (.slice none 0 0) ∧ w' = w := by
  have hnil := fun w => Lib.run_eql_slice_nil (P := Trym.prog) w 27 26 none l c 0 0 Trym.underlying27
  go_enter Trym.func15, Trym.ntmps15
  go_wp2
  go_ret
  exact ⟨rfl, rfl⟩

theorem make44 (n : Nat) (hn : n ≤ 65536) : ∃ C0 : Array Value, C0.size = 4 * n ∧ ∀ w : World, (Instr.makeSlice 35 (.int .i64 (n : Int)) (.int .i64 (n : Int))).run Trym.prog w = .ok (.slice (some ⟨w.heap.size, 0, none⟩) n n) (w.alloc (.cells C0 44)) := by
  obtain ⟨i, hi, hz⟩ := Option.map_eq_some_iff.1 Trym.info44
  simp only [Prod.mk.injEq] at hz
  obtain ⟨hz, hs, hb⟩ := hz
  refine ⟨madeCells (Value.agg #[.int .u32 0, .int .u8 0, .int .u32 0, .slice none 0 0]).cells (n * 4), ?_, fun w => ?_⟩
  · rw [size_madeCells]; omega
  · have := run_make (P := Trym.prog) w 35 44 i _ Trym.underlying35 hi hz .i64 .i64 (n : Int) (n : Int) (by omega) (by omega) (by rw [hb]; omega) (by omega)
    rw [hs] at this
    simpa using this

/-- what stands behind k rounds -/
structure PartV (w : World) (n k : Nat) (xs ys zs : List Int) (L : Nat → Nat) (Z : Nat → List Int) (wr : World) : Prop where
  below : Below w.heap.size w wr
  rows : ∃ (Cc : Array Value) (A' : Nat → Option Addr) (C' : Nat → Nat), Cc.size = 4 * n ∧ wr.heap[w.heap.size]? = some (.cells Cc 44 (0, 0)) ∧
    ∀ j, j < k → Cc[j * 4]? = some (.int .u32 (xs.getD j 0)) ∧ Cc[j * 4 + 1]? = some (.int .u8 (ys.getD j 0)) ∧ Cc[j * 4 + 2]? = some (.int .u32 (zs.getD j 0)) ∧ Cc[j * 4 + 3]? = some (.slice (A' j) (L j) (C' j)) ∧
      Ints .u8 wr (A' j) (L j) (Z j) ∧ ∀ x, A' j = some x → w.heap.size < x.block

theorem partV_start (w : World) (n : Nat) (xs ys zs : List Int) (L : Nat → Nat) (Z : Nat → List Int) (Cc : Array Value) (hs : Cc.size = 4 * n) : PartV w n 0 xs ys zs L Z (w.alloc (.cells Cc 44)) :=
  ⟨(Below.refl _ _).alloc (Nat.le_refl _) _, Cc, fun _ => none, fun _ => 0, hs, (MapKept.heap_alloc w _).1, fun j hj => absurd hj (by omega)⟩

theorem partV_blk {w wr : World} {n k : Nat} {xs ys zs : List Int} {L : Nat → Nat} {Z : Nat → List Int} (h : PartV w n k xs ys zs L Z wr) : ∃ Cc : Array Value, Cc.size = 4 * n ∧ wr.heap[w.heap.size]? = some (.cells Cc 44 (0, 0)) := by
  obtain ⟨_, Cc, _, _, hs, hblk, _⟩ := h
  exact ⟨Cc, hs, hblk⟩

theorem set_other {C : Array Value} {i j : Nat} {v : Value} (h : i ≠ j) : (C.setIfInBounds i v)[j]? = C[j]? := by rw [Array.getElem?_setIfInBounds, if_neg h]
theorem set_same {C : Array Value} {i : Nat} {v : Value} (h : i < C.size) : (C.setIfInBounds i v)[i]? = some v := by rw [Array.getElem?_setIfInBounds, if_pos rfl, if_pos h]

theorem partV_step {w wr w1 : World} {n k : Nat} {xs ys zs : List Int} {L : Nat → Nat} {Z : Nat → List Int} {a' : Option Addr} {c' : Nat} {x1 x2 x3 : Int} (h : PartV w n k xs ys zs L Z wr) (hk : k < n)
    (e1 : x1 = xs.getD k 0) (e2 : x2 = ys.getD k 0) (e3 : x3 = zs.getD k 0) (hN : Below wr.heap.size wr w1 ∧ Ints .u8 w1 a' (L k) (Z k) ∧ ∀ x, a' = some x → wr.heap.size ≤ x.block) :
    PartV w n (k + 1) xs ys zs L Z ((((w1.setCell ⟨w.heap.size, k * 4, none⟩ (.int .u32 x1)).setCell ⟨w.heap.size, k * 4 + 1, none⟩ (.int .u8 x2)).setCell ⟨w.heap.size, k * 4 + 2, none⟩ (.int .u32 x3)).setCell ⟨w.heap.size, k * 4 + 3, none⟩ (.slice a' (L k) c')) := by
  subst e1 e2 e3
  obtain ⟨hb, hi, hx⟩ := hN
  obtain ⟨hw, Cc, A', C', hs, hblk, hall⟩ := h
  have hlt := blk_size hblk
  have hblk1 : w1.heap[w.heap.size]? = some (.cells Cc 44 (0, 0)) := (hb.block _ hlt).trans hblk
  refine ⟨((((hw.trans (hb.mono (by omega))).setCell (Nat.le_refl _) _).setCell (Nat.le_refl _) _).setCell (Nat.le_refl _) _).setCell (Nat.le_refl _) _,
    _, fun j => if j = k then a' else A' j, fun j => if j = k then c' else C' j, ?_, blk_store (blk_store (blk_store (blk_store hblk1 _ _) _ _) _ _) _ _, ?_⟩
  · simp [hs]
  intro j hj
  by_cases e : j = k
  · subst e
    simp only [if_true]
    have hlx : ∀ x, a' = some x → w.heap.size < x.block := fun x hxx => by have := hx x hxx; omega
    refine ⟨?_, ?_, ?_, ?_, (((hi.store hlx _).store hlx _).store hlx _).store hlx _, hlx⟩
    · rw [set_other (by omega), set_other (by omega), set_other (by omega), set_same (by omega)]
    · rw [set_other (by omega), set_other (by omega), set_same (by simp; omega)]
    · rw [set_other (by omega), set_same (by simp; omega)]
    · rw [set_same (by simp; omega)]
  · simp only [if_neg e]
    obtain ⟨h1, h2, h3, h4, h5, h6⟩ := hall j (by omega)
    refine ⟨?_, ?_, ?_, ?_, ((((h5.later hb).store h6 _).store h6 _).store h6 _).store h6 _, h6⟩
    · rw [set_other (by omega), set_other (by omega), set_other (by omega), set_other (by omega)]; exact h1
    · rw [set_other (by omega), set_other (by omega), set_other (by omega), set_other (by omega)]; exact h2
    · rw [set_other (by omega), set_other (by omega), set_other (by omega), set_other (by omega)]; exact h3
    · rw [set_other (by omega), set_other (by omega), set_other (by omega), set_other (by omega)]; exact h4

/-- a slice of AVPs -/
structure AvpRow (w : World) (a : Option Addr) (n : Nat) (xs ys zs : List Int) (L : Nat → Nat) (Z : Nat → List Int) : Prop where
  row : ∀ i, i < n → ∃ b A C, a = some ⟨b, 0, none⟩ ∧ w.cell? ⟨b, i * 4, none⟩ = some (.int .u32 (xs.getD i 0)) ∧ w.cell? ⟨b, i * 4 + 1, none⟩ = some (.int .u8 (ys.getD i 0)) ∧ w.cell? ⟨b, i * 4 + 2, none⟩ = some (.int .u32 (zs.getD i 0)) ∧
    w.cell? ⟨b, i * 4 + 3, none⟩ = some (.slice A (L i) C) ∧ Ints .u8 w A (L i) (Z i)

theorem AvpRow.later {w w' : World} {a : Option Addr} {n : Nat} {xs ys zs : List Int} {L : Nat → Nat} {Z : Nat → List Int} (h : AvpRow w a n xs ys zs L Z) (hb : Below w.heap.size w w') : AvpRow w' a n xs ys zs L Z :=
  ⟨fun i hi => by
    obtain ⟨b, A, C, e, h1, h2, h3, h4, h5⟩ := h.row i hi
    exact ⟨b, A, C, e, cell_keep hb h1, cell_keep hb h2, cell_keep hb h3, cell_keep hb h4, h5.later hb⟩⟩

theorem partV_end {w wr : World} {n : Nat} {xs ys zs : List Int} {L : Nat → Nat} {Z : Nat → List Int} (h : PartV w n n xs ys zs L Z wr) : AvpRow wr (some ⟨w.heap.size, 0, none⟩) n xs ys zs L Z ∧ Below w.heap.size w wr := by
  obtain ⟨hw, Cc, A', C', hs, hblk, hall⟩ := h
  refine ⟨⟨fun i hi => ?_⟩, hw⟩
  obtain ⟨h1, h2, h3, h4, h5, _⟩ := hall i hi
  exact ⟨w.heap.size, A' i, C' i, rfl, by rw [blk_cell hblk]; exact h1, by rw [blk_cell hblk]; exact h2, by rw [blk_cell hblk]; exact h3, by rw [blk_cell hblk]; exact h4, h5⟩

theorem Ints.drew {k : IntKind} {w : World} {a : Option Addr} {len : Nat} {xs : List Int} (h : Ints k w a len xs) : Ints k w.drew a len xs := ⟨h.size, h.nil, h.cell⟩

theorem far1 {w : World} {B b o i : Nat} (x : Value) {v : Value} (h : w.cell? ⟨b, o, none⟩ = some v) (hn : b ≠ B) : (w.setCell ⟨B, i, none⟩ x).cell? ⟨b, o, none⟩ = some v :=
  (World.cell?_of_block (w := w) (a := ⟨b, o, none⟩) (Below.heap_setCell w ⟨B, i, none⟩ x b hn)).trans h
theorem far4 {w : World} {B b o i0 i1 i2 i3 : Nat} {x0 x1 x2 x3 v : Value} (h : w.cell? ⟨b, o, none⟩ = some v) (hn : b ≠ B) :
    ((((w.setCell ⟨B, i0, none⟩ x0).setCell ⟨B, i1, none⟩ x1).setCell ⟨B, i2, none⟩ x2).setCell ⟨B, i3, none⟩ x3).cell? ⟨b, o, none⟩ = some v :=
  far1 _ (far1 _ (far1 _ (far1 _ h hn) hn) hn) hn

/-- the copy inside a round's region -/
theorem clone_round {w wr : World} {n k : Nat} (hP : ∃ Cc : Array Value, Cc.size = 4 * n ∧ wr.heap[w.heap.size]? = some (.cells Cc 44 (0, 0))) (hk : k < n)
    {a : Option Addr} {l : Nat} {Zk : List Int} (W : World) (c : Nat) (hi : Ints .u8 wr a l Zk) (hl : l ≤ 1048576)
    {p1 p2 p3 p4 : Addr} {u1 u2 u3 u4 : Value} (g1 : wr.cell? p1 = some u1) (g2 : wr.cell? p2 = some u2) (g3 : wr.cell? p3 = some u3) (g4 : wr.cell? p4 = some u4) (hW : W = wr.drew := by rfl) :
    Calls Trym.prog 8 #[.slice a l c] W fun e w1 => ∃ a' c', e = .returned (.slice a' l c') ∧ Hid (Below wr.heap.size wr w1 ∧ Ints .u8 w1 a' l Zk ∧ ∀ x, a' = some x → wr.heap.size ≤ x.block) ∧
      w1.cell? p1 = some u1 ∧ w1.cell? p2 = some u2 ∧ w1.cell? p3 = some u3 ∧ w1.cell? p4 = some u4 ∧
      (∃ v0 v1 v2 v3, w1.cell? ⟨w.heap.size, k * 4, none⟩ = some v0 ∧ w1.cell? ⟨w.heap.size, k * 4 + 1, none⟩ = some v1 ∧ w1.cell? ⟨w.heap.size, k * 4 + 2, none⟩ = some v2 ∧ w1.cell? ⟨w.heap.size, k * 4 + 3, none⟩ = some v3) ∧
      w1.frozen? ⟨w.heap.size, k * 4, none⟩ = false ∧ w1.frozen? ⟨w.heap.size, k * 4 + 1, none⟩ = false ∧ w1.frozen? ⟨w.heap.size, k * 4 + 2, none⟩ = false ∧ w1.frozen? ⟨w.heap.size, k * 4 + 3, none⟩ = false := by
  subst hW
  refine (clone8_any a l c Zk _ hi.drew hl).mono ?_
  rintro e w1 ⟨a', c', rfl, h1, h2, h3⟩
  have hb : Below wr.heap.size wr w1 := ⟨h2.os, h2.tape, h2.output, h2.size, h2.block⟩
  obtain ⟨Cc, hs, hblk⟩ := hP
  have hblk1 : w1.heap[w.heap.size]? = some (.cells Cc 44 (0, 0)) := (hb.block _ (blk_size hblk)).trans hblk
  have there : ∀ j, j < 4 * n → ∃ v, w1.cell? ⟨w.heap.size, j, none⟩ = some v := fun j hj => ⟨Cc[j]'(by omega), by rw [blk_cell hblk1, Array.getElem?_eq_getElem (by omega)]⟩
  obtain ⟨v0, z0⟩ := there (k * 4) (by omega)
  obtain ⟨v1, z1⟩ := there (k * 4 + 1) (by omega)
  obtain ⟨v2, z2⟩ := there (k * 4 + 2) (by omega)
  obtain ⟨v3, z3⟩ := there (k * 4 + 3) (by omega)
  exact ⟨a', c', rfl, ⟨hb, h1, h3⟩, cell_keep hb g1, cell_keep hb g2, cell_keep hb g3, cell_keep hb g4, ⟨v0, v1, v2, v3, z0, z1, z2, z3⟩, blk_free hblk1 _, blk_free hblk1 _, blk_free hblk1 _, blk_free hblk1 _⟩

set_option maxRecDepth 100000 in
set_option maxHeartbeats 1000000 in
theorem avps15_some (x : Addr) (a2 a3 a4 : Option Addr) (n c1 c2 c3 c4 : Nat) (xs ys zs : List Int) (A : Nat → Option Addr) (L C : Nat → Nat) (Z : Nat → List Int) (w : World)
    (h1 : Ints .u32 w (some x) n xs) (h2 : Ints .u8 w a2 n ys) (h3 : Ints .u32 w a3 n zs) (hD : Datas w a4 n A L C Z) (hlen : n ≤ 65536) (hS : Short n L) :
    Calls Trym.prog 15 #[.slice (some x) n c1, .slice a2 n c2, .slice a3 n c3, .slice a4 n c4] w fun e w' => e = .returned (.slice (some ⟨w.heap.size, 0, none⟩) n n) ∧ PartV w n n xs ys zs L Z w' := by
  have hnil := fun w => Lib.run_eql_slice_nil (P := Trym.prog) w 27 26 (some x) n c1 0 0 Trym.underlying27
  obtain ⟨C0, hC0s, hmk⟩ := make44 n hlen
  have H1 : Hid (Ints .u32 w (some x) n xs) := h1
  have H2 : Hid (Ints .u8 w a2 n ys) := h2
  have H3 : Hid (Ints .u32 w a3 n zs) := h3
  have HD : Hid (Datas w a4 n A L C Z) := hD
  clear h1 h2 h3 hD
  go_enter Trym.func15, Trym.ntmps15
  go_wp2
  go_loopw [10] (fun i wr => ∃ k : Nat, k ≤ n ∧ i = .int .i64 k ∧ Hid (PartV w n k xs ys zs L Z wr)) (fun i _ => n - (intOf i).toNat)
  case atStart => exact ⟨0, Nat.zero_le _, rfl, partV_start w n xs ys zs L Z C0 hC0s⟩
  case round =>
    clear hmk hC0s C0
    obtain ⟨k, hk, rfl, hP⟩ := hrel
    have hB : Hid (Below w.heap.size w wr) := hP.out.below
    by_cases hlt : k < n
    · obtain ⟨b1, o1, hxx, e1⟩ := H1.out.place hlt
      cases hxx
      obtain ⟨b2, o2, rfl, e2⟩ := H2.out.place hlt
      obtain ⟨b3, o3, rfl, e3⟩ := H3.out.place hlt
      obtain ⟨b4, o4, rfl, e4⟩ := HD.out.place hlt
      obtain ⟨x1, hx1, g1⟩ : ∃ x, Hid (x = xs.getD k 0) ∧ wr.cell? ⟨b1, o1 + k, none⟩ = some (.int .u32 x) := ⟨_, rfl, cell_keep hB.out (e1 k hlt)⟩
      obtain ⟨x2, hx2, g2⟩ : ∃ x, Hid (x = ys.getD k 0) ∧ wr.cell? ⟨b2, o2 + k, none⟩ = some (.int .u8 x) := ⟨_, rfl, cell_keep hB.out (e2 k hlt)⟩
      obtain ⟨x3, hx3, g3⟩ : ∃ x, Hid (x = zs.getD k 0) ∧ wr.cell? ⟨b3, o3 + k, none⟩ = some (.int .u32 x) := ⟨_, rfl, cell_keep hB.out (e3 k hlt)⟩
      have g4 := cell_keep hB.out (e4 k hlt)
      have hin : Hid (Ints .u8 wr (A k) (L k) (Z k)) := (HD.out.row k hlt).later hB.out
      have hi : (k : Int) < (n : Int) := by omega
      clear e1 e2 e3 e4
      have n1 : b1 ≠ w.heap.size := by have := cell_lt (H1.out.cell _ rfl k hlt); simp [Go.WideShapes.add_plain] at this; omega
      have n2 : b2 ≠ w.heap.size := by have := cell_lt (H2.out.cell _ rfl k hlt); simp [Go.WideShapes.add_plain] at this; omega
      have n3 : b3 ≠ w.heap.size := by have := cell_lt (H3.out.cell _ rfl k hlt); simp [Go.WideShapes.add_plain] at this; omega
      have n4 : b4 ≠ w.heap.size := by have := cell_lt (HD.out.cell _ rfl k hlt); simp [Go.WideShapes.add_plain] at this; omega
      go_wp2_with fail
      go_region_held3 (fun w' => w'.cell? ⟨b1, o1 + k, none⟩ = some (.int .u32 x1) ∧ w'.cell? ⟨b2, o2 + k, none⟩ = some (.int .u8 x2) ∧ w'.cell? ⟨b3, o3 + k, none⟩ = some (.int .u32 x3) ∧ w'.cell? ⟨b4, o4 + k, none⟩ = some (.slice (A k) (L k) (C k))) (first | go_keep | exact ⟨far4 (by assumption) (by assumption), far4 (by assumption) (by assumption), far4 (by assumption) (by assumption), far4 (by assumption) (by assumption)⟩)
        (first | (go_at_call 8; refine (clone_round (partV_blk hP.out) hlt _ (C k) hin.out (hS k hlt) g1 g2 g3 g4).mono ?_; rintro e w1 ⟨a', c', rfl, hN, q1, q2, q3, q4, ⟨v0, v1, v2, v3, z0, z1, z2, z3⟩, f0, f1, f2, f3⟩))
      have HP : Hid (PartV w n (k + 1) xs ys zs L Z ((((w1.setCell ⟨w.heap.size, k * 4, none⟩ (.int .u32 x1)).setCell ⟨w.heap.size, k * 4 + 1, none⟩ (.int .u8 x2)).setCell ⟨w.heap.size, k * 4 + 2, none⟩ (.int .u32 x3)).setCell ⟨w.heap.size, k * 4 + 3, none⟩ (.slice a' (L k) c'))) := partV_step hP.out hlt hx1.out hx2.out hx3.out hN.out
      clear q1 q2 q3 q4 z0 z1 z2 z3 f0 f1 f2 f3 hN g1 g2 g3 g4
      go_wp2
      go_roundw
      case rel => exact ⟨k + 1, by omega, by go_num, HP⟩
      case measure => simp [intOf]; omega
    · go_wp2
      go_ret
      exact ⟨rfl, by have := hP.out; rwa [show k = n from by omega] at this⟩

theorem avps15_any (a1 a2 a3 a4 : Option Addr) (n c1 c2 c3 c4 : Nat) (xs ys zs : List Int) (A : Nat → Option Addr) (L C : Nat → Nat) (Z : Nat → List Int) (w : World)
    (h1 : Ints .u32 w a1 n xs) (h2 : Ints .u8 w a2 n ys) (h3 : Ints .u32 w a3 n zs) (hD : Datas w a4 n A L C Z) (hlen : n ≤ 65536) (hS : Short n L) :
    Calls Trym.prog 15 #[.slice a1 n c1, .slice a2 n c2, .slice a3 n c3, .slice a4 n c4] w fun e w' => ∃ a' c', e = .returned (.slice a' n c') ∧ AvpRow w' a' n xs ys zs L Z ∧ Below w.heap.size w w' := by
  cases ha : a1 with
  | none =>
    have h0 := h1.nil ha
    subst ha
    refine (avps15_nil w n c1 _ _ _).mono ?_
    rintro e w' ⟨rfl, rfl⟩
    exact ⟨none, 0, by rw [h0], ⟨fun i hi => by omega⟩, Below.refl _ _⟩
  | some x =>
    subst ha
    refine (avps15_some x a2 a3 a4 n c1 c2 c3 c4 xs ys zs A L C Z w h1 h2 h3 hD hlen hS).mono ?_
    rintro e w' ⟨rfl, hP⟩
    obtain ⟨r1, r2⟩ := partV_end hP
    exact ⟨_, _, rfl, r1, r2⟩

end Go.Proofs.Qxb6605620aMods
