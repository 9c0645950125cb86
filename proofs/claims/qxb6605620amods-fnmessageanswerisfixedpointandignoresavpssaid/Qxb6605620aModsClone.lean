/- zzCloneBytes, zzCloneU32 (seat b6605620aM): a copy in one new block. -/
import Derived.Test.Qxb6605620aModsRows
import Derived.WalkKit
import Derived.ProofKit
import Derived.WalkSpells
import Derived.OpenShut
import Derived.Deep.OwnRows
namespace Go.Proofs.Qxb6605620aMods
open Go.RowKit

theorem Trym.info5 : (Trym.prog.info? 5).map (fun i => (i.zero, i.size, i.bytes)) = some (some (.int .u8 0), 1, 1) := by kernel_rfl
theorem Trym.info26 : (Trym.prog.info? 26).map (fun i => (i.zero, i.size, i.bytes)) = some (some (.int .u32 0), 1, 4) := by kernel_rfl

theorem blk_lt {w : World} {b o : Nat} {v : Value} (h : w.cell? ⟨b, o, none⟩ = some v) : b < w.heap.size := by
  rcases Nat.lt_or_ge b w.heap.size with h1 | h1
  · exact h1
  · simp [World.cell?, Array.getElem?_eq_none h1] at h

/-- what the copy looks like -/
def rowOf (k : IntKind) (xs : List Int) : Array Value := (xs.map (Value.int k)).toArray

theorem row_end {k : IntKind} {xs : List Int} {C : Array Value} (hs : C.size = xs.length) (h : ∀ j, j < xs.length → C[j]? = some (.int k (xs.getD j 0))) : C = rowOf k xs := by
  apply Array.ext_getElem?
  intro j
  by_cases hj : j < xs.length
  · rw [h j hj]; simp [rowOf, hj]
  · rw [Array.getElem?_eq_none (by omega), Array.getElem?_eq_none (by simp [rowOf]; omega)]

theorem row_step {k : IntKind} {xs : List Int} {C : Array Value} {m : Nat} (hm : m < C.size) (h : ∀ j, j < m → C[j]? = some (.int k (xs.getD j 0))) (v : Value) (hv : v = .int k (xs.getD m 0)) :
    ∀ j, j < m + 1 → (C.setIfInBounds m v)[j]? = some (.int k (xs.getD j 0)) := by
  intro j hj
  rw [Array.getElem?_setIfInBounds]
  by_cases e : m = j
  · subst e; rw [if_pos rfl, if_pos hm, hv]
  · rw [if_neg e]; exact h j (by omega)

set_option maxRecDepth 100000 in
set_option maxHeartbeats 400000 in
theorem clone8_nil (w : World) (l c : Nat) :
    Calls Trym.prog 8 #[.slice none l c] w fun e w' => e = .returned (.slice none 0 0) ∧ w' = w := by
  have hnil := fun w => Lib.run_eql_slice_nil (P := Trym.prog) w 22 5 none l c 0 0 Trym.underlying22
  go_enter Trym.func8, Trym.ntmps8
  go_wp2
  go_ret
  exact ⟨rfl, rfl⟩

set_option maxRecDepth 100000 in
set_option maxHeartbeats 400000 in
theorem clone8_some (a : Addr) (cap : Nat) (xs : List Int) (w : World) (hlen : xs.length ≤ 140737488351232) (hc : ∀ i, i < xs.length → w.cell? (a.add i) = some (.int .u8 (xs.getD i 0))) :
    Calls Trym.prog 8 #[.slice (some a) xs.length cap] w fun e w' => e = .returned (.slice (some ⟨w.heap.size, 0, none⟩) xs.length xs.length) ∧ w' = w.alloc (.cells (rowOf .u8 xs) 5) := by
  have hnil := fun w => Lib.run_eql_slice_nil (P := Trym.prog) w 22 5 (some a) xs.length cap 0 0 Trym.underlying22
  have hmk := run_make_row' (P := Trym.prog) 22 5 (.int .u8 0) 1 Trym.underlying22 Trym.info5 rfl .i64 .i64 xs.length (by omega) (by omega)
  obtain ⟨C0, HC0, hC0s⟩ : ∃ C0, Hid (C0 = madeCells #[Value.int .u8 0] xs.length) ∧ C0.size = xs.length := ⟨_, rfl, size_madeCells _ _⟩
  rw [← HC0.out] at hmk
  go_enter Trym.func8, Trym.ntmps8
  go_wp2
  go_loopw [4] (fun i wr => ∃ (k : Nat) (C : Array Value), k ≤ xs.length ∧ i = .int .i64 k ∧ C.size = xs.length ∧ Hid (∀ j, j < k → C[j]? = some (.int .u8 (xs.getD j 0))) ∧ wr = w.alloc (.cells C 5)) (fun i _ => xs.length - (intOf i).toNat)
  case atStart => exact ⟨0, C0, Nat.zero_le _, rfl, hC0s, fun j hj => absurd hj (by omega), rfl⟩
  case round =>
    clear hmk HC0 hC0s C0
    obtain ⟨k, C, hk, rfl, hCs, hC, rfl⟩ := hrel
    by_cases hlt : k < xs.length
    · obtain ⟨b, off, rfl, hcb⟩ := ints_at hc (by omega)
      have hck := hcb k hlt
      have hb := blk_lt hck
      clear hc hcb
      go_wp2
      go_roundw
      case rel => exact ⟨k + 1, _, by omega, by go_num, by rw [Array.size_setIfInBounds]; exact hCs, row_step (by omega) hC.out _ (by simp [hlt]), rfl⟩
      case measure => simp [intOf]; omega
    · go_wp2
      go_ret
      exact ⟨rfl, by rw [row_end hCs (fun j hj => hC.out j (by omega))]⟩

set_option maxRecDepth 100000 in
set_option maxHeartbeats 400000 in
theorem clone13_nil (w : World) (l c : Nat) :
    Calls Trym.prog 13 #[.slice none l c] w fun e w' => e = .returned (.slice none 0 0) ∧ w' = w := by
  have hnil := fun w => Lib.run_eql_slice_nil (P := Trym.prog) w 27 26 none l c 0 0 Trym.underlying27
  go_enter Trym.func13, Trym.ntmps13
  go_wp2
  go_ret
  exact ⟨rfl, rfl⟩

set_option maxRecDepth 100000 in
set_option maxHeartbeats 400000 in
theorem clone13_some (a : Addr) (cap : Nat) (xs : List Int) (w : World) (hlen : xs.length ≤ 35184372087808) (hc : ∀ i, i < xs.length → w.cell? (a.add i) = some (.int .u32 (xs.getD i 0))) :
    Calls Trym.prog 13 #[.slice (some a) xs.length cap] w fun e w' => e = .returned (.slice (some ⟨w.heap.size, 0, none⟩) xs.length xs.length) ∧ w' = w.alloc (.cells (rowOf .u32 xs) 26) := by
  have hnil := fun w => Lib.run_eql_slice_nil (P := Trym.prog) w 27 26 (some a) xs.length cap 0 0 Trym.underlying27
  have hmk := run_make_row' (P := Trym.prog) 27 26 (.int .u32 0) 4 Trym.underlying27 Trym.info26 rfl .i64 .i64 xs.length (by omega) (by omega)
  obtain ⟨C0, HC0, hC0s⟩ : ∃ C0, Hid (C0 = madeCells #[Value.int .u32 0] xs.length) ∧ C0.size = xs.length := ⟨_, rfl, size_madeCells _ _⟩
  rw [← HC0.out] at hmk
  go_enter Trym.func13, Trym.ntmps13
  go_wp2
  go_loopw [4] (fun i wr => ∃ (k : Nat) (C : Array Value), k ≤ xs.length ∧ i = .int .i64 k ∧ C.size = xs.length ∧ Hid (∀ j, j < k → C[j]? = some (.int .u32 (xs.getD j 0))) ∧ wr = w.alloc (.cells C 26)) (fun i _ => xs.length - (intOf i).toNat)
  case atStart => exact ⟨0, C0, Nat.zero_le _, rfl, hC0s, fun j hj => absurd hj (by omega), rfl⟩
  case round =>
    clear hmk HC0 hC0s C0
    obtain ⟨k, C, hk, rfl, hCs, hC, rfl⟩ := hrel
    by_cases hlt : k < xs.length
    · obtain ⟨b, off, rfl, hcb⟩ := ints_at hc (by omega)
      have hck := hcb k hlt
      have hb := blk_lt hck
      clear hc hcb
      go_wp2
      go_roundw
      case rel => exact ⟨k + 1, _, by omega, by go_num, by rw [Array.size_setIfInBounds]; exact hCs, row_step (by omega) hC.out _ (by simp [hlt]), rfl⟩
      case measure => simp [intOf]; omega
    · go_wp2
      go_ret
      exact ⟨rfl, by rw [row_end hCs (fun j hj => hC.out j (by omega))]⟩

end Go.Proofs.Qxb6605620aMods
