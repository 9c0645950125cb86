/- FnPutUint24WritesLow24BitsBigEndian and its callees (seat b6605620aM). -/
import Derived.Test.Qxb6605620aModsClone
import Derived.BigQuiet
import Derived.Deep.QuietTactic
import Derived.Laws.BitsAllLaws
namespace Go.Proofs.Qxb6605620aMods
open Go.RowKit

set_option maxRecDepth 100000 in
set_option maxHeartbeats 400000 in
theorem put26 (w : World) (C : Array Value) (n : Int) (len : Nat) (hs : C.size = len) (h3 : 3 ≤ len) (_n1 : -9223372036854775808 ≤ n) (_n2 : n ≤ 9223372036854775807) :
    Calls Trym.prog 26 #[.slice (some ⟨w.heap.size, 0, none⟩) len len, .int .i64 n] (w.alloc (.cells C 5)) fun e w' => e = .returned (.tuple #[]) ∧
      w' = w.alloc (.cells (((C.setIfInBounds 0 (.int .u8 (n / 65536 % 256))).setIfInBounds 1 (.int .u8 (n / 256 % 256))).setIfInBounds 2 (.int .u8 (n % 256))) 5) := by
  subst hs
  have h0 : 0 < C.size := by omega
  have h1 : 1 < C.size := by omega
  have h2 : 2 < C.size := by omega
  go_enter Trym.func26, Trym.ntmps26
  go_wp2
  go_end0
  exact ⟨rfl, rfl⟩

set_option maxRecDepth 100000 in
set_option maxHeartbeats 400000 in
theorem put9 (w : World) (C : Array Value) (n : Int) (len : Nat) (hs : C.size = len) (h3 : 3 ≤ len) (n1 : -9223372036854775808 ≤ n) (n2 : n ≤ 9223372036854775807) :
    Calls Trym.prog 9 #[.slice (some ⟨w.heap.size, 0, none⟩) len len, .int .i64 n] (w.alloc (.cells C 5)) fun e w' => e = .returned (.tuple #[]) ∧
      w' = w.alloc (.cells (((C.setIfInBounds 0 (.int .u8 (n / 65536 % 256))).setIfInBounds 1 (.int .u8 (n / 256 % 256))).setIfInBounds 2 (.int .u8 (n % 256))) 5) := by
  have HS : Hid (C.size = len) := hs
  clear hs
  go_enter Trym.func9, Trym.ntmps9
  go_wp2_with fail
  refine (put26 w C n len HS.out h3 n1 n2).mono ?_
  rintro e w' ⟨rfl, rfl⟩
  go_wp2_with fail
  go_end0
  exact ⟨rfl, rfl⟩

theorem rowOf_get (k : IntKind) (xs : List Int) (i : Nat) (h : i < xs.length) : (rowOf k xs)[i]? = some (.int k (xs.getD i 0)) := by
  simp [rowOf, h]
theorem rowOf_size (k : IntKind) (xs : List Int) : (rowOf k xs).size = xs.length := by simp [rowOf]

/-- what the law needs to know behind putUint24 -/
theorem put_use (w : World) (xs : List Int) (n : Int) (len : Nat) (hs : xs.length = len) (h3 : 3 ≤ len) (n1 : -9223372036854775808 ≤ n) (n2 : n ≤ 9223372036854775807) :
    Calls Trym.prog 9 #[.slice (some ⟨w.heap.size, 0, none⟩) len len, .int .i64 n] (w.alloc (.cells (rowOf .u8 xs) 5)) fun e w' => e = .returned (.tuple #[]) ∧
      Below w.heap.size w w' ∧ w'.cell? ⟨w.heap.size, 0, none⟩ = some (.int .u8 (n / 65536 % 256)) ∧ w'.cell? ⟨w.heap.size, 1, none⟩ = some (.int .u8 (n / 256 % 256)) ∧ w'.cell? ⟨w.heap.size, 2, none⟩ = some (.int .u8 (n % 256)) ∧
      (∀ i, 3 ≤ i → i < len → w'.cell? ⟨w.heap.size, i, none⟩ = some (.int .u8 (xs.getD i 0))) := by
  refine (put9 w (rowOf .u8 xs) n len (by rw [rowOf_size, hs]) h3 n1 n2).mono ?_
  rintro e w' ⟨rfl, rfl⟩
  have hz := rowOf_size .u8 xs
  refine ⟨rfl, (Below.refl _ _).alloc (Nat.le_refl _) _, ?_, ?_, ?_, ?_⟩
  · rw [World.cell?_alloc_new, Array.getElem?_setIfInBounds, if_neg (by omega), Array.getElem?_setIfInBounds, if_neg (by omega), Array.getElem?_setIfInBounds, if_pos rfl, if_pos (by omega)]
  · rw [World.cell?_alloc_new, Array.getElem?_setIfInBounds, if_neg (by omega), Array.getElem?_setIfInBounds, if_pos rfl, if_pos (by rw [Array.size_setIfInBounds]; omega)]
  · rw [World.cell?_alloc_new, Array.getElem?_setIfInBounds, if_pos rfl, if_pos (by rw [Array.size_setIfInBounds, Array.size_setIfInBounds]; omega)]
  · intro i h1 h2
    rw [World.cell?_alloc_new, Array.getElem?_setIfInBounds, if_neg (by omega), Array.getElem?_setIfInBounds, if_neg (by omega), Array.getElem?_setIfInBounds, if_neg (by omega)]
    exact rowOf_get .u8 xs i (by omega)

/-- what a caller needs to know behind zzCloneBytes -/
theorem clone8_use (a : Addr) (len cap : Nat) (xs : List Int) (w : World) (hl : xs.length = len) (hlen : len ≤ 140737488351232) (hc : ∀ i, i < len → w.cell? (a.add i) = some (.int .u8 (xs.getD i 0))) :
    Calls Trym.prog 8 #[.slice (some a) len cap] w fun e w' => e = .returned (.slice (some ⟨w.heap.size, 0, none⟩) len len) ∧ w' = w.alloc (.cells (rowOf .u8 xs) 5) := by
  subst hl
  exact clone8_some a cap xs w hlen hc

set_option maxRecDepth 100000 in
set_option maxHeartbeats 400000 in
theorem bytes7 (a : Option Addr) (len cap : Nat) (i : Int) (w : World) (hb : len ≤ 1048576) :
    Calls Trym.prog 7 #[.slice a len cap, .int .i64 i] w fun e w' => e = .returned (.bool true) ∧ w' = w := by
  go_enter Trym.func7, Trym.ntmps7
  go_wp2
  go_ret
  exact ⟨rfl, rfl⟩

set_option maxRecDepth 100000 in
set_option maxHeartbeats 400000 in
theorem law_big (a : Option Addr) (len cap : Nat) (n : Int) (w : World) (hm : len ≤ maxLen) (hb : 1048576 < len) :
    Calls Trym.prog 3 #[.slice a len cap, .int .i64 n] w fun e w' => e = .returned (.bool true) ∧ w' = w := by
  unfold maxLen at hm
  go_enter Trym.func3, Trym.ntmps3
  go_wp2
  go_ret
  exact ⟨rfl, rfl⟩

set_option maxRecDepth 100000 in
set_option maxHeartbeats 400000 in
theorem law_small (a : Option Addr) (len cap : Nat) (n : Int) (w : World) (hb : len < 3) :
    Calls Trym.prog 3 #[.slice a len cap, .int .i64 n] w fun e w' => e = .returned (.bool true) ∧ w' = w := by
  go_enter Trym.func3, Trym.ntmps3
  go_wp2
  go_ret
  exact ⟨rfl, rfl⟩

theorem i64_and24 (n : Int) : bits .and .i64 n 16777215 = n % 16777216 := by
  have e : (BitVec.ofInt 64 n &&& BitVec.ofInt 64 16777215).toNat = (n % 18446744073709551616).toNat % 16777216 := by
    rw [BitVec.toNat_and, show (BitVec.ofInt 64 16777215).toNat = 2 ^ 24 - 1 from rfl, Nat.and_two_pow_sub_one_eq_mod, BitVec.toNat_ofInt]
    rfl
  show IntKind.i64.wrap ((BitVec.ofInt 64 n &&& BitVec.ofInt 64 16777215).toNat : Int) = _
  rw [e, IntKind.wrap_i64]
  omega

set_option maxRecDepth 100000 in
set_option maxHeartbeats 1000000 in
theorem law_main (x : Addr) (len cap : Nat) (xs : List Int) (n : Int) (w : World) (hl : xs.length = len) (h3 : 3 ≤ len) (hb : len ≤ 1048576)
    (hc : ∀ i, i < len → w.cell? (x.add i) = some (.int .u8 (xs.getD i 0))) (n1 : -9223372036854775808 ≤ n) (n2 : n ≤ 9223372036854775807) :
    Calls Trym.prog 3 #[.slice (some x) len cap, .int .i64 n] w fun e w' => e = .returned (.bool true) ∧ Below w.heap.size w w' := by
  have HL : Hid (xs.length = len) := hl
  have HC : Hid (∀ i, i < len → w.cell? (x.add i) = some (.int .u8 (xs.getD i 0))) := hc
  clear hl hc
  go_enter Trym.func3, Trym.ntmps3
  go_wp2_with fail
  refine (bytes7 _ len cap n _ hb).mono ?_
  rintro e w' ⟨rfl, rfl⟩
  go_wp2_with fail
  refine (clone8_use x len cap xs _ HL.out (by omega) HC.out).mono ?_
  rintro e w1 ⟨rfl, hw1⟩
  have HB1 : Hid (Below w'.heap.size w' w1) := by subst hw1; exact (Below.refl _ _).alloc (Nat.le_refl _) _
  have HC1 : Hid (∀ i, i < len → w1.cell? ⟨w'.heap.size, i, none⟩ = some (.int .u8 (xs.getD i 0))) := by
    intro i hi
    subst hw1
    rw [World.cell?_alloc_new]
    exact rowOf_get .u8 xs i (by rw [HL.out]; exact hi)
  have hlt : w'.heap.size < w1.heap.size := by subst hw1; simp
  clear hw1
  go_wp2_with fail
  refine (clone8_use ⟨w'.heap.size, 0, none⟩ len len xs _ HL.out (by omega) (fun i hi => by rw [Go.WideShapes.add_plain, Nat.zero_add]; exact HC1.out i hi)).mono ?_
  rintro e w2 ⟨rfl, rfl⟩
  go_wp2_with fail
  refine (put_use w1 xs n len HL.out h3 n1 n2).mono ?_
  rintro e w3 ⟨rfl, hb3, c0, c1, c2, hrest⟩
  have HR : Hid (∀ i, 3 ≤ i → i < len → w3.cell? ⟨w1.heap.size, i, none⟩ = some (.int .u8 (xs.getD i 0))) := hrest
  have HC3 : Hid (∀ i, i < len → w3.cell? ⟨w'.heap.size, i, none⟩ = some (.int .u8 (xs.getD i 0))) := fun i hi => (hb3.cell (p := ⟨w'.heap.size, i, none⟩) hlt).trans (HC1.out i hi)
  have HB3 : Hid (Below w'.heap.size w' w3) := HB1.out.trans (hb3.mono (by omega))
  clear hrest hb3 HC1 HB1
  have hand := i64_and24 n
  have hne : (n / 65536 % 256 * 65536 + n / 256 % 256 * 256 + n % 256 != n % 16777216) = false := by
    rw [bne_eq_false_iff_eq]; omega
  have i0 : (0 : Int) < (len : Int) := by omega
  have i1 : (1 : Int) < (len : Int) := by omega
  have i2 : (2 : Int) < (len : Int) := by omega
  have hnn : ((len : Int) != (len : Int)) = false := by simp
  go_wp2_with fail
  go_quiet (fail)
  go_wp2
  clear c0 c1 c2 hand hne i0 i1 i2 hnn HC
  go_loopw [7] (fun i wr => ∃ k m : Nat, 3 ≤ k ∧ k ≤ len ∧ i = .int .i64 k ∧ wr = w3.drewN m) (fun i _ => len - (intOf i).toNat)
  case atStart => exact ⟨3, _, by omega, by omega, rfl, rfl⟩
  case round =>
    obtain ⟨k, m, hk3, hk, rfl, rfl⟩ := hrel
    by_cases hlt' : k < len
    · have hx := HR.out k hk3 hlt'
      have hy := HC3.out k hlt'
      have hneq : (xs.getD k 0 != xs.getD k 0) = false := by simp
      have hi : (k : Int) < (len : Int) := by omega
      generalize xs.getD k 0 = v at hx hy hneq
      go_wp2
      go_quiet (fail)
      go_wp2
      go_roundw
      case rel => exact ⟨k + 1, _, by omega, by omega, by go_num, rfl⟩
      case measure => simp [intOf]; omega
    · go_wp2
      go_ret
      exact ⟨rfl, ⟨HB3.out.os, HB3.out.tape, HB3.out.output, HB3.out.size, HB3.out.block⟩⟩

end Go.Proofs.Qxb6605620aMods
