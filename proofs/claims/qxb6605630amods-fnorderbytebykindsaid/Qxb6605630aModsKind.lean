/- FnOrderByteByKind: the law's ways (seat b6605630aM). -/
import Derived.Test.Qxb6605630aModsOrder
namespace Go.Proofs.Qxb6605630aMods
open Go.RowKit

set_option maxRecDepth 100000 in
set_option maxHeartbeats 400000 in
theorem bytes5 (m : Int) (s : ByteArray) (i : Int) (w : World) (hb : s.size ≤ 1048576) :
    Calls Trym.prog 5 #[.int .u32 m, .string s, .int .i64 i] w fun e w' => e = .returned (.bool true) ∧ w' = w := by
  go_enter Trym.func5, Trym.ntmps5
  go_wp2
  go_ret
  exact ⟨rfl, rfl⟩

set_option maxRecDepth 100000 in
set_option maxHeartbeats 400000 in
theorem kind_big (m : Int) (s : ByteArray) (i : Int) (w : World) (hs : s.size ≤ maxLen) (hb : 1048576 < s.size) :
    Calls Trym.prog 3 #[.int .u32 m, .string s, .int .i64 i] w fun e w' => e = .returned (.bool true) ∧ w' = w := by
  unfold maxLen at hs
  go_enter Trym.func3, Trym.ntmps3
  go_wp2
  go_ret
  exact ⟨rfl, rfl⟩

set_option maxRecDepth 100000 in
set_option maxHeartbeats 400000 in
theorem kind_neg (m : Int) (s : ByteArray) (i : Int) (w : World) (hb : s.size ≤ 1048576) (hi : i < 0) :
    Calls Trym.prog 3 #[.int .u32 m, .string s, .int .i64 i] w fun e w' => e = .returned (.bool true) ∧ w' = w := by
  go_enter Trym.func3, Trym.ntmps3
  go_wp2
  go_ret
  exact ⟨rfl, rfl⟩

theorem kind_bits (m : Nat) (hm : m < 4294967296) : bits .and .u32 ((m : Int) / 4096) 15 = ((m / 4096 % 16 : Nat) : Int) := by
  have := u32_low4 (m / 4096) (by omega)
  rwa [Int.natCast_ediv] at this

set_option maxRecDepth 100000 in
set_option maxHeartbeats 400000 in
theorem kind_in (m : Nat) (s : ByteArray) (n : Nat) (w : World) (hm : m < 4294967296) (hb : s.size ≤ 1048576) :
    Calls Trym.prog 3 #[.int .u32 m, .string s, .int .i64 n] w fun e w' => e = .returned (.bool true) ∧ Grown w w' := by
  by_cases hi : n < s.size
  · have HO : Hid (ob m s n = (s[n].toNat : Int)) := ob_in m s n hi
    have hc := s[n].toNat_lt
    go_enter Trym.func3, Trym.ntmps3
    go_wp2_with fail
    refine (bytes5 m s n _ hb).mono ?_
    rintro e w' ⟨rfl, rfl⟩
    go_wp2_with fail
    refine (order6 m s n _ hm).mono ?_
    rintro e w1 ⟨rfl, hg⟩
    rw [HO.out]
    have he : ((s[n].toNat : Int) == (s[n].toNat : Int)) = true := by simp
    go_wp2_with fail
    go_ret
    exact ⟨rfl, hg⟩
  · obtain ⟨k, hk, hkb⟩ : ∃ k : Nat, Hid (k = m / 4096 % 16) ∧ bits .and .u32 ((m : Int) / 4096) 15 = (k : Int) := ⟨_, rfl, kind_bits m hm⟩
    by_cases ht : m / 4096 % 16 = 4
    · have HO : Hid (ob m s n = 47) := ob_tree m s n hi ht
      have e4 : ((k : Int) == 4) = true := by rw [beq_iff_eq, hk.out, ht]; rfl
      clear ht
      go_enter Trym.func3, Trym.ntmps3
      go_wp2_with fail
      refine (bytes5 m s n _ hb).mono ?_
      rintro e w' ⟨rfl, rfl⟩
      go_wp2_with fail
      refine (order6 m s n _ hm).mono ?_
      rintro e w1 ⟨rfl, hg⟩
      rw [HO.out]
      go_wp2_with fail
      go_ret
      exact ⟨rfl, hg⟩
    · have HO : Hid (ob m s n = 0) := ob_other m s n hi ht
      have e4 : ((k : Int) == 4) = false := by rw [beq_eq_false_iff_ne, hk.out]; omega
      clear ht
      go_enter Trym.func3, Trym.ntmps3
      go_wp2_with fail
      refine (bytes5 m s n _ hb).mono ?_
      rintro e w' ⟨rfl, rfl⟩
      go_wp2_with fail
      refine (order6 m s n _ hm).mono ?_
      rintro e w1 ⟨rfl, hg⟩
      rw [HO.out]
      go_wp2_with fail
      go_ret
      exact ⟨rfl, hg⟩

end Go.Proofs.Qxb6605630aMods
