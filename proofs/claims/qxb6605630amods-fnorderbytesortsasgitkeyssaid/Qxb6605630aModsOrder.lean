/- orderByte and its callees (seat b6605630aM). -/
import Derived.Test.Qxb6605630aModsRows
import Derived.WalkKit
import Derived.ProofKit
import Derived.WalkSpells
import Derived.Laws.BitsAllLaws
namespace Go.Proofs.Qxb6605630aMods
open Go.RowKit

theorem nat_kind (x : Nat) : x &&& 61440 = x / 4096 % 16 * 4096 := by
  apply Nat.eq_of_testBit_eq
  intro j
  rw [show (61440 : Nat) = 15 * 2 ^ 12 from rfl, show (4096 : Nat) = 2 ^ 12 from rfl, Nat.testBit_and, Nat.testBit_mul_two_pow, Nat.testBit_mul_two_pow, show (16 : Nat) = 2 ^ 4 from rfl, Nat.testBit_mod_two_pow, Nat.testBit_div_two_pow]
  by_cases h : 12 ≤ j
  · have e : (15 : Nat).testBit (j - 12) = decide (j - 12 < 4) := by
      have := Nat.testBit_two_pow_sub_one 4 (j - 12)
      simpa using this
    rw [e, show j - 12 + 12 = j from by omega]
    simp [h, Bool.and_comm]
  · simp [h]

/-- the kind bits of a mode -/
theorem u32_kind (m : Nat) (h : m < 4294967296) : bits .and .u32 (m : Int) 61440 = ((m / 4096 % 16 * 4096 : Nat) : Int) := by
  have := u32_and_nat m 61440 h (by omega)
  rw [nat_kind] at this
  exact this
theorem u32_low4 (m : Nat) (h : m < 4294967296) : bits .and .u32 (m : Int) 15 = ((m % 16 : Nat) : Int) := by
  have := u32_and_nat m 15 h (by omega)
  rw [nat_mask4] at this
  exact this

/-- a folder's mode -/
def isTree (m : Nat) : Bool := m / 4096 % 16 == 4

/-- it returns some number of which P holds -/
def SomeInt (k : IntKind) (P : Int → Prop) (e : Ending) : Prop := ∃ n, e = .returned (.int k n) ∧ P n
theorem someInt {k : IntKind} {P : Int → Prop} (n : Int) (h : P n) {e : Ending} (he : e = .returned (.int k n)) : SomeInt k P e := ⟨n, he, h⟩

set_option maxRecDepth 100000 in
theorem fileMode13 (m : Int) (w : World) : Calls Trym.prog 13 #[.int .u32 m] w fun e w' => SomeInt .u32 (fun c => 33188 ≤ c ∧ c ≤ 33261) e ∧ w' = w := by
  by_cases h : (bits .and .u32 m 64 != 0) = true
  · go_enter Trym.func13, Trym.ntmps13
    go_wp2
    go_ret
    exact ⟨someInt 33261 (by omega) rfl, rfl⟩
  · have h' : (bits .and .u32 m 64 != 0) = false := by simpa using h
    clear h
    go_enter Trym.func13, Trym.ntmps13
    go_wp2
    go_ret
    exact ⟨someInt 33188 (by omega) rfl, rfl⟩

set_option maxRecDepth 100000 in
theorem canonical_tree (m : Nat) (w : World) (hm : m < 4294967296) (ht : m / 4096 % 16 = 4) : Calls Trym.prog 12 #[.int .u32 m] w fun e w' => e = .returned (.int .u32 16384) ∧ w' = w := by
  have hk := u32_kind m hm
  rw [ht] at hk
  have hk' : bits .and .u32 (m : Int) 61440 = 16384 := hk
  clear hk ht
  go_enter Trym.func12, Trym.ntmps12
  go_wp2
  go_ret
  exact ⟨rfl, rfl⟩

set_option maxRecDepth 100000 in
set_option maxHeartbeats 400000 in
theorem canonical_other (m : Nat) (w : World) (hm : m < 4294967296) (ht : m / 4096 % 16 ≠ 4) : Calls Trym.prog 12 #[.int .u32 m] w fun e w' => SomeInt .u32 (fun c => c ≠ 16384) e ∧ w' = w := by
  obtain ⟨K, hK, hk⟩ : ∃ K : Nat, Hid (K = m / 4096 % 16 * 4096) ∧ bits .and .u32 (m : Int) 61440 = (K : Int) := ⟨_, rfl, u32_kind m hm⟩
  have e4 : ((K : Int) == 16384) = false := by rw [beq_eq_false_iff_ne]; have := hK.out; omega
  by_cases h8 : K = 32768
  · have e8 : ((K : Int) == 32768) = true := by rw [beq_iff_eq]; omega
    clear h8 ht
    go_enter Trym.func12, Trym.ntmps12
    go_wp2_with fail
    refine (fileMode13 _ _).mono ?_
    rintro e w' ⟨⟨c, rfl, hc⟩, rfl⟩
    go_wp2_with fail
    go_ret
    exact ⟨someInt c (by omega) rfl, rfl⟩
  · have e8 : ((K : Int) == 32768) = false := by rw [beq_eq_false_iff_ne]; omega
    by_cases h10 : K = 40960
    · have e10 : ((K : Int) == 40960) = true := by rw [beq_iff_eq]; omega
      have HK : Hid ((K : Int) ≠ 16384) := by show (K : Int) ≠ 16384; omega
      clear h8 h10 ht
      go_enter Trym.func12, Trym.ntmps12
      go_wp2
      go_ret
      exact ⟨someInt (K : Int) HK.out rfl, rfl⟩
    · have e10 : ((K : Int) == 40960) = false := by rw [beq_eq_false_iff_ne]; omega
      by_cases h14 : K = 57344
      · have e14 : ((K : Int) == 57344) = true := by rw [beq_iff_eq]; omega
        have HK : Hid ((K : Int) ≠ 16384) := by show (K : Int) ≠ 16384; omega
        clear h8 h10 h14 ht
        go_enter Trym.func12, Trym.ntmps12
        go_wp2
        go_ret
        exact ⟨someInt (K : Int) HK.out rfl, rfl⟩
      · have e14 : ((K : Int) == 57344) = false := by rw [beq_eq_false_iff_ne]; omega
        have HK : Hid ((m : Int) ≠ 16384) := by show (m : Int) ≠ 16384; omega
        clear h8 h10 h14 ht
        go_enter Trym.func12, Trym.ntmps12
        go_wp2
        go_ret
        exact ⟨someInt (m : Int) HK.out rfl, rfl⟩

set_option maxRecDepth 100000 in
theorem type_tree (m : Nat) (w : World) (hm : m < 4294967296) (ht : m / 4096 % 16 = 4) : Calls Trym.prog 11 #[.int .u32 m] w fun e w' => e = .returned (.int .u8 2) ∧ w' = w := by
  have HT : Hid (m / 4096 % 16 = 4) := ht
  clear ht
  go_enter Trym.func11, Trym.ntmps11
  go_wp2_with fail
  refine (canonical_tree m _ hm HT.out).mono ?_
  rintro e w' ⟨rfl, rfl⟩
  go_wp2_with fail
  go_ret
  exact ⟨rfl, rfl⟩

set_option maxRecDepth 100000 in
theorem type_other (m : Nat) (w : World) (hm : m < 4294967296) (ht : m / 4096 % 16 ≠ 4) : Calls Trym.prog 11 #[.int .u32 m] w fun e w' => SomeInt .u8 (fun t => t ≠ 2) e ∧ w' = w := by
  have HT : Hid (m / 4096 % 16 ≠ 4) := ht
  clear ht
  go_enter Trym.func11, Trym.ntmps11
  go_wp2_with fail
  refine (canonical_other m _ hm HT.out).mono ?_
  rintro e w' ⟨⟨c, rfl, hc⟩, rfl⟩
  have e1 : (c == 16384) = false := by rw [beq_eq_false_iff_ne]; exact hc
  clear hc
  by_cases h14 : (c == 57344) = true
  · go_wp2_with fail
    go_ret
    exact ⟨someInt 3 (by omega) rfl, rfl⟩
  · have h14' : (c == 57344) = false := by simpa using h14
    clear h14
    go_wp2_with fail
    go_ret
    exact ⟨someInt 1 (by omega) rfl, rfl⟩

/-- what orderByte answers at a place within or past the name -/
def ob (m : Nat) (s : ByteArray) (i : Nat) : Int := if h : i < s.size then (s[i].toNat : Int) else if isTree m then 47 else 0

theorem ob_in (m : Nat) (s : ByteArray) (i : Nat) (h : i < s.size) : ob m s i = (s[i].toNat : Int) := by rw [ob, dif_pos h]
theorem ob_tree (m : Nat) (s : ByteArray) (i : Nat) (h : ¬ i < s.size) (ht : m / 4096 % 16 = 4) : ob m s i = 47 := by rw [ob, dif_neg h, isTree, beq_iff_eq.2 ht]; rfl
theorem ob_other (m : Nat) (s : ByteArray) (i : Nat) (h : ¬ i < s.size) (ht : m / 4096 % 16 ≠ 4) : ob m s i = 0 := by rw [ob, dif_neg h, isTree, beq_eq_false_iff_ne.2 ht]; rfl

theorem ret_int {k : IntKind} {a b : Int} (h : a = b) : Ending.returned (.int k a) = .returned (.int k b) := by rw [h]

set_option maxRecDepth 100000 in
set_option maxHeartbeats 400000 in
theorem order10 (m : Nat) (s : ByteArray) (i : Nat) (X : Array Value) (w : World) (hm : m < 4294967296) (x0 : X[0]? = some (.int .u32 m)) (x1 : X[1]? = some (.string s)) :
    Calls Trym.prog 10 #[.agg X, .int .i64 i] w fun e w' => e = .returned (.int .i64 (ob m s i)) ∧ Grown w w' := by
  by_cases hi : i < s.size
  · have HO : Hid (ob m s i = (s[i].toNat : Int)) := ob_in m s i hi
    have hc := s[i].toNat_lt
    go_enter Trym.func10, Trym.ntmps10
    go_wp2
    go_ret
    exact ⟨ret_int HO.out.symm, (Grown.refl _).alloc _ _⟩
  · by_cases ht : m / 4096 % 16 = 4
    · have HO : Hid (ob m s i = 47) := ob_tree m s i hi ht
      have HT : Hid (m / 4096 % 16 = 4) := ht
      clear ht
      go_enter Trym.func10, Trym.ntmps10
      go_wp2_with fail
      refine (type_tree m _ hm HT.out).mono ?_
      rintro e w' ⟨rfl, rfl⟩
      go_wp2_with fail
      go_ret
      exact ⟨ret_int HO.out.symm, (Grown.refl _).alloc _ _⟩
    · have HO : Hid (ob m s i = 0) := ob_other m s i hi ht
      have HT : Hid (m / 4096 % 16 ≠ 4) := ht
      clear ht
      go_enter Trym.func10, Trym.ntmps10
      go_wp2_with fail
      refine (type_other m _ hm HT.out).mono ?_
      rintro e w' ⟨⟨t, rfl, ht⟩, rfl⟩
      have e2 : (t == 2) = false := by rw [beq_eq_false_iff_ne]; exact ht
      clear ht
      go_wp2_with fail
      go_ret
      exact ⟨ret_int HO.out.symm, (Grown.refl _).alloc _ _⟩

set_option maxRecDepth 100000 in
set_option maxHeartbeats 400000 in
/-- ZZtreeEntryOrderByte -/
theorem order6 (m : Nat) (s : ByteArray) (i : Nat) (w : World) (hm : m < 4294967296) :
    Calls Trym.prog 6 #[.int .u32 m, .string s, .int .i64 i] w fun e w' => e = .returned (.int .i64 (ob m s i)) ∧ Grown w w' := by
  go_enter Trym.func6, Trym.ntmps6
  go_wp2_with fail
  refine (order10 m s i _ _ hm rfl rfl).mono ?_
  rintro e w' ⟨rfl, hg⟩
  go_wp2_with fail
  go_ret
  exact ⟨rfl, hg⟩

end Go.Proofs.Qxb6605630aMods
