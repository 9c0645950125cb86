/- The walks of FnAddInt64FlagAndUndo and its callees (seat b6617191aM). -/
import Derived.Test.Qxb6617191aModsRows
import Derived.WalkKit
import Derived.ProofKit
import Derived.WalkSpells
import Derived.Laws.BitsAllLaws
namespace Go.Proofs.Qxb6617191aMods
open Go.RowKit

theorem ret_bool' {a b : Bool} (h : a = b) : Ending.returned (.bool a) = .returned (.bool b) := by rw [h]

theorem i64_and1 (n : Int) : bits .and .i64 n 1 = n % 2 := by
  have e : (BitVec.ofInt 64 n &&& BitVec.ofInt 64 1).toNat = (n % 18446744073709551616).toNat % 2 := by
    rw [BitVec.toNat_and, show (BitVec.ofInt 64 1).toNat = 1 from rfl, Nat.and_one_is_mod, BitVec.toNat_ofInt]
    rfl
  show IntKind.i64.wrap ((BitVec.ofInt 64 n &&& BitVec.ofInt 64 1).toNat : Int) = _
  rw [e, IntKind.wrap_i64]
  omega

/-- does the sum fit? -/
def fitB (a b : Int) : Bool := decide (-9223372036854775808 ≤ a + b) && decide (a + b ≤ 9223372036854775807)
theorem fit_yes {a b : Int} (h : -9223372036854775808 ≤ a + b ∧ a + b ≤ 9223372036854775807) : fitB a b = true := by
  unfold fitB; rw [decide_eq_true h.1, decide_eq_true h.2]; rfl
theorem fit_no {a b : Int} (h : ¬ (-9223372036854775808 ≤ a + b ∧ a + b ≤ 9223372036854775807)) : fitB a b = false := by
  unfold fitB
  rw [← Bool.decide_and]
  exact decide_eq_false h
theorem halves_eq (a b : Int) : (decide (-4611686018427387904 ≤ a / 2 + b / 2 + (a % 2 + b % 2) / 2) && decide (a / 2 + b / 2 + (a % 2 + b % 2) / 2 ≤ 4611686018427387903)) = fitB a b := by
  unfold fitB
  rw [← Bool.decide_and, ← Bool.decide_and]
  exact decide_eq_decide.2 (by omega)

set_option maxRecDepth 100000 in
set_option maxHeartbeats 400000 in
theorem halves_any (a b : Int) (w : World) (a1 : -9223372036854775808 ≤ a) (a2 : a ≤ 9223372036854775807) (b1 : -9223372036854775808 ≤ b) (b2 : b ≤ 9223372036854775807) :
    Calls Trym.prog 8 #[.int .i64 a, .int .i64 b] w fun e w' => e = .returned (.bool (fitB a b)) ∧ w' = w := by
  have ha := i64_and1 a
  have hb := i64_and1 b
  have hc : Hid (fitB a b = (decide (-4611686018427387904 ≤ a / 2 + b / 2 + (a % 2 + b % 2) / 2) && decide (a / 2 + b / 2 + (a % 2 + b % 2) / 2 ≤ 4611686018427387903))) := (halves_eq a b).symm
  by_cases h : -4611686018427387904 ≤ a / 2 + b / 2 + (a % 2 + b % 2) / 2
  · go_enter Trym.func8, Trym.ntmps8
    go_wp2
    go_ret
    exact ⟨ret_bool' (by rw [hc.out, decide_eq_true h, Bool.true_and]), rfl⟩
  · go_enter Trym.func8, Trym.ntmps8
    go_wp2
    go_ret
    exact ⟨ret_bool' (by rw [hc.out, decide_eq_false (by omega), Bool.false_and]), rfl⟩

set_option maxRecDepth 100000 in
set_option maxHeartbeats 400000 in
theorem add_yes (a b : Int) (w : World) (s1 : -9223372036854775808 ≤ a + b) (s2 : a + b ≤ 9223372036854775807) :
    Calls Trym.prog 10 #[.int .i64 a, .int .i64 b] w fun e w' => e = .returned (.tuple #[.int .i64 (a + b), .bool true]) ∧ w' = w := by
  by_cases h : b < 0
  · go_enter Trym.func10, Trym.ntmps10
    go_wp2
    go_ret2
    exact ⟨rfl, rfl⟩
  · by_cases h0 : 0 < b
    all_goals
      go_enter Trym.func10, Trym.ntmps10
      go_wp2
      go_ret2
      exact ⟨rfl, rfl⟩

set_option maxRecDepth 100000 in
set_option maxHeartbeats 400000 in
theorem add_no (a b : Int) (w : World) (a1 : -9223372036854775808 ≤ a) (a2 : a ≤ 9223372036854775807) (b1 : -9223372036854775808 ≤ b) (b2 : b ≤ 9223372036854775807)
    (s : ¬ (-9223372036854775808 ≤ a + b ∧ a + b ≤ 9223372036854775807)) :
    Calls Trym.prog 10 #[.int .i64 a, .int .i64 b] w fun e w' => e = .returned (.tuple #[.int .i64 0, .bool false]) ∧ w' = w := by
  by_cases h : 0 < b
  · have hw : wrap64 (a + b) < a := by unfold wrap64; omega
    clear s a1 a2 b1 b2
    go_enter Trym.func10, Trym.ntmps10
    go_wp2
    go_ret2
    exact ⟨rfl, rfl⟩
  · have hw : a < wrap64 (a + b) := by unfold wrap64; omega
    have hb : b < 0 := by omega
    clear s a1 a2 b1 b2
    go_enter Trym.func10, Trym.ntmps10
    go_wp2
    go_ret2
    exact ⟨rfl, rfl⟩

set_option maxRecDepth 100000 in
theorem zz_yes (a b : Int) (w : World) (s1 : -9223372036854775808 ≤ a + b) (s2 : a + b ≤ 9223372036854775807) :
    Calls Trym.prog 7 #[.int .i64 a, .int .i64 b] w fun e w' => e = .returned (.tuple #[.int .i64 (a + b), .bool true]) ∧ w' = w := by
  go_enter Trym.func7, Trym.ntmps7
  go_wp2_with fail
  refine (add_yes a b _ s1 s2).mono ?_
  rintro e w' ⟨rfl, rfl⟩
  go_wp2_with fail
  go_ret2
  exact ⟨rfl, rfl⟩

set_option maxRecDepth 100000 in
theorem zz_no (a b : Int) (w : World) (a1 : -9223372036854775808 ≤ a) (a2 : a ≤ 9223372036854775807) (b1 : -9223372036854775808 ≤ b) (b2 : b ≤ 9223372036854775807)
    (s : ¬ (-9223372036854775808 ≤ a + b ∧ a + b ≤ 9223372036854775807)) :
    Calls Trym.prog 7 #[.int .i64 a, .int .i64 b] w fun e w' => e = .returned (.tuple #[.int .i64 0, .bool false]) ∧ w' = w := by
  have S : Hid (¬ (-9223372036854775808 ≤ a + b ∧ a + b ≤ 9223372036854775807)) := s
  clear s
  go_enter Trym.func7, Trym.ntmps7
  go_wp2_with fail
  refine (add_no a b _ a1 a2 b1 b2 S.out).mono ?_
  rintro e w' ⟨rfl, rfl⟩
  go_wp2_with fail
  go_ret2
  exact ⟨rfl, rfl⟩

set_option maxRecDepth 100000 in
set_option maxHeartbeats 1000000 in
/-- the sum does not fit -/
theorem law_no (a b : Int) (w : World) (a1 : -9223372036854775808 ≤ a) (a2 : a ≤ 9223372036854775807) (b1 : -9223372036854775808 ≤ b) (b2 : b ≤ 9223372036854775807)
    (s : ¬ (-9223372036854775808 ≤ a + b ∧ a + b ≤ 9223372036854775807)) :
    Calls Trym.prog 4 #[.int .i64 a, .int .i64 b] w fun e w' => e = .returned (.bool true) ∧ w' = w := by
  have S : Hid (¬ (-9223372036854775808 ≤ a + b ∧ a + b ≤ 9223372036854775807)) := s
  have hf := fit_no s
  clear s
  go_enter Trym.func4, Trym.ntmps4
  go_wp2_with fail
  refine (zz_no a b _ a1 a2 b1 b2 S.out).mono ?_
  rintro e w' ⟨rfl, rfl⟩
  go_wp2_with fail
  refine (halves_any a b _ a1 a2 b1 b2).mono ?_
  rintro e w' ⟨rfl, rfl⟩
  go_wp2_with fail
  refine (zz_no b a _ b1 b2 a1 a2 (by have := S.out; omega)).mono ?_
  rintro e w' ⟨rfl, rfl⟩
  go_wp2_with fail
  go_ret
  exact ⟨rfl, rfl⟩

set_option maxRecDepth 100000 in
set_option maxHeartbeats 1000000 in
/-- the sum fits, b is not the least number -/
theorem law_yes (a b : Int) (w : World) (a1 : -9223372036854775808 ≤ a) (a2 : a ≤ 9223372036854775807) (b1 : -9223372036854775808 < b) (b2 : b ≤ 9223372036854775807)
    (s1 : -9223372036854775808 ≤ a + b) (s2 : a + b ≤ 9223372036854775807) :
    Calls Trym.prog 4 #[.int .i64 a, .int .i64 b] w fun e w' => e = .returned (.bool true) ∧ w' = w := by
  have hf := fit_yes ⟨s1, s2⟩
  go_enter Trym.func4, Trym.ntmps4
  go_wp2_with fail
  refine (zz_yes a b _ s1 s2).mono ?_
  rintro e w' ⟨rfl, rfl⟩
  go_wp2_with fail
  refine (halves_any a b _ a1 a2 (by omega) b2).mono ?_
  rintro e w' ⟨rfl, rfl⟩
  go_wp2_with fail
  refine (zz_yes b a _ (by omega) (by omega)).mono ?_
  rintro e w' ⟨rfl, rfl⟩
  go_wp2_with fail
  refine (zz_yes (a + b) (-b) _ (by omega) (by omega)).mono ?_
  rintro e w' ⟨rfl, rfl⟩
  have hk : (a + b + -b == a) = true := beq_iff_eq.2 (by omega)
  go_wp2_with fail
  go_ret
  exact ⟨rfl, rfl⟩

set_option maxRecDepth 100000 in
set_option maxHeartbeats 1000000 in
/-- the sum fits, b is the least number -/
theorem law_min (a b : Int) (w : World) (a1 : 0 ≤ a) (a2 : a ≤ 9223372036854775807) (b1 : -9223372036854775808 ≤ b) (b2 : b ≤ -9223372036854775808)
    (s1 : -9223372036854775808 ≤ a + b) (s2 : a + b ≤ 9223372036854775807) :
    Calls Trym.prog 4 #[.int .i64 a, .int .i64 b] w fun e w' => e = .returned (.bool true) ∧ w' = w := by
  have hf := fit_yes ⟨s1, s2⟩
  go_enter Trym.func4, Trym.ntmps4
  go_wp2_with fail
  refine (zz_yes a b _ s1 s2).mono ?_
  rintro e w' ⟨rfl, rfl⟩
  go_wp2_with fail
  refine (halves_any a b _ (by omega) a2 b1 (by omega)).mono ?_
  rintro e w' ⟨rfl, rfl⟩
  go_wp2_with fail
  refine (zz_yes b a _ (by omega) (by omega)).mono ?_
  rintro e w' ⟨rfl, rfl⟩
  go_wp2_with fail
  refine (zz_yes (a + b) 9223372036854775807 _ (by omega) (by omega)).mono ?_
  rintro e w' ⟨rfl, rfl⟩
  go_wp2_with fail
  refine (zz_yes (a + b + 9223372036854775807) 1 _ (by omega) (by omega)).mono ?_
  rintro e w' ⟨rfl, rfl⟩
  have hk : (a + b + 9223372036854775807 + 1 == a) = true := beq_iff_eq.2 (by omega)
  go_wp2_with fail
  go_ret
  exact ⟨rfl, rfl⟩

theorem law_any (a b : Int) (w : World) (a1 : -9223372036854775808 ≤ a) (a2 : a ≤ 9223372036854775807) (b1 : -9223372036854775808 ≤ b) (b2 : b ≤ 9223372036854775807) :
    Calls Trym.prog 4 #[.int .i64 a, .int .i64 b] w fun e w' => e = .returned (.bool true) ∧ w' = w := by
  by_cases s : -9223372036854775808 ≤ a + b ∧ a + b ≤ 9223372036854775807
  · by_cases hb : -9223372036854775808 < b
    · exact law_yes a b w a1 a2 hb b2 s.1 s.2
    · exact law_min a b w (by omega) a2 b1 (by omega) s.1 s.2
  · exact law_no a b w a1 a2 b1 b2 s

end Go.Proofs.Qxb6617191aMods
