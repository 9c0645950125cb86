/- The walks of the callees of seat b6617137aM's two laws. -/
import Derived.Test.Qxb6617137aModsRows
import Derived.Test.Qxb6617137aModsPlain
import Derived.WalkKit
import Derived.ProofKit
import Derived.WalkSpells
import Derived.Laws.BitsAllLaws
namespace Go.Proofs.Qxb6617137aMods
open Go.RowKit

theorem ret_bool {a b : Bool} (h : a = b) : Ending.returned (.bool a) = .returned (.bool b) := by rw [h]
theorem ret_int {k : IntKind} {a b : Int} (h : a = b) : Ending.returned (.int k a) = .returned (.int k b) := by rw [h]

def ascB (s : ByteArray) : Bool := asc s.data.toList
def orB (s : ByteArray) : Int := ((orl s.data.toList).toNat : Int)

set_option maxRecDepth 100000 in
set_option maxHeartbeats 400000 in
/-- isASCII -/
theorem isASCII_any (s : ByteArray) (w : World) (hs : s.size ≤ maxLen) :
    Calls Trym.prog 9 #[.string s] w fun e w' => e = .returned (.bool (ascB s)) ∧ w' = w := by
  unfold maxLen at hs
  go_enter Trym.func9, Trym.ntmps9
  go_wp2
  go_loop [6] (fun i => ∃ k : Nat, k ≤ s.size ∧ i = .int .i64 k ∧ Hid (asc (s.data.toList.take k) = true)) (fun i => s.size - (intOf i).toNat)
  case atStart => exact ⟨0, Nat.zero_le _, rfl, rfl⟩
  case round =>
    obtain ⟨k, hk, rfl, hall⟩ := hrel
    by_cases hlt : k < s.size
    · have HS : Hid (asc (s.data.toList.take (k + 1)) = (asc (s.data.toList.take k) && decide (s[k].toNat < 128))) := asc_snoc s k hlt
      go_wp2
      · go_ret
        have h8 : ¬ s[k].toNat < 128 := by
          have : 128 ≤ (s[k].toNat : Int) := by assumption
          omega
        refine ⟨ret_bool ?_, rfl⟩
        have h1 := HS.out
        rw [decide_eq_false h8, Bool.and_false] at h1
        rw [ascB, asc_cut _ (k + 1), h1, Bool.false_and]
      · have h8 : s[k].toNat < 128 := by
          have : (s[k].toNat : Int) < 128 := by assumption
          omega
        go_round
        case rel => exact ⟨k + 1, by omega, by go_num, by show _ = _; rw [HS.out, hall.out, decide_eq_true h8]; rfl⟩
        case measure => simp [intOf]; omega
    · go_wp2
      go_ret
      exact ⟨ret_bool (by have := hall.out; rw [List.take_of_length_le (by simp; omega)] at this; rw [ascB, this]), rfl⟩

set_option maxRecDepth 100000 in
set_option maxHeartbeats 400000 in
/-- ZZisASCII -/
theorem zz_any (s : ByteArray) (w : World) (hs : s.size ≤ maxLen) :
    Calls Trym.prog 6 #[.string s] w fun e w' => e = .returned (.bool (ascB s)) ∧ w' = w := by
  go_enter Trym.func6, Trym.ntmps6
  go_wp2_with (go_at_call 9; refine (isASCII_any _ _ hs).mono ?_; rintro e w' ⟨rfl, rfl⟩)
  go_ret
  exact ⟨rfl, rfl⟩

theorem Trym.or8 (a b : UInt8) : bits .or .u8 (a.toNat : Int) (b.toNat : Int) = ((a ||| b).toNat : Int) := by
  rw [u8_or_nat _ _ a.toNat_lt b.toNat_lt, UInt8.toNat_or]

set_option maxRecDepth 100000 in
set_option maxHeartbeats 400000 in
/-- orOfBytes -/
theorem or_any (s : ByteArray) (w : World) (hs : s.size ≤ maxLen) :
    Calls Trym.prog 7 #[.string s] w fun e w' => e = .returned (.int .u8 (orB s)) ∧ w' = w := by
  unfold maxLen at hs
  go_enter Trym.func7, Trym.ntmps7
  go_wp2
  go_loop [3, 4] (fun a i => ∃ k : Nat, k ≤ s.size ∧ i = .int .i64 k ∧ a = .int .u8 ((orl (s.data.toList.take k)).toNat : Int)) (fun _ i => s.size - (intOf i).toNat)
  case atStart => exact ⟨0, Nat.zero_le _, rfl, rfl⟩
  case round =>
    obtain ⟨k, hk, rfl, rfl⟩ := hrel
    by_cases hlt : k < s.size
    · have HS : Hid (orl (s.data.toList.take (k + 1)) = orl (s.data.toList.take k) ||| s[k]) := orl_snoc s k hlt
      go_wp2
      go_round
      case rel => exact ⟨k + 1, by omega, by go_num, by rw [HS.out, Trym.or8]⟩
      case measure => simp [intOf]; omega
    · go_wp2
      go_ret
      exact ⟨ret_int (by rw [orB, List.take_of_length_le (by simp; omega)]), rfl⟩

end Go.Proofs.Qxb6617137aMods
