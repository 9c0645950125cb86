/- The walks of FnIsDigitsCut and its callees (seat b6617191aM). -/
import Derived.Test.Qxb6617191aModsRows
import Derived.Test.Qxb6617191aModsPlain
import Derived.WalkKit
import Derived.ProofKit
import Derived.WalkSpells
namespace Go.Proofs.Qxb6617191aMods
open Go.RowKit

theorem ret_bool {a b : Bool} (h : a = b) : Ending.returned (.bool a) = .returned (.bool b) := by rw [h]

theorem empty_iff (s : ByteArray) : s.toList.isEmpty = (s.size == 0) := by
  rw [ByteArray.toList_eq, Bool.eq_iff_iff]
  simp only [List.isEmpty_iff, beq_iff_eq]
  rw [← List.length_eq_zero_iff]
  simp

set_option maxRecDepth 100000 in
set_option maxHeartbeats 400000 in
theorem isDigits_empty (s : ByteArray) (w : World) (h : s.size = 0) :
    Calls Trym.prog 9 #[.string s] w fun e w' => e = .returned (.bool (digB s)) ∧ w' = w := by
  have he : s.toList.isEmpty = true := by rw [empty_iff, h]; rfl
  have hd : digB s = false := digB_zero s h
  clear h
  go_enter Trym.func9, Trym.ntmps9
  go_wp2
  go_ret
  exact ⟨ret_bool hd.symm, rfl⟩

set_option maxRecDepth 100000 in
set_option maxHeartbeats 400000 in
theorem isDigits_some (s : ByteArray) (w : World) (hs : s.size ≤ maxLen) (h : s.size ≠ 0) :
    Calls Trym.prog 9 #[.string s] w fun e w' => e = .returned (.bool (digB s)) ∧ w' = w := by
  have he : s.toList.isEmpty = false := by rw [empty_iff]; exact beq_eq_false_iff_ne.2 h
  have hd : Hid (digB s = dall s.data.toList) := digB_pos s h
  clear h
  unfold maxLen at hs
  go_enter Trym.func9, Trym.ntmps9
  go_wp2
  go_loop [8] (fun i => ∃ k : Nat, k ≤ s.size ∧ i = .int .i64 k ∧ Hid (dall (s.data.toList.take k) = true)) (fun i => s.size - (intOf i).toNat)
  case atStart => exact ⟨0, Nat.zero_le _, rfl, rfl⟩
  case round =>
    obtain ⟨k, hk, rfl, hall⟩ := hrel
    by_cases hlt : k < s.size
    · have HS : Hid (dall (s.data.toList.take (k + 1)) = (dall (s.data.toList.take k) && isD s[k])) := dall_snoc s k hlt
      by_cases hlo : (s[k].toNat : Int) < 48
      · go_wp2
        go_ret
        refine ⟨ret_bool ?_, rfl⟩
        have h8 : isD s[k] = false := by unfold isD; exact decide_eq_false (by omega)
        have h1 := HS.out
        rw [h8, Bool.and_false] at h1
        rw [hd.out, dall_cut _ (k + 1), h1, Bool.false_and]
      · by_cases hhi : 57 < (s[k].toNat : Int)
        · go_wp2
          go_ret
          refine ⟨ret_bool ?_, rfl⟩
          have h8 : isD s[k] = false := by unfold isD; exact decide_eq_false (by omega)
          have h1 := HS.out
          rw [h8, Bool.and_false] at h1
          rw [hd.out, dall_cut _ (k + 1), h1, Bool.false_and]
        · have h8 : Hid (isD s[k] = true) := by show isD s[k] = true; unfold isD; exact decide_eq_true (by omega)
          go_wp2
          go_round
          case rel => exact ⟨k + 1, by omega, by go_num, by show _ = _; rw [HS.out, hall.out, h8.out]; rfl⟩
          case measure => simp [intOf]; omega
    · go_wp2
      go_ret
      exact ⟨ret_bool (by have := hall.out; rw [List.take_of_length_le (by simp; omega)] at this; rw [hd.out, this]), rfl⟩

theorem isDigits_any (s : ByteArray) (w : World) (hs : s.size ≤ maxLen) :
    Calls Trym.prog 9 #[.string s] w fun e w' => e = .returned (.bool (digB s)) ∧ w' = w := by
  by_cases h : s.size = 0
  · exact isDigits_empty s w h
  · exact isDigits_some s w hs h

set_option maxRecDepth 100000 in
set_option maxHeartbeats 400000 in
theorem zz_any (s : ByteArray) (w : World) (hs : s.size ≤ maxLen) :
    Calls Trym.prog 6 #[.string s] w fun e w' => e = .returned (.bool (digB s)) ∧ w' = w := by
  go_enter Trym.func6, Trym.ntmps6
  go_wp2_with (go_at_call 9; refine (isDigits_any _ _ hs).mono ?_; rintro e w' ⟨rfl, rfl⟩)
  go_ret
  exact ⟨rfl, rfl⟩

set_option maxRecDepth 100000 in
set_option maxHeartbeats 400000 in
theorem bytes5 (s : ByteArray) (i : Int) (w : World) (hb : s.size ≤ 1048576) :
    Calls Trym.prog 5 #[.string s, .int .i64 i] w fun e w' => e = .returned (.bool true) ∧ w' = w := by
  go_enter Trym.func5, Trym.ntmps5
  go_wp2
  go_ret
  exact ⟨rfl, rfl⟩

set_option maxRecDepth 100000 in
set_option maxHeartbeats 400000 in
theorem cut_big (s : ByteArray) (i : Int) (w : World) (hs : s.size ≤ maxLen) (hb : 1048576 < s.size) :
    Calls Trym.prog 3 #[.string s, .int .i64 i] w fun e w' => e = .returned (.bool true) ∧ w' = w := by
  unfold maxLen at hs
  go_enter Trym.func3, Trym.ntmps3
  go_wp2
  go_ret
  exact ⟨rfl, rfl⟩

set_option maxRecDepth 100000 in
set_option maxHeartbeats 400000 in
theorem cut_out (s : ByteArray) (i : Int) (w : World) (hb : s.size ≤ 1048576) (hi : i < 0 ∨ s.size < i) :
    Calls Trym.prog 3 #[.string s, .int .i64 i] w fun e w' => e = .returned (.bool true) ∧ w' = w := by
  rcases hi with hi | hi
  · go_enter Trym.func3, Trym.ntmps3
    go_wp2
    go_ret
    exact ⟨rfl, rfl⟩
  · have h0 : ¬ i < 0 := by omega
    go_enter Trym.func3, Trym.ntmps3
    go_wp2
    go_ret
    exact ⟨rfl, rfl⟩

theorem isD_wrap (c : UInt8) : decide (((c.toNat : Int) - 48) % 256 < 10) = isD c := by
  unfold isD
  have := c.toNat_lt
  rw [Bool.eq_iff_iff]
  simp only [decide_eq_true_eq]
  omega

set_option maxRecDepth 100000 in
set_option maxHeartbeats 2000000 in
/-- the cut inside: 0 < n < len(s) -/
theorem cut_inC (s : ByteArray) (n : Nat) (w : World) (hb : s.size ≤ 1048576) (h0 : 0 < n) (hn : n < s.size) :
    Calls Trym.prog 3 #[.string s, .int .i64 n] w fun e w' => e = .returned (.bool true) ∧ w' = w := by
  have h1 := cutC s n h0 hn
  have H1 : Hid (s.size ≤ maxLen) := by show s.size ≤ maxLen; unfold maxLen; omega
  have H2 : Hid ((s.extract 0 n).size ≤ maxLen) := by show (s.extract 0 n).size ≤ maxLen; rw [ByteArray.size_extract]; unfold maxLen; omega
  have H3 : Hid ((s.extract n s.size).size ≤ maxLen) := by show (s.extract n s.size).size ≤ maxLen; rw [ByteArray.size_extract]; unfold maxLen; omega
  have H4 : Hid ((s.extract n (n + 1)).size ≤ maxLen) := by show (s.extract n (n + 1)).size ≤ maxLen; rw [ByteArray.size_extract]; unfold maxLen; omega
  have h2 := cutOne s n hn
  have h3 := isD_wrap s[n]
  have e0 : ((n : Int) == 0) = false := beq_eq_false_iff_ne.2 (by omega)
  have e1 : ((n : Int) == (s.size : Int)) = false := beq_eq_false_iff_ne.2 (by omega)
  generalize ha : digB (s.extract 0 n) = a at *
  generalize hc : digB (s.extract n s.size) = c at *
  cases a <;> cases c
  all_goals
    simp only [Bool.and_self, Bool.and_false, Bool.and_true] at h1
    go_enter Trym.func3, Trym.ntmps3
    go_wp2_with fail
    refine (bytes5 s n _ hb).mono ?_
    rintro e w' ⟨rfl, rfl⟩
    go_wp2_with fail
    refine (zz_any s _ H1.out).mono ?_
    rintro e w' ⟨rfl, rfl⟩
    go_wp2_with fail
    refine (zz_any (s.extract 0 n) _ H2.out).mono ?_
    rintro e w' ⟨rfl, rfl⟩
    go_wp2_with fail
    refine (zz_any (s.extract n s.size) _ H3.out).mono ?_
    rintro e w' ⟨rfl, rfl⟩
    go_wp2_with fail
    refine (zz_any (s.extract n (n + 1)) _ H4.out).mono ?_
    rintro e w' ⟨rfl, rfl⟩
    go_wp2_with fail
    go_ret
    exact ⟨rfl, rfl⟩

set_option maxRecDepth 100000 in
set_option maxHeartbeats 2000000 in
/-- the cut at the head of a string that is not empty -/
theorem cut_inA (s : ByteArray) (n : Nat) (w : World) (hb : s.size ≤ 1048576) (h0 : n = 0) (hn : n < s.size) :
    Calls Trym.prog 3 #[.string s, .int .i64 n] w fun e w' => e = .returned (.bool true) ∧ w' = w := by
  obtain ⟨hl, hr⟩ := cutA s n h0
  have H1 : Hid (s.size ≤ maxLen) := by show s.size ≤ maxLen; unfold maxLen; omega
  have H2 : Hid ((s.extract 0 n).size ≤ maxLen) := by show (s.extract 0 n).size ≤ maxLen; rw [ByteArray.size_extract]; unfold maxLen; omega
  have H3 : Hid ((s.extract n s.size).size ≤ maxLen) := by show (s.extract n s.size).size ≤ maxLen; rw [ByteArray.size_extract]; unfold maxLen; omega
  have H4 : Hid ((s.extract n (n + 1)).size ≤ maxLen) := by show (s.extract n (n + 1)).size ≤ maxLen; rw [ByteArray.size_extract]; unfold maxLen; omega
  have h2 := cutOne s n hn
  have h3 := isD_wrap s[n]
  have e0 : ((n : Int) == 0) = true := beq_iff_eq.2 (by omega)
  clear h0
  generalize ha : digB s = a at *
  cases a
  all_goals
    go_enter Trym.func3, Trym.ntmps3
    go_wp2_with fail
    refine (bytes5 s n _ hb).mono ?_
    rintro e w' ⟨rfl, rfl⟩
    go_wp2_with fail
    refine (zz_any s _ H1.out).mono ?_
    rintro e w' ⟨rfl, rfl⟩
    go_wp2_with fail
    refine (zz_any (s.extract 0 n) _ H2.out).mono ?_
    rintro e w' ⟨rfl, rfl⟩
    go_wp2_with fail
    refine (zz_any (s.extract n s.size) _ H3.out).mono ?_
    rintro e w' ⟨rfl, rfl⟩
    go_wp2_with fail
    refine (zz_any (s.extract n (n + 1)) _ H4.out).mono ?_
    rintro e w' ⟨rfl, rfl⟩
    go_wp2_with fail
    go_ret
    exact ⟨rfl, rfl⟩

set_option maxRecDepth 100000 in
set_option maxHeartbeats 2000000 in
/-- the empty string -/
theorem cut_inE (s : ByteArray) (n : Nat) (w : World) (h0 : n = 0) (hn : s.size = 0) :
    Calls Trym.prog 3 #[.string s, .int .i64 n] w fun e w' => e = .returned (.bool true) ∧ w' = w := by
  obtain ⟨hl, hr⟩ := cutA s n h0
  have hb : s.size ≤ 1048576 := by omega
  have hb0 : s.size ≤ n := by omega
  have hb1 : n ≤ s.size := by omega
  have H1 : Hid (s.size ≤ maxLen) := by show s.size ≤ maxLen; unfold maxLen; omega
  have H2 : Hid ((s.extract 0 n).size ≤ maxLen) := by show (s.extract 0 n).size ≤ maxLen; rw [ByteArray.size_extract]; unfold maxLen; omega
  have H3 : Hid ((s.extract n s.size).size ≤ maxLen) := by show (s.extract n s.size).size ≤ maxLen; rw [ByteArray.size_extract]; unfold maxLen; omega
  have e0 : ((n : Int) == 0) = true := beq_iff_eq.2 (by omega)
  clear h0 hn
  generalize ha : digB s = a at *
  cases a
  all_goals
    go_enter Trym.func3, Trym.ntmps3
    go_wp2_with fail
    refine (bytes5 s n _ hb).mono ?_
    rintro e w' ⟨rfl, rfl⟩
    go_wp2_with fail
    refine (zz_any s _ H1.out).mono ?_
    rintro e w' ⟨rfl, rfl⟩
    go_wp2_with fail
    refine (zz_any (s.extract 0 n) _ H2.out).mono ?_
    rintro e w' ⟨rfl, rfl⟩
    go_wp2_with fail
    refine (zz_any (s.extract n s.size) _ H3.out).mono ?_
    rintro e w' ⟨rfl, rfl⟩
    go_wp2_with fail
    go_ret
    exact ⟨rfl, rfl⟩

set_option maxRecDepth 100000 in
set_option maxHeartbeats 2000000 in
/-- the cut at the end of a string that is not empty -/
theorem cut_inB (s : ByteArray) (n : Nat) (w : World) (hb : s.size ≤ 1048576) (h0 : n = s.size) (hn : 0 < s.size) :
    Calls Trym.prog 3 #[.string s, .int .i64 n] w fun e w' => e = .returned (.bool true) ∧ w' = w := by
  obtain ⟨hr, hl⟩ := cutB s n h0
  have hb0 : s.size ≤ n := by omega
  have hb1 : n ≤ s.size := by omega
  have H1 : Hid (s.size ≤ maxLen) := by show s.size ≤ maxLen; unfold maxLen; omega
  have H2 : Hid ((s.extract 0 n).size ≤ maxLen) := by show (s.extract 0 n).size ≤ maxLen; rw [ByteArray.size_extract]; unfold maxLen; omega
  have H3 : Hid ((s.extract n s.size).size ≤ maxLen) := by show (s.extract n s.size).size ≤ maxLen; rw [ByteArray.size_extract]; unfold maxLen; omega
  have e0 : ((n : Int) == 0) = false := beq_eq_false_iff_ne.2 (by omega)
  have e1 : ((n : Int) == (s.size : Int)) = true := beq_iff_eq.2 (by omega)
  clear h0
  generalize ha : digB s = a at *
  cases a
  all_goals
    go_enter Trym.func3, Trym.ntmps3
    go_wp2_with fail
    refine (bytes5 s n _ hb).mono ?_
    rintro e w' ⟨rfl, rfl⟩
    go_wp2_with fail
    refine (zz_any s _ H1.out).mono ?_
    rintro e w' ⟨rfl, rfl⟩
    go_wp2_with fail
    refine (zz_any (s.extract 0 n) _ H2.out).mono ?_
    rintro e w' ⟨rfl, rfl⟩
    go_wp2_with fail
    refine (zz_any (s.extract n s.size) _ H3.out).mono ?_
    rintro e w' ⟨rfl, rfl⟩
    go_wp2_with fail
    go_ret
    exact ⟨rfl, rfl⟩

theorem cut_in (s : ByteArray) (n : Nat) (w : World) (hb : s.size ≤ 1048576) (hn : n ≤ s.size) :
    Calls Trym.prog 3 #[.string s, .int .i64 n] w fun e w' => e = .returned (.bool true) ∧ w' = w := by
  by_cases h0 : n = 0
  · by_cases h1 : s.size = 0
    · exact cut_inE s n w h0 h1
    · exact cut_inA s n w hb h0 (by omega)
  · by_cases h1 : n = s.size
    · exact cut_inB s n w hb h1 (by omega)
    · exact cut_inC s n w hb (by omega) (by omega)

end Go.Proofs.Qxb6617191aMods
