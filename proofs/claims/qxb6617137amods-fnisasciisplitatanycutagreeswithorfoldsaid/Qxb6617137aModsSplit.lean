import Derived.Test.Qxb6617137aModsWalks
namespace Go.Proofs.Qxb6617137aMods
open Go.RowKit

set_option maxRecDepth 100000 in
set_option maxHeartbeats 400000 in
theorem split_big (s : ByteArray) (i : Int) (w : World) (hs : s.size ≤ maxLen) (hb : 1048576 < s.size) :
    Calls Trym.prog 3 #[.string s, .int .i64 i] w fun e w' => e = .returned (.bool true) ∧ w' = w := by
  unfold maxLen at hs
  go_enter Trym.func3, Trym.ntmps3
  go_wp2
  go_ret
  exact ⟨rfl, rfl⟩

set_option maxRecDepth 100000 in
set_option maxHeartbeats 400000 in
theorem split_out (s : ByteArray) (i : Int) (w : World) (hb : s.size ≤ 1048576) (hi : i < 0 ∨ s.size < i) :
    Calls Trym.prog 3 #[.string s, .int .i64 i] w fun e w' => e = .returned (.bool true) ∧ w' = w := by
  rcases hi with hi | hi
  · go_enter Trym.func3, Trym.ntmps3
    go_wp2
    go_ret
    exact ⟨rfl, rfl⟩
  · have h0 : ¬ i < 0 := by omega
    go_enter Trym.func3, Trym.ntmps3
    go_wp2
    go_ret
    exact ⟨rfl, rfl⟩

set_option maxRecDepth 100000 in
set_option maxHeartbeats 400000 in
theorem bytes5 (s : ByteArray) (i : Int) (w : World) (hb : s.size ≤ 1048576) :
    Calls Trym.prog 5 #[.string s, .int .i64 i] w fun e w' => e = .returned (.bool true) ∧ w' = w := by
  go_enter Trym.func5, Trym.ntmps5
  go_wp2
  go_ret
  exact ⟨rfl, rfl⟩

theorem ascB_cut (s : ByteArray) (n : Nat) : ascB s = (ascB (s.extract 0 n) && ascB (s.extract n s.size)) := by
  unfold ascB
  rw [asc_cut s.data.toList n]
  have e1 : (s.extract 0 n).data.toList = s.data.toList.take n := by simp
  have e2 : (s.extract n s.size).data.toList = s.data.toList.drop n := by
    simp only [ByteArray.data_extract, Array.toList_extract, List.extract_eq_take_drop]
    exact List.take_of_length_le (by simp)
  rw [e1, e2]
theorem orB_low (s : ByteArray) : decide (orB s < 128) = ascB s := by
  rw [ascB, ← orl_low, orB, Bool.eq_iff_iff]; simp; omega

set_option maxRecDepth 100000 in
set_option maxHeartbeats 400000 in
theorem split_in (s : ByteArray) (n : Nat) (w : World) (hb : s.size ≤ 1048576) (hn : n ≤ s.size) :
    Calls Trym.prog 3 #[.string s, .int .i64 n] w fun e w' => e = .returned (.bool true) ∧ w' = w := by
  have h1 := ascB_cut s n
  have h2 := orB_low s
  have hl : s.size ≤ maxLen := by unfold maxLen; omega
  have hL : (s.extract 0 n).size ≤ maxLen := by unfold maxLen; simp; omega
  have hR : (s.extract n s.size).size ≤ maxLen := by unfold maxLen; simp; omega
  generalize ha : ascB (s.extract 0 n) = a at *
  generalize hc : ascB (s.extract n s.size) = c at *
  rw [h1] at h2
  have H1 : Hid (s.size ≤ maxLen) := hl
  have H2 : Hid ((s.extract 0 n).size ≤ maxLen) := hL
  have H3 : Hid ((s.extract n s.size).size ≤ maxLen) := hR
  clear hl hL hR
  cases a <;> cases c
  all_goals
    simp only [Bool.and_self, Bool.and_false, Bool.and_true] at h1 h2
    go_enter Trym.func3, Trym.ntmps3
    go_wp2_with fail
    refine (bytes5 s n _ hb).mono ?_
    rintro e w' ⟨rfl, rfl⟩
    go_wp2_with fail
    refine (zz_any s _ H1.out).mono ?_
    rintro e w' ⟨rfl, rfl⟩
    go_wp2_with fail
    refine (zz_any (s.extract 0 n) _ H2.out).mono ?_
    rintro e w' ⟨rfl, rfl⟩
    go_wp2_with fail
    refine (zz_any (s.extract n s.size) _ H3.out).mono ?_
    rintro e w' ⟨rfl, rfl⟩
    go_wp2_with fail
    refine (or_any s _ H1.out).mono ?_
    rintro e w' ⟨rfl, rfl⟩
    go_wp2_with fail
    go_ret
    exact ⟨rfl, rfl⟩
end Go.Proofs.Qxb6617137aMods
