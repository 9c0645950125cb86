import Derived.Test.Qxb6617137aModsWalks
import Derived.BigQuiet
import Derived.Deep.QuietTactic
import Derived.Laws.IdiomStrings
namespace Go.Proofs.Qxb6617137aMods
open Go.RowKit

set_option maxRecDepth 100000 in
set_option maxHeartbeats 400000 in
theorem insert_big (s : ByteArray) (i c : Int) (w : World) (hs : s.size ≤ maxLen) (hb : 1048576 < s.size) :
    Calls Trym.prog 4 #[.string s, .int .i64 i, .int .u8 c] w fun e w' => e = .returned (.bool true) ∧ w' = w := by
  unfold maxLen at hs
  go_enter Trym.func4, Trym.ntmps4
  go_wp2
  go_ret
  exact ⟨rfl, rfl⟩

set_option maxRecDepth 100000 in
set_option maxHeartbeats 400000 in
theorem insert_out (s : ByteArray) (i c : Int) (w : World) (hb : s.size ≤ 1048576) (hi : i < 0 ∨ s.size < i) :
    Calls Trym.prog 4 #[.string s, .int .i64 i, .int .u8 c] w fun e w' => e = .returned (.bool true) ∧ w' = w := by
  rcases hi with hi | hi
  · go_enter Trym.func4, Trym.ntmps4
    go_wp2
    go_ret
    exact ⟨rfl, rfl⟩
  · have h0 : ¬ i < 0 := by omega
    go_enter Trym.func4, Trym.ntmps4
    go_wp2
    go_ret
    exact ⟨rfl, rfl⟩

set_option maxRecDepth 100000 in
set_option maxHeartbeats 400000 in
theorem bytes8 (s : ByteArray) (i c : Int) (w : World) (hb : s.size ≤ 1048576) :
    Calls Trym.prog 8 #[.string s, .int .i64 i, .int .u8 c] w fun e w' => e = .returned (.bool true) ∧ w' = w := by
  go_enter Trym.func8, Trym.ntmps8
  go_wp2
  go_ret
  exact ⟨rfl, rfl⟩

theorem conv_one (c : UInt8) (w : World) :
    (convert 26 9 (.slice (some ⟨w.heap.size, 0, none⟩) 1 1)).run Trym.prog (w.alloc (.cells #[.int .u8 (c.toNat : Int)] 5)) = .ok (.string ⟨#[c]⟩) (w.alloc (.cells #[.int .u8 (c.toNat : Int)] 5)) := by
  have h := run_convert_bytes_back (P := Trym.prog) (w.alloc (.cells #[.int .u8 (c.toNat : Int)] 5)) 26 9 5 ⟨w.heap.size, 0, none⟩ 1 [c] Trym.underlying26 Trym.underlying5 Trym.underlying9 (by
    intro j hj
    have : j = 0 := by simp at hj; omega
    subst this
    exact World.cell?_alloc_mark w _ _ _ 0)
  exact h

theorem ascB_one (c : UInt8) : ascB ⟨#[c]⟩ = decide ((c.toNat : Int) < 128) := by
  show asc [c] = _
  rw [asc_one, Bool.eq_iff_iff]; simp; omega
theorem ascB_ins (s one : ByteArray) (n : Nat) : ascB (s.extract 0 n ++ one ++ s.extract n s.size) = (ascB s && ascB one) := by
  have e1 : (s.extract 0 n).data.toList = s.data.toList.take n := by simp
  have e2 : (s.extract n s.size).data.toList = s.data.toList.drop n := by
    simp only [ByteArray.data_extract, Array.toList_extract, List.extract_eq_take_drop]
    exact List.take_of_length_le (by simp)
  have e3 : (s.extract 0 n ++ one ++ s.extract n s.size).data.toList = s.data.toList.take n ++ one.data.toList ++ s.data.toList.drop n := by
    rw [ByteArray.data_append, ByteArray.data_append, Array.toList_append, Array.toList_append, e1, e2]
  unfold ascB
  rw [e3, asc_append, asc_append, asc_cut s.data.toList n]
  cases asc (s.data.toList.take n) <;> cases asc one.data.toList <;> cases asc (s.data.toList.drop n) <;> rfl

theorem grown_end (w : World) (c : Array Value) (t : TypeId) (n : Nat) : Grown w ((w.alloc (.cells c t)).drewN n) := (Grown.refl w).alloc c t

set_option maxRecDepth 100000 in
set_option maxHeartbeats 2000000 in
theorem insert_in (s : ByteArray) (n : Nat) (c : UInt8) (w : World) (hb : s.size ≤ 1048576) (hn : n ≤ s.size) :
    Calls Trym.prog 4 #[.string s, .int .i64 n, .int .u8 (c.toNat : Int)] w fun e w' => e = .returned (.bool true) ∧ Grown w w' := by
  obtain ⟨one, hone, hcv⟩ : ∃ one : ByteArray, Hid (one = ⟨#[c]⟩) ∧ ∀ w : World, (convert 26 9 (.slice (some ⟨w.heap.size, 0, none⟩) 1 1)).run Trym.prog (w.alloc (.cells #[.int .u8 (c.toNat : Int)] 5)) = .ok (.string one) (w.alloc (.cells #[.int .u8 (c.toNat : Int)] 5)) := ⟨_, rfl, conv_one c⟩
  have hsz : one.size ≤ 1 := by rw [hone.out]; exact Nat.le_refl 1
  have h1 : ascB one = decide ((c.toNat : Int) < 128) := by rw [hone.out]; exact ascB_one c
  have h2 := ascB_ins s one n
  rw [h1] at h2
  have H1 : Hid (s.size ≤ maxLen) := by show s.size ≤ maxLen; unfold maxLen; omega
  have H2 : Hid (one.size ≤ maxLen) := by show one.size ≤ maxLen; unfold maxLen; omega
  have H3 : Hid ((s.extract 0 n ++ one ++ s.extract n s.size).size ≤ maxLen) := by
    show (s.extract 0 n ++ one ++ s.extract n s.size).size ≤ maxLen
    unfold maxLen; simp; omega
  generalize ha : ascB s = a at *
  generalize hc : decide ((c.toNat : Int) < 128) = b at *
  cases a <;> cases b
  all_goals
    simp only [Bool.and_self, Bool.and_false, Bool.and_true] at h2
    go_enter Trym.func4, Trym.ntmps4
    go_wp2_with fail
    refine (bytes8 s n _ _ hb).mono ?_
    rintro e w' ⟨rfl, rfl⟩
    go_wp2_with fail
    go_quiet (fail)
    go_wp2_with fail
    refine (zz_any (s.extract 0 n ++ one ++ s.extract n s.size) _ H3.out).mono ?_
    rintro e w' ⟨rfl, rfl⟩
    go_wp2_with fail
    refine (zz_any s _ H1.out).mono ?_
    rintro e w' ⟨rfl, rfl⟩
    go_wp2_with fail
    refine (zz_any one _ H2.out).mono ?_
    rintro e w' ⟨rfl, rfl⟩
    go_wp2_with fail
    go_ret
    exact ⟨rfl, grown_end _ _ _ _⟩
end Go.Proofs.Qxb6617137aMods
