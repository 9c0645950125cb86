/- zzBytes_.., zzTooBig, zzSameLengths of FnMessageAnswerIsFixedPointAndIgnoresAVPs (seat b6605620aM). -/
import Derived.Test.Qxb6605620aModsMem
namespace Go.Proofs.Qxb6605620aMods
open Go.RowKit

/-- it returns some bool of which P holds -/
def SomeBool (P : Bool → Prop) (e : Ending) : Prop := ∃ b, e = .returned (.bool b) ∧ P b
theorem someBool {P : Bool → Prop} (b : Bool) (h : P b) {e : Ending} (he : e = .returned (.bool b)) : SomeBool P e := ⟨b, he, h⟩
/-- every inner length is at most 2^20 -/
def Short (n : Nat) (L : Nat → Nat) : Prop := ∀ j, j < n → L j ≤ 1048576

set_option maxRecDepth 100000 in
set_option maxHeartbeats 400000 in
theorem tooBig_out (a1 a2 a3 a4 : Option Addr) (l1 c1 l2 c2 l3 c3 l4 c4 : Nat) (w : World) (h : 65536 < l1 ∨ 65536 < l2 ∨ 65536 < l3 ∨ 65536 < l4) :
    Calls Trym.prog 11 #[.int .i64 0, .slice a1 l1 c1, .slice a2 l2 c2, .slice a3 l3 c3, .slice a4 l4 c4] w fun e w' => e = .returned (.bool true) ∧ w' = w := by
  by_cases h1 : 65536 < l1
  · go_enter Trym.func11, Trym.ntmps11
    go_wp2
    go_ret
    exact ⟨rfl, rfl⟩
  · by_cases h2 : 65536 < l2
    · go_enter Trym.func11, Trym.ntmps11
      go_wp2
      go_ret
      exact ⟨rfl, rfl⟩
    · by_cases h3 : 65536 < l3
      · go_enter Trym.func11, Trym.ntmps11
        go_wp2
        go_ret
        exact ⟨rfl, rfl⟩
      · have h4 : 65536 < l4 := by omega
        go_enter Trym.func11, Trym.ntmps11
        go_wp2
        go_ret
        exact ⟨rfl, rfl⟩

set_option maxRecDepth 100000 in
set_option maxHeartbeats 400000 in
theorem tooBig_in (a1 a2 a3 a4 : Option Addr) (l1 c1 l2 c2 l3 c3 l4 c4 : Nat) (A : Nat → Option Addr) (L C : Nat → Nat) (Z : Nat → List Int) (w : World) (hD : Datas w a4 l4 A L C Z)
    (h1 : l1 ≤ 65536) (h2 : l2 ≤ 65536) (h3 : l3 ≤ 65536) (h4 : l4 ≤ 65536) :
    Calls Trym.prog 11 #[.int .i64 0, .slice a1 l1 c1, .slice a2 l2 c2, .slice a3 l3 c3, .slice a4 l4 c4] w fun e w' => SomeBool (fun b => b = false → Short l4 L) e ∧ w' = w := by
  have HD : Hid (Datas w a4 l4 A L C Z) := hD
  clear hD
  go_enter Trym.func11, Trym.ntmps11
  go_wp2
  go_loop [11, 12] (fun t i => ∃ (k : Nat) (T : Int), k ≤ l4 ∧ i = .int .i64 k ∧ t = .int .i64 T ∧ 0 ≤ T ∧ T ≤ 2686976 ∧ Hid (∀ j, j < k → L j ≤ 1048576)) (fun _ i => l4 - (intOf i).toNat)
  case atStart => exact ⟨0, _, Nat.zero_le _, rfl, rfl, by omega, by omega, fun j hj => absurd hj (by omega)⟩
  case round =>
    obtain ⟨k, T, hk, rfl, rfl, hT0, hT1, hall⟩ := hrel
    by_cases hlt : k < l4
    · obtain ⟨b, off, rfl, hc⟩ := HD.out.place hlt
      have hck := hc k hlt
      clear hc
      by_cases hL : L k ≤ 1048576
      · by_cases hS : T + L k ≤ 1048576
        · go_wp2
          go_round
          case rel => exact ⟨k + 1, _, by omega, by go_num, rfl, by omega, by omega, fun j hj => by
            by_cases e : j = k
            · subst e; exact hL
            · exact hall.out j (by omega)⟩
          case measure => simp [intOf]; omega
        · go_wp2
          go_ret
          exact ⟨someBool true (by simp) rfl, rfl⟩
      · go_wp2
        go_ret
        exact ⟨someBool true (by simp) rfl, rfl⟩
    · go_wp2
      go_ret
      exact ⟨someBool _ (fun _ j hj => hall.out j (by omega)) rfl, rfl⟩

theorem tooBig (a1 a2 a3 a4 : Option Addr) (l1 c1 l2 c2 l3 c3 l4 c4 : Nat) (A : Nat → Option Addr) (L C : Nat → Nat) (Z : Nat → List Int) (w : World) (hD : Datas w a4 l4 A L C Z) :
    Calls Trym.prog 11 #[.int .i64 0, .slice a1 l1 c1, .slice a2 l2 c2, .slice a3 l3 c3, .slice a4 l4 c4] w fun e w' => SomeBool (fun b => b = false → l1 ≤ 65536 ∧ l2 ≤ 65536 ∧ l3 ≤ 65536 ∧ l4 ≤ 65536 ∧ Short l4 L) e ∧ w' = w := by
  by_cases h : 65536 < l1 ∨ 65536 < l2 ∨ 65536 < l3 ∨ 65536 < l4
  · refine (tooBig_out a1 a2 a3 a4 l1 c1 l2 c2 l3 c3 l4 c4 w h).mono ?_
    rintro e w' ⟨rfl, rfl⟩
    exact ⟨someBool true (by simp) rfl, rfl⟩
  · refine (tooBig_in a1 a2 a3 a4 l1 c1 l2 c2 l3 c3 l4 c4 A L C Z w hD (by omega) (by omega) (by omega) (by omega)).mono ?_
    rintro e w' ⟨⟨b, rfl, hb⟩, rfl⟩
    exact ⟨someBool b (fun h' => ⟨by omega, by omega, by omega, by omega, hb h'⟩) rfl, rfl⟩

set_option maxRecDepth 100000 in
set_option maxHeartbeats 400000 in
theorem sameLengths (a1 a2 a3 a4 : Option Addr) (l1 c1 l2 c2 l3 c3 l4 c4 : Nat) (w : World) :
    Calls Trym.prog 12 #[.slice a1 l1 c1, .slice a2 l2 c2, .slice a3 l3 c3, .slice a4 l4 c4] w fun e w' => SomeBool (fun b => b = true → l2 = l1 ∧ l3 = l1 ∧ l4 = l1) e ∧ w' = w := by
  by_cases h2 : l2 = l1
  · by_cases h3 : l3 = l1
    · subst h2 h3
      have e1 : ((l3 : Int) == (l3 : Int)) = true := by simp
      go_enter Trym.func12, Trym.ntmps12
      go_wp2
      go_ret
      exact ⟨someBool _ (fun h => ⟨trivial, trivial, by have := beq_iff_eq.1 h; omega⟩) rfl, rfl⟩
    · have e1 : ((l2 : Int) == (l1 : Int)) = true := by simp [h2]
      have e2 : ((l3 : Int) == (l1 : Int)) = false := by rw [beq_eq_false_iff_ne]; omega
      clear h2 h3
      go_enter Trym.func12, Trym.ntmps12
      go_wp2
      go_ret
      exact ⟨someBool false (by simp) rfl, rfl⟩
  · have e2 : ((l2 : Int) == (l1 : Int)) = false := by rw [beq_eq_false_iff_ne]; omega
    clear h2
    go_enter Trym.func12, Trym.ntmps12
    go_wp2
    go_ret
    exact ⟨someBool false (by simp) rfl, rfl⟩

set_option maxRecDepth 100000 in
set_option maxHeartbeats 1000000 in
theorem bytes10 (v0 v1 v2 v3 v4 : Int) (a1 a2 a3 a4 : Option Addr) (l1 c1 l2 c2 l3 c3 l4 c4 : Nat) (A : Nat → Option Addr) (L C : Nat → Nat) (Z : Nat → List Int) (w : World) (hD : Datas w a4 l4 A L C Z) :
    Calls Trym.prog 10 #[.int .u8 v0, .int .u32 v1, .int .u32 v2, .int .u32 v3, .int .u32 v4, .slice a1 l1 c1, .slice a2 l2 c2, .slice a3 l3 c3, .slice a4 l4 c4] w fun e w' => SomeBool (fun _ => True) e ∧ w' = w := by
  have HD : Hid (Datas w a4 l4 A L C Z) := hD
  clear hD
  by_cases hall : l1 + l2 + l3 + l4 ≤ 1048576
  · go_enter Trym.func10, Trym.ntmps10
    go_wp2
    go_loop [19, 20] (fun t i => ∃ (k : Nat) (T : Int), k ≤ l4 ∧ i = .int .i64 k ∧ t = .int .i64 T ∧ 0 ≤ T ∧ T ≤ 1048576) (fun _ i => l4 - (intOf i).toNat)
    case atStart => exact ⟨0, _, Nat.zero_le _, rfl, rfl, by omega, by omega⟩
    case round =>
      obtain ⟨k, T, hk, rfl, rfl, hT0, hT1⟩ := hrel
      by_cases hlt : k < l4
      · obtain ⟨b, off, rfl, hc⟩ := HD.out.place hlt
        have hck := hc k hlt
        clear hc
        by_cases hL : L k ≤ 1048576
        · by_cases hS : T + L k ≤ 1048576
          · go_wp2
            go_round
            case rel => exact ⟨k + 1, _, by omega, by go_num, rfl, by omega, by omega⟩
            case measure => simp [intOf]; omega
          · go_wp2
            go_ret
            exact ⟨someBool false trivial rfl, rfl⟩
        · go_wp2
          go_ret
          exact ⟨someBool false trivial rfl, rfl⟩
      · go_wp2
        go_ret
        exact ⟨someBool true trivial rfl, rfl⟩
  · by_cases h1 : l1 ≤ 1048576
    · by_cases h2 : l2 ≤ 1048576
      · by_cases h12 : l1 + l2 ≤ 1048576
        · by_cases h3 : l3 ≤ 1048576
          · by_cases h123 : l1 + l2 + l3 ≤ 1048576
            · by_cases h4 : l4 ≤ 1048576
              all_goals
                go_enter Trym.func10, Trym.ntmps10
                go_wp2
                go_ret
                exact ⟨someBool false trivial rfl, rfl⟩
            · go_enter Trym.func10, Trym.ntmps10
              go_wp2
              go_ret
              exact ⟨someBool false trivial rfl, rfl⟩
          · go_enter Trym.func10, Trym.ntmps10
            go_wp2
            go_ret
            exact ⟨someBool false trivial rfl, rfl⟩
        · go_enter Trym.func10, Trym.ntmps10
          go_wp2
          go_ret
          exact ⟨someBool false trivial rfl, rfl⟩
      · go_enter Trym.func10, Trym.ntmps10
        go_wp2
        go_ret
        exact ⟨someBool false trivial rfl, rfl⟩
    · go_enter Trym.func10, Trym.ntmps10
      go_wp2
      go_ret
      exact ⟨someBool false trivial rfl, rfl⟩

end Go.Proofs.Qxb6605620aMods
