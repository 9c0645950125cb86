/- zzPlainEntryName, zzCmpStrings (seat b6605630aM). -/
import Derived.Test.Qxb6605630aModsKeys
import Derived.BigQuiet
import Derived.Deep.QuietTactic
namespace Go.Proofs.Qxb6605630aMods
open Go.RowKit

/-- it returns some bool of which P holds -/
def SomeBool (P : Bool → Prop) (e : Ending) : Prop := ∃ b, e = .returned (.bool b) ∧ P b
theorem someBool {P : Bool → Prop} (b : Bool) (h : P b) {e : Ending} (he : e = .returned (.bool b)) : SomeBool P e := ⟨b, he, h⟩

set_option maxRecDepth 100000 in
set_option maxHeartbeats 400000 in
theorem plain8 (s : ByteArray) (w : World) (hs : s.size ≤ 1048576) :
    Calls Trym.prog 8 #[.string s] w fun e w' => SomeBool (fun b => b = true → Plain s) e ∧ w' = w := by
  go_enter Trym.func8, Trym.ntmps8
  go_wp2
  go_loop [3] (fun i => ∃ k : Nat, k ≤ s.size ∧ i = .int .i64 k ∧ Hid (∀ j, j < k → kb s j ≠ 47 ∧ kb s j ≠ 0)) (fun i => s.size - (intOf i).toNat)
  case atStart => exact ⟨0, Nat.zero_le _, rfl, fun j hj => absurd hj (by omega)⟩
  case round =>
    obtain ⟨k, hk, rfl, hall⟩ := hrel
    by_cases hlt : k < s.size
    · have HS : Hid (kb s k = (s[k].toNat : Int)) := kb_in s k hlt
      by_cases h1 : ((s[k].toNat : Int) == 47) = true
      · go_wp2
        go_ret
        exact ⟨someBool false (by simp) rfl, rfl⟩
      · have h1' : ((s[k].toNat : Int) == 47) = false := by simpa using h1
        clear h1
        by_cases h2 : ((s[k].toNat : Int) == 0) = true
        · go_wp2
          go_ret
          exact ⟨someBool false (by simp) rfl, rfl⟩
        · have h2' : ((s[k].toNat : Int) == 0) = false := by simpa using h2
          clear h2
          have HN : Hid (∀ j, j < k + 1 → kb s j ≠ 47 ∧ kb s j ≠ 0) := by
            intro j hj
            by_cases e : j = k
            · subst e; rw [HS.out]; exact ⟨beq_eq_false_iff_ne.1 h1', beq_eq_false_iff_ne.1 h2'⟩
            · exact hall.out j (by omega)
          go_wp2
          go_round
          case rel => exact ⟨k + 1, by omega, by go_num, HN⟩
          case measure => simp [intOf]; omega
    · go_wp2
      go_ret
      exact ⟨someBool true (fun _ i hi => hall.out i (by omega)) rfl, rfl⟩

theorem three_drews (w : World) (a b c : Nat) : ∃ m, ((w.drewN a).drewN b).drewN c = w.drewN m := ⟨a + (b + c), by rw [World.drewN_drewN, World.drewN_drewN]⟩

theorem ord_shorter (a b : ByteArray) (h : ∀ j, j < a.size → kb a j = kb b j) (hl : a.size < b.size) : Ord (kb a) (kb b) (-1) :=
  Or.inl ⟨a.size, h, by rw [kb_out a a.size (by omega)]; have := kb_pos b a.size hl; omega, rfl⟩
theorem ord_longer (a b : ByteArray) (h : ∀ j, j < b.size → kb a j = kb b j) (hl : b.size < a.size) : Ord (kb a) (kb b) 1 :=
  Or.inr (Or.inl ⟨b.size, h, by rw [kb_out b b.size (by omega)]; have := kb_pos a b.size hl; omega, rfl⟩)
theorem ord_same (a b : ByteArray) (h : ∀ j, j < a.size → kb a j = kb b j) (hl : a.size = b.size) : Ord (kb a) (kb b) 0 :=
  Or.inr (Or.inr ⟨fun j => by
    by_cases hj : j < a.size
    · exact h j hj
    · rw [kb_out a j hj, kb_out b j (by omega)], rfl⟩)

set_option maxRecDepth 100000 in
set_option maxHeartbeats 1000000 in
theorem cmp9_long (a b : ByteArray) (w : World) (ha : a.size ≤ 2097152) (hba : b.size < a.size) :
    Calls Trym.prog 9 #[.string a, .string b] w fun e w' => SomeInt .i64 (fun c => Ord (kb a) (kb b) c) e ∧ ∃ m, w' = w.drewN m := by
  go_enter Trym.func9, Trym.ntmps9
  go_wp2
  go_loopw [6] (fun i wr => ∃ k m : Nat, k ≤ b.size ∧ i = .int .i64 k ∧ wr = w.drewN m ∧ Hid (∀ j, j < k → kb a j = kb b j)) (fun i _ => b.size - (intOf i).toNat)
  case atStart => exact ⟨0, 0, Nat.zero_le _, rfl, rfl, fun j hj => absurd hj (by omega)⟩
  case round =>
    obtain ⟨k, m, hk, rfl, rfl, hall⟩ := hrel
    by_cases hlt : k < b.size
    · have ka : k < a.size := by omega
      have kb' : k < b.size := by omega
      have ia : (k : Int) < (a.size : Int) := by omega
      have ib : (k : Int) < (b.size : Int) := by omega
      have EA : Hid (kb a k = (a[k].toNat : Int)) := kb_in a k ka
      have EB : Hid (kb b k = (b[k].toNat : Int)) := kb_in b k kb'
      by_cases he : (a[k].toNat : Int) = (b[k].toNat : Int)
      · have hne : ((a[k].toNat : Int) != (b[k].toNat : Int)) = false := by rw [bne_eq_false_iff_eq]; exact he
        have HN : Hid (∀ j, j < k + 1 → kb a j = kb b j) := by
          intro j hj
          by_cases e : j = k
          · subst e; rw [EA.out, EB.out]; exact he
          · exact hall.out j (by omega)
        clear he hall
        go_wp2
        go_quiet (fail)
        go_wp2
        go_roundw
        case rel => exact ⟨k + 1, _, by omega, by go_num, rfl, HN⟩
        case measure => simp [intOf]; omega
      · have hne : ((a[k].toNat : Int) != (b[k].toNat : Int)) = true := by rw [bne_iff_ne]; exact he
        by_cases hl : (a[k].toNat : Int) < (b[k].toNat : Int)
        · have HO : Hid (Ord (kb a) (kb b) (-1)) := Or.inl ⟨k, hall.out, by rw [EA.out, EB.out]; exact hl, rfl⟩
          clear he hall
          go_wp2
          go_quiet (fail)
          go_wp2
          go_quiet (fail)
          go_wp2
          go_ret
          exact ⟨someInt (-1) HO.out rfl, three_drews w _ _ _⟩
        · have HO : Hid (Ord (kb a) (kb b) 1) := Or.inr (Or.inl ⟨k, hall.out, by rw [EA.out, EB.out]; omega, rfl⟩)
          clear he hall
          go_wp2
          go_quiet (fail)
          go_wp2
          go_quiet (fail)
          go_wp2
          go_ret
          exact ⟨someInt 1 HO.out rfl, three_drews w _ _ _⟩
    · have HO : Hid (Ord (kb a) (kb b) 1) := ord_longer a b (fun j hj => hall.out j (by omega)) hba
      go_wp2
      go_ret
      exact ⟨someInt 1 HO.out rfl, m, rfl⟩

set_option maxRecDepth 100000 in
set_option maxHeartbeats 1000000 in
theorem cmp9_short (a b : ByteArray) (w : World) (hb : b.size ≤ 2097152) (hba : a.size ≤ b.size) :
    Calls Trym.prog 9 #[.string a, .string b] w fun e w' => SomeInt .i64 (fun c => Ord (kb a) (kb b) c) e ∧ ∃ m, w' = w.drewN m := by
  go_enter Trym.func9, Trym.ntmps9
  go_wp2
  go_loopw [6] (fun i wr => ∃ k m : Nat, k ≤ a.size ∧ i = .int .i64 k ∧ wr = w.drewN m ∧ Hid (∀ j, j < k → kb a j = kb b j)) (fun i _ => a.size - (intOf i).toNat)
  case atStart => exact ⟨0, 0, Nat.zero_le _, rfl, rfl, fun j hj => absurd hj (by omega)⟩
  case round =>
    obtain ⟨k, m, hk, rfl, rfl, hall⟩ := hrel
    by_cases hlt : k < a.size
    · have ka : k < a.size := by omega
      have kb' : k < b.size := by omega
      have ia : (k : Int) < (a.size : Int) := by omega
      have ib : (k : Int) < (b.size : Int) := by omega
      have EA : Hid (kb a k = (a[k].toNat : Int)) := kb_in a k ka
      have EB : Hid (kb b k = (b[k].toNat : Int)) := kb_in b k kb'
      by_cases he : (a[k].toNat : Int) = (b[k].toNat : Int)
      · have hne : ((a[k].toNat : Int) != (b[k].toNat : Int)) = false := by rw [bne_eq_false_iff_eq]; exact he
        have HN : Hid (∀ j, j < k + 1 → kb a j = kb b j) := by
          intro j hj
          by_cases e : j = k
          · subst e; rw [EA.out, EB.out]; exact he
          · exact hall.out j (by omega)
        clear he hall
        go_wp2
        go_quiet (fail)
        go_wp2
        go_roundw
        case rel => exact ⟨k + 1, _, by omega, by go_num, rfl, HN⟩
        case measure => simp [intOf]; omega
      · have hne : ((a[k].toNat : Int) != (b[k].toNat : Int)) = true := by rw [bne_iff_ne]; exact he
        by_cases hl : (a[k].toNat : Int) < (b[k].toNat : Int)
        · have HO : Hid (Ord (kb a) (kb b) (-1)) := Or.inl ⟨k, hall.out, by rw [EA.out, EB.out]; exact hl, rfl⟩
          clear he hall
          go_wp2
          go_quiet (fail)
          go_wp2
          go_quiet (fail)
          go_wp2
          go_ret
          exact ⟨someInt (-1) HO.out rfl, three_drews w _ _ _⟩
        · have HO : Hid (Ord (kb a) (kb b) 1) := Or.inr (Or.inl ⟨k, hall.out, by rw [EA.out, EB.out]; omega, rfl⟩)
          clear he hall
          go_wp2
          go_quiet (fail)
          go_wp2
          go_quiet (fail)
          go_wp2
          go_ret
          exact ⟨someInt 1 HO.out rfl, three_drews w _ _ _⟩
    · by_cases hl : a.size < b.size
      · have HO : Hid (Ord (kb a) (kb b) (-1)) := ord_shorter a b (fun j hj => hall.out j (by omega)) hl
        go_wp2
        go_ret
        exact ⟨someInt (-1) HO.out rfl, m, rfl⟩
      · have HO : Hid (Ord (kb a) (kb b) 0) := ord_same a b (fun j hj => hall.out j (by omega)) (by omega)
        go_wp2
        go_ret
        exact ⟨someInt 0 HO.out rfl, m, rfl⟩

theorem cmp9 (a b : ByteArray) (w : World) (ha : a.size ≤ 2097152) (hb : b.size ≤ 2097152) :
    Calls Trym.prog 9 #[.string a, .string b] w fun e w' => SomeInt .i64 (fun c => Ord (kb a) (kb b) c) e ∧ ∃ m, w' = w.drewN m := by
  by_cases hba : b.size < a.size
  · exact cmp9_long a b w ha hba
  · exact cmp9_short a b w hb (by omega)

end Go.Proofs.Qxb6605630aMods
