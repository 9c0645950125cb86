/- FnOrderByteSortsAsGitKeys: the law's ways (seat b6605630aM). -/
import Derived.Test.Qxb6605630aModsCmp
namespace Go.Proofs.Qxb6605630aMods
open Go.RowKit

theorem Grown.trans {a b c : World} (h : Grown a b) (k : Grown b c) : Grown a c :=
  ⟨World.keptBut_trans h.1 (World.keptBut_mono (fun _ f => f.elim) k.1), fun x => (k.2.1 x).trans (h.2.1 x), Nat.le_trans h.2.2 k.2.2⟩
theorem Grown.drewN {a b : World} (h : Grown a b) (m : Nat) : Grown a (b.drewN m) := h

set_option maxRecDepth 100000 in
set_option maxHeartbeats 400000 in
theorem bytes7 (mA mB : Int) (sA sB : ByteArray) (w : World) (hb : sA.size + sB.size ≤ 1048576) :
    Calls Trym.prog 7 #[.int .u32 mA, .string sA, .int .u32 mB, .string sB] w fun e w' => e = .returned (.bool true) ∧ w' = w := by
  go_enter Trym.func7, Trym.ntmps7
  go_wp2
  go_ret
  exact ⟨rfl, rfl⟩

set_option maxRecDepth 100000 in
set_option maxHeartbeats 400000 in
/-- the names are too long together: the first guard answers -/
theorem sorts_big (mA mB : Int) (sA sB : ByteArray) (w : World) (ha : sA.size ≤ maxLen) (hb : sB.size ≤ maxLen) (hs : 1048576 < sA.size + sB.size) :
    Calls Trym.prog 4 #[.int .u32 mA, .string sA, .int .u32 mB, .string sB] w fun e w' => e = .returned (.bool true) ∧ w' = w := by
  unfold maxLen at ha hb
  by_cases h1 : sA.size ≤ 1048576
  · by_cases h2 : sB.size ≤ 1048576
    all_goals
      go_enter Trym.func4, Trym.ntmps4
      go_wp2
      go_ret
      exact ⟨rfl, rfl⟩
  · go_enter Trym.func4, Trym.ntmps4
    go_wp2
    go_ret
    exact ⟨rfl, rfl⟩

theorem kind_test (m : Nat) (t : Bool) (h : isTree m = t) : (((m / 4096 % 16 * 4096 : Nat) : Int) == 16384) = t := by
  subst h
  unfold isTree
  rw [Bool.eq_iff_iff, beq_iff_eq, beq_iff_eq]
  omega

set_option maxRecDepth 100000 in
set_option maxHeartbeats 1000000 in
theorem sorts_tt_b (mA mB : Nat) (sA sB : ByteArray) (w : World) (hA : mA < 4294967296) (hB : mB < 4294967296) (hs : sA.size + sB.size ≤ 1048576) (tA : isTree mA = true) (tB : isTree mB = true) (hab : sA.size < sB.size) :
    Calls Trym.prog 4 #[.int .u32 mA, .string sA, .int .u32 mB, .string sB] w fun e w' => e = .returned (.bool true) ∧ Grown w w' := by
  have KA : Hid (key mA sA = sA ++ ⟨#[47]⟩) := by show key mA sA = _; unfold key; rw [tA]; rfl
  have KB : Hid (key mB sB = sB ++ ⟨#[47]⟩) := by show key mB sB = _; unfold key; rw [tB]; rfl
  obtain ⟨ka, eka, bka⟩ : ∃ k : Nat, ((k : Int) == 16384) = true ∧ bits .and .u32 (mA : Int) 61440 = (k : Int) := ⟨_, kind_test mA true tA, u32_kind mA hA⟩
  obtain ⟨kb1, ekb, bkb⟩ : ∃ k : Nat, ((k : Int) == 16384) = true ∧ bits .and .u32 (mB : Int) 61440 = (k : Int) := ⟨_, kind_test mB true tB, u32_kind mB hB⟩
  have SA : Hid ((sA ++ ⟨#[47]⟩ : ByteArray).size ≤ 2097152) := by show (sA ++ ⟨#[47]⟩ : ByteArray).size ≤ 2097152; rw [ByteArray.size_append]; have : (⟨#[47]⟩ : ByteArray).size = 1 := rfl; omega
  have SB : Hid ((sB ++ ⟨#[47]⟩ : ByteArray).size ≤ 2097152) := by show (sB ++ ⟨#[47]⟩ : ByteArray).size ≤ 2097152; rw [ByteArray.size_append]; have : (⟨#[47]⟩ : ByteArray).size = 1 := rfl; omega
  clear tA tB
  go_enter Trym.func4, Trym.ntmps4
  go_wp2_with fail
  refine (bytes7 mA mB sA sB _ hs).mono ?_
  rintro e w' ⟨rfl, rfl⟩
  go_wp2_with fail
  refine (plain8 sA _ (by omega)).mono ?_
  rintro e w ⟨⟨b, rfl, hb⟩, rfl⟩
  cases b with
  | false =>
    go_wp2_with fail
    go_ret
    exact ⟨rfl, Grown.refl _⟩
  | true =>
  have PA : Hid (Plain sA) := hb rfl
  clear hb
  go_wp2_with fail
  refine (plain8 sB _ (by omega)).mono ?_
  rintro e w' ⟨⟨b, rfl, hb⟩, rfl⟩
  cases b with
  | false =>
    go_wp2_with fail
    go_ret
    exact ⟨rfl, Grown.refl _⟩
  | true =>
  have PB : Hid (Plain sB) := hb rfl
  clear hb
  go_wp2_with fail
  go_loopw [10, 11] (fun g i wr => ∃ k : Nat, k ≤ sB.size + 1 ∧ i = .int .i64 k ∧ g = .int .i64 0 ∧ Hid (Grown w' wr) ∧ Hid (∀ j, j < k → ob mA sA j = ob mB sB j)) (fun _ i _ => sB.size + 1 - (intOf i).toNat)
  case atStart => exact ⟨0, by omega, rfl, rfl, Grown.refl _, fun j hj => absurd hj (by omega)⟩
  case round =>
    obtain ⟨k, hk, rfl, rfl, hG, hall⟩ := hrel
    by_cases hlt : k ≤ sB.size
    · go_wp2_with fail
      refine (order6 mA sA k _ hA).mono ?_
      rintro e w1 ⟨rfl, g1⟩
      have G1 : Hid (Grown w' w1) := Grown.trans hG.out g1
      clear g1 hG
      go_wp2_with fail
      refine (order6 mB sB k _ hB).mono ?_
      rintro e w2 ⟨rfl, g2⟩
      have HG : Hid (Grown w' w2) := Grown.trans G1.out g2
      clear g2 G1
      by_cases he : ob mA sA k = ob mB sB k
      · have HN : Hid (∀ j, j < k + 1 → ob mA sA j = ob mB sB j) := by
          intro j hj
          by_cases e : j = k
          · subst e; exact he
          · exact hall.out j (by omega)
        have hne : (ob mA sA k != ob mB sB k) = false := by rw [bne_eq_false_iff_eq]; exact he
        clear he hall
        go_wp2_with fail
        go_roundw
        case rel => exact ⟨k + 1, by omega, by go_num, rfl, HG, HN⟩
        case measure => simp [intOf]; omega
      · have hne : (ob mA sA k != ob mB sB k) = true := by rw [bne_iff_ne]; exact he
        by_cases hl : ob mA sA k < ob mB sB k
        · have HO : Hid (Ord (ob mA sA) (ob mB sB) (-1)) := Or.inl ⟨k, hall.out, hl, rfl⟩
          clear he hall
          go_wp2_with fail
          have hcm := cmp9 _ _ w2 SA.out SB.out
          refine hcm.mono ?_
          clear hcm
          rintro e wc ⟨⟨c, rfl, hc⟩, mc, rfl⟩
          obtain rfl : c = -1 := by
            have := order_keys mA mB sA sB PA.out PB.out _ HO.out
            rw [KA.out, KB.out] at this
            exact hc.one this
          clear hc HO
          go_wp2_with fail
          go_ret
          exact ⟨rfl, Grown.drewN HG.out mc⟩
        · have HO : Hid (Ord (ob mA sA) (ob mB sB) 1) := Or.inr (Or.inl ⟨k, hall.out, by omega, rfl⟩)
          clear he hall
          go_wp2_with fail
          have hcm := cmp9 _ _ w2 SA.out SB.out
          refine hcm.mono ?_
          clear hcm
          rintro e wc ⟨⟨c, rfl, hc⟩, mc, rfl⟩
          obtain rfl : c = 1 := by
            have := order_keys mA mB sA sB PA.out PB.out _ HO.out
            rw [KA.out, KB.out] at this
            exact hc.one this
          clear hc HO
          go_wp2_with fail
          go_ret
          exact ⟨rfl, Grown.drewN HG.out mc⟩
    · have HO : Hid (Ord (ob mA sA) (ob mB sB) 0) := Or.inr (Or.inr ⟨ob_far mA mB sA sB sB.size (by omega) (by omega) (fun j hj => hall.out j (by omega)), rfl⟩)
      have HG : Hid (Grown w' wr) := hG
      clear hG hall
      go_wp2_with fail
      have hcm := cmp9 _ _ wr SA.out SB.out
      refine hcm.mono ?_
      clear hcm
      rintro e wc ⟨⟨c, rfl, hc⟩, mc, rfl⟩
      obtain rfl : c = 0 := by
        have := order_keys mA mB sA sB PA.out PB.out _ HO.out
        rw [KA.out, KB.out] at this
        exact hc.one this
      clear hc HO
      go_wp2_with fail
      go_ret
      exact ⟨rfl, Grown.drewN HG.out mc⟩

set_option maxRecDepth 100000 in
set_option maxHeartbeats 1000000 in
theorem sorts_tt_a (mA mB : Nat) (sA sB : ByteArray) (w : World) (hA : mA < 4294967296) (hB : mB < 4294967296) (hs : sA.size + sB.size ≤ 1048576) (tA : isTree mA = true) (tB : isTree mB = true) (hab : sB.size ≤ sA.size) :
    Calls Trym.prog 4 #[.int .u32 mA, .string sA, .int .u32 mB, .string sB] w fun e w' => e = .returned (.bool true) ∧ Grown w w' := by
  have KA : Hid (key mA sA = sA ++ ⟨#[47]⟩) := by show key mA sA = _; unfold key; rw [tA]; rfl
  have KB : Hid (key mB sB = sB ++ ⟨#[47]⟩) := by show key mB sB = _; unfold key; rw [tB]; rfl
  obtain ⟨ka, eka, bka⟩ : ∃ k : Nat, ((k : Int) == 16384) = true ∧ bits .and .u32 (mA : Int) 61440 = (k : Int) := ⟨_, kind_test mA true tA, u32_kind mA hA⟩
  obtain ⟨kb1, ekb, bkb⟩ : ∃ k : Nat, ((k : Int) == 16384) = true ∧ bits .and .u32 (mB : Int) 61440 = (k : Int) := ⟨_, kind_test mB true tB, u32_kind mB hB⟩
  have SA : Hid ((sA ++ ⟨#[47]⟩ : ByteArray).size ≤ 2097152) := by show (sA ++ ⟨#[47]⟩ : ByteArray).size ≤ 2097152; rw [ByteArray.size_append]; have : (⟨#[47]⟩ : ByteArray).size = 1 := rfl; omega
  have SB : Hid ((sB ++ ⟨#[47]⟩ : ByteArray).size ≤ 2097152) := by show (sB ++ ⟨#[47]⟩ : ByteArray).size ≤ 2097152; rw [ByteArray.size_append]; have : (⟨#[47]⟩ : ByteArray).size = 1 := rfl; omega
  clear tA tB
  have hd : decide ((sA.size : Int) < (sB.size : Int)) = false := decide_eq_false (by omega)
  have hd2 : decide (sA.size < sB.size) = false := decide_eq_false (by omega)
  go_enter Trym.func4, Trym.ntmps4
  go_wp2_with fail
  refine (bytes7 mA mB sA sB _ hs).mono ?_
  rintro e w' ⟨rfl, rfl⟩
  go_wp2_with fail
  refine (plain8 sA _ (by omega)).mono ?_
  rintro e w ⟨⟨b, rfl, hb⟩, rfl⟩
  cases b with
  | false =>
    go_wp2_with fail
    go_ret
    exact ⟨rfl, Grown.refl _⟩
  | true =>
  have PA : Hid (Plain sA) := hb rfl
  clear hb
  go_wp2_with fail
  refine (plain8 sB _ (by omega)).mono ?_
  rintro e w' ⟨⟨b, rfl, hb⟩, rfl⟩
  cases b with
  | false =>
    go_wp2_with fail
    go_ret
    exact ⟨rfl, Grown.refl _⟩
  | true =>
  have PB : Hid (Plain sB) := hb rfl
  clear hb
  go_wp2_with fail
  go_loopw [10, 11] (fun g i wr => ∃ k : Nat, k ≤ sA.size + 1 ∧ i = .int .i64 k ∧ g = .int .i64 0 ∧ Hid (Grown w' wr) ∧ Hid (∀ j, j < k → ob mA sA j = ob mB sB j)) (fun _ i _ => sA.size + 1 - (intOf i).toNat)
  case atStart => exact ⟨0, by omega, rfl, rfl, Grown.refl _, fun j hj => absurd hj (by omega)⟩
  case round =>
    obtain ⟨k, hk, rfl, rfl, hG, hall⟩ := hrel
    by_cases hlt : k ≤ sA.size
    · go_wp2_with fail
      refine (order6 mA sA k _ hA).mono ?_
      rintro e w1 ⟨rfl, g1⟩
      have G1 : Hid (Grown w' w1) := Grown.trans hG.out g1
      clear g1 hG
      go_wp2_with fail
      refine (order6 mB sB k _ hB).mono ?_
      rintro e w2 ⟨rfl, g2⟩
      have HG : Hid (Grown w' w2) := Grown.trans G1.out g2
      clear g2 G1
      by_cases he : ob mA sA k = ob mB sB k
      · have HN : Hid (∀ j, j < k + 1 → ob mA sA j = ob mB sB j) := by
          intro j hj
          by_cases e : j = k
          · subst e; exact he
          · exact hall.out j (by omega)
        have hne : (ob mA sA k != ob mB sB k) = false := by rw [bne_eq_false_iff_eq]; exact he
        clear he hall
        go_wp2_with fail
        go_roundw
        case rel => exact ⟨k + 1, by omega, by go_num, rfl, HG, HN⟩
        case measure => simp [intOf]; omega
      · have hne : (ob mA sA k != ob mB sB k) = true := by rw [bne_iff_ne]; exact he
        by_cases hl : ob mA sA k < ob mB sB k
        · have HO : Hid (Ord (ob mA sA) (ob mB sB) (-1)) := Or.inl ⟨k, hall.out, hl, rfl⟩
          clear he hall
          go_wp2_with fail
          have hcm := cmp9 _ _ w2 SA.out SB.out
          refine hcm.mono ?_
          clear hcm
          rintro e wc ⟨⟨c, rfl, hc⟩, mc, rfl⟩
          obtain rfl : c = -1 := by
            have := order_keys mA mB sA sB PA.out PB.out _ HO.out
            rw [KA.out, KB.out] at this
            exact hc.one this
          clear hc HO
          go_wp2_with fail
          go_ret
          exact ⟨rfl, Grown.drewN HG.out mc⟩
        · have HO : Hid (Ord (ob mA sA) (ob mB sB) 1) := Or.inr (Or.inl ⟨k, hall.out, by omega, rfl⟩)
          clear he hall
          go_wp2_with fail
          have hcm := cmp9 _ _ w2 SA.out SB.out
          refine hcm.mono ?_
          clear hcm
          rintro e wc ⟨⟨c, rfl, hc⟩, mc, rfl⟩
          obtain rfl : c = 1 := by
            have := order_keys mA mB sA sB PA.out PB.out _ HO.out
            rw [KA.out, KB.out] at this
            exact hc.one this
          clear hc HO
          go_wp2_with fail
          go_ret
          exact ⟨rfl, Grown.drewN HG.out mc⟩
    · have HO : Hid (Ord (ob mA sA) (ob mB sB) 0) := Or.inr (Or.inr ⟨ob_far mA mB sA sB sA.size (by omega) (by omega) (fun j hj => hall.out j (by omega)), rfl⟩)
      have HG : Hid (Grown w' wr) := hG
      clear hG hall
      go_wp2_with fail
      have hcm := cmp9 _ _ wr SA.out SB.out
      refine hcm.mono ?_
      clear hcm
      rintro e wc ⟨⟨c, rfl, hc⟩, mc, rfl⟩
      obtain rfl : c = 0 := by
        have := order_keys mA mB sA sB PA.out PB.out _ HO.out
        rw [KA.out, KB.out] at this
        exact hc.one this
      clear hc HO
      go_wp2_with fail
      go_ret
      exact ⟨rfl, Grown.drewN HG.out mc⟩

set_option maxRecDepth 100000 in
set_option maxHeartbeats 1000000 in
theorem sorts_to_b (mA mB : Nat) (sA sB : ByteArray) (w : World) (hA : mA < 4294967296) (hB : mB < 4294967296) (hs : sA.size + sB.size ≤ 1048576) (tA : isTree mA = true) (tB : isTree mB = false) (hab : sA.size < sB.size) :
    Calls Trym.prog 4 #[.int .u32 mA, .string sA, .int .u32 mB, .string sB] w fun e w' => e = .returned (.bool true) ∧ Grown w w' := by
  have KA : Hid (key mA sA = sA ++ ⟨#[47]⟩) := by show key mA sA = _; unfold key; rw [tA]; rfl
  have KB : Hid (key mB sB = sB) := by show key mB sB = _; unfold key; rw [tB]; rfl
  obtain ⟨ka, eka, bka⟩ : ∃ k : Nat, ((k : Int) == 16384) = true ∧ bits .and .u32 (mA : Int) 61440 = (k : Int) := ⟨_, kind_test mA true tA, u32_kind mA hA⟩
  obtain ⟨kb1, ekb, bkb⟩ : ∃ k : Nat, ((k : Int) == 16384) = false ∧ bits .and .u32 (mB : Int) 61440 = (k : Int) := ⟨_, kind_test mB false tB, u32_kind mB hB⟩
  have SA : Hid ((sA ++ ⟨#[47]⟩ : ByteArray).size ≤ 2097152) := by show (sA ++ ⟨#[47]⟩ : ByteArray).size ≤ 2097152; rw [ByteArray.size_append]; have : (⟨#[47]⟩ : ByteArray).size = 1 := rfl; omega
  have SB : Hid ((sB : ByteArray).size ≤ 2097152) := by show (sB : ByteArray).size ≤ 2097152; omega
  clear tA tB
  go_enter Trym.func4, Trym.ntmps4
  go_wp2_with fail
  refine (bytes7 mA mB sA sB _ hs).mono ?_
  rintro e w' ⟨rfl, rfl⟩
  go_wp2_with fail
  refine (plain8 sA _ (by omega)).mono ?_
  rintro e w ⟨⟨b, rfl, hb⟩, rfl⟩
  cases b with
  | false =>
    go_wp2_with fail
    go_ret
    exact ⟨rfl, Grown.refl _⟩
  | true =>
  have PA : Hid (Plain sA) := hb rfl
  clear hb
  go_wp2_with fail
  refine (plain8 sB _ (by omega)).mono ?_
  rintro e w' ⟨⟨b, rfl, hb⟩, rfl⟩
  cases b with
  | false =>
    go_wp2_with fail
    go_ret
    exact ⟨rfl, Grown.refl _⟩
  | true =>
  have PB : Hid (Plain sB) := hb rfl
  clear hb
  go_wp2_with fail
  go_loopw [10, 11] (fun g i wr => ∃ k : Nat, k ≤ sB.size + 1 ∧ i = .int .i64 k ∧ g = .int .i64 0 ∧ Hid (Grown w' wr) ∧ Hid (∀ j, j < k → ob mA sA j = ob mB sB j)) (fun _ i _ => sB.size + 1 - (intOf i).toNat)
  case atStart => exact ⟨0, by omega, rfl, rfl, Grown.refl _, fun j hj => absurd hj (by omega)⟩
  case round =>
    obtain ⟨k, hk, rfl, rfl, hG, hall⟩ := hrel
    by_cases hlt : k ≤ sB.size
    · go_wp2_with fail
      refine (order6 mA sA k _ hA).mono ?_
      rintro e w1 ⟨rfl, g1⟩
      have G1 : Hid (Grown w' w1) := Grown.trans hG.out g1
      clear g1 hG
      go_wp2_with fail
      refine (order6 mB sB k _ hB).mono ?_
      rintro e w2 ⟨rfl, g2⟩
      have HG : Hid (Grown w' w2) := Grown.trans G1.out g2
      clear g2 G1
      by_cases he : ob mA sA k = ob mB sB k
      · have HN : Hid (∀ j, j < k + 1 → ob mA sA j = ob mB sB j) := by
          intro j hj
          by_cases e : j = k
          · subst e; exact he
          · exact hall.out j (by omega)
        have hne : (ob mA sA k != ob mB sB k) = false := by rw [bne_eq_false_iff_eq]; exact he
        clear he hall
        go_wp2_with fail
        go_roundw
        case rel => exact ⟨k + 1, by omega, by go_num, rfl, HG, HN⟩
        case measure => simp [intOf]; omega
      · have hne : (ob mA sA k != ob mB sB k) = true := by rw [bne_iff_ne]; exact he
        by_cases hl : ob mA sA k < ob mB sB k
        · have HO : Hid (Ord (ob mA sA) (ob mB sB) (-1)) := Or.inl ⟨k, hall.out, hl, rfl⟩
          clear he hall
          go_wp2_with fail
          have hcm := cmp9 _ _ w2 SA.out SB.out
          refine hcm.mono ?_
          clear hcm
          rintro e wc ⟨⟨c, rfl, hc⟩, mc, rfl⟩
          obtain rfl : c = -1 := by
            have := order_keys mA mB sA sB PA.out PB.out _ HO.out
            rw [KA.out, KB.out] at this
            exact hc.one this
          clear hc HO
          go_wp2_with fail
          go_ret
          exact ⟨rfl, Grown.drewN HG.out mc⟩
        · have HO : Hid (Ord (ob mA sA) (ob mB sB) 1) := Or.inr (Or.inl ⟨k, hall.out, by omega, rfl⟩)
          clear he hall
          go_wp2_with fail
          have hcm := cmp9 _ _ w2 SA.out SB.out
          refine hcm.mono ?_
          clear hcm
          rintro e wc ⟨⟨c, rfl, hc⟩, mc, rfl⟩
          obtain rfl : c = 1 := by
            have := order_keys mA mB sA sB PA.out PB.out _ HO.out
            rw [KA.out, KB.out] at this
            exact hc.one this
          clear hc HO
          go_wp2_with fail
          go_ret
          exact ⟨rfl, Grown.drewN HG.out mc⟩
    · have HO : Hid (Ord (ob mA sA) (ob mB sB) 0) := Or.inr (Or.inr ⟨ob_far mA mB sA sB sB.size (by omega) (by omega) (fun j hj => hall.out j (by omega)), rfl⟩)
      have HG : Hid (Grown w' wr) := hG
      clear hG hall
      go_wp2_with fail
      have hcm := cmp9 _ _ wr SA.out SB.out
      refine hcm.mono ?_
      clear hcm
      rintro e wc ⟨⟨c, rfl, hc⟩, mc, rfl⟩
      obtain rfl : c = 0 := by
        have := order_keys mA mB sA sB PA.out PB.out _ HO.out
        rw [KA.out, KB.out] at this
        exact hc.one this
      clear hc HO
      go_wp2_with fail
      go_ret
      exact ⟨rfl, Grown.drewN HG.out mc⟩

set_option maxRecDepth 100000 in
set_option maxHeartbeats 1000000 in
theorem sorts_to_a (mA mB : Nat) (sA sB : ByteArray) (w : World) (hA : mA < 4294967296) (hB : mB < 4294967296) (hs : sA.size + sB.size ≤ 1048576) (tA : isTree mA = true) (tB : isTree mB = false) (hab : sB.size ≤ sA.size) :
    Calls Trym.prog 4 #[.int .u32 mA, .string sA, .int .u32 mB, .string sB] w fun e w' => e = .returned (.bool true) ∧ Grown w w' := by
  have KA : Hid (key mA sA = sA ++ ⟨#[47]⟩) := by show key mA sA = _; unfold key; rw [tA]; rfl
  have KB : Hid (key mB sB = sB) := by show key mB sB = _; unfold key; rw [tB]; rfl
  obtain ⟨ka, eka, bka⟩ : ∃ k : Nat, ((k : Int) == 16384) = true ∧ bits .and .u32 (mA : Int) 61440 = (k : Int) := ⟨_, kind_test mA true tA, u32_kind mA hA⟩
  obtain ⟨kb1, ekb, bkb⟩ : ∃ k : Nat, ((k : Int) == 16384) = false ∧ bits .and .u32 (mB : Int) 61440 = (k : Int) := ⟨_, kind_test mB false tB, u32_kind mB hB⟩
  have SA : Hid ((sA ++ ⟨#[47]⟩ : ByteArray).size ≤ 2097152) := by show (sA ++ ⟨#[47]⟩ : ByteArray).size ≤ 2097152; rw [ByteArray.size_append]; have : (⟨#[47]⟩ : ByteArray).size = 1 := rfl; omega
  have SB : Hid ((sB : ByteArray).size ≤ 2097152) := by show (sB : ByteArray).size ≤ 2097152; omega
  clear tA tB
  have hd : decide ((sA.size : Int) < (sB.size : Int)) = false := decide_eq_false (by omega)
  have hd2 : decide (sA.size < sB.size) = false := decide_eq_false (by omega)
  go_enter Trym.func4, Trym.ntmps4
  go_wp2_with fail
  refine (bytes7 mA mB sA sB _ hs).mono ?_
  rintro e w' ⟨rfl, rfl⟩
  go_wp2_with fail
  refine (plain8 sA _ (by omega)).mono ?_
  rintro e w ⟨⟨b, rfl, hb⟩, rfl⟩
  cases b with
  | false =>
    go_wp2_with fail
    go_ret
    exact ⟨rfl, Grown.refl _⟩
  | true =>
  have PA : Hid (Plain sA) := hb rfl
  clear hb
  go_wp2_with fail
  refine (plain8 sB _ (by omega)).mono ?_
  rintro e w' ⟨⟨b, rfl, hb⟩, rfl⟩
  cases b with
  | false =>
    go_wp2_with fail
    go_ret
    exact ⟨rfl, Grown.refl _⟩
  | true =>
  have PB : Hid (Plain sB) := hb rfl
  clear hb
  go_wp2_with fail
  go_loopw [10, 11] (fun g i wr => ∃ k : Nat, k ≤ sA.size + 1 ∧ i = .int .i64 k ∧ g = .int .i64 0 ∧ Hid (Grown w' wr) ∧ Hid (∀ j, j < k → ob mA sA j = ob mB sB j)) (fun _ i _ => sA.size + 1 - (intOf i).toNat)
  case atStart => exact ⟨0, by omega, rfl, rfl, Grown.refl _, fun j hj => absurd hj (by omega)⟩
  case round =>
    obtain ⟨k, hk, rfl, rfl, hG, hall⟩ := hrel
    by_cases hlt : k ≤ sA.size
    · go_wp2_with fail
      refine (order6 mA sA k _ hA).mono ?_
      rintro e w1 ⟨rfl, g1⟩
      have G1 : Hid (Grown w' w1) := Grown.trans hG.out g1
      clear g1 hG
      go_wp2_with fail
      refine (order6 mB sB k _ hB).mono ?_
      rintro e w2 ⟨rfl, g2⟩
      have HG : Hid (Grown w' w2) := Grown.trans G1.out g2
      clear g2 G1
      by_cases he : ob mA sA k = ob mB sB k
      · have HN : Hid (∀ j, j < k + 1 → ob mA sA j = ob mB sB j) := by
          intro j hj
          by_cases e : j = k
          · subst e; exact he
          · exact hall.out j (by omega)
        have hne : (ob mA sA k != ob mB sB k) = false := by rw [bne_eq_false_iff_eq]; exact he
        clear he hall
        go_wp2_with fail
        go_roundw
        case rel => exact ⟨k + 1, by omega, by go_num, rfl, HG, HN⟩
        case measure => simp [intOf]; omega
      · have hne : (ob mA sA k != ob mB sB k) = true := by rw [bne_iff_ne]; exact he
        by_cases hl : ob mA sA k < ob mB sB k
        · have HO : Hid (Ord (ob mA sA) (ob mB sB) (-1)) := Or.inl ⟨k, hall.out, hl, rfl⟩
          clear he hall
          go_wp2_with fail
          have hcm := cmp9 _ _ w2 SA.out SB.out
          refine hcm.mono ?_
          clear hcm
          rintro e wc ⟨⟨c, rfl, hc⟩, mc, rfl⟩
          obtain rfl : c = -1 := by
            have := order_keys mA mB sA sB PA.out PB.out _ HO.out
            rw [KA.out, KB.out] at this
            exact hc.one this
          clear hc HO
          go_wp2_with fail
          go_ret
          exact ⟨rfl, Grown.drewN HG.out mc⟩
        · have HO : Hid (Ord (ob mA sA) (ob mB sB) 1) := Or.inr (Or.inl ⟨k, hall.out, by omega, rfl⟩)
          clear he hall
          go_wp2_with fail
          have hcm := cmp9 _ _ w2 SA.out SB.out
          refine hcm.mono ?_
          clear hcm
          rintro e wc ⟨⟨c, rfl, hc⟩, mc, rfl⟩
          obtain rfl : c = 1 := by
            have := order_keys mA mB sA sB PA.out PB.out _ HO.out
            rw [KA.out, KB.out] at this
            exact hc.one this
          clear hc HO
          go_wp2_with fail
          go_ret
          exact ⟨rfl, Grown.drewN HG.out mc⟩
    · have HO : Hid (Ord (ob mA sA) (ob mB sB) 0) := Or.inr (Or.inr ⟨ob_far mA mB sA sB sA.size (by omega) (by omega) (fun j hj => hall.out j (by omega)), rfl⟩)
      have HG : Hid (Grown w' wr) := hG
      clear hG hall
      go_wp2_with fail
      have hcm := cmp9 _ _ wr SA.out SB.out
      refine hcm.mono ?_
      clear hcm
      rintro e wc ⟨⟨c, rfl, hc⟩, mc, rfl⟩
      obtain rfl : c = 0 := by
        have := order_keys mA mB sA sB PA.out PB.out _ HO.out
        rw [KA.out, KB.out] at this
        exact hc.one this
      clear hc HO
      go_wp2_with fail
      go_ret
      exact ⟨rfl, Grown.drewN HG.out mc⟩

set_option maxRecDepth 100000 in
set_option maxHeartbeats 1000000 in
theorem sorts_ot_b (mA mB : Nat) (sA sB : ByteArray) (w : World) (hA : mA < 4294967296) (hB : mB < 4294967296) (hs : sA.size + sB.size ≤ 1048576) (tA : isTree mA = false) (tB : isTree mB = true) (hab : sA.size < sB.size) :
    Calls Trym.prog 4 #[.int .u32 mA, .string sA, .int .u32 mB, .string sB] w fun e w' => e = .returned (.bool true) ∧ Grown w w' := by
  have KA : Hid (key mA sA = sA) := by show key mA sA = _; unfold key; rw [tA]; rfl
  have KB : Hid (key mB sB = sB ++ ⟨#[47]⟩) := by show key mB sB = _; unfold key; rw [tB]; rfl
  obtain ⟨ka, eka, bka⟩ : ∃ k : Nat, ((k : Int) == 16384) = false ∧ bits .and .u32 (mA : Int) 61440 = (k : Int) := ⟨_, kind_test mA false tA, u32_kind mA hA⟩
  obtain ⟨kb1, ekb, bkb⟩ : ∃ k : Nat, ((k : Int) == 16384) = true ∧ bits .and .u32 (mB : Int) 61440 = (k : Int) := ⟨_, kind_test mB true tB, u32_kind mB hB⟩
  have SA : Hid ((sA : ByteArray).size ≤ 2097152) := by show (sA : ByteArray).size ≤ 2097152; omega
  have SB : Hid ((sB ++ ⟨#[47]⟩ : ByteArray).size ≤ 2097152) := by show (sB ++ ⟨#[47]⟩ : ByteArray).size ≤ 2097152; rw [ByteArray.size_append]; have : (⟨#[47]⟩ : ByteArray).size = 1 := rfl; omega
  clear tA tB
  go_enter Trym.func4, Trym.ntmps4
  go_wp2_with fail
  refine (bytes7 mA mB sA sB _ hs).mono ?_
  rintro e w' ⟨rfl, rfl⟩
  go_wp2_with fail
  refine (plain8 sA _ (by omega)).mono ?_
  rintro e w ⟨⟨b, rfl, hb⟩, rfl⟩
  cases b with
  | false =>
    go_wp2_with fail
    go_ret
    exact ⟨rfl, Grown.refl _⟩
  | true =>
  have PA : Hid (Plain sA) := hb rfl
  clear hb
  go_wp2_with fail
  refine (plain8 sB _ (by omega)).mono ?_
  rintro e w' ⟨⟨b, rfl, hb⟩, rfl⟩
  cases b with
  | false =>
    go_wp2_with fail
    go_ret
    exact ⟨rfl, Grown.refl _⟩
  | true =>
  have PB : Hid (Plain sB) := hb rfl
  clear hb
  go_wp2_with fail
  go_loopw [10, 11] (fun g i wr => ∃ k : Nat, k ≤ sB.size + 1 ∧ i = .int .i64 k ∧ g = .int .i64 0 ∧ Hid (Grown w' wr) ∧ Hid (∀ j, j < k → ob mA sA j = ob mB sB j)) (fun _ i _ => sB.size + 1 - (intOf i).toNat)
  case atStart => exact ⟨0, by omega, rfl, rfl, Grown.refl _, fun j hj => absurd hj (by omega)⟩
  case round =>
    obtain ⟨k, hk, rfl, rfl, hG, hall⟩ := hrel
    by_cases hlt : k ≤ sB.size
    · go_wp2_with fail
      refine (order6 mA sA k _ hA).mono ?_
      rintro e w1 ⟨rfl, g1⟩
      have G1 : Hid (Grown w' w1) := Grown.trans hG.out g1
      clear g1 hG
      go_wp2_with fail
      refine (order6 mB sB k _ hB).mono ?_
      rintro e w2 ⟨rfl, g2⟩
      have HG : Hid (Grown w' w2) := Grown.trans G1.out g2
      clear g2 G1
      by_cases he : ob mA sA k = ob mB sB k
      · have HN : Hid (∀ j, j < k + 1 → ob mA sA j = ob mB sB j) := by
          intro j hj
          by_cases e : j = k
          · subst e; exact he
          · exact hall.out j (by omega)
        have hne : (ob mA sA k != ob mB sB k) = false := by rw [bne_eq_false_iff_eq]; exact he
        clear he hall
        go_wp2_with fail
        go_roundw
        case rel => exact ⟨k + 1, by omega, by go_num, rfl, HG, HN⟩
        case measure => simp [intOf]; omega
      · have hne : (ob mA sA k != ob mB sB k) = true := by rw [bne_iff_ne]; exact he
        by_cases hl : ob mA sA k < ob mB sB k
        · have HO : Hid (Ord (ob mA sA) (ob mB sB) (-1)) := Or.inl ⟨k, hall.out, hl, rfl⟩
          clear he hall
          go_wp2_with fail
          have hcm := cmp9 _ _ w2 SA.out SB.out
          refine hcm.mono ?_
          clear hcm
          rintro e wc ⟨⟨c, rfl, hc⟩, mc, rfl⟩
          obtain rfl : c = -1 := by
            have := order_keys mA mB sA sB PA.out PB.out _ HO.out
            rw [KA.out, KB.out] at this
            exact hc.one this
          clear hc HO
          go_wp2_with fail
          go_ret
          exact ⟨rfl, Grown.drewN HG.out mc⟩
        · have HO : Hid (Ord (ob mA sA) (ob mB sB) 1) := Or.inr (Or.inl ⟨k, hall.out, by omega, rfl⟩)
          clear he hall
          go_wp2_with fail
          have hcm := cmp9 _ _ w2 SA.out SB.out
          refine hcm.mono ?_
          clear hcm
          rintro e wc ⟨⟨c, rfl, hc⟩, mc, rfl⟩
          obtain rfl : c = 1 := by
            have := order_keys mA mB sA sB PA.out PB.out _ HO.out
            rw [KA.out, KB.out] at this
            exact hc.one this
          clear hc HO
          go_wp2_with fail
          go_ret
          exact ⟨rfl, Grown.drewN HG.out mc⟩
    · have HO : Hid (Ord (ob mA sA) (ob mB sB) 0) := Or.inr (Or.inr ⟨ob_far mA mB sA sB sB.size (by omega) (by omega) (fun j hj => hall.out j (by omega)), rfl⟩)
      have HG : Hid (Grown w' wr) := hG
      clear hG hall
      go_wp2_with fail
      have hcm := cmp9 _ _ wr SA.out SB.out
      refine hcm.mono ?_
      clear hcm
      rintro e wc ⟨⟨c, rfl, hc⟩, mc, rfl⟩
      obtain rfl : c = 0 := by
        have := order_keys mA mB sA sB PA.out PB.out _ HO.out
        rw [KA.out, KB.out] at this
        exact hc.one this
      clear hc HO
      go_wp2_with fail
      go_ret
      exact ⟨rfl, Grown.drewN HG.out mc⟩

set_option maxRecDepth 100000 in
set_option maxHeartbeats 1000000 in
theorem sorts_ot_a (mA mB : Nat) (sA sB : ByteArray) (w : World) (hA : mA < 4294967296) (hB : mB < 4294967296) (hs : sA.size + sB.size ≤ 1048576) (tA : isTree mA = false) (tB : isTree mB = true) (hab : sB.size ≤ sA.size) :
    Calls Trym.prog 4 #[.int .u32 mA, .string sA, .int .u32 mB, .string sB] w fun e w' => e = .returned (.bool true) ∧ Grown w w' := by
  have KA : Hid (key mA sA = sA) := by show key mA sA = _; unfold key; rw [tA]; rfl
  have KB : Hid (key mB sB = sB ++ ⟨#[47]⟩) := by show key mB sB = _; unfold key; rw [tB]; rfl
  obtain ⟨ka, eka, bka⟩ : ∃ k : Nat, ((k : Int) == 16384) = false ∧ bits .and .u32 (mA : Int) 61440 = (k : Int) := ⟨_, kind_test mA false tA, u32_kind mA hA⟩
  obtain ⟨kb1, ekb, bkb⟩ : ∃ k : Nat, ((k : Int) == 16384) = true ∧ bits .and .u32 (mB : Int) 61440 = (k : Int) := ⟨_, kind_test mB true tB, u32_kind mB hB⟩
  have SA : Hid ((sA : ByteArray).size ≤ 2097152) := by show (sA : ByteArray).size ≤ 2097152; omega
  have SB : Hid ((sB ++ ⟨#[47]⟩ : ByteArray).size ≤ 2097152) := by show (sB ++ ⟨#[47]⟩ : ByteArray).size ≤ 2097152; rw [ByteArray.size_append]; have : (⟨#[47]⟩ : ByteArray).size = 1 := rfl; omega
  clear tA tB
  have hd : decide ((sA.size : Int) < (sB.size : Int)) = false := decide_eq_false (by omega)
  have hd2 : decide (sA.size < sB.size) = false := decide_eq_false (by omega)
  go_enter Trym.func4, Trym.ntmps4
  go_wp2_with fail
  refine (bytes7 mA mB sA sB _ hs).mono ?_
  rintro e w' ⟨rfl, rfl⟩
  go_wp2_with fail
  refine (plain8 sA _ (by omega)).mono ?_
  rintro e w ⟨⟨b, rfl, hb⟩, rfl⟩
  cases b with
  | false =>
    go_wp2_with fail
    go_ret
    exact ⟨rfl, Grown.refl _⟩
  | true =>
  have PA : Hid (Plain sA) := hb rfl
  clear hb
  go_wp2_with fail
  refine (plain8 sB _ (by omega)).mono ?_
  rintro e w' ⟨⟨b, rfl, hb⟩, rfl⟩
  cases b with
  | false =>
    go_wp2_with fail
    go_ret
    exact ⟨rfl, Grown.refl _⟩
  | true =>
  have PB : Hid (Plain sB) := hb rfl
  clear hb
  go_wp2_with fail
  go_loopw [10, 11] (fun g i wr => ∃ k : Nat, k ≤ sA.size + 1 ∧ i = .int .i64 k ∧ g = .int .i64 0 ∧ Hid (Grown w' wr) ∧ Hid (∀ j, j < k → ob mA sA j = ob mB sB j)) (fun _ i _ => sA.size + 1 - (intOf i).toNat)
  case atStart => exact ⟨0, by omega, rfl, rfl, Grown.refl _, fun j hj => absurd hj (by omega)⟩
  case round =>
    obtain ⟨k, hk, rfl, rfl, hG, hall⟩ := hrel
    by_cases hlt : k ≤ sA.size
    · go_wp2_with fail
      refine (order6 mA sA k _ hA).mono ?_
      rintro e w1 ⟨rfl, g1⟩
      have G1 : Hid (Grown w' w1) := Grown.trans hG.out g1
      clear g1 hG
      go_wp2_with fail
      refine (order6 mB sB k _ hB).mono ?_
      rintro e w2 ⟨rfl, g2⟩
      have HG : Hid (Grown w' w2) := Grown.trans G1.out g2
      clear g2 G1
      by_cases he : ob mA sA k = ob mB sB k
      · have HN : Hid (∀ j, j < k + 1 → ob mA sA j = ob mB sB j) := by
          intro j hj
          by_cases e : j = k
          · subst e; exact he
          · exact hall.out j (by omega)
        have hne : (ob mA sA k != ob mB sB k) = false := by rw [bne_eq_false_iff_eq]; exact he
        clear he hall
        go_wp2_with fail
        go_roundw
        case rel => exact ⟨k + 1, by omega, by go_num, rfl, HG, HN⟩
        case measure => simp [intOf]; omega
      · have hne : (ob mA sA k != ob mB sB k) = true := by rw [bne_iff_ne]; exact he
        by_cases hl : ob mA sA k < ob mB sB k
        · have HO : Hid (Ord (ob mA sA) (ob mB sB) (-1)) := Or.inl ⟨k, hall.out, hl, rfl⟩
          clear he hall
          go_wp2_with fail
          have hcm := cmp9 _ _ w2 SA.out SB.out
          refine hcm.mono ?_
          clear hcm
          rintro e wc ⟨⟨c, rfl, hc⟩, mc, rfl⟩
          obtain rfl : c = -1 := by
            have := order_keys mA mB sA sB PA.out PB.out _ HO.out
            rw [KA.out, KB.out] at this
            exact hc.one this
          clear hc HO
          go_wp2_with fail
          go_ret
          exact ⟨rfl, Grown.drewN HG.out mc⟩
        · have HO : Hid (Ord (ob mA sA) (ob mB sB) 1) := Or.inr (Or.inl ⟨k, hall.out, by omega, rfl⟩)
          clear he hall
          go_wp2_with fail
          have hcm := cmp9 _ _ w2 SA.out SB.out
          refine hcm.mono ?_
          clear hcm
          rintro e wc ⟨⟨c, rfl, hc⟩, mc, rfl⟩
          obtain rfl : c = 1 := by
            have := order_keys mA mB sA sB PA.out PB.out _ HO.out
            rw [KA.out, KB.out] at this
            exact hc.one this
          clear hc HO
          go_wp2_with fail
          go_ret
          exact ⟨rfl, Grown.drewN HG.out mc⟩
    · have HO : Hid (Ord (ob mA sA) (ob mB sB) 0) := Or.inr (Or.inr ⟨ob_far mA mB sA sB sA.size (by omega) (by omega) (fun j hj => hall.out j (by omega)), rfl⟩)
      have HG : Hid (Grown w' wr) := hG
      clear hG hall
      go_wp2_with fail
      have hcm := cmp9 _ _ wr SA.out SB.out
      refine hcm.mono ?_
      clear hcm
      rintro e wc ⟨⟨c, rfl, hc⟩, mc, rfl⟩
      obtain rfl : c = 0 := by
        have := order_keys mA mB sA sB PA.out PB.out _ HO.out
        rw [KA.out, KB.out] at this
        exact hc.one this
      clear hc HO
      go_wp2_with fail
      go_ret
      exact ⟨rfl, Grown.drewN HG.out mc⟩

set_option maxRecDepth 100000 in
set_option maxHeartbeats 1000000 in
theorem sorts_oo_b (mA mB : Nat) (sA sB : ByteArray) (w : World) (hA : mA < 4294967296) (hB : mB < 4294967296) (hs : sA.size + sB.size ≤ 1048576) (tA : isTree mA = false) (tB : isTree mB = false) (hab : sA.size < sB.size) :
    Calls Trym.prog 4 #[.int .u32 mA, .string sA, .int .u32 mB, .string sB] w fun e w' => e = .returned (.bool true) ∧ Grown w w' := by
  have KA : Hid (key mA sA = sA) := by show key mA sA = _; unfold key; rw [tA]; rfl
  have KB : Hid (key mB sB = sB) := by show key mB sB = _; unfold key; rw [tB]; rfl
  obtain ⟨ka, eka, bka⟩ : ∃ k : Nat, ((k : Int) == 16384) = false ∧ bits .and .u32 (mA : Int) 61440 = (k : Int) := ⟨_, kind_test mA false tA, u32_kind mA hA⟩
  obtain ⟨kb1, ekb, bkb⟩ : ∃ k : Nat, ((k : Int) == 16384) = false ∧ bits .and .u32 (mB : Int) 61440 = (k : Int) := ⟨_, kind_test mB false tB, u32_kind mB hB⟩
  have SA : Hid ((sA : ByteArray).size ≤ 2097152) := by show (sA : ByteArray).size ≤ 2097152; omega
  have SB : Hid ((sB : ByteArray).size ≤ 2097152) := by show (sB : ByteArray).size ≤ 2097152; omega
  clear tA tB
  go_enter Trym.func4, Trym.ntmps4
  go_wp2_with fail
  refine (bytes7 mA mB sA sB _ hs).mono ?_
  rintro e w' ⟨rfl, rfl⟩
  go_wp2_with fail
  refine (plain8 sA _ (by omega)).mono ?_
  rintro e w ⟨⟨b, rfl, hb⟩, rfl⟩
  cases b with
  | false =>
    go_wp2_with fail
    go_ret
    exact ⟨rfl, Grown.refl _⟩
  | true =>
  have PA : Hid (Plain sA) := hb rfl
  clear hb
  go_wp2_with fail
  refine (plain8 sB _ (by omega)).mono ?_
  rintro e w' ⟨⟨b, rfl, hb⟩, rfl⟩
  cases b with
  | false =>
    go_wp2_with fail
    go_ret
    exact ⟨rfl, Grown.refl _⟩
  | true =>
  have PB : Hid (Plain sB) := hb rfl
  clear hb
  go_wp2_with fail
  go_loopw [10, 11] (fun g i wr => ∃ k : Nat, k ≤ sB.size + 1 ∧ i = .int .i64 k ∧ g = .int .i64 0 ∧ Hid (Grown w' wr) ∧ Hid (∀ j, j < k → ob mA sA j = ob mB sB j)) (fun _ i _ => sB.size + 1 - (intOf i).toNat)
  case atStart => exact ⟨0, by omega, rfl, rfl, Grown.refl _, fun j hj => absurd hj (by omega)⟩
  case round =>
    obtain ⟨k, hk, rfl, rfl, hG, hall⟩ := hrel
    by_cases hlt : k ≤ sB.size
    · go_wp2_with fail
      refine (order6 mA sA k _ hA).mono ?_
      rintro e w1 ⟨rfl, g1⟩
      have G1 : Hid (Grown w' w1) := Grown.trans hG.out g1
      clear g1 hG
      go_wp2_with fail
      refine (order6 mB sB k _ hB).mono ?_
      rintro e w2 ⟨rfl, g2⟩
      have HG : Hid (Grown w' w2) := Grown.trans G1.out g2
      clear g2 G1
      by_cases he : ob mA sA k = ob mB sB k
      · have HN : Hid (∀ j, j < k + 1 → ob mA sA j = ob mB sB j) := by
          intro j hj
          by_cases e : j = k
          · subst e; exact he
          · exact hall.out j (by omega)
        have hne : (ob mA sA k != ob mB sB k) = false := by rw [bne_eq_false_iff_eq]; exact he
        clear he hall
        go_wp2_with fail
        go_roundw
        case rel => exact ⟨k + 1, by omega, by go_num, rfl, HG, HN⟩
        case measure => simp [intOf]; omega
      · have hne : (ob mA sA k != ob mB sB k) = true := by rw [bne_iff_ne]; exact he
        by_cases hl : ob mA sA k < ob mB sB k
        · have HO : Hid (Ord (ob mA sA) (ob mB sB) (-1)) := Or.inl ⟨k, hall.out, hl, rfl⟩
          clear he hall
          go_wp2_with fail
          have hcm := cmp9 _ _ w2 SA.out SB.out
          refine hcm.mono ?_
          clear hcm
          rintro e wc ⟨⟨c, rfl, hc⟩, mc, rfl⟩
          obtain rfl : c = -1 := by
            have := order_keys mA mB sA sB PA.out PB.out _ HO.out
            rw [KA.out, KB.out] at this
            exact hc.one this
          clear hc HO
          go_wp2_with fail
          go_ret
          exact ⟨rfl, Grown.drewN HG.out mc⟩
        · have HO : Hid (Ord (ob mA sA) (ob mB sB) 1) := Or.inr (Or.inl ⟨k, hall.out, by omega, rfl⟩)
          clear he hall
          go_wp2_with fail
          have hcm := cmp9 _ _ w2 SA.out SB.out
          refine hcm.mono ?_
          clear hcm
          rintro e wc ⟨⟨c, rfl, hc⟩, mc, rfl⟩
          obtain rfl : c = 1 := by
            have := order_keys mA mB sA sB PA.out PB.out _ HO.out
            rw [KA.out, KB.out] at this
            exact hc.one this
          clear hc HO
          go_wp2_with fail
          go_ret
          exact ⟨rfl, Grown.drewN HG.out mc⟩
    · have HO : Hid (Ord (ob mA sA) (ob mB sB) 0) := Or.inr (Or.inr ⟨ob_far mA mB sA sB sB.size (by omega) (by omega) (fun j hj => hall.out j (by omega)), rfl⟩)
      have HG : Hid (Grown w' wr) := hG
      clear hG hall
      go_wp2_with fail
      have hcm := cmp9 _ _ wr SA.out SB.out
      refine hcm.mono ?_
      clear hcm
      rintro e wc ⟨⟨c, rfl, hc⟩, mc, rfl⟩
      obtain rfl : c = 0 := by
        have := order_keys mA mB sA sB PA.out PB.out _ HO.out
        rw [KA.out, KB.out] at this
        exact hc.one this
      clear hc HO
      go_wp2_with fail
      go_ret
      exact ⟨rfl, Grown.drewN HG.out mc⟩

set_option maxRecDepth 100000 in
set_option maxHeartbeats 1000000 in
theorem sorts_oo_a (mA mB : Nat) (sA sB : ByteArray) (w : World) (hA : mA < 4294967296) (hB : mB < 4294967296) (hs : sA.size + sB.size ≤ 1048576) (tA : isTree mA = false) (tB : isTree mB = false) (hab : sB.size ≤ sA.size) :
    Calls Trym.prog 4 #[.int .u32 mA, .string sA, .int .u32 mB, .string sB] w fun e w' => e = .returned (.bool true) ∧ Grown w w' := by
  have KA : Hid (key mA sA = sA) := by show key mA sA = _; unfold key; rw [tA]; rfl
  have KB : Hid (key mB sB = sB) := by show key mB sB = _; unfold key; rw [tB]; rfl
  obtain ⟨ka, eka, bka⟩ : ∃ k : Nat, ((k : Int) == 16384) = false ∧ bits .and .u32 (mA : Int) 61440 = (k : Int) := ⟨_, kind_test mA false tA, u32_kind mA hA⟩
  obtain ⟨kb1, ekb, bkb⟩ : ∃ k : Nat, ((k : Int) == 16384) = false ∧ bits .and .u32 (mB : Int) 61440 = (k : Int) := ⟨_, kind_test mB false tB, u32_kind mB hB⟩
  have SA : Hid ((sA : ByteArray).size ≤ 2097152) := by show (sA : ByteArray).size ≤ 2097152; omega
  have SB : Hid ((sB : ByteArray).size ≤ 2097152) := by show (sB : ByteArray).size ≤ 2097152; omega
  clear tA tB
  have hd : decide ((sA.size : Int) < (sB.size : Int)) = false := decide_eq_false (by omega)
  have hd2 : decide (sA.size < sB.size) = false := decide_eq_false (by omega)
  go_enter Trym.func4, Trym.ntmps4
  go_wp2_with fail
  refine (bytes7 mA mB sA sB _ hs).mono ?_
  rintro e w' ⟨rfl, rfl⟩
  go_wp2_with fail
  refine (plain8 sA _ (by omega)).mono ?_
  rintro e w ⟨⟨b, rfl, hb⟩, rfl⟩
  cases b with
  | false =>
    go_wp2_with fail
    go_ret
    exact ⟨rfl, Grown.refl _⟩
  | true =>
  have PA : Hid (Plain sA) := hb rfl
  clear hb
  go_wp2_with fail
  refine (plain8 sB _ (by omega)).mono ?_
  rintro e w' ⟨⟨b, rfl, hb⟩, rfl⟩
  cases b with
  | false =>
    go_wp2_with fail
    go_ret
    exact ⟨rfl, Grown.refl _⟩
  | true =>
  have PB : Hid (Plain sB) := hb rfl
  clear hb
  go_wp2_with fail
  go_loopw [10, 11] (fun g i wr => ∃ k : Nat, k ≤ sA.size + 1 ∧ i = .int .i64 k ∧ g = .int .i64 0 ∧ Hid (Grown w' wr) ∧ Hid (∀ j, j < k → ob mA sA j = ob mB sB j)) (fun _ i _ => sA.size + 1 - (intOf i).toNat)
  case atStart => exact ⟨0, by omega, rfl, rfl, Grown.refl _, fun j hj => absurd hj (by omega)⟩
  case round =>
    obtain ⟨k, hk, rfl, rfl, hG, hall⟩ := hrel
    by_cases hlt : k ≤ sA.size
    · go_wp2_with fail
      refine (order6 mA sA k _ hA).mono ?_
      rintro e w1 ⟨rfl, g1⟩
      have G1 : Hid (Grown w' w1) := Grown.trans hG.out g1
      clear g1 hG
      go_wp2_with fail
      refine (order6 mB sB k _ hB).mono ?_
      rintro e w2 ⟨rfl, g2⟩
      have HG : Hid (Grown w' w2) := Grown.trans G1.out g2
      clear g2 G1
      by_cases he : ob mA sA k = ob mB sB k
      · have HN : Hid (∀ j, j < k + 1 → ob mA sA j = ob mB sB j) := by
          intro j hj
          by_cases e : j = k
          · subst e; exact he
          · exact hall.out j (by omega)
        have hne : (ob mA sA k != ob mB sB k) = false := by rw [bne_eq_false_iff_eq]; exact he
        clear he hall
        go_wp2_with fail
        go_roundw
        case rel => exact ⟨k + 1, by omega, by go_num, rfl, HG, HN⟩
        case measure => simp [intOf]; omega
      · have hne : (ob mA sA k != ob mB sB k) = true := by rw [bne_iff_ne]; exact he
        by_cases hl : ob mA sA k < ob mB sB k
        · have HO : Hid (Ord (ob mA sA) (ob mB sB) (-1)) := Or.inl ⟨k, hall.out, hl, rfl⟩
          clear he hall
          go_wp2_with fail
          have hcm := cmp9 _ _ w2 SA.out SB.out
          refine hcm.mono ?_
          clear hcm
          rintro e wc ⟨⟨c, rfl, hc⟩, mc, rfl⟩
          obtain rfl : c = -1 := by
            have := order_keys mA mB sA sB PA.out PB.out _ HO.out
            rw [KA.out, KB.out] at this
            exact hc.one this
          clear hc HO
          go_wp2_with fail
          go_ret
          exact ⟨rfl, Grown.drewN HG.out mc⟩
        · have HO : Hid (Ord (ob mA sA) (ob mB sB) 1) := Or.inr (Or.inl ⟨k, hall.out, by omega, rfl⟩)
          clear he hall
          go_wp2_with fail
          have hcm := cmp9 _ _ w2 SA.out SB.out
          refine hcm.mono ?_
          clear hcm
          rintro e wc ⟨⟨c, rfl, hc⟩, mc, rfl⟩
          obtain rfl : c = 1 := by
            have := order_keys mA mB sA sB PA.out PB.out _ HO.out
            rw [KA.out, KB.out] at this
            exact hc.one this
          clear hc HO
          go_wp2_with fail
          go_ret
          exact ⟨rfl, Grown.drewN HG.out mc⟩
    · have HO : Hid (Ord (ob mA sA) (ob mB sB) 0) := Or.inr (Or.inr ⟨ob_far mA mB sA sB sA.size (by omega) (by omega) (fun j hj => hall.out j (by omega)), rfl⟩)
      have HG : Hid (Grown w' wr) := hG
      clear hG hall
      go_wp2_with fail
      have hcm := cmp9 _ _ wr SA.out SB.out
      refine hcm.mono ?_
      clear hcm
      rintro e wc ⟨⟨c, rfl, hc⟩, mc, rfl⟩
      obtain rfl : c = 0 := by
        have := order_keys mA mB sA sB PA.out PB.out _ HO.out
        rw [KA.out, KB.out] at this
        exact hc.one this
      clear hc HO
      go_wp2_with fail
      go_ret
      exact ⟨rfl, Grown.drewN HG.out mc⟩

theorem sorts_in (mA mB : Nat) (sA sB : ByteArray) (w : World) (hA : mA < 4294967296) (hB : mB < 4294967296) (hs : sA.size + sB.size ≤ 1048576) :
    Calls Trym.prog 4 #[.int .u32 mA, .string sA, .int .u32 mB, .string sB] w fun e w' => e = .returned (.bool true) ∧ Grown w w' := by
  cases tA : isTree mA <;> cases tB : isTree mB
  · by_cases h : sA.size < sB.size
    · exact sorts_oo_b mA mB sA sB w hA hB hs tA tB h
    · exact sorts_oo_a mA mB sA sB w hA hB hs tA tB (by omega)
  · by_cases h : sA.size < sB.size
    · exact sorts_ot_b mA mB sA sB w hA hB hs tA tB h
    · exact sorts_ot_a mA mB sA sB w hA hB hs tA tB (by omega)
  · by_cases h : sA.size < sB.size
    · exact sorts_to_b mA mB sA sB w hA hB hs tA tB h
    · exact sorts_to_a mA mB sA sB w hA hB hs tA tB (by omega)
  · by_cases h : sA.size < sB.size
    · exact sorts_tt_b mA mB sA sB w hA hB hs tA tB h
    · exact sorts_tt_a mA mB sA sB w hA hB hs tA tB (by omega)

end Go.Proofs.Qxb6605630aMods
