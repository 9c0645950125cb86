/- FnMessageAnswerIsFixedPointAndIgnoresAVPs: the law's own walk (seat b6605620aM). -/
import Derived.Test.Qxb6605620aModsSameAvps
import Derived.Test.Qxb6605620aModsData
import Derived.LaidEqlPtr
namespace Go.Proofs.Qxb6605620aMods
open Go.RowKit

/-- a message in a block of its own -/
def Msg (w : World) (b : Nat) (v0 v1 v2 v3 v4 : Int) (s : Value) : Prop := w.heap[b]? = some (.cells #[.int .u8 v0, .int .u32 v1, .int .u32 v2, .int .u32 v3, .int .u32 v4, s] 38 (0, 0))

theorem Msg.head {w : World} {b : Nat} {v0 v1 v2 v3 v4 : Int} {s : Value} (h : Msg w b v0 v1 v2 v3 v4 s) : Head w b 0 v0 v1 v2 v3 v4 := by
  unfold Msg at h
  refine ⟨?_, ?_, ?_, ?_, ?_⟩
  all_goals (rw [blk_cell h]; rfl)
theorem Msg.five {w : World} {b : Nat} {v0 v1 v2 v3 v4 : Int} {s : Value} (h : Msg w b v0 v1 v2 v3 v4 s) : w.cell? ⟨b, 5, none⟩ = some s := by
  unfold Msg at h
  rw [blk_cell h]; rfl
theorem Msg.keep {w w' : World} {b : Nat} {v0 v1 v2 v3 v4 : Int} {s : Value} (h : Msg w b v0 v1 v2 v3 v4 s) (hb : Below w.heap.size w w') : Msg w' b v0 v1 v2 v3 v4 s :=
  (hb.block b (blk_size h)).trans h

theorem Trym.info38 : (Trym.prog.info? 38).map (fun i => i.size) = some 6 := by kernel_rfl
/-- two messages in two blocks are not one -/
theorem Msg.apart {w : World} {b b' : Nat} {v0 v1 v2 v3 v4 u0 u1 u2 u3 u4 : Int} {s s' : Value} (h : Msg w b v0 v1 v2 v3 v4 s) (h' : Msg w b' u0 u1 u2 u3 u4 s') (hne : b ≠ b') :
    (binOp .eql 34 (.pointer (some ⟨b, 0, none⟩)) (.pointer (some ⟨b', 0, none⟩))).run Trym.prog w = .ok (.bool false) w := by
  obtain ⟨j, hj, hs⟩ := Option.map_eq_some_iff.1 Trym.info38
  exact run_eql_ptr_other w Trym.underlying34 hj (by rw [hs]; decide) (fun e => hne (congrArg Addr.block e)) h h'

/-- Answer, as the law uses it -/
theorem answer_use (b N : Nat) (v0 v1 v2 v3 v4 f : Int) (hf : bits .and .u8 v0 64 = f) (s : Value) (w : World) (hN : w.heap.size = N) (h : Msg w b v0 v1 v2 v3 v4 s) :
    Calls Trym.prog 16 #[.pointer (some ⟨b, 0, none⟩)] w fun e w' => e = .returned (.pointer (some ⟨N, 0, none⟩)) ∧ Hid (Below w.heap.size w w' ∧ w'.heap.size = N + 1 ∧ Msg w' N f v1 v2 v3 v4 (.slice none 0 0)) := by
  subst hN hf
  have h0 := h.head
  refine (answer16 b 0 v0 v1 v2 v3 v4 w h0.c0 h0.c1 h0.c2 h0.c3 h0.c4).mono ?_
  rintro e w' ⟨rfl, m, rfl⟩
  refine ⟨rfl, ?_, by simp, (MapKept.heap_alloc w _).1⟩
  have := (Below.refl w.heap.size w).alloc (Nat.le_refl _) (.cells #[.int .u8 (bits .and .u8 v0 64), .int .u32 v1, .int .u32 v2, .int .u32 v3, .int .u32 v4, .slice none 0 0] 38)
  exact ⟨this.os, this.tape, this.output, this.size, this.block⟩

/-- the message and the bare one -/
theorem two_alloc (w : World) (v0 v1 v2 v3 v4 : Int) (s : Value) {W : World} (hW : W = (w.alloc (.cells #[.int .u8 v0, .int .u32 v1, .int .u32 v2, .int .u32 v3, .int .u32 v4, s] 38)).alloc (.cells #[.int .u8 v0, .int .u32 v1, .int .u32 v2, .int .u32 v3, .int .u32 v4, .slice none 0 0] 38)) :
    Hid (Below w.heap.size w W ∧ W.heap.size = w.heap.size + 2 ∧ Msg W w.heap.size v0 v1 v2 v3 v4 s ∧ Msg W (w.heap.size + 1) v0 v1 v2 v3 v4 (.slice none 0 0)) := by
  subst hW
  refine ⟨((Below.refl _ _).alloc (Nat.le_refl _) _).alloc (by simp) _, by simp, ?_, ?_⟩
  · exact (Below.heap_alloc _ _ _ (by simp)).trans (MapKept.heap_alloc w _).1
  · have := (MapKept.heap_alloc (w.alloc (.cells #[.int .u8 v0, .int .u32 v1, .int .u32 v2, .int .u32 v3, .int .u32 v4, s] 38)) (.cells #[.int .u8 v0, .int .u32 v1, .int .u32 v2, .int .u32 v3, .int .u32 v4, .slice none 0 0] 38)).1
    rw [World.size_alloc] at this
    exact this

theorem Below.drewN {B : Nat} {a w : World} (h : Below B a w) (m : Nat) : Below B a (w.drewN m) := ⟨h.os, h.tape, h.output, h.size, h.block⟩
theorem Msg.drewN {w : World} {b : Nat} {v0 v1 v2 v3 v4 : Int} {s : Value} (h : Msg w b v0 v1 v2 v3 v4 s) (m : Nat) : Msg (w.drewN m) b v0 v1 v2 v3 v4 s := h

theorem nat_and64 : ∀ x : Nat, x < 256 → (x &&& 64) &&& 64 = x &&& 64 ∧ (x &&& 64) &&& (255 - 64) = 0 ∧ x &&& 64 < 256 := by decide +kernel
/-- the P bit alone -/
theorem pbit (v : Int) (h0 : 0 ≤ v) (h1 : v ≤ 255) : ∃ f : Int, bits .and .u8 v 64 = f ∧ bits .and .u8 f 64 = f ∧ bits .andNot .u8 f 64 = 0 := by
  obtain ⟨n, rfl⟩ := Int.eq_ofNat_of_zero_le h0
  obtain ⟨e1, e2, e3⟩ := nat_and64 n (by omega)
  have a1 : bits .and .u8 (n : Int) 64 = ((n &&& 64 : Nat) : Int) := u8_and_nat n 64 (by omega) (by omega)
  have a2 : bits .and .u8 ((n &&& 64 : Nat) : Int) 64 = (((n &&& 64) &&& 64 : Nat) : Int) := u8_and_nat _ 64 e3 (by omega)
  have a3 : bits .andNot .u8 ((n &&& 64 : Nat) : Int) 64 = (((n &&& 64) &&& (255 - 64) : Nat) : Int) := u8_andNot_nat _ 64 e3 (by omega)
  exact ⟨_, a1, by rw [a2, e1], by rw [a3, e2]; rfl⟩

set_option maxRecDepth 100000 in
set_option maxHeartbeats 4000000 in
theorem law4 (v0 v1 v2 v3 v4 : Int) (a1 a2 a3 a4 : Option Addr) (l1 c1 l2 c2 l3 c3 l4 c4 : Nat) (xs ys zs : List Int) (A : Nat → Option Addr) (L C : Nat → Nat) (Z : Nat → List Int) (w : World)
    (u0 : 0 ≤ v0) (u1 : v0 ≤ 255) (h1 : Ints .u32 w a1 l1 xs) (h2 : Ints .u8 w a2 l2 ys) (h3 : Ints .u32 w a3 l3 zs) (hD : Datas w a4 l4 A L C Z) :
    Calls Trym.prog 4 #[.int .u8 v0, .int .u32 v1, .int .u32 v2, .int .u32 v3, .int .u32 v4, .slice a1 l1 c1, .slice a2 l2 c2, .slice a3 l3 c3, .slice a4 l4 c4] w fun e w' => e = .returned (.bool true) ∧ Below w.heap.size w w' := by
  have H1 : Hid (Ints .u32 w a1 l1 xs) := h1
  have H2 : Hid (Ints .u8 w a2 l2 ys) := h2
  have H3 : Hid (Ints .u32 w a3 l3 zs) := h3
  have HD : Hid (Datas w a4 l4 A L C Z) := hD
  obtain ⟨f, HF, HF1, HF2⟩ : ∃ f : Int, Hid (bits .and .u8 v0 64 = f) ∧ Hid (bits .and .u8 f 64 = f) ∧ Hid (bits .andNot .u8 f 64 = 0) := pbit v0 u0 u1
  clear h1 h2 h3 hD u0 u1
  go_enter Trym.func4, Trym.ntmps4
  go_wp2_with fail
  refine (bytes10 v0 v1 v2 v3 v4 a1 a2 a3 a4 l1 c1 l2 c2 l3 c3 l4 c4 A L C Z _ HD.out).mono ?_
  rintro e w' ⟨⟨b, rfl, _⟩, rfl⟩
  cases b with
  | false =>
    go_wp2_with fail
    go_ret
    exact ⟨rfl, Below.refl _ _⟩
  | true =>
  go_wp2_with fail
  refine (tooBig a1 a2 a3 a4 l1 c1 l2 c2 l3 c3 l4 c4 A L C Z _ HD.out).mono ?_
  rintro e w ⟨⟨b, rfl, hb⟩, rfl⟩
  cases b with
  | true =>
    go_wp2_with fail
    go_ret
    exact ⟨rfl, Below.refl _ _⟩
  | false =>
  obtain ⟨b1, b2, b3, b4, hS⟩ := hb rfl
  clear hb
  go_wp2_with fail
  refine (sameLengths a1 a2 a3 a4 l1 c1 l2 c2 l3 c3 l4 c4 _).mono ?_
  rintro e w' ⟨⟨b, rfl, hb⟩, rfl⟩
  cases b with
  | false =>
    go_wp2_with fail
    go_ret
    exact ⟨rfl, Below.refl _ _⟩
  | true =>
  obtain ⟨rfl, rfl, rfl⟩ := hb rfl
  clear hb b2 b3 b4
  have bn : l4 ≤ 1048576 := by omega
  go_wp2_with fail
  -- the four copies
  refine (clone13_any a1 l4 c1 xs _ H1.out bn).mono ?_
  rintro e w1 ⟨p1, d1, rfl, i1, k1, _⟩
  have B1 : Hid (Below w'.heap.size w' w1) := k1
  have G2 : Hid (Ints .u8 w1 a2 l4 ys) := H2.out.later k1
  have G3 : Hid (Ints .u32 w1 a3 l4 zs) := H3.out.later k1
  have GD : Hid (Datas w1 a4 l4 A L C Z) := HD.out.later k1
  have I1 : Hid (Ints .u32 w1 p1 l4 xs) := i1
  clear H1 H2 H3 HD i1 k1
  go_wp2_with fail
  refine (clone8_any a2 l4 c2 ys _ G2.out bn).mono ?_
  rintro e w2 ⟨p2, d2, rfl, i2, k2, _⟩
  have B2 : Hid (Below w'.heap.size w' w2) := B1.out.trans (k2.mono B1.out.size)
  have H3 : Hid (Ints .u32 w2 a3 l4 zs) := G3.out.later k2
  have HD : Hid (Datas w2 a4 l4 A L C Z) := GD.out.later k2
  have J1 : Hid (Ints .u32 w2 p1 l4 xs) := I1.out.later k2
  have I2 : Hid (Ints .u8 w2 p2 l4 ys) := i2
  clear G2 G3 GD I1 B1 i2 k2
  go_wp2_with fail
  refine (clone13_any a3 l4 c3 zs _ H3.out bn).mono ?_
  rintro e w3 ⟨p3, d3, rfl, i3, k3, _⟩
  have B3 : Hid (Below w'.heap.size w' w3) := B2.out.trans (k3.mono B2.out.size)
  have GD : Hid (Datas w3 a4 l4 A L C Z) := HD.out.later k3
  have I1 : Hid (Ints .u32 w3 p1 l4 xs) := J1.out.later k3
  have J2 : Hid (Ints .u8 w3 p2 l4 ys) := I2.out.later k3
  have I3 : Hid (Ints .u32 w3 p3 l4 zs) := i3
  clear H3 HD J1 I2 B2 i3 k3
  go_wp2_with fail
  refine (data14_any a4 l4 c4 A L C Z _ GD.out b1 hS).mono ?_
  rintro e w4 ⟨p4, d4, A4, C4, rfl, i4, k4⟩
  have B4 : Hid (Below w'.heap.size w' w4) := B3.out.trans (k4.mono B3.out.size)
  have J1 : Hid (Ints .u32 w4 p1 l4 xs) := I1.out.later k4
  have I2 : Hid (Ints .u8 w4 p2 l4 ys) := J2.out.later k4
  have J3 : Hid (Ints .u32 w4 p3 l4 zs) := I3.out.later k4
  have I4 : Hid (Datas w4 p4 l4 A4 L C4 Z) := i4
  clear GD I1 J2 I3 B3 i4 k4
  go_wp2_with fail
  -- the AVPs
  refine (avps15_any p1 p2 p3 p4 l4 d1 d2 d3 d4 xs ys zs A4 L C4 Z _ J1.out I2.out J3.out I4.out b1 hS).mono ?_
  rintro e w5 ⟨p5, d5, rfl, i5, k5⟩
  have B5 : Hid (Below w'.heap.size w' w5) := B4.out.trans (k5.mono B4.out.size)
  have I1 : Hid (Ints .u32 w5 p1 l4 xs) := J1.out.later k5
  have J2 : Hid (Ints .u8 w5 p2 l4 ys) := I2.out.later k5
  have I3 : Hid (Ints .u32 w5 p3 l4 zs) := J3.out.later k5
  have J4 : Hid (Datas w5 p4 l4 A4 L C4 Z) := I4.out.later k5
  have I5 : Hid (AvpRow w5 p5 l4 xs ys zs L Z) := i5
  clear J1 I2 J3 I4 B4 i5 k5
  go_wp2_with fail
  have T := two_alloc w5 v0 v1 v2 v3 v4 (.slice p5 l4 d5) rfl
  refine (answer_use w5.heap.size (w5.heap.size + 2) v0 v1 v2 v3 v4 f HF.out _ _ T.out.2.1 T.out.2.2.1).mono ?_
  rintro e w6 ⟨rfl, h6⟩
  have E6 : Hid (Below w5.heap.size w5 w6 ∧ w6.heap.size = w5.heap.size + 3 ∧ Msg w6 w5.heap.size v0 v1 v2 v3 v4 (.slice p5 l4 d5) ∧ Msg w6 (w5.heap.size + 1) v0 v1 v2 v3 v4 (.slice none 0 0) ∧ Msg w6 (w5.heap.size + 2) f v1 v2 v3 v4 (.slice none 0 0)) :=
    ⟨T.out.1.trans (h6.out.1.mono (by rw [T.out.2.1]; omega)), h6.out.2.1, T.out.2.2.1.keep h6.out.1, T.out.2.2.2.keep h6.out.1, h6.out.2.2⟩
  clear T h6
  have q1 := E6.out.2.2.2.2.apart E6.out.2.2.1 (by omega)
  go_wp2_with fail
  clear q1
  refine (answer_use (w5.heap.size + 1) (w5.heap.size + 3) v0 v1 v2 v3 v4 f HF.out _ _ E6.out.2.1 E6.out.2.2.2.1).mono ?_
  rintro e w7 ⟨rfl, h7⟩
  have E7 : Hid (Below w5.heap.size w5 w7 ∧ w7.heap.size = w5.heap.size + 4 ∧ Msg w7 w5.heap.size v0 v1 v2 v3 v4 (.slice p5 l4 d5) ∧ Msg w7 (w5.heap.size + 1) v0 v1 v2 v3 v4 (.slice none 0 0) ∧ Msg w7 (w5.heap.size + 2) f v1 v2 v3 v4 (.slice none 0 0) ∧ Msg w7 (w5.heap.size + 3) f v1 v2 v3 v4 (.slice none 0 0)) :=
    ⟨E6.out.1.trans (h7.out.1.mono E6.out.1.size), h7.out.2.1, E6.out.2.2.1.keep h7.out.1, E6.out.2.2.2.1.keep h7.out.1, E6.out.2.2.2.2.keep h7.out.1, h7.out.2.2⟩
  clear E6 h7
  have q2 := E7.out.2.2.2.2.2.apart E7.out.2.2.2.1 (by omega)
  go_wp2_with fail
  clear q2
  refine (answer_use (w5.heap.size + 2) (w5.heap.size + 4) f v1 v2 v3 v4 f HF1.out _ _ E7.out.2.1 E7.out.2.2.2.2.1).mono ?_
  rintro e w8 ⟨rfl, h8⟩
  have E8 : Hid (Below w5.heap.size w5 w8 ∧ Msg w8 w5.heap.size v0 v1 v2 v3 v4 (.slice p5 l4 d5) ∧ Msg w8 (w5.heap.size + 2) f v1 v2 v3 v4 (.slice none 0 0) ∧ Msg w8 (w5.heap.size + 3) f v1 v2 v3 v4 (.slice none 0 0) ∧ Msg w8 (w5.heap.size + 4) f v1 v2 v3 v4 (.slice none 0 0)) :=
    ⟨E7.out.1.trans (h8.out.1.mono E7.out.1.size), E7.out.2.2.1.keep h8.out.1, E7.out.2.2.2.2.1.keep h8.out.1, E7.out.2.2.2.2.2.keep h8.out.1, h8.out.2.2⟩
  clear E7 h8
  have q3 := E8.out.2.2.2.2.apart E8.out.2.2.1 (by omega)
  go_wp2_with fail
  clear q3
  refine (same17 (w5.heap.size + 2) 0 (w5.heap.size + 3) 0 f v1 v2 v3 v4 _ E8.out.2.2.1.head E8.out.2.2.2.1.head E8.out.2.2.1.five E8.out.2.2.2.1.five).mono ?_
  rintro e w9 ⟨rfl, m9, hw9⟩
  have E9 : Hid (Below w5.heap.size w5 w9 ∧ Msg w9 w5.heap.size v0 v1 v2 v3 v4 (.slice p5 l4 d5) ∧ Msg w9 (w5.heap.size + 2) f v1 v2 v3 v4 (.slice none 0 0) ∧ Msg w9 (w5.heap.size + 4) f v1 v2 v3 v4 (.slice none 0 0)) := by
    subst hw9
    exact ⟨Below.drewN E8.out.1 m9, E8.out.2.1.drewN m9, E8.out.2.2.1.drewN m9, E8.out.2.2.2.2.drewN m9⟩
  clear E8 hw9
  go_wp2_with fail
  refine (same17 (w5.heap.size + 2) 0 (w5.heap.size + 4) 0 f v1 v2 v3 v4 _ E9.out.2.2.1.head E9.out.2.2.2.head E9.out.2.2.1.five E9.out.2.2.2.five).mono ?_
  rintro e wa ⟨rfl, m10, hwa⟩
  have EA : Hid (Below w5.heap.size w5 wa ∧ Msg wa w5.heap.size v0 v1 v2 v3 v4 (.slice p5 l4 d5) ∧ Msg wa (w5.heap.size + 2) f v1 v2 v3 v4 (.slice none 0 0)) := by
    subst hwa
    exact ⟨Below.drewN E9.out.1 m10, E9.out.2.1.drewN m10, E9.out.2.2.1.drewN m10⟩
  clear E9 hwa
  obtain ⟨g0, g1, g2, g3, g4⟩ := EA.out.2.2.head
  have g5 := EA.out.2.2.five
  have gm := EA.out.2.1.five
  have f0 := HF.out
  have f1 := HF1.out
  have f2 := HF2.out
  have n0 : (f != f) = false := by simp
  have n1 : (v1 != v1) = false := by simp
  have n2 : (v2 != v2) = false := by simp
  have n3 : (v3 != v3) = false := by simp
  have n4 : (v4 != v4) = false := by simp
  go_wp2_with fail
  clear g0 g1 g2 g3 g4 g5 gm f0 f1 f2 n0 n1 n2 n3 n4
  have kb := EA.out.1
  refine (same18 p5 p1 p2 p3 p4 l4 d5 d1 d2 d3 d4 xs ys zs A4 L C4 Z _ (I5.out.later kb) (I1.out.later kb) (J2.out.later kb) (I3.out.later kb) (J4.out.later kb) b1 hS).mono ?_
  rintro e wb ⟨rfl, m11, rfl⟩
  have KB : Hid (Below w'.heap.size w' (wa.drewN m11)) := Below.drewN (B5.out.trans (kb.mono B5.out.size)) m11
  clear kb
  go_wp2_with fail
  go_ret
  exact ⟨rfl, KB.out⟩

end Go.Proofs.Qxb6605620aMods
