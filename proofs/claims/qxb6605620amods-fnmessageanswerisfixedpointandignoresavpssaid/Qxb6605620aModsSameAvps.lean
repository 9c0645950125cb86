/- zzSameAVPs (seat b6605620aM). -/
import Derived.Test.Qxb6605620aModsAvps
import Derived.Test.Qxb6605620aModsSame
namespace Go.Proofs.Qxb6605620aMods
open Go.RowKit

theorem Ints.drewN {k : IntKind} {w : World} {a : Option Addr} {len : Nat} {xs : List Int} (h : Ints k w a len xs) (m : Nat) : Ints k (w.drewN m) a len xs := ⟨h.size, h.nil, h.cell⟩

set_option maxRecDepth 100000 in
set_option maxHeartbeats 1000000 in
theorem same18 (a0 a1 a2 a3 a4 : Option Addr) (n c0 c1 c2 c3 c4 : Nat) (xs ys zs : List Int) (A : Nat → Option Addr) (L C : Nat → Nat) (Z : Nat → List Int) (w : World)
    (h0 : AvpRow w a0 n xs ys zs L Z) (h1 : Ints .u32 w a1 n xs) (h2 : Ints .u8 w a2 n ys) (h3 : Ints .u32 w a3 n zs) (hD : Datas w a4 n A L C Z) (hlen : n ≤ 65536) (hS : Short n L) :
    Calls Trym.prog 18 #[.slice a0 n c0, .slice a1 n c1, .slice a2 n c2, .slice a3 n c3, .slice a4 n c4] w fun e w' => e = .returned (.bool true) ∧ ∃ m, w' = w.drewN m := by
  have H0 : Hid (AvpRow w a0 n xs ys zs L Z) := h0
  have H1 : Hid (Ints .u32 w a1 n xs) := h1
  have H2 : Hid (Ints .u8 w a2 n ys) := h2
  have H3 : Hid (Ints .u32 w a3 n zs) := h3
  have HD : Hid (Datas w a4 n A L C Z) := hD
  have hnn : ((n : Int) != (n : Int)) = false := by simp
  clear h0 h1 h2 h3 hD
  go_enter Trym.func18, Trym.ntmps18
  go_wp2
  clear hnn
  go_loopw [11] (fun i wr => ∃ k : Nat, k ≤ n ∧ i = .int .i64 k ∧ Hid (∃ m, wr = w.drewN m)) (fun i _ => n - (intOf i).toNat)
  case atStart => exact ⟨0, by omega, rfl, 0, rfl⟩
  case round =>
    obtain ⟨k, hk, rfl, hm⟩ := hrel
    have cw : Hid (∀ p, wr.cell? p = w.cell? p) := by obtain ⟨m, rfl⟩ := hm.out; exact fun p => rfl
    by_cases hlt : k < n
    · obtain ⟨b0, A0, C0, rfl, q1, q2, q3, q4, q5⟩ := H0.out.row k hlt
      obtain ⟨b1, o1, rfl, e1⟩ := H1.out.place hlt
      obtain ⟨b2, o2, rfl, e2⟩ := H2.out.place hlt
      obtain ⟨b3, o3, rfl, e3⟩ := H3.out.place hlt
      obtain ⟨b4, o4, rfl, e4⟩ := HD.out.place hlt
      have g1 := (cw.out _).trans (e1 k hlt)
      have g2 := (cw.out _).trans (e2 k hlt)
      have g3 := (cw.out _).trans (e3 k hlt)
      have g4 := (cw.out _).trans (e4 k hlt)
      rw [← cw.out] at q1 q2 q3 q4
      have HI : Hid (Ints .u8 wr A0 (L k) (Z k)) := by obtain ⟨m, rfl⟩ := hm.out; exact q5.drewN m
      have HI' : Hid (Ints .u8 wr (A k) (L k) (Z k)) := by obtain ⟨m, rfl⟩ := hm.out; exact (HD.out.row k hlt).drewN m
      have hL := hS k hlt
      clear e1 e2 e3 e4 q5
      have hi : (k : Int) < (n : Int) := by omega
      generalize xs.getD k 0 = x1 at q1 g1
      generalize ys.getD k 0 = x2 at q2 g2
      generalize zs.getD k 0 = x3 at q3 g3
      have n1 : (x1 != x1) = false := by simp
      have n2 : (x2 != x2) = false := by simp
      have n3 : (x3 != x3) = false := by simp
      go_wp2_with fail
      go_quiet ((go_at_call 23; exact Calls.quiet_of (same23 A0 (A k) (L k) C0 (C k) (Z k) _ (HI.out.drewN _) (HI'.out.drewN _) hL)))
      go_wp2
      go_roundw
      case rel => exact ⟨k + 1, by omega, by go_num, by obtain ⟨m, rfl⟩ := hm.out; exact ⟨m + nq, World.drewN_drewN ..⟩⟩
      case measure => simp [intOf]; omega
    · go_wp2
      go_ret
      exact ⟨rfl, hm.out⟩

end Go.Proofs.Qxb6605620aMods
