/- zzSameBytes, zzSameHeader, Answer (seat b6605620aM). -/
import Derived.Test.Qxb6605620aModsMem
import Derived.BigQuiet
import Derived.BigRegion
import Derived.Deep.QuietTactic
import Derived.Laws.BitsAllLaws
namespace Go.Proofs.Qxb6605620aMods
open Go.RowKit

set_option maxRecDepth 100000 in
set_option maxHeartbeats 400000 in
/-- zzSameBytes on two slices of the same bytes -/
theorem same23 (a b : Option Addr) (len ca cb : Nat) (xs : List Int) (w : World) (ha : Ints .u8 w a len xs) (hb : Ints .u8 w b len xs) (hlen : len ≤ 1048576) :
    Calls Trym.prog 23 #[.slice a len ca, .slice b len cb] w fun e w' => e = .returned (.bool true) ∧ ∃ m, w' = w.drewN m := by
  have HA : Hid (Ints .u8 w a len xs) := ha
  have HB : Hid (Ints .u8 w b len xs) := hb
  have hnn : ((len : Int) != (len : Int)) = false := by simp
  clear ha hb
  go_enter Trym.func23, Trym.ntmps23
  go_wp2
  clear hnn
  go_loopw [5] (fun i wr => ∃ k m : Nat, k ≤ len ∧ i = .int .i64 k ∧ wr = w.drewN m) (fun i _ => len - (intOf i).toNat)
  case atStart => exact ⟨0, 0, by omega, rfl, rfl⟩
  case round =>
    obtain ⟨k, m, hk, rfl, rfl⟩ := hrel
    by_cases hlt : k < len
    · obtain ⟨b1, o1, rfl, hc1⟩ := HA.out.place hlt
      obtain ⟨b2, o2, rfl, hc2⟩ := HB.out.place hlt
      have hx := hc1 k hlt
      have hy := hc2 k hlt
      have hneq : (xs.getD k 0 != xs.getD k 0) = false := by simp
      have hi : (k : Int) < (len : Int) := by omega
      generalize xs.getD k 0 = v at hx hy hneq
      clear hc1 hc2
      go_wp2
      go_quiet (fail)
      go_wp2
      go_roundw
      case rel => exact ⟨k + 1, _, by omega, by go_num, rfl⟩
      case measure => simp [intOf]; omega
    · go_wp2
      go_ret
      exact ⟨rfl, m, rfl⟩

set_option maxRecDepth 100000 in
set_option maxHeartbeats 1000000 in
/-- Answer -/
theorem answer16 (b o : Nat) (v0 v1 v2 v3 v4 : Int) (w : World) (h0 : w.cell? ⟨b, o, none⟩ = some (.int .u8 v0)) (h1 : w.cell? ⟨b, o + 1, none⟩ = some (.int .u32 v1)) (h2 : w.cell? ⟨b, o + 2, none⟩ = some (.int .u32 v2))
    (h3 : w.cell? ⟨b, o + 3, none⟩ = some (.int .u32 v3)) (h4 : w.cell? ⟨b, o + 4, none⟩ = some (.int .u32 v4)) :
    Calls Trym.prog 16 #[.pointer (some ⟨b, o, none⟩)] w fun e w' => e = .returned (.pointer (some ⟨w.heap.size, 0, none⟩)) ∧
      ∃ m, w' = (w.alloc (.cells #[.int .u8 (bits .and .u8 v0 64), .int .u32 v1, .int .u32 v2, .int .u32 v3, .int .u32 v4, .slice none 0 0] 38)).drewN m := by
  go_enter Trym.func16, Trym.ntmps16
  go_wp2
  go_region
  go_wp2
  go_ret
  exact ⟨rfl, 1, rfl⟩

/-- a message header in memory -/
structure Head (w : World) (b o : Nat) (v0 v1 v2 v3 v4 : Int) : Prop where
  c0 : w.cell? ⟨b, o, none⟩ = some (.int .u8 v0)
  c1 : w.cell? ⟨b, o + 1, none⟩ = some (.int .u32 v1)
  c2 : w.cell? ⟨b, o + 2, none⟩ = some (.int .u32 v2)
  c3 : w.cell? ⟨b, o + 3, none⟩ = some (.int .u32 v3)
  c4 : w.cell? ⟨b, o + 4, none⟩ = some (.int .u32 v4)

set_option maxRecDepth 100000 in
set_option maxHeartbeats 1000000 in
/-- zzSameHeader on two equal headers without AVPs -/
theorem same17 (b o b' o' : Nat) (v0 v1 v2 v3 v4 : Int) (w : World) (h : Head w b o v0 v1 v2 v3 v4) (h' : Head w b' o' v0 v1 v2 v3 v4) (h5 : w.cell? ⟨b, o + 5, none⟩ = some (.slice none 0 0)) (h5' : w.cell? ⟨b', o' + 5, none⟩ = some (.slice none 0 0)) :
    Calls Trym.prog 17 #[.pointer (some ⟨b, o, none⟩), .pointer (some ⟨b', o', none⟩)] w fun e w' => e = .returned (.bool true) ∧ ∃ m, w' = w.drewN m := by
  obtain ⟨h0, h1, h2, h3, h4⟩ := h
  obtain ⟨g0, g1, g2, g3, g4⟩ := h'
  have e0 : (v0 == v0) = true := by simp
  have e1 : (v1 == v1) = true := by simp
  have e2 : (v2 == v2) = true := by simp
  have e3 : (v3 == v3) = true := by simp
  have e4 : (v4 == v4) = true := by simp
  go_enter Trym.func17, Trym.ntmps17
  go_wp2
  go_quiet (fail)
  go_wp2
  go_ret
  exact ⟨rfl, nq, rfl⟩

end Go.Proofs.Qxb6605620aMods
