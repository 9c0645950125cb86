/- Plain mathematics of seat b6617137aM: no Go in sight. 'asc': every byte below 128; 'orl': the or of all bytes. -/
import Derived.WalkKit
namespace Go.Proofs.Qxb6617137aMods

def asc (l : List UInt8) : Bool := l.all fun c => decide (c.toNat < 128)
def orl (l : List UInt8) : UInt8 := l.foldl (fun a c => a ||| c) 0

theorem take_snoc (s : ByteArray) (k : Nat) (h : k < s.size) : s.data.toList.take (k + 1) = s.data.toList.take k ++ [s[k]] := by
  rw [List.take_succ_eq_append_getElem (by simpa using h)]; rfl

theorem asc_append (l m : List UInt8) : asc (l ++ m) = (asc l && asc m) := by simp [asc]
theorem asc_one (c : UInt8) : asc [c] = decide (c.toNat < 128) := by simp [asc]
theorem asc_cut (l : List UInt8) (k : Nat) : asc l = (asc (l.take k) && asc (l.drop k)) := by
  rw [← asc_append, List.take_append_drop]
theorem asc_snoc (s : ByteArray) (k : Nat) (h : k < s.size) : asc (s.data.toList.take (k + 1)) = (asc (s.data.toList.take k) && decide (s[k].toNat < 128)) := by
  rw [take_snoc s k h, asc_append, asc_one]

theorem orl_snoc (s : ByteArray) (k : Nat) (h : k < s.size) : orl (s.data.toList.take (k + 1)) = orl (s.data.toList.take k) ||| s[k] := by
  rw [take_snoc s k h]; simp [orl]

theorem or_low (a b : UInt8) : decide ((a ||| b).toNat < 128) = (decide (a.toNat < 128) && decide (b.toNat < 128)) := by
  have key : ∀ x y : Nat, x < 256 → y < 256 → ((x ||| y) < 128 ↔ x < 128 ∧ y < 128) := by
    intro x y hx hy
    constructor
    · intro h
      exact ⟨Nat.lt_of_le_of_lt Nat.left_le_or h, Nat.lt_of_le_of_lt Nat.right_le_or h⟩
    · rintro ⟨h1, h2⟩
      exact Nat.or_lt_two_pow (n := 7) h1 h2
  rw [Bool.eq_iff_iff]
  simp only [UInt8.toNat_or, Bool.and_eq_true, decide_eq_true_eq]
  exact key _ _ a.toNat_lt b.toNat_lt

theorem orl_low_from (l : List UInt8) (a : UInt8) : decide ((l.foldl (fun a c => a ||| c) a).toNat < 128) = (decide (a.toNat < 128) && asc l) := by
  induction l generalizing a with
  | nil => rw [show asc [] = true from rfl, Bool.and_true]; rfl
  | cons c l ih =>
    rw [List.foldl_cons, ih, or_low]
    simp [asc, Bool.and_assoc]

theorem orl_low (l : List UInt8) : decide ((orl l).toNat < 128) = asc l := by
  rw [orl, orl_low_from]; simp

end Go.Proofs.Qxb6617137aMods
