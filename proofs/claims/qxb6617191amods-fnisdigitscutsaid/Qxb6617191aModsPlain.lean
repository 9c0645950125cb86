/- Plain mathematics of seat b6617191aM: no Go in sight. 'dall': every byte is an ASCII digit. -/
import Derived.WalkKit
namespace Go.Proofs.Qxb6617191aMods

def isD (c : UInt8) : Bool := decide (48 ≤ c.toNat ∧ c.toNat ≤ 57)
def dall (l : List UInt8) : Bool := l.all isD
/-- what isDigits answers -/
def digB (s : ByteArray) : Bool := !(s.size == 0) && dall s.data.toList

theorem take_snoc (s : ByteArray) (k : Nat) (h : k < s.size) : s.data.toList.take (k + 1) = s.data.toList.take k ++ [s[k]] := by
  rw [List.take_succ_eq_append_getElem (by simpa using h)]; rfl
theorem dall_append (l m : List UInt8) : dall (l ++ m) = (dall l && dall m) := by simp [dall]
theorem dall_one (c : UInt8) : dall [c] = isD c := by simp [dall]
theorem dall_cut (l : List UInt8) (k : Nat) : dall l = (dall (l.take k) && dall (l.drop k)) := by
  rw [← dall_append, List.take_append_drop]
theorem dall_snoc (s : ByteArray) (k : Nat) (h : k < s.size) : dall (s.data.toList.take (k + 1)) = (dall (s.data.toList.take k) && isD s[k]) := by
  rw [take_snoc s k h, dall_append, dall_one]

theorem ext0 (s : ByteArray) (n : Nat) : (s.extract 0 n).data.toList = s.data.toList.take n := by simp
theorem ext1 (s : ByteArray) (n : Nat) : (s.extract n s.size).data.toList = s.data.toList.drop n := by
  simp only [ByteArray.data_extract, Array.toList_extract, List.extract_eq_take_drop]
  exact List.take_of_length_le (by simp)

theorem digB_pos (s : ByteArray) (h : s.size ≠ 0) : digB s = dall s.data.toList := by
  rw [digB, beq_eq_false_iff_ne.2 h]; rfl
theorem digB_zero (s : ByteArray) (h : s.size = 0) : digB s = false := by
  rw [digB, h]; rfl

/-- the cut at the head -/
theorem cutA (s : ByteArray) (n : Nat) (h : n = 0) : digB (s.extract 0 n) = false ∧ digB (s.extract n s.size) = digB s := by
  subst h
  refine ⟨digB_zero _ (by simp), ?_⟩
  rw [show s.extract 0 s.size = s from by apply ByteArray.ext; simp]
/-- the cut at the end -/
theorem cutB (s : ByteArray) (n : Nat) (h : n = s.size) : digB (s.extract n s.size) = false ∧ digB (s.extract 0 n) = digB s := by
  subst h
  refine ⟨digB_zero _ (by simp), ?_⟩
  rw [show s.extract 0 s.size = s from by apply ByteArray.ext; simp]
/-- the cut inside -/
theorem cutC (s : ByteArray) (n : Nat) (h0 : 0 < n) (h1 : n < s.size) : digB s = (digB (s.extract 0 n) && digB (s.extract n s.size)) := by
  rw [digB_pos s (by omega), digB_pos (s.extract 0 n) (by rw [ByteArray.size_extract]; omega), digB_pos (s.extract n s.size) (by rw [ByteArray.size_extract]; omega), ext0, ext1]
  exact dall_cut _ _
/-- one byte -/
theorem cutOne (s : ByteArray) (n : Nat) (h1 : n < s.size) : digB (s.extract n (n + 1)) = isD s[n] := by
  rw [digB_pos _ (by rw [ByteArray.size_extract]; omega)]
  have : (s.extract n (n + 1)).data.toList = [s[n]] := by
    simp only [ByteArray.data_extract, Array.toList_extract, List.extract_eq_take_drop]
    rw [show n + 1 - n = 1 from by omega, List.drop_eq_getElem_cons (by simpa using h1)]
    rfl
  rw [this, dall_one]

end Go.Proofs.Qxb6617191aMods
