/- The plain law of FnOrderByteSortsAsGitKeys: no Go in sight (seat b6605630aM). -/
import Derived.Test.Qxb6605630aModsOrder
namespace Go.Proofs.Qxb6605630aMods

/-- c is how the two rows of numbers compare at the first place where they part -/
def Ord (f g : Nat → Int) (c : Int) : Prop :=
  (∃ k, (∀ j, j < k → f j = g j) ∧ f k < g k ∧ c = -1) ∨ (∃ k, (∀ j, j < k → f j = g j) ∧ g k < f k ∧ c = 1) ∨ ((∀ j, f j = g j) ∧ c = 0)

theorem Ord.one {f g : Nat → Int} {c d : Int} (h : Ord f g c) (h' : Ord f g d) : c = d := by
  have tri : ∀ k k', (∀ j, j < k → f j = g j) → f k ≠ g k → (∀ j, j < k' → f j = g j) → f k' ≠ g k' → k = k' := by
    intro k k' h1 h2 h3 h4
    rcases Nat.lt_trichotomy k k' with h | h | h
    · exact absurd (h3 k h) h2
    · exact h
    · exact absurd (h1 k' h) h4
  rcases h with ⟨k, h1, h2, rfl⟩ | ⟨k, h1, h2, rfl⟩ | ⟨h1, rfl⟩ <;> rcases h' with ⟨k', g1, g2, rfl⟩ | ⟨k', g1, g2, rfl⟩ | ⟨g1, rfl⟩
  · rfl
  · have := tri k k' h1 (by omega) g1 (by omega); subst this; omega
  · have := g1 k; omega
  · have := tri k k' h1 (by omega) g1 (by omega); subst this; omega
  · rfl
  · have := g1 k; omega
  · have := h1 k'; omega
  · have := h1 k'; omega
  · rfl

/-- a string's bytes, and -1 past its end -/
def kb (s : ByteArray) (i : Nat) : Int := if h : i < s.size then (s[i].toNat : Int) else -1
theorem kb_in (s : ByteArray) (i : Nat) (h : i < s.size) : kb s i = (s[i].toNat : Int) := by rw [kb, dif_pos h]
theorem kb_out (s : ByteArray) (i : Nat) (h : ¬ i < s.size) : kb s i = -1 := by rw [kb, dif_neg h]
theorem kb_pos (s : ByteArray) (i : Nat) (h : i < s.size) : 0 ≤ kb s i := by rw [kb_in s i h]; omega

/-- the name followed by a slash -/
theorem kb_slash (s : ByteArray) (i : Nat) : kb (s ++ ⟨#[47]⟩) i = if i < s.size then kb s i else if i = s.size then 47 else -1 := by
  have hs : (s ++ ⟨#[47]⟩ : ByteArray).size = s.size + 1 := by rw [ByteArray.size_append]; rfl
  by_cases h : i < s.size
  · rw [if_pos h, kb_in s i h, kb_in _ i (by omega), ByteArray.getElem_append_left h]
  · rw [if_neg h]
    by_cases e : i = s.size
    · rw [if_pos e, kb_in _ i (by omega), ByteArray.getElem_append_right (by omega)]
      subst e
      simp
      rfl
    · rw [if_neg e, kb_out _ i (by omega)]

/-- no slash and no zero byte in the name -/
def Plain (s : ByteArray) : Prop := ∀ i, i < s.size → kb s i ≠ 47 ∧ kb s i ≠ 0

/-- the entry's key -/
def key (m : Nat) (s : ByteArray) : ByteArray := if isTree m then s ++ ⟨#[47]⟩ else s

theorem ob_kb (m : Nat) (s : ByteArray) (i : Nat) : ob m s i = if i < s.size then kb s i else if isTree m then 47 else 0 := by
  unfold ob
  by_cases h : i < s.size
  · rw [dif_pos h, if_pos h, kb_in s i h]
  · rw [dif_neg h, if_neg h]
theorem key_kb (m : Nat) (s : ByteArray) (i : Nat) : kb (key m s) i = if i < s.size then kb s i else if isTree m = true ∧ i = s.size then 47 else -1 := by
  unfold key
  by_cases t : isTree m = true
  · rw [if_pos t, kb_slash]; simp [t]
  · rw [if_neg t]
    by_cases h : i < s.size
    · rw [if_pos h]
    · rw [if_neg h, kb_out s i h, if_neg (by simp [t])]

theorem ob_lt (m : Nat) (s : ByteArray) (i : Nat) (h : i < s.size) : ob m s i = kb s i := by rw [ob_kb, if_pos h]
theorem ob_ge (m : Nat) (s : ByteArray) (i : Nat) (h : s.size ≤ i) : ob m s i = if isTree m then 47 else 0 := by rw [ob_kb, if_neg (show ¬ i < s.size by omega)]
theorem key_lt (m : Nat) (s : ByteArray) (i : Nat) (h : i < s.size) : kb (key m s) i = kb s i := by rw [key_kb, if_pos h]
theorem key_end (m : Nat) (s : ByteArray) : kb (key m s) s.size = if isTree m then 47 else -1 := by rw [key_kb, if_neg (show ¬ s.size < s.size by omega)]; simp
theorem tail_tree (m : Nat) : (if isTree m then (47 : Int) else 0) = 47 ∧ isTree m = true ∨ (if isTree m then (47 : Int) else 0) = 0 ∧ isTree m = false := by
  cases isTree m <;> simp

/-- where the two agree below k, neither name ends before k unless both end at one place -/
theorem ends_at (mA mB : Nat) (sA sB : ByteArray) (pA : Plain sA) (pB : Plain sB) (k : Nat) (hk : ∀ j, j < k → ob mA sA j = ob mB sB j) :
    (k ≤ sA.size ∧ k ≤ sB.size) ∨ (sA.size = sB.size ∧ isTree mA = isTree mB) := by
  have one : sA.size < k → sB.size ≤ sA.size := by
    intro h1
    rcases Nat.lt_or_ge sA.size sB.size with h2 | h2
    · have e := hk sA.size h1
      rw [ob_ge mA sA _ (Nat.le_refl _), ob_lt mB sB _ h2] at e
      have := pB sA.size h2
      rcases tail_tree mA with ⟨t, _⟩ | ⟨t, _⟩ <;> omega
    · exact h2
  have two : sB.size < k → sA.size ≤ sB.size := by
    intro h1
    rcases Nat.lt_or_ge sB.size sA.size with h2 | h2
    · have e := hk sB.size h1
      rw [ob_ge mB sB _ (Nat.le_refl _), ob_lt mA sA _ h2] at e
      have := pA sB.size h2
      rcases tail_tree mB with ⟨t, _⟩ | ⟨t, _⟩ <;> omega
    · exact h2
  by_cases h1 : sA.size < k
  · right
    have h2 := one h1
    have h3 := two (by omega)
    refine ⟨by omega, ?_⟩
    have e := hk sA.size h1
    rw [ob_ge mA sA _ (Nat.le_refl _), ob_ge mB sB _ h2] at e
    rcases tail_tree mA with ⟨t, x⟩ | ⟨t, x⟩ <;> rcases tail_tree mB with ⟨u, y⟩ | ⟨u, y⟩ <;> first | exact x.trans y.symm | omega
  · by_cases h2 : sB.size < k
    · have := two h2; omega
    · left; omega

/-- at the first place where they part the keys part too, and the same way -/
theorem parts_at (mA mB : Nat) (sA sB : ByteArray) (pA : Plain sA) (pB : Plain sB) (k : Nat) (hk : ∀ j, j < k → ob mA sA j = ob mB sB j) (hne : ob mA sA k ≠ ob mB sB k) :
    (∀ j, j < k → kb (key mA sA) j = kb (key mB sB) j) ∧ (ob mA sA k < ob mB sB k → kb (key mA sA) k < kb (key mB sB) k) ∧ (ob mB sB k < ob mA sA k → kb (key mB sB) k < kb (key mA sA) k) := by
  have hle : k ≤ sA.size ∧ k ≤ sB.size := by
    rcases ends_at mA mB sA sB pA pB k hk with h | ⟨h1, h2⟩
    · exact h
    · rcases Nat.lt_or_ge sA.size k with h | h
      · refine absurd ?_ hne
        rw [ob_ge mA sA k (by omega), ob_ge mB sB k (by omega), h2]
      · omega
  refine ⟨fun j hj => ?_, ?_⟩
  · have e := hk j hj
    rw [ob_lt mA sA j (by omega), ob_lt mB sB j (by omega)] at e
    rw [key_lt mA sA j (by omega), key_lt mB sB j (by omega), e]
  by_cases ha : k < sA.size
  · have qa := pA k ha
    have za := kb_pos sA k ha
    rw [ob_lt mA sA k ha, key_lt mA sA k ha]
    by_cases hb : k < sB.size
    · rw [ob_lt mB sB k hb, key_lt mB sB k hb]; exact ⟨id, id⟩
    · have eb : k = sB.size := by omega
      rw [ob_ge mB sB k (by omega)]
      rw [show kb (key mB sB) k = if isTree mB then 47 else -1 from by rw [eb]; exact key_end mB sB]
      cases isTree mB <;> simp <;> omega
  · have ea : k = sA.size := by omega
    rw [ob_ge mA sA k (by omega), show kb (key mA sA) k = if isTree mA then 47 else -1 from by rw [ea]; exact key_end mA sA]
    by_cases hb : k < sB.size
    · have qb := pB k hb
      have zb := kb_pos sB k hb
      rw [ob_lt mB sB k hb, key_lt mB sB k hb]
      cases isTree mA <;> simp <;> omega
    · have eb : k = sB.size := by omega
      rw [ob_ge mB sB k (by omega), show kb (key mB sB) k = if isTree mB then 47 else -1 from by rw [eb]; exact key_end mB sB]
      cases isTree mA <;> cases isTree mB <;> simp

/-- THE PLAIN LAW: by orderByte the entries lie as by their keys -/
theorem order_keys (mA mB : Nat) (sA sB : ByteArray) (pA : Plain sA) (pB : Plain sB) (c : Int) (h : Ord (ob mA sA) (ob mB sB) c) : Ord (kb (key mA sA)) (kb (key mB sB)) c := by
  rcases h with ⟨k, h1, h2, rfl⟩ | ⟨k, h1, h2, rfl⟩ | ⟨h1, rfl⟩
  · obtain ⟨g1, g2, _⟩ := parts_at mA mB sA sB pA pB k h1 (by omega)
    exact Or.inl ⟨k, g1, g2 h2, rfl⟩
  · obtain ⟨g1, _, g3⟩ := parts_at mA mB sA sB pA pB k h1 (by omega)
    exact Or.inr (Or.inl ⟨k, g1, g3 h2, rfl⟩)
  · refine Or.inr (Or.inr ⟨fun j => ?_, rfl⟩)
    rcases ends_at mA mB sA sB pA pB (sA.size + 1) (fun j _ => h1 j) with h | ⟨e1, e2⟩
    · omega
    · by_cases hj : j < sB.size
      · have e := h1 j
        rw [ob_lt mA sA j (by omega), ob_lt mB sB j hj] at e
        rw [key_lt mA sA j (by omega), key_lt mB sB j hj, e]
      · rw [key_kb, key_kb, e1, e2, if_neg hj, if_neg hj]

/-- behind both names nothing parts any more -/
theorem ob_far (mA mB : Nat) (sA sB : ByteArray) (n : Nat) (ha : sA.size ≤ n) (hb : sB.size ≤ n) (h : ∀ j, j ≤ n → ob mA sA j = ob mB sB j) : ∀ j, ob mA sA j = ob mB sB j := by
  intro j
  rcases Nat.lt_or_ge n j with hj | hj
  · have e := h n (Nat.le_refl _)
    rw [ob_ge mA sA n ha, ob_ge mB sB n hb] at e
    rw [ob_ge mA sA j (by omega), ob_ge mB sB j (by omega), e]
  · exact h j hj

/-- the bounds of orderByte -/
theorem ob_range (m : Nat) (s : ByteArray) (i : Nat) : 0 ≤ ob m s i ∧ ob m s i ≤ 255 := by
  rw [ob_kb]
  by_cases h : i < s.size
  · have := s[i].toNat_lt
    rw [if_pos h, kb_in s i h]; omega
  · rw [if_neg h]; split <;> omega

end Go.Proofs.Qxb6605630aMods
