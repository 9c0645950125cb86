/-
  THE PROOF OF 'Rows.FnMessageAnswerIsFixedPointAndIgnoresAVPsSaid': the frame after the kit's own for a law over slices of integers (as its tool wrote it for this seat's other law), turned to nine parameters, the last a slice of byte slices (opened by 'open_int_rows'); the walk: Qxb6605620aModsMsg.
-/
import Derived.Test.Qxb6605620aModsRows
import Derived.Test.Qxb6605620aModsMsg
import Derived.WalkKit
import Derived.ProofKit
import Derived.OpenShut
import Derived.ShutString
import Derived.ChangeOld
import Derived.Below
import Derived.Deep.Matrix
namespace Go.Proofs.Qxb6605620aMods.fnMessageAnswerIsFixedPointAndIgnoresAVPs
open Go.ChangeShapes Go.WideShapes Go.ChangeAt Go.RowKit
open Go.ChangeMaps (open_string shut_string)
set_option linter.unusedVariables false

theorem own : ownKnob Trym.prog.godebug = none := by kernel_rfl
theorem laidOut : laidOutB Trym.prog = true := by kernel_rfl

/-- a slice of integers that came in, in the walk's words -/
theorem opened {H : Type} {enc : TypeId × Value → H} {W : World} {t e : TypeId} {k : IntKind} {a : Option Addr} {len cap : Nat} {d : DataW H} {p : List MemPlace} (ht : Trym.prog.underlying t = some (.slice e)) (he : Trym.prog.underlying e = some (.int k)) (ce : Trym.prog.cellsOf e = 1)
    (h : DataW.Trod enc Trym.prog W 0 (fun _ => true) true t (.slice a len cap) d p) : ∃ xs, Ints k W a len xs := by
  obtain ⟨fuel, hf⟩ := h
  rcases open_ints ht he ce hf with ⟨hcs, _⟩ | ⟨x, l, c, zs, hcs, _, hl, hm, hz, _, hcell, hwz⟩
  · simp [Value.cells] at hcs
    obtain ⟨rfl, rfl, rfl⟩ := hcs
    exact ⟨[], rfl, fun _ => rfl, fun x hx => by cases hx⟩
  · simp [Value.cells] at hcs
    obtain ⟨rfl, rfl, rfl⟩ := hcs
    have hz' : zs.length = cap := by simpa using hz
    refine ⟨zs.take len, by rw [List.length_take]; omega, (fun hx => by cases hx), fun y hy i hi => ?_⟩
    cases hy
    rw [hcell i (by omega)]
    simp [List.getD, hi]

/-- a slice of byte slices that came in, in the walk's words -/
theorem openedD {H : Type} {enc : TypeId × Value → H} {W : World} {a : Option Addr} {len cap : Nat} {d : DataW H} {p : List MemPlace}
    (h : DataW.Trod enc Trym.prog W 0 (fun _ => true) true 28 (.slice a len cap) d p) : ∃ A L C Z, Datas W a len A L C Z := by
  obtain ⟨fuel, hf⟩ := h
  rcases Go.Deep.open_int_rows Trym.underlying28 Trym.underlying22 Trym.underlying5 (by kernel_rfl) (by kernel_rfl) hf with ⟨hcs, _⟩ | ⟨x, l, c, A, L, C, Z, hcs, _, hl, hm, _, hall⟩
  · simp [Value.cells] at hcs
    obtain ⟨rfl, rfl, rfl⟩ := hcs
    exact ⟨fun _ => none, fun _ => 0, fun _ => 0, fun _ => [], fun _ => rfl, (fun x hx => by cases hx), fun i hi => absurd hi (by omega)⟩
  · simp [Value.cells] at hcs
    obtain ⟨rfl, rfl, rfl⟩ := hcs
    refine ⟨A, L, C, fun r => (Z r).take (L r), (fun hx => by cases hx), fun y hy i hi => ?_, fun i hi => ?_⟩
    · cases hy
      exact (hall i (by omega)).1
    · obtain ⟨_, h2, h3, h4, h5, h6, h7⟩ := hall i (by omega)
      refine ⟨by rw [List.length_take]; omega, fun hx => by have := h6 hx; omega, fun y hy j hj => ?_⟩
      rw [(h7 y hy).2 j (by omega)]
      simp [List.getD, hj]

/-! ### THE ROW's STEP -/
set_option maxRecDepth 100000 in
set_option maxHeartbeats 1000000 in
theorem lifted (os : Os) (started : os.Started) (H : Type) (enc : TypeId × Value → H) :
    ReturnsInHanded {} Trym.checked os 4 .any (Rows.fnMessageAnswerIsFixedPointAndIgnoresAVPsSpec.pre6 enc Trym.prog Trym.f4 Rows.fnMessageAnswerIsFixedPointAndIgnoresAVPsRow.domain false) (Rows.fnMessageAnswerIsFixedPointAndIgnoresAVPsSpec.post enc Trym.prog Trym.f4 false true false false) := by
  refine returnsInHanded_of_change (C := Trym.checked) own started (by kernel_rfl) Trym.func4
    (ChangeSpec.witness6 (enc := enc) (C := Trym.checked) false ⟨#[], #[.int .u8 0, .int .u32 0, .int .u32 0, .int .u32 0, .int .u32 0, .slice none 0 0, .slice none 0 0, .slice none 0 0, .slice none 0 0], []⟩ 8 (by kernel_rfl) (by kernel_rfl) (by kernel_rfl) (by kernel_rfl)) ?_
  intro W base args ds gs before hval0 hW hcnd _
  have hval : ∀ (j : Nat) t v, Trym.f4.params[j]? = some t → args[j]? = some v → Value.okWide Trym.prog W .any base t v := hval0
  have hW' := hW
  obtain ⟨p, q, hA0, hV, rfl, hfz, hnd⟩ := hW
  have hA : DataW.TrodAll enc Trym.prog W 0 (fun _ => true) true Trym.f4.params.toList args.toList ds p := hA0
  rw [Trym.params4] at hA hval
  obtain ⟨v0, vs0, d0, ds0, p0, q0, hargs, rfl, rfl, h0, r0⟩ := trodAll_cons hA
  obtain ⟨v1, vs1, d1, ds1, p1, q1, rfl, rfl, rfl, h1, r1⟩ := trodAll_cons r0
  obtain ⟨v2, vs2, d2, ds2, p2, q2, rfl, rfl, rfl, h2, r2⟩ := trodAll_cons r1
  obtain ⟨v3, vs3, d3, ds3, p3, q3, rfl, rfl, rfl, h3, r3⟩ := trodAll_cons r2
  obtain ⟨v4, vs4, d4, ds4, p4, q4, rfl, rfl, rfl, h4, r4⟩ := trodAll_cons r3
  obtain ⟨v5, vs5, d5, ds5, p5, q5, rfl, rfl, rfl, h5, r5⟩ := trodAll_cons r4
  obtain ⟨v6, vs6, d6, ds6, p6, q6, rfl, rfl, rfl, h6, r6⟩ := trodAll_cons r5
  obtain ⟨v7, vs7, d7, ds7, p7, q7, rfl, rfl, rfl, h7, r7⟩ := trodAll_cons r6
  obtain ⟨v8, vs8, d8, ds8, p8, q8, rfl, rfl, rfl, h8, r8⟩ := trodAll_cons r7
  obtain ⟨rfl, rfl, rfl⟩ := trodAll_nil r8
  obtain rfl : args = #[v0, v1, v2, v3, v4, v5, v6, v7, v8] := by cases args; simp_all
  obtain ⟨rfl, rfl⟩ := trodVars_none hV
  obtain ⟨a0, rfl, rfl, rfl, w0⟩ := open_int Trym.underlying5 (hval 0 5 v0 rfl rfl) h0
  obtain ⟨a1, rfl, rfl, rfl, w1⟩ := open_int Trym.underlying26 (hval 1 26 v1 rfl rfl) h1
  obtain ⟨a2, rfl, rfl, rfl, w2⟩ := open_int Trym.underlying26 (hval 2 26 v2 rfl rfl) h2
  obtain ⟨a3, rfl, rfl, rfl, w3⟩ := open_int Trym.underlying26 (hval 3 26 v3 rfl rfl) h3
  obtain ⟨a4, rfl, rfl, rfl, w4⟩ := open_int Trym.underlying26 (hval 4 26 v4 rfl rfl) h4
  obtain ⟨a5, len5, cap5, rfl⟩ := okWide_slice Trym.underlying27 (hval 5 27 v5 rfl rfl)
  have lt5 : ∀ x ∈ p5, x.block < W.heap.size := by obtain ⟨m, hm⟩ := h5; exact DataW.trod_lt m _ _ _ hm
  obtain ⟨z5, w5⟩ := opened Trym.underlying27 Trym.underlying26 (by kernel_rfl) h5
  obtain ⟨a6, len6, cap6, rfl⟩ := okWide_slice Trym.underlying22 (hval 6 22 v6 rfl rfl)
  have lt6 : ∀ x ∈ p6, x.block < W.heap.size := by obtain ⟨m, hm⟩ := h6; exact DataW.trod_lt m _ _ _ hm
  obtain ⟨z6, w6⟩ := opened Trym.underlying22 Trym.underlying5 (by kernel_rfl) h6
  obtain ⟨a7, len7, cap7, rfl⟩ := okWide_slice Trym.underlying27 (hval 7 27 v7 rfl rfl)
  have lt7 : ∀ x ∈ p7, x.block < W.heap.size := by obtain ⟨m, hm⟩ := h7; exact DataW.trod_lt m _ _ _ hm
  obtain ⟨z7, w7⟩ := opened Trym.underlying27 Trym.underlying26 (by kernel_rfl) h7
  obtain ⟨a8, len8, cap8, rfl⟩ := okWide_slice Trym.underlying28 (hval 8 28 v8 rfl rfl)
  have lt8 : ∀ x ∈ p8, x.block < W.heap.size := by obtain ⟨m, hm⟩ := h8; exact DataW.trod_lt m _ _ _ hm
  obtain ⟨A, L, C, Z, w8⟩ := openedD h8
  clear hA0 hval0
  have hb := bounds_u8 w0
  refine (law4 a0 a1 a2 a3 a4 a5 a6 a7 a8 len5 cap5 len6 cap6 len7 cap7 len8 cap8 z5 z6 z7 A L C Z W hb.1 hb.2 w5 w6 w7 w8).mono fun e W' ⟨he, bel⟩ => ?_
  subst he
  exact ⟨_, rfl, _, _, _, [], _, [], hW', trodAll_mk1 (shut_bool Trym.underlying4 _), (trodAll_cons_mk (shut_int Trym.underlying5 w0) (trodAll_cons_mk (shut_int Trym.underlying26 w1) (trodAll_cons_mk (shut_int Trym.underlying26 w2) (trodAll_cons_mk (shut_int Trym.underlying26 w3) (trodAll_cons_mk (shut_int Trym.underlying26 w4) (trodAll_cons_mk (Below.trod laidOut (by kernel_rfl) (of_decide_eq_true (by kernel_rfl)) h5 bel lt5) (trodAll_cons_mk (Below.trod laidOut (by kernel_rfl) (of_decide_eq_true (by kernel_rfl)) h6 bel lt6) (trodAll_cons_mk (Below.trod laidOut (by kernel_rfl) (of_decide_eq_true (by kernel_rfl)) h7 bel lt7) (trodAll_cons_mk (Below.trod laidOut (by kernel_rfl) (of_decide_eq_true (by kernel_rfl)) h8 bel lt8) trodAll_mk0))))))))), rfl, bel.frame _, fun h => by cases h⟩

theorem over : Rows.fnMessageAnswerIsFixedPointAndIgnoresAVPsRow.holds Trym.pinned (OpenSpec.ofChange Rows.fnMessageAnswerIsFixedPointAndIgnoresAVPsSpec) :=
  OpenClaim.holds_of_wide 4 Trym.f4 rfl rfl rfl rfl rfl rfl rfl ⟨rfl, rfl, rfl, rfl, rfl⟩ rfl rfl rfl rfl rfl (by kernel_rfl) Trym.func4 (by kernel_rfl)
    (of_decide_eq_true (by kernel_rfl)) (by unfold Func.isWrapper; first | (rw [if_pos (by decide +kernel)]; kernel_rfl) | (rw [if_neg (by decide +kernel)]; exact ⟨rfl, rfl⟩))
    (fun os started H enc _ => lifted os started H enc)

/-- ████ THE STATEMENT ████ -/
theorem proved : Rows.FnMessageAnswerIsFixedPointAndIgnoresAVPsSaid := over
#print axioms proved
end Go.Proofs.Qxb6605620aMods.fnMessageAnswerIsFixedPointAndIgnoresAVPs
