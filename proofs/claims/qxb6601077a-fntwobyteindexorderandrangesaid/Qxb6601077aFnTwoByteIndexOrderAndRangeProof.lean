/-
  THE SHELL OF A PROOF OF 'Rows.FnTwoByteIndexOrderAndRangeSaid' ('example.com/tranchery/tranchery/zzlaws_pkg_gb18030_b1.FnTwoByteIndexOrderAndRange'), WRITTEN BY PROGRAM (proof-skeleton.mjs) off the guide's own print for that function. Not trusted: Lean checks it.
  The walk is filled.
-/
import Derived.Test.Qxb6601077aRows
import Derived.WalkKit
import Derived.ProofKit
import Derived.OpenShut
import Derived.ShutString
import Derived.Test.Qxb6601077aIdx
namespace Go.Proofs.Qxb6601077a.fnTwoByteIndexOrderAndRange
open Go.ChangeShapes Go.WideShapes Go.ChangeAt Go.RowKit
open Go.ChangeMaps (open_string shut_string)
set_option linter.unusedVariables false      -- a walk need not use every 'w<i>' (that an integer argument fits its kind)

theorem own : ownKnob Try.prog.godebug = none := by kernel_rfl

/-! ### THE WALK -/
set_option maxHeartbeats 2000000 in
theorem walk (a0 : Int) (a1 : Int) (a2 : Int) (a3 : Int) (w0 : (Lit.int .u8 a0).wf = true) (w1 : (Lit.int .u8 a1).wf = true) (w2 : (Lit.int .u8 a2).wf = true) (w3 : (Lit.int .u8 a3).wf = true) (w : World) :
    Calls Try.prog 4 #[.int .u8 a0, .int .u8 a1, .int .u8 a2, .int .u8 a3] w fun e w' => e = .returned (.bool true) ∧ Grown w w' := by
  have HG : Hid (∀ W : World, Grown W W) := Grown.refl
  obtain ⟨l0, l1⟩ := bounds_u8 w0
  obtain ⟨t0, t1⟩ := bounds_u8 w1
  obtain ⟨k0, k1⟩ := bounds_u8 w2
  obtain ⟨u0, u1⟩ := bounds_u8 w3
  clear w0 w1 w2 w3
  by_cases hv1 : Ix.Valid2 a0 a1
  rotate_left
  · have HV : Hid (¬ Ix.Valid2 a0 a1) := hv1
    clear hv1
    go_enter Try.func4, Try.ntmps4
    go_wp2_with fail
    refine (Ix.valid_no _ _ _ l0 l1 t0 t1 HV.out).mono ?_
    rintro e w1 ⟨rfl, rfl⟩
    go_wp2_with fail
    go_ret
    exact ⟨rfl, HG.out _⟩
  have HV1 : Hid (Ix.Valid2 a0 a1) := hv1
  clear hv1
  by_cases hv2 : Ix.Valid2 a2 a3
  rotate_left
  · have HV : Hid (¬ Ix.Valid2 a2 a3) := hv2
    clear hv2
    go_enter Try.func4, Try.ntmps4
    go_wp2_with fail
    refine (Ix.valid_yes _ _ _ HV1.out).mono ?_
    rintro e w1 ⟨rfl, rfl⟩
    go_wp2_with fail
    refine (Ix.valid_no _ _ _ k0 k1 u0 u1 HV.out).mono ?_
    rintro e w2 ⟨rfl, rfl⟩
    go_wp2_with fail
    go_ret
    exact ⟨rfl, HG.out _⟩
  have HV2 : Hid (Ix.Valid2 a2 a3) := hv2
  clear hv2
  clear l0 l1 t0 t1 k0 k1 u0 u1
  obtain ⟨m1, hm1⟩ : ∃ m, m = Ix.idx2 a0 a1 := ⟨_, rfl⟩
  obtain ⟨m2, hm2⟩ : ∃ m, m = Ix.idx2 a2 a3 := ⟨_, rfl⟩
  have b1 : 0 ≤ m1 ∧ m1 < 23940 := by
    obtain ⟨h1, h2, h3, h4, h5⟩ := HV1.out
    rw [hm1]; unfold Ix.idx2; split <;> omega
  have b2 : 0 ≤ m2 ∧ m2 < 23940 := by
    obtain ⟨h1, h2, h3, h4, h5⟩ := HV2.out
    rw [hm2]; unfold Ix.idx2; split <;> omega
  obtain ⟨b1l, b1u⟩ := b1
  obtain ⟨b2l, b2u⟩ := b2
  have HM1 : Hid (m1 = Ix.idx2 a0 a1) := hm1
  have HM2 : Hid (m2 = Ix.idx2 a2 a3) := hm2
  have HLT : Hid ((a0 < a2 ∨ (a0 = a2 ∧ a1 < a3)) → m1 < m2) := by
    obtain ⟨h1, h2, h3, h4, h5⟩ := HV1.out
    obtain ⟨g1, g2, g3, g4, g5⟩ := HV2.out
    intro h
    rw [hm1, hm2]; unfold Ix.idx2; split <;> split <;> omega
  have HGT : Hid ((a2 < a0 ∨ (a0 = a2 ∧ a3 < a1)) → m2 < m1) := by
    obtain ⟨h1, h2, h3, h4, h5⟩ := HV1.out
    obtain ⟨g1, g2, g3, g4, g5⟩ := HV2.out
    intro h
    rw [hm1, hm2]; unfold Ix.idx2; split <;> split <;> omega
  clear hm1 hm2
  by_cases c1 : a0 < a2
  · have d := HLT.out (.inl c1)
    have e1 : (a0 == a2) = false := by rw [beq_eq_false_iff_ne]; omega
    have e2 : (m1 == m2) = false := by rw [beq_eq_false_iff_ne]; omega
    go_enter Try.func4, Try.ntmps4
    go_wp2_with fail
    refine (Ix.valid_yes _ _ _ HV1.out).mono ?_
    rintro e w1 ⟨rfl, rfl⟩
    go_wp2_with fail
    refine (Ix.valid_yes _ _ _ HV2.out).mono ?_
    rintro e w2 ⟨rfl, rfl⟩
    go_wp2_with fail
    refine (Ix.two_yes _ _ _ HV1.out m1 HM1.out).mono ?_
    rintro e w3 ⟨rfl, rfl⟩
    go_wp2_with fail
    refine (Ix.two_yes _ _ _ HV2.out m2 HM2.out).mono ?_
    rintro e w4 ⟨rfl, rfl⟩
    go_wp2_with fail
    go_ret
    exact ⟨rfl, HG.out _⟩
  by_cases c2 : a2 < a0
  · have d := HGT.out (.inl c2)
    have e1 : (a0 == a2) = false := by rw [beq_eq_false_iff_ne]; omega
    have e2 : (m1 == m2) = false := by rw [beq_eq_false_iff_ne]; omega
    go_enter Try.func4, Try.ntmps4
    go_wp2_with fail
    refine (Ix.valid_yes _ _ _ HV1.out).mono ?_
    rintro e w1 ⟨rfl, rfl⟩
    go_wp2_with fail
    refine (Ix.valid_yes _ _ _ HV2.out).mono ?_
    rintro e w2 ⟨rfl, rfl⟩
    go_wp2_with fail
    refine (Ix.two_yes _ _ _ HV1.out m1 HM1.out).mono ?_
    rintro e w3 ⟨rfl, rfl⟩
    go_wp2_with fail
    refine (Ix.two_yes _ _ _ HV2.out m2 HM2.out).mono ?_
    rintro e w4 ⟨rfl, rfl⟩
    go_wp2_with fail
    go_ret
    exact ⟨rfl, HG.out _⟩
  obtain rfl : a0 = a2 := by omega
  by_cases c3 : a1 < a3
  · have d := HLT.out (.inr ⟨rfl, c3⟩)
    have e1 : (a1 == a3) = false := by rw [beq_eq_false_iff_ne]; omega
    have e2 : (m1 == m2) = false := by rw [beq_eq_false_iff_ne]; omega
    go_enter Try.func4, Try.ntmps4
    go_wp2_with fail
    refine (Ix.valid_yes _ _ _ HV1.out).mono ?_
    rintro e w1 ⟨rfl, rfl⟩
    go_wp2_with fail
    refine (Ix.valid_yes _ _ _ HV2.out).mono ?_
    rintro e w2 ⟨rfl, rfl⟩
    go_wp2_with fail
    refine (Ix.two_yes _ _ _ HV1.out m1 HM1.out).mono ?_
    rintro e w3 ⟨rfl, rfl⟩
    go_wp2_with fail
    refine (Ix.two_yes _ _ _ HV2.out m2 HM2.out).mono ?_
    rintro e w4 ⟨rfl, rfl⟩
    go_wp2_with fail
    go_ret
    exact ⟨rfl, HG.out _⟩
  by_cases c4 : a3 < a1
  · have d := HGT.out (.inr ⟨rfl, c4⟩)
    have e1 : (a1 == a3) = false := by rw [beq_eq_false_iff_ne]; omega
    have e2 : (m1 == m2) = false := by rw [beq_eq_false_iff_ne]; omega
    go_enter Try.func4, Try.ntmps4
    go_wp2_with fail
    refine (Ix.valid_yes _ _ _ HV1.out).mono ?_
    rintro e w1 ⟨rfl, rfl⟩
    go_wp2_with fail
    refine (Ix.valid_yes _ _ _ HV2.out).mono ?_
    rintro e w2 ⟨rfl, rfl⟩
    go_wp2_with fail
    refine (Ix.two_yes _ _ _ HV1.out m1 HM1.out).mono ?_
    rintro e w3 ⟨rfl, rfl⟩
    go_wp2_with fail
    refine (Ix.two_yes _ _ _ HV2.out m2 HM2.out).mono ?_
    rintro e w4 ⟨rfl, rfl⟩
    go_wp2_with fail
    go_ret
    exact ⟨rfl, HG.out _⟩
  obtain rfl : a1 = a3 := by omega
  obtain rfl : m1 = m2 := by rw [HM1.out, HM2.out]
  go_enter Try.func4, Try.ntmps4
  go_wp2_with fail
  refine (Ix.valid_yes _ _ _ HV1.out).mono ?_
  rintro e w1 ⟨rfl, rfl⟩
  go_wp2_with fail
  refine (Ix.valid_yes _ _ _ HV1.out).mono ?_
  rintro e w2 ⟨rfl, rfl⟩
  go_wp2_with fail
  refine (Ix.two_yes _ _ _ HV1.out m1 HM1.out).mono ?_
  rintro e w3 ⟨rfl, rfl⟩
  go_wp2_with fail
  refine (Ix.two_yes _ _ _ HV1.out m1 HM1.out).mono ?_
  rintro e w4 ⟨rfl, rfl⟩
  go_wp2_with fail
  go_ret
  exact ⟨rfl, HG.out _⟩

/-! ### THE ROW's STEP: WRITTEN OUT: LEAVE IT -/
set_option maxRecDepth 100000 in
theorem lifted (os : Os) (started : os.Started) (H : Type) (enc : TypeId × Value → H) :
    ReturnsInHanded {} Try.checked os 4 .any (Rows.fnTwoByteIndexOrderAndRangeSpec.pre6 enc Try.prog Try.f4 Rows.fnTwoByteIndexOrderAndRangeRow.domain false) (Rows.fnTwoByteIndexOrderAndRangeSpec.post enc Try.prog Try.f4 false true false false) := by
  refine returnsInHanded_of_change (C := Try.checked) own started (by kernel_rfl) Try.func4
    (ChangeSpec.witness6 (enc := enc) (C := Try.checked) false ⟨#[], #[.int .u8 0, .int .u8 0, .int .u8 0, .int .u8 0], []⟩ 8 (by kernel_rfl) (by kernel_rfl) (by kernel_rfl) (by kernel_rfl)) ?_
  intro W base args ds gs before hval0 hW hcnd _
  have hval : ∀ (j : Nat) t v, Try.f4.params[j]? = some t → args[j]? = some v → Value.okWide Try.prog W .any base t v := hval0
  have hW' := hW
  obtain ⟨p, q, hA0, hV, rfl, hfz, hnd⟩ := hW
  have hA : DataW.TrodAll enc Try.prog W 0 (fun _ => true) true Try.f4.params.toList args.toList ds p := hA0
  rw [Try.params4] at hA hval
  obtain ⟨v0, vs0, d0, ds0, p0, q0, hargs, rfl, rfl, h0, r0⟩ := trodAll_cons hA
  obtain ⟨v1, vs1, d1, ds1, p1, q1, rfl, rfl, rfl, h1, r1⟩ := trodAll_cons r0
  obtain ⟨v2, vs2, d2, ds2, p2, q2, rfl, rfl, rfl, h2, r2⟩ := trodAll_cons r1
  obtain ⟨v3, vs3, d3, ds3, p3, q3, rfl, rfl, rfl, h3, r3⟩ := trodAll_cons r2
  obtain ⟨rfl, rfl, rfl⟩ := trodAll_nil r3
  obtain rfl : args = #[v0, v1, v2, v3] := by cases args; simp_all
  obtain ⟨rfl, rfl⟩ := trodVars_none hV
  obtain ⟨a0, rfl, rfl, rfl, w0⟩ := open_int Try.underlying5 (hval 0 5 v0 rfl rfl) h0
  obtain ⟨a1, rfl, rfl, rfl, w1⟩ := open_int Try.underlying5 (hval 1 5 v1 rfl rfl) h1
  obtain ⟨a2, rfl, rfl, rfl, w2⟩ := open_int Try.underlying5 (hval 2 5 v2 rfl rfl) h2
  obtain ⟨a3, rfl, rfl, rfl, w3⟩ := open_int Try.underlying5 (hval 3 5 v3 rfl rfl) h3
  clear hA0 hval0
  simp only [List.append_nil] at hW'
  refine (walk a0 a1 a2 a3 w0 w1 w2 w3 W).mono fun e W' ⟨he, hg⟩ => ?_
  subst he
  exact ⟨_, rfl, post_of_same (pa := []) (pv := []) hW' (fun _ _ _ => (trodAll_cons_mk (shut_bool Try.underlying4 _) trodAll_mk0)) (fun sp _ => (trodAll_cons_mk (shut_int Try.underlying5 w0) (trodAll_cons_mk (shut_int Try.underlying5 w1) (trodAll_cons_mk (shut_int Try.underlying5 w2) (trodAll_cons_mk (shut_int Try.underlying5 w3) trodAll_mk0))))) (fun _ _ => rfl) rfl
    (hg.frame _) hg.2.1 (ok_one (by kernel_rfl) rfl (okWide_bool_mk Try.underlying4 _))⟩

theorem over : Rows.fnTwoByteIndexOrderAndRangeRow.holds Try.pinned (OpenSpec.ofChange Rows.fnTwoByteIndexOrderAndRangeSpec) :=
  OpenClaim.holds_of_wide 4 Try.f4 rfl rfl rfl rfl rfl rfl rfl ⟨rfl, rfl, rfl, rfl, rfl⟩ rfl rfl rfl rfl rfl (by kernel_rfl) Try.func4 (by kernel_rfl)
    (of_decide_eq_true (by kernel_rfl)) (by unfold Func.isWrapper; first | (rw [if_pos (by decide +kernel)]; kernel_rfl) | (rw [if_neg (by decide +kernel)]; exact ⟨rfl, rfl⟩))
    (fun os started H enc _ => lifted os started H enc)

/-- THE STATEMENT -/
theorem proved : Rows.FnTwoByteIndexOrderAndRangeSaid :=
  over
end Go.Proofs.Qxb6601077a.fnTwoByteIndexOrderAndRange
