/-
  THE SHELL OF A PROOF OF 'Rows.FnTwoByteIndexCountsCodesBeforeSaid' ('example.com/tranchery/tranchery/zzlaws_pkg_gb18030_b1.FnTwoByteIndexCountsCodesBefore'), WRITTEN BY PROGRAM (proof-skeleton.mjs) off the guide's own print for that function. Not trusted: Lean checks it.
  The walk is filled.
-/
import Derived.Test.Qxb6601077aRows
import Derived.WalkKit
import Derived.ProofKit
import Derived.OpenShut
import Derived.ShutString
import Derived.Test.Qxb6601077aIdx
namespace Go.Proofs.Qxb6601077a.fnTwoByteIndexCountsCodesBefore
open Go.ChangeShapes Go.WideShapes Go.ChangeAt Go.RowKit
open Go.ChangeMaps (open_string shut_string)
set_option linter.unusedVariables false      -- a walk need not use every 'w<i>' (that an integer argument fits its kind)

theorem own : ownKnob Try.prog.godebug = none := by kernel_rfl

/-! ### THE WALK -/
theorem walk (a0 : Int) (a1 : Int) (w0 : (Lit.int .u8 a0).wf = true) (w1 : (Lit.int .u8 a1).wf = true) (w : World) :
    Calls Try.prog 3 #[.int .u8 a0, .int .u8 a1] w fun e w' => e = .returned (.bool true) ∧ Grown w w' := by
  have HG : Hid (∀ W : World, Grown W W) := Grown.refl
  obtain ⟨l0, l1⟩ := bounds_u8 w0
  obtain ⟨t0, t1⟩ := bounds_u8 w1
  clear w0 w1
  by_cases hv : Ix.Valid2 a0 a1
  · have HV : Hid (Ix.Valid2 a0 a1) := hv
    obtain ⟨h1, h2, h3, h4, h5⟩ := hv
    have hc := Ix.cnt_bd (b := a1) (by omega) (by omega)
    obtain ⟨m, hm⟩ : ∃ m, m = Ix.idx2 a0 a1 := ⟨_, rfl⟩
    obtain ⟨c, hcm⟩ : ∃ c, c = Ix.cnt a1 := ⟨_, rfl⟩
    have HM : Hid (m = Ix.idx2 a0 a1) := hm
    have HC : Hid (c = Ix.cnt a1) := hcm
    have hc0 : 0 ≤ c := by rw [hcm]; exact hc.1
    have hc1 : c ≤ 190 := by rw [hcm]; exact hc.2
    have hmc : m = (a0 - 129) * 190 + c := by
      rw [hm, hcm]; unfold Ix.idx2 Ix.cnt; split <;> split <;> omega
    have te : (m == (a0 - 129) * 190 + c) = true := by rw [beq_iff_eq]; exact hmc
    clear hm hcm hc hmc
    go_enter Try.func3, Try.ntmps3
    go_wp2_with fail
    refine (Ix.two_yes _ _ _ HV.out m HM.out).mono ?_
    rintro e w1 ⟨rfl, rfl⟩
    go_wp2_with fail
    refine (Ix.valid_yes _ _ _ HV.out).mono ?_
    rintro e w2 ⟨rfl, rfl⟩
    go_wp2_with fail
    refine (Ix.trails_walk 255 _ (by omega) (by omega) 190 (by decide)).mono ?_
    rintro e w3 ⟨rfl, rfl⟩
    go_wp2_with fail
    refine (Ix.trails_walk a1 _ (by omega) (by omega) c HC.out).mono ?_
    rintro e w4 ⟨rfl, rfl⟩
    go_wp2_with fail
    go_ret
    exact ⟨rfl, HG.out _⟩
  · have HV : Hid (¬ Ix.Valid2 a0 a1) := hv
    clear hv
    go_enter Try.func3, Try.ntmps3
    go_wp2_with fail
    refine (Ix.two_no _ _ _ l0 l1 t0 t1 HV.out).mono ?_
    rintro e w1 ⟨rfl, rfl⟩
    go_wp2_with fail
    refine (Ix.valid_no _ _ _ l0 l1 t0 t1 HV.out).mono ?_
    rintro e w2 ⟨rfl, rfl⟩
    go_wp2_with fail
    go_ret
    exact ⟨rfl, HG.out _⟩

/-! ### THE ROW's STEP: WRITTEN OUT: LEAVE IT -/
set_option maxRecDepth 100000 in
theorem lifted (os : Os) (started : os.Started) (H : Type) (enc : TypeId × Value → H) :
    ReturnsInHanded {} Try.checked os 3 .any (Rows.fnTwoByteIndexCountsCodesBeforeSpec.pre6 enc Try.prog Try.f3 Rows.fnTwoByteIndexCountsCodesBeforeRow.domain false) (Rows.fnTwoByteIndexCountsCodesBeforeSpec.post enc Try.prog Try.f3 false true false false) := by
  refine returnsInHanded_of_change (C := Try.checked) own started (by kernel_rfl) Try.func3
    (ChangeSpec.witness6 (enc := enc) (C := Try.checked) false ⟨#[], #[.int .u8 0, .int .u8 0], []⟩ 8 (by kernel_rfl) (by kernel_rfl) (by kernel_rfl) (by kernel_rfl)) ?_
  intro W base args ds gs before hval0 hW hcnd _
  have hval : ∀ (j : Nat) t v, Try.f3.params[j]? = some t → args[j]? = some v → Value.okWide Try.prog W .any base t v := hval0
  have hW' := hW
  obtain ⟨p, q, hA0, hV, rfl, hfz, hnd⟩ := hW
  have hA : DataW.TrodAll enc Try.prog W 0 (fun _ => true) true Try.f3.params.toList args.toList ds p := hA0
  rw [Try.params3] at hA hval
  obtain ⟨v0, vs0, d0, ds0, p0, q0, hargs, rfl, rfl, h0, r0⟩ := trodAll_cons hA
  obtain ⟨v1, vs1, d1, ds1, p1, q1, rfl, rfl, rfl, h1, r1⟩ := trodAll_cons r0
  obtain ⟨rfl, rfl, rfl⟩ := trodAll_nil r1
  obtain rfl : args = #[v0, v1] := by cases args; simp_all
  obtain ⟨rfl, rfl⟩ := trodVars_none hV
  obtain ⟨a0, rfl, rfl, rfl, w0⟩ := open_int Try.underlying5 (hval 0 5 v0 rfl rfl) h0
  obtain ⟨a1, rfl, rfl, rfl, w1⟩ := open_int Try.underlying5 (hval 1 5 v1 rfl rfl) h1
  clear hA0 hval0
  simp only [List.append_nil] at hW'
  refine (walk a0 a1 w0 w1 W).mono fun e W' ⟨he, hg⟩ => ?_
  subst he
  exact ⟨_, rfl, post_of_same (pa := []) (pv := []) hW' (fun _ _ _ => (trodAll_cons_mk (shut_bool Try.underlying4 _) trodAll_mk0)) (fun sp _ => (trodAll_cons_mk (shut_int Try.underlying5 w0) (trodAll_cons_mk (shut_int Try.underlying5 w1) trodAll_mk0))) (fun _ _ => rfl) rfl
    (hg.frame _) hg.2.1 (ok_one (by kernel_rfl) rfl (okWide_bool_mk Try.underlying4 _))⟩

theorem over : Rows.fnTwoByteIndexCountsCodesBeforeRow.holds Try.pinned (OpenSpec.ofChange Rows.fnTwoByteIndexCountsCodesBeforeSpec) :=
  OpenClaim.holds_of_wide 3 Try.f3 rfl rfl rfl rfl rfl rfl rfl ⟨rfl, rfl, rfl, rfl, rfl⟩ rfl rfl rfl rfl rfl (by kernel_rfl) Try.func3 (by kernel_rfl)
    (of_decide_eq_true (by kernel_rfl)) (by unfold Func.isWrapper; first | (rw [if_pos (by decide +kernel)]; kernel_rfl) | (rw [if_neg (by decide +kernel)]; exact ⟨rfl, rfl⟩))
    (fun os started H enc _ => lifted os started H enc)

/-- THE STATEMENT -/
theorem proved : Rows.FnTwoByteIndexCountsCodesBeforeSaid :=
  over
end Go.Proofs.Qxb6601077a.fnTwoByteIndexCountsCodesBefore
