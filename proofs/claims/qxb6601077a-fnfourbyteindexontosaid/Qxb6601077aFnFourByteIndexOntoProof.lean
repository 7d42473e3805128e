/-
  THE SHELL OF A PROOF OF 'Rows.FnFourByteIndexOntoSaid' ('example.com/tranchery/tranchery/zzlaws_pkg_gb18030_b1.FnFourByteIndexOnto'), WRITTEN BY PROGRAM (proof-skeleton.mjs) off the guide's own print for that function. Not trusted: Lean checks it.
  The walk is filled.
-/
import Derived.Test.Qxb6601077aRows
import Derived.WalkKit
import Derived.ProofKit
import Derived.OpenShut
import Derived.ShutString
import Derived.ChangeOld
import Derived.Below
import Derived.Lib.Builder
import Derived.Test.Qxb6601077aFour
namespace Go.Proofs.Qxb6601077a.fnFourByteIndexOnto
open Go.ChangeShapes Go.WideShapes Go.ChangeAt Go.RowKit
open Go.ChangeMaps (open_string shut_string)
set_option linter.unusedVariables false      -- a walk need not use every 'w<i>' (that an integer argument fits its kind)

theorem own : ownKnob Try.prog.godebug = none := by kernel_rfl

/-! ### THE WALK -/
theorem walk (a0 : Int) (w0 : (Lit.int .i32 a0).wf = true) (w : World) :
    Calls Try.prog 8 #[.int .i32 a0] w fun e w' => e = .returned (.bool true) ∧ Below w.heap.size w w' := by
  have HB : Hid (∀ W : World, Below W.heap.size W W) := fun W => Below.refl _ _
  clear w0
  by_cases h1 : a0 < 0
  · go_enter Try.func8, Try.ntmps8
    go_wp2
    go_ret
    exact ⟨rfl, HB.out _⟩
  by_cases h2 : 1587600 ≤ a0
  · go_enter Try.func8, Try.ntmps8
    go_wp2
    go_ret
    exact ⟨rfl, HB.out _⟩
  go_enter Try.func8, Try.ntmps8
  go_wp2_with fail
  refine (Ix.four_yes w.heap.size 0 4 4 _ _ _ _ _ (by omega) (by omega) (by rw [Lib.cell_of_heap (heap_alloc_new w _)]; rfl) (by rw [Lib.cell_of_heap (heap_alloc_new w _)]; rfl) (by rw [Lib.cell_of_heap (heap_alloc_new w _)]; rfl) (by rw [Lib.cell_of_heap (heap_alloc_new w _)]; rfl)
    ⟨by omega, by omega⟩ ⟨by omega, by omega⟩ ⟨by omega, by omega⟩ ⟨by omega, by omega⟩ a0 (by unfold Ix.idx4; omega)).mono ?_
  rintro e w1 ⟨rfl, hb1⟩
  have hb2 : Below w.heap.size w w1 := ((Below.refl _ w).alloc (Nat.le_refl _) _).trans (hb1.mono (by simp))
  clear hb1
  go_wp2_with fail
  go_ret
  exact ⟨rfl, hb2⟩

/-! ### THE ROW's STEP: WRITTEN OUT: LEAVE IT -/
set_option maxRecDepth 100000 in
theorem lifted (os : Os) (started : os.Started) (H : Type) (enc : TypeId × Value → H) :
    ReturnsInHanded {} Try.checked os 8 .any (Rows.fnFourByteIndexOntoSpec.pre6 enc Try.prog Try.f8 Rows.fnFourByteIndexOntoRow.domain false) (Rows.fnFourByteIndexOntoSpec.post enc Try.prog Try.f8 false true false false) := by
  refine returnsInHanded_of_change (C := Try.checked) own started (by kernel_rfl) Try.func8
    (ChangeSpec.witness6 (enc := enc) (C := Try.checked) false ⟨#[], #[.int .i32 0], []⟩ 8 (by kernel_rfl) (by kernel_rfl) (by kernel_rfl) (by kernel_rfl)) ?_
  intro W base args ds gs before hval0 hW hcnd _
  have hval : ∀ (j : Nat) t v, Try.f8.params[j]? = some t → args[j]? = some v → Value.okWide Try.prog W .any base t v := hval0
  have hW' := hW
  obtain ⟨p, q, hA0, hV, rfl, hfz, hnd⟩ := hW
  have hA : DataW.TrodAll enc Try.prog W 0 (fun _ => true) true Try.f8.params.toList args.toList ds p := hA0
  rw [Try.params8] at hA hval
  obtain ⟨v0, vs0, d0, ds0, p0, q0, hargs, rfl, rfl, h0, r0⟩ := trodAll_cons hA
  obtain ⟨rfl, rfl, rfl⟩ := trodAll_nil r0
  obtain rfl : args = #[v0] := by cases args; simp_all
  obtain ⟨rfl, rfl⟩ := trodVars_none hV
  obtain ⟨a0, rfl, rfl, rfl, w0⟩ := open_int Try.underlying21 (hval 0 21 v0 rfl rfl) h0
  clear hA0 hval0
  simp only [List.append_nil] at hW'
  refine (walk a0 w0 W).mono fun e W' ⟨he, bel⟩ => ?_
  subst he
  exact ⟨_, rfl, _, _, _, [], [], [], hW', trodAll_mk1 (shut_bool Try.underlying4 _), (trodAll_cons_mk (shut_int Try.underlying21 w0) trodAll_mk0), rfl, bel.frame _, fun h => by cases h⟩

theorem over : Rows.fnFourByteIndexOntoRow.holds Try.pinned (OpenSpec.ofChange Rows.fnFourByteIndexOntoSpec) :=
  OpenClaim.holds_of_wide 8 Try.f8 rfl rfl rfl rfl rfl rfl rfl ⟨rfl, rfl, rfl, rfl, rfl⟩ rfl rfl rfl rfl rfl (by kernel_rfl) Try.func8 (by kernel_rfl)
    (of_decide_eq_true (by kernel_rfl)) (by unfold Func.isWrapper; first | (rw [if_pos (by decide +kernel)]; kernel_rfl) | (rw [if_neg (by decide +kernel)]; exact ⟨rfl, rfl⟩))
    (fun os started H enc _ => lifted os started H enc)

/-- THE STATEMENT -/
theorem proved : Rows.FnFourByteIndexOntoSaid :=
  over
end Go.Proofs.Qxb6601077a.fnFourByteIndexOnto
