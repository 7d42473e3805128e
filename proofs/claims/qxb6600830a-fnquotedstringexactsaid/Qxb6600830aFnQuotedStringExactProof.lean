/-
  THE SHELL OF A PROOF OF 'Rows.FnQuotedStringExactSaid' ('example.com/stanchway/stanchway/zzlaws_root_b1.FnQuotedStringExact'), WRITTEN BY PROGRAM (proof-skeleton.mjs) off the guide's own print for that function. Not trusted: Lean checks it.
  The walk is filled; the row's end goes by 'Below' (the string's bytes are frozen in new memory), as the shells over slices do.
-/
import Derived.Test.Qxb6600830aRows
import Derived.WalkKit
import Derived.ProofKit
import Derived.OpenShut
import Derived.ShutString
import Derived.ChangeOld
import Derived.Below
import Derived.Test.Qxb6600830aQsNoCtl
import Derived.Test.Qxb6600830aQsQuote
import Derived.Test.Qxb6600830aQsUnq
namespace Go.Proofs.Qxb6600830a.fnQuotedStringExact
open Go.ChangeShapes Go.WideShapes Go.ChangeAt Go.RowKit
open Go.ChangeMaps (open_string shut_string)
set_option linter.unusedVariables false      -- a walk need not use every 'w<i>' (that an integer argument fits its kind)

theorem own : ownKnob Try.prog.godebug = none := by kernel_rfl

theorem zb_yes (s : ByteArray) (w : World) (hs : s.size ≤ 1048576) :
    Calls Try.prog 6 #[.string s] w fun e w' => e = .returned (.bool true) ∧ w' = w := by
  go_enter Try.func6, Try.ntmps6
  go_wp2
  go_ret
  exact ⟨rfl, rfl⟩
theorem zz_quote (s : ByteArray) (w : World) (r : Value × Bool) (h : Calls Try.prog 19 #[.string s] w fun e w' => e = .returned (.tuple #[r.1, .bool r.2]) ∧ Below w.heap.size w w') :
    Calls Try.prog 7 #[.string s] w fun e w' => e = .returned (.tuple #[r.1, .bool r.2]) ∧ Below w.heap.size w w' := by
  have H : Hid (Calls Try.prog 19 #[.string s] w fun e w' => e = .returned (.tuple #[r.1, .bool r.2]) ∧ Below w.heap.size w w') := h
  clear h
  go_enter Try.func7, Try.ntmps7
  go_wp2_with fail
  refine H.out.mono ?_
  rintro e w1 ⟨rfl, hb⟩
  go_wp2_with fail
  go_ret2
  exact ⟨rfl, hb⟩

/-! ### STEP 1: THE WALK: the Go text returns true; nothing that was there has turned. -/
theorem walk (a0 : ByteArray) (w0 : a0.size ≤ maxLen) (w : World) :
    Calls Try.prog 3 #[.string a0] w fun e w' => e = .returned (.bool true) ∧ Below w.heap.size w w' := by
  unfold maxLen at w0
  by_cases hs : a0.size ≤ 1048576
  · have w0' : a0.size ≤ maxLen := by unfold maxLen; omega
    cases hn : Qs.noCtl a0.data.toList
    · have HN := Qs.quoteRes_no hn
      have hq : Calls Try.prog 19 #[.string a0] w fun e w' => e = .returned (.tuple #[.string ⟨#[]⟩, .bool false]) ∧ Below w.heap.size w w' := by
        refine (Qs.quote_walk a0 w hs).mono ?_
        rintro e w1 ⟨rfl, hb⟩
        rw [HN, hn]
        exact ⟨rfl, hb⟩
      have hc : ∀ w : World, Calls Try.prog 8 #[.string a0] w fun e w' => e = .returned (.bool false) ∧ w' = w := fun w => by
        rw [← hn]; exact Qs.noCtl_walk a0 w w0'
      clear hn HN
      have HQ : Hid _ := hq
      have HC : Hid _ := hc
      clear hq hc
      go_enter Try.func3, Try.ntmps3
      go_wp2_with fail
      refine (zb_yes a0 _ hs).mono ?_
      rintro e w1 ⟨rfl, rfl⟩
      go_wp2_with fail
      refine (zz_quote a0 _ (_, _) HQ.out).mono ?_
      rintro e w2 ⟨rfl, hb2⟩
      go_wp2_with fail
      refine (HC.out _).mono ?_
      rintro e w3 ⟨rfl, rfl⟩
      go_wp2_with fail
      go_ret
      exact ⟨rfl, hb2⟩
    · have HN := Qs.quoteRes_yes hn
      obtain ⟨q, hqq⟩ : ∃ q : ByteArray, q = ⟨(Qs.quoted a0.data.toList).toArray⟩ := ⟨_, rfl⟩
      have hq : Calls Try.prog 19 #[.string a0] w fun e w' => e = .returned (.tuple #[.string q, .bool true]) ∧ Below w.heap.size w w' := by
        refine (Qs.quote_walk a0 w hs).mono ?_
        rintro e w1 ⟨rfl, hb⟩
        rw [HN, hn, ← hqq]
        exact ⟨rfl, hb⟩
      have hc : ∀ w : World, Calls Try.prog 8 #[.string a0] w fun e w' => e = .returned (.bool true) ∧ w' = w := fun w => by
        rw [← hn]; exact Qs.noCtl_walk a0 w w0'
      have hu : ∀ w : World, Calls Try.prog 9 #[.string q] w fun e w' => e = .returned (.tuple #[.string a0, .bool true]) ∧ Below w.heap.size w w' := fun w => by
        have h1 := Qs.unq_walk a0.data.toList q (by rw [hqq]) w (by rw [toList_len]; exact hs)
        rw [← byteArray_of_list (s := a0) rfl] at h1
        exact h1
      clear hn HN hqq
      have HQ : Hid _ := hq
      have HC : Hid _ := hc
      have HU : Hid _ := hu
      clear hq hc hu
      go_enter Try.func3, Try.ntmps3
      go_wp2_with fail
      refine (zb_yes a0 _ hs).mono ?_
      rintro e w1 ⟨rfl, rfl⟩
      go_wp2_with fail
      refine (zz_quote a0 _ (_, _) HQ.out).mono ?_
      rintro e w2 ⟨rfl, hb2⟩
      go_wp2_with fail
      refine (HC.out _).mono ?_
      rintro e w3 ⟨rfl, rfl⟩
      go_wp2_with fail
      refine (HU.out _).mono ?_
      rintro e w4 ⟨rfl, hb4⟩
      go_wp2_with fail
      go_ret
      exact ⟨rfl, hb2.trans (hb4.mono hb2.size)⟩
  · go_enter Try.func3, Try.ntmps3
    go_wp2
    go_ret
    exact ⟨rfl, Below.refl _ _⟩

/-! ### THE ROW's STEP: WRITTEN OUT: LEAVE IT -/
set_option maxRecDepth 100000 in
theorem lifted (os : Os) (started : os.Started) (H : Type) (enc : TypeId × Value → H) :
    ReturnsInHanded {} Try.checked os 3 .any (Rows.fnQuotedStringExactSpec.pre6 enc Try.prog Try.f3 Rows.fnQuotedStringExactRow.domain false) (Rows.fnQuotedStringExactSpec.post enc Try.prog Try.f3 false true false false) := by
  refine returnsInHanded_of_change (C := Try.checked) own started (by kernel_rfl) Try.func3
    (ChangeSpec.witness6 (enc := enc) (C := Try.checked) false ⟨#[], #[.string ByteArray.empty], []⟩ 8 (by kernel_rfl) (by kernel_rfl) (by kernel_rfl) (by kernel_rfl)) ?_
  intro W base args ds gs before hval0 hW hcnd _
  have hval : ∀ (j : Nat) t v, Try.f3.params[j]? = some t → args[j]? = some v → Value.okWide Try.prog W .any base t v := hval0
  have hW' := hW
  obtain ⟨p, q, hA0, hV, rfl, hfz, hnd⟩ := hW
  have hA : DataW.TrodAll enc Try.prog W 0 (fun _ => true) true Try.f3.params.toList args.toList ds p := hA0
  rw [Try.params3] at hA hval
  obtain ⟨v0, vs0, d0, ds0, p0, q0, hargs, rfl, rfl, h0, r0⟩ := trodAll_cons hA
  obtain ⟨rfl, rfl, rfl⟩ := trodAll_nil r0
  obtain rfl : args = #[v0] := by cases args; simp_all
  obtain ⟨rfl, rfl⟩ := trodVars_none hV
  obtain ⟨a0, rfl, rfl, rfl, w0⟩ := open_string Try.underlying9 (hval 0 9 v0 rfl rfl) h0
  clear hA0 hval0
  simp only [List.append_nil] at hW'
  refine (walk a0 w0 W).mono fun e W' ⟨he, bel⟩ => ?_
  subst he
  exact ⟨_, rfl, _, _, _, [], [], [], hW', trodAll_mk1 (shut_bool Try.underlying4 _), (trodAll_cons_mk (shut_string Try.underlying9 w0) trodAll_mk0), rfl, bel.frame _, fun h => by cases h⟩

theorem over : Rows.fnQuotedStringExactRow.holds Try.pinned (OpenSpec.ofChange Rows.fnQuotedStringExactSpec) :=
  OpenClaim.holds_of_wide 3 Try.f3 rfl rfl rfl rfl rfl rfl rfl ⟨rfl, rfl, rfl, rfl, rfl⟩ rfl rfl rfl rfl rfl (by kernel_rfl) Try.func3 (by kernel_rfl)
    (of_decide_eq_true (by kernel_rfl)) (by unfold Func.isWrapper; first | (rw [if_pos (by decide +kernel)]; kernel_rfl) | (rw [if_neg (by decide +kernel)]; exact ⟨rfl, rfl⟩))
    (fun os started H enc _ => lifted os started H enc)

/-- ████ THE STATEMENT ████ -/
theorem proved : Rows.FnQuotedStringExactSaid :=
  over
end Go.Proofs.Qxb6600830a.fnQuotedStringExact
