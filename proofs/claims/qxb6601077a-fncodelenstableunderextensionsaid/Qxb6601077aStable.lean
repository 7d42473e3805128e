/-
  The walk of FnCodeLenStableUnderExtension.
-/
import Derived.Test.Qxb6601077aLen
namespace Go.Proofs.Qxb6601077a.Ix
open Go.RowKit
set_option linter.unusedVariables false

theorem bound22 (a1 a2 : Option Addr) (n1 c1 n2 c2 : Nat) (w : World) (h1 : n1 ≤ 524288) (h2 : n2 ≤ 524288) :
    Calls Try.prog 22 #[.slice a1 n1 c1, .slice a2 n2 c2] w fun e w' => e = .returned (.bool true) ∧ w' = w := by
  go_enter Try.func22, Try.ntmps22
  go_wp2
  go_ret
  exact ⟨rfl, rfl⟩

/-- The plain law: the answer over the text alone and over the longer text. -/
def Stable (n1 n2 : Nat) (N M : Int) : Prop :=
  (0 < N ∧ N ≤ n1 ∧ M = N) ∨ (N = 0 ∧ n1 < 4 ∧ M = 0 ∧ n1 + n2 < 4) ∨ (N = 0 ∧ n1 < 4 ∧ n1 < M)
theorem cl_stable (n1 n2 : Nat) (x0 x1 y1 : Int) (h1 : 1 ≤ n1) (hy : 2 ≤ n1 → y1 = x1) : Stable n1 n2 (cl n1 x0 x1) (cl (n1 + n2) x0 y1) := by
  by_cases q0 : 129 ≤ x0 ∧ x0 ≤ 254
  · by_cases q1 : n1 < 2
    · have e1 : cl n1 x0 x1 = 0 := by simp [cl, q0, q1]
      by_cases q2 : n1 + n2 < 2
      · have e2 : cl (n1 + n2) x0 y1 = 0 := by simp [cl, q0, q2]
        rw [e1, e2]; unfold Stable; omega
      · by_cases q3 : 48 ≤ y1 ∧ y1 ≤ 57
        · by_cases q4 : n1 + n2 < 4
          · have e2 : cl (n1 + n2) x0 y1 = 0 := by simp [cl, q0, q3, q4]
            rw [e1, e2]; unfold Stable; omega
          · have e2 : cl (n1 + n2) x0 y1 = 4 := by simp [cl, q0, q2, q3, q4]
            rw [e1, e2]; unfold Stable; omega
        · have e2 : cl (n1 + n2) x0 y1 = 2 := by simp only [cl, if_pos q0, if_neg q2, if_neg q3]
          rw [e1, e2]; unfold Stable; omega
    · have hyx := hy (by omega)
      subst hyx
      have q2 : ¬ n1 + n2 < 2 := by omega
      by_cases q3 : 48 ≤ y1 ∧ y1 ≤ 57
      · by_cases q4 : n1 < 4
        · have e1 : cl n1 x0 y1 = 0 := by simp [cl, q0, q3, q4]
          by_cases q5 : n1 + n2 < 4
          · have e2 : cl (n1 + n2) x0 y1 = 0 := by simp [cl, q0, q3, q5]
            rw [e1, e2]; unfold Stable; omega
          · have e2 : cl (n1 + n2) x0 y1 = 4 := by simp [cl, q0, q2, q3, q5]
            rw [e1, e2]; unfold Stable; omega
        · have q5 : ¬ n1 + n2 < 4 := by omega
          have e1 : cl n1 x0 y1 = 4 := by simp [cl, q0, q1, q3, q4]
          have e2 : cl (n1 + n2) x0 y1 = 4 := by simp [cl, q0, q2, q3, q5]
          rw [e1, e2]; unfold Stable; omega
      · have e1 : cl n1 x0 y1 = 2 := by simp only [cl, if_pos q0, if_neg q1, if_neg q3]
        have e2 : cl (n1 + n2) x0 y1 = 2 := by simp only [cl, if_pos q0, if_neg q2, if_neg q3]
        rw [e1, e2]; unfold Stable; omega
  · have e1 : cl n1 x0 x1 = 1 := by simp only [cl, if_neg q0]
    have e2 : cl (n1 + n2) x0 y1 = 1 := by simp only [cl, if_neg q0]
    rw [e1, e2]; unfold Stable; omega
theorem cl_bd (n : Nat) (x0 x1 : Int) : 0 ≤ cl n x0 x1 ∧ cl n x0 x1 ≤ 4 := by
  unfold cl; split <;> (try split) <;> (try split) <;> (try split) <;> omega

theorem BytesAt.cells {w : World} {g o : Nat} {zs : List Int} (h : BytesAt w (some ⟨g, o, none⟩) zs) (i : Nat) (hi : i < zs.length) : w.cell? ⟨g, o + i, none⟩ = some (.int .u8 zs[i]) := by
  rcases h with h | ⟨b, o', ha, _, hc⟩
  · subst h; exact absurd hi (Nat.not_lt_zero _)
  · injection ha with ha
    injection ha with h1 h2 _
    subst h1; subst h2
    exact hc i hi
theorem splice2 (Z X Y : List Value) (k : Nat) (hk : X.length = k) (hZ : Z.length = k + Y.length) : splice (splice Z 0 X) k Y = X ++ Y := by
  subst hk
  simp [splice]
  omega

set_option maxHeartbeats 4000000 in
theorem stable_walk (a1 a2 : Option Addr) (n1 c1 n2 c2 : Nat) (Z1 Z2 : List Int) (w : World) (hn1 : Z1.length = n1) (hn2 : Z2.length = n2) (h1 : BytesAt w a1 Z1) (h2 : BytesAt w a2 Z2) (m1 : n1 ≤ maxLen) (m2 : n2 ≤ maxLen) :
    Calls Try.prog 10 #[.slice a1 n1 c1, .slice a2 n2 c2] w fun e w' => e = .returned (.bool true) ∧ Below w.heap.size w w' := by
  unfold maxLen at m1 m2
  have H1 : Hid (BytesAt w a1 Z1) := h1
  have H2 : Hid (BytesAt w a2 Z2) := h2
  have HN1 : Hid (Z1.length = n1) := hn1
  have HN2 : Hid (Z2.length = n2) := hn2
  clear h1 h2 hn1 hn2
  by_cases p1 : n1 ≤ 524288
  rotate_left
  · go_enter Try.func10, Try.ntmps10
    go_wp2
    all_goals (go_ret; exact ⟨rfl, Below.refl _ _⟩)
  by_cases p2 : n2 ≤ 524288
  rotate_left
  · go_enter Try.func10, Try.ntmps10
    go_wp2
    all_goals (go_ret; exact ⟨rfl, Below.refl _ _⟩)
  by_cases p3 : n1 = 0
  · subst p3
    go_enter Try.func10, Try.ntmps10
    go_wp2
    all_goals (go_ret; exact ⟨rfl, Below.refl _ _⟩)
  have p3b : ((n1 : Int) == 0) = false := by rw [beq_eq_false_iff_ne]; omega
  obtain ⟨x, hx⟩ : ∃ x, a1 = some x := by
    rcases H1.out with h | ⟨b, o, ha, _⟩
    · exfalso; have := HN1.out; rw [h] at this; exact p3 this.symm
    · exact ⟨_, ha⟩
  subst hx
  have hZ1 : 0 < Z1.length := by rw [HN1.out]; omega
  obtain ⟨x0, hx0⟩ : ∃ x0, x0 = Z1[0] := ⟨_, rfl⟩
  obtain ⟨x1, hx1⟩ : ∃ x1, x1 = Z1[1]?.getD 0 := ⟨_, rfl⟩
  obtain ⟨y1, hy1⟩ : ∃ y1, y1 = (Z1 ++ Z2)[1]?.getD 0 := ⟨_, rfl⟩
  have HX0 : Hid (x0 = Z1[0]) := hx0
  have HX1 : Hid (x1 = Z1[1]?.getD 0) := hx1
  have HY1 : Hid (y1 = (Z1 ++ Z2)[1]?.getD 0) := hy1
  have hyx : 2 ≤ n1 → y1 = x1 := by
    intro h
    rw [hy1, hx1, List.getElem?_append_left (by rw [HN1.out]; omega)]
  obtain ⟨N, hN⟩ : ∃ N, N = cl n1 x0 x1 := ⟨_, rfl⟩
  obtain ⟨M, hM⟩ : ∃ M, M = cl (n1 + n2) x0 y1 := ⟨_, rfl⟩
  have HST : Hid (Stable n1 n2 N M) := by rw [hN, hM]; exact cl_stable n1 n2 x0 x1 y1 (by omega) hyx
  have HN : Hid (N = cl n1 x0 x1) := hN
  have HM : Hid (M = cl (n1 + n2) x0 y1) := hM
  have hNb : 0 ≤ N ∧ N ≤ 4 := by rw [hN]; exact cl_bd _ _ _
  have hMb : 0 ≤ M ∧ M ≤ 4 := by rw [hM]; exact cl_bd _ _ _
  obtain ⟨hN0, hN4⟩ := hNb
  obtain ⟨hM0, hM4⟩ := hMb
  clear hx0 hx1 hy1 hyx hN hM
  obtain ⟨R1, hR1⟩ : ∃ R, R = row Z1 := ⟨_, rfl⟩
  obtain ⟨R2, hR2⟩ : ∃ R, R = row Z2 := ⟨_, rfl⟩
  obtain ⟨Z, hZ⟩ : ∃ Z, Z = zeros (n1 + n2) := ⟨_, rfl⟩
  have HR1 : Hid (R1 = row Z1) := hR1
  have HR2 : Hid (R2 = row Z2) := hR2
  have HZ : Hid (Z = zeros (n1 + n2)) := hZ
  have HL1 : Hid (R1.length = n1) := by show _ = _; rw [hR1, row_len, HN1.out]
  have HL2 : Hid (R2.length = n2) := by show _ = _; rw [hR2, row_len, HN2.out]
  have HLZ : Hid (Z.length = n1 + n2) := by show _ = _; rw [hZ, zeros_len]
  have HO1 : Hid (∀ v ∈ R1, v.oneCell' = true) := by rw [hR1]; exact row_one _
  have HO2 : Hid (∀ v ∈ R2, v.oneCell' = true) := by rw [hR2]; exact row_one _
  clear hR1 hR2 hZ
  obtain ⟨i0, hi, hz0, hz1, hz2⟩ := info_parts Try.info5
  go_enter Try.func10, Try.ntmps10
  go_wp2_with fail
  refine (bound22 (some x) a2 n1 c1 n2 c2 _ p1 p2).mono ?_
  rintro e w0 ⟨rfl, rfl⟩
  go_wp2_with fail
  refine (clone_walk x n1 c1 Z1 _ HN1.out H1.out (by omega)).mono ?_
  rintro e w1 ⟨rfl, hB1, hb1⟩
  go_wp2_with fail
  refine (clone_any a2 n2 c2 Z2 _ HN2.out (H2.out.below hb1) (by omega)).mono ?_
  rintro e w2 ⟨a3, c3, rfl, hB2, hb2⟩
  have hB12 := hB1.below hb2
  have hbb2 := hb1.trans (hb2.mono hb1.size)
  have hG2 : w0.heap.size ≤ w2.heap.size := hbb2.size
  have HB1 : Hid (BytesAt w2 (some ⟨w0.heap.size, 0, none⟩) Z1) := hB12
  have HB2 : Hid (BytesAt w2 a3 Z2) := hB2
  have d0 : w2.cell? ⟨w0.heap.size, 0, none⟩ = some (.int .u8 x0) := by rw [HX0.out]; exact hB12.cells 0 hZ1
  have d1 : 2 ≤ n1 → w2.cell? ⟨w0.heap.size, 0 + 1, none⟩ = some (.int .u8 x1) := by
    intro h
    have h1 : 1 < Z1.length := by rw [HN1.out]; omega
    rw [HX1.out, List.getElem?_eq_getElem h1]
    exact hB12.cells 1 h1
  clear hB1 hb1 hB2 hb2 hB12
  go_wp2_with fail
  refine (codeLen_walk w0.heap.size 0 n1 n1 x0 x1 _ (by omega) (by omega) d0 d1 N HN.out).mono ?_
  rintro e w3 ⟨rfl, rfl⟩
  clear d0 d1
  go_wp2_with (first | (at_make; refine wpList_make_full _ rfl _ _ 28 rfl w0.heap.size 5 i0 (.int .u8 0) 1 Try.underlying28 hi hz0 hz1 .i64 .i64 _ _ (n1 + n2) rfl rfl (by simp) (by simp) (by rw [hz2]; omega) (by unfold maxLen; omega) hG2 ?_; intro w4 hown4 hgrow4; rw [made_is] at hown4; have HG4 : Hid (w4.heap[w3.heap.size]? = some (.cells Z.toArray 5 (0, 0))) := (by rw [HZ.out]; exact own_full hown4); have hb4 : Below w3.heap.size w3 w4 := (Below.refl _ _).grown hgrow4 (Nat.le_refl _) (by simp); clear hown4 hgrow4) | (refine wpList_copy_splice rfl (.tmp 33) (.tmp 34) 28 28 rfl 5 Try.underlying28 Try.size5 _ _ _ _ _ _ rfl rfl w3.heap.size 0 Z 5 HG4.out R1 ?hn ?hpos ?hfit HO1.out w3.heap.size w3 hb4 (Nat.le_refl _) ?_))
  case hn => rw [HL1.out]; exact (Nat.min_eq_left (by omega)).symm
  case hpos =>
    intro h0
    rw [HR1.out] at h0 ⊢
    obtain ⟨ad, e, h⟩ := (HB1.out.below hb4).src h0
    cases e
    intro j v hj
    have hp : (⟨w0.heap.size, 0, none⟩ : Addr).add j = ⟨w0.heap.size, j, none⟩ := by unfold Addr.add; split <;> simp_all
    rw [← hp]; exact h j v hj
  case hfit => rw [HL1.out, HLZ.out]; omega
  intro w5 HG5 hb5
  obtain ⟨Z5, hZ5⟩ : ∃ Z5, Z5 = splice Z 0 R1 := ⟨_, rfl⟩
  have HG5' : Hid (w5.heap[w3.heap.size]? = some (.cells Z5.toArray 5 (0, 0))) := by rw [hZ5]; exact HG5.out
  have HZ5 : Hid (Z5 = splice Z 0 R1) := hZ5
  have HL5 : Hid (Z5.length = n1 + n2) := by show _ = _; rw [hZ5, length_splice _ _ _ (by rw [HL1.out, HLZ.out]; omega), HLZ.out]
  have HB25 : Hid (BytesAt w5 a3 Z2) := HB2.out.below hb5
  clear HG5 hZ5 hb4 HG4
  go_wp2_with (refine wpList_copy_splice rfl (.tmp 39) (.tmp 40) 28 28 rfl 5 Try.underlying28 Try.size5 _ _ _ _ _ _ rfl rfl w3.heap.size n1 Z5 5 HG5'.out R2 ?hn ?hpos ?hfit HO2.out w3.heap.size w3 hb5 (Nat.le_refl _) ?_)
  case hn => rw [HL2.out]; exact (Nat.min_self _).symm
  case hpos.inl => exact List.length_eq_zero_iff.1 (by rw [HL2.out]; assumption)
  case hpos.inr =>
    intro h0
    rw [HR2.out] at h0 ⊢
    exact HB25.out.src h0
  case hfit => rw [HL2.out, HL5.out]; exact Nat.le_refl _
  case inl =>
    have h0 : n2 = 0 := h
    subst h0
    clear h
    intro w6 HG6 hb6
    have HB6 : Hid (BytesAt w6 (some ⟨w3.heap.size, 0, none⟩) (Z1 ++ Z2)) := by
      have h := HG6.out
      rw [HZ5.out, splice2 Z R1 R2 n1 HL1.out (by rw [HLZ.out, HL2.out]), HR1.out, HR2.out, show row Z1 ++ row Z2 = row (Z1 ++ Z2) from by simp [row]] at h
      exact bytesAt_block h
    have hbw : Below w0.heap.size w0 w6 := hbb2.trans (hb6.mono hbb2.size)
    have f0 : w6.cell? ⟨w3.heap.size, 0, none⟩ = some (.int .u8 x0) := by
      have h1 := HB6.out.cells 0 (by rw [List.length_append]; omega)
      rw [List.getElem_append_left hZ1, ← HX0.out] at h1
      exact h1
    have f1 : 2 ≤ n1 + 0 → w6.cell? ⟨w3.heap.size, 0 + 1, none⟩ = some (.int .u8 y1) := by
      intro h
      have hl : 1 < (Z1 ++ Z2).length := by rw [List.length_append, HN1.out, HN2.out]; omega
      rw [HY1.out, List.getElem?_eq_getElem hl]
      exact HB6.out.cells 1 hl
    clear HG6 hb6 HG5' hb5
    go_wp2_with fail
    refine (codeLen_walk w3.heap.size 0 n1 n1 x0 y1 _ (by omega) (by omega) f0 (fun h => f1 (by omega)) M HM.out).mono ?_
    rintro e w7 ⟨rfl, rfl⟩
    clear f0 f1
    rcases HST.out with ⟨s1, s2, s3⟩ | ⟨s1, s2, s3, s4⟩ | ⟨s1, s2, s3⟩
    · subst s3
      go_wp2_with fail
      go_ret
      exact ⟨rfl, hbw⟩
    · subst s1
      subst s3
      have s2i : ¬ (4 : Int) ≤ (n1 : Int) := by omega
      go_wp2_with fail
      go_ret
      exact ⟨rfl, hbw⟩
    · subst s1
      have s2i : ¬ (4 : Int) ≤ (n1 : Int) := by omega
      have t1 : (M != 0) = true := by rw [bne_iff_ne]; omega
      have t2 : (M == 0) = false := by rw [beq_eq_false_iff_ne]; omega
      have t3 : ¬ M ≤ (n1 : Int) := by omega
      go_wp2_with fail
      go_ret
      exact ⟨rfl, hbw⟩
  case inr =>
    intro w6 HG6 hb6
    clear h
    have HB6 : Hid (BytesAt w6 (some ⟨w3.heap.size, 0, none⟩) (Z1 ++ Z2)) := by
      have h := HG6.out
      rw [HZ5.out, splice2 Z R1 R2 n1 HL1.out (by rw [HLZ.out, HL2.out]), HR1.out, HR2.out, show row Z1 ++ row Z2 = row (Z1 ++ Z2) from by simp [row]] at h
      exact bytesAt_block h
    have hbw : Below w0.heap.size w0 w6 := hbb2.trans (hb6.mono hbb2.size)
    have f0 : w6.cell? ⟨w3.heap.size, 0, none⟩ = some (.int .u8 x0) := by
      have h1 := HB6.out.cells 0 (by rw [List.length_append]; omega)
      rw [List.getElem_append_left hZ1, ← HX0.out] at h1
      exact h1
    have f1 : 2 ≤ n1 + n2 → w6.cell? ⟨w3.heap.size, 0 + 1, none⟩ = some (.int .u8 y1) := by
      intro h
      have hl : 1 < (Z1 ++ Z2).length := by rw [List.length_append, HN1.out, HN2.out]; omega
      rw [HY1.out, List.getElem?_eq_getElem hl]
      exact HB6.out.cells 1 hl
    clear HG6 hb6 HG5' hb5
    go_wp2_with fail
    refine (codeLen_walk w3.heap.size 0 (n1 + n2) (n1 + n2) x0 y1 _ (by omega) (by omega) f0 f1 M HM.out).mono ?_
    rintro e w7 ⟨rfl, rfl⟩
    clear f0 f1
    rcases HST.out with ⟨s1, s2, s3⟩ | ⟨s1, s2, s3, s4⟩ | ⟨s1, s2, s3⟩
    · subst s3
      go_wp2_with fail
      go_ret
      exact ⟨rfl, hbw⟩
    · subst s1
      subst s3
      have s4i : ¬ (4 : Int) ≤ (n1 : Int) + n2 := by omega
      have s2i : ¬ (4 : Int) ≤ (n1 : Int) := by omega
      go_wp2_with fail
      go_ret
      exact ⟨rfl, hbw⟩
    · subst s1
      have s2i : ¬ (4 : Int) ≤ (n1 : Int) := by omega
      have t1 : (M != 0) = true := by rw [bne_iff_ne]; omega
      have t2 : (M == 0) = false := by rw [beq_eq_false_iff_ne]; omega
      have t3 : ¬ M ≤ (n1 : Int) := by omega
      by_cases s5 : (4 : Int) ≤ (n1 : Int) + n2
      all_goals
        go_wp2_with fail
        go_ret
        exact ⟨rfl, hbw⟩
end Go.Proofs.Qxb6601077a.Ix
