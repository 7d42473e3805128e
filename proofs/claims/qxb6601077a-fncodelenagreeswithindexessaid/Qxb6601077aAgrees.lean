/-
  The walk of FnCodeLenAgreesWithIndexes.
-/
import Derived.Test.Qxb6601077aIdx
import Derived.Test.Qxb6601077aFour
import Derived.Test.Qxb6601077aLen
import Derived.Deep.QuietTactic
import Derived.BigQuiet
namespace Go.Proofs.Qxb6601077a.Ix
open Go.RowKit
set_option linter.unusedVariables false

theorem bound20 (a1 : Option Addr) (n1 c1 : Nat) (w : World) (h1 : n1 ≤ 1048576) :
    Calls Try.prog 20 #[.slice a1 n1 c1] w fun e w' => e = .returned (.bool true) ∧ w' = w := by
  go_enter Try.func20, Try.ntmps20
  go_wp2
  go_ret
  exact ⟨rfl, rfl⟩

/-- What twoByteIndex answers of a lead: some place, and whether it is one. -/
theorem two_any (l t : Int) (l0 : 0 ≤ l) (l1 : l ≤ 255) (t0 : 0 ≤ t) (t1 : t ≤ 255) (b : Bool) (hb : b = true ↔ Valid2 l t) :
    ∃ m : Int, ∀ w : World, Calls Try.prog 11 #[.int .u8 l, .int .u8 t] w fun e w' => e = .returned (.tuple #[.int .i64 m, .bool b]) ∧ w' = w := by
  cases b with
  | true => exact ⟨idx2 l t, fun w => two_yes l t w (hb.1 rfl) _ rfl⟩
  | false => exact ⟨0, fun w => two_no l t w l0 l1 t0 t1 (fun h => by have := hb.2 h; cases this)⟩

/-- The plain law: what the answer of codeLen has to do with the indexes' answers. -/
def Agree (n : Nat) (N : Int) (L b2 b4 : Bool) : Prop :=
  (N = 0 ∨ N = 1 ∨ N = 2 ∨ N = 4) ∧ ((N = 1) ↔ L = false) ∧ (2 ≤ n → b2 = true → N = 2) ∧ (4 ≤ n → b4 = true → N = 4)
theorem cl_agree (n : Nat) (x0 x1 x2 x3 : Int) (L b2 b4 : Bool) (hL : L = true ↔ Valid2 x0 64) (h2 : b2 = true ↔ Valid2 x0 x1) (h4 : b4 = true ↔ (Lead x0 ∧ Digit x1 ∧ Lead x2 ∧ Digit x3)) : Agree n (cl n x0 x1) L b2 b4 := by
  unfold Valid2 at hL h2
  unfold Lead Digit at h4
  unfold Agree
  have hLf : L = false ↔ ¬ (129 ≤ x0 ∧ x0 ≤ 254) := by
    cases L with
    | true => have := hL.1 rfl; simp; omega
    | false => simp at hL; simp; omega
  by_cases q0 : 129 ≤ x0 ∧ x0 ≤ 254
  · by_cases q1 : n < 2
    · have e : cl n x0 x1 = 0 := by simp [cl, q0, q1]
      rw [e, hLf]
      refine ⟨by omega, ⟨by omega, fun h => absurd q0 h⟩, by omega, by omega⟩
    · by_cases q2 : 48 ≤ x1 ∧ x1 ≤ 57
      · have hb2 : ¬ b2 = true := by rw [h2]; omega
        by_cases q3 : n < 4
        · have e : cl n x0 x1 = 0 := by simp [cl, q0, q2, q3]
          rw [e, hLf]
          refine ⟨by omega, ⟨by omega, fun h => absurd q0 h⟩, fun _ h => absurd h hb2, by omega⟩
        · have e : cl n x0 x1 = 4 := by simp [cl, q0, q1, q2, q3]
          rw [e, hLf]
          refine ⟨by omega, ⟨by omega, fun h => absurd q0 h⟩, fun _ h => absurd h hb2, fun _ _ => rfl⟩
      · have hb4 : ¬ b4 = true := by rw [h4]; omega
        have e : cl n x0 x1 = 2 := by simp only [cl, if_pos q0, if_neg q1, if_neg q2]
        rw [e, hLf]
        refine ⟨by omega, ⟨by omega, fun h => absurd q0 h⟩, fun _ _ => rfl, fun _ h => absurd h hb4⟩
  · have hb2 : ¬ b2 = true := by rw [h2]; omega
    have hb4 : ¬ b4 = true := by rw [h4]; omega
    have e : cl n x0 x1 = 1 := by simp only [cl, if_neg q0]
    rw [e, hLf]
    refine ⟨by omega, ⟨fun _ => q0, fun _ => rfl⟩, fun _ h => absurd h hb2, fun _ h => absurd h hb4⟩
theorem four_any (g n cap : Nat) (x0 x1 x2 x3 : Int) (hn : 4 ≤ n) (hn2 : n ≤ 1048576) (b : Bool) (hb : b = true ↔ (Lead x0 ∧ Digit x1 ∧ Lead x2 ∧ Digit x3)) :
    ∃ m : Int, ∀ w : World, w.cell? ⟨g, 0, none⟩ = some (.int .u8 x0) → w.cell? ⟨g, 0 + 1, none⟩ = some (.int .u8 x1) → w.cell? ⟨g, 0 + 2, none⟩ = some (.int .u8 x2) → w.cell? ⟨g, 0 + 3, none⟩ = some (.int .u8 x3) →
      Calls Try.prog 16 #[.slice (some ⟨g, 0, none⟩) n cap] w fun e w' => e = .returned (.tuple #[.int .i32 m, .bool b]) ∧ Below w.heap.size w w' := by
  cases b with
  | true =>
    obtain ⟨h0, h1, h2, h3⟩ := hb.1 rfl
    exact ⟨idx4 x0 x1 x2 x3, fun w c0 c1 c2 c3 => four_yes g 0 n cap x0 x1 x2 x3 w hn hn2 c0 c1 c2 c3 h0 h1 h2 h3 _ rfl⟩
  | false => exact ⟨0, fun w c0 c1 c2 c3 => four_no g 0 n cap x0 x1 x2 x3 w hn hn2 c0 c1 c2 c3 (fun h => by have := hb.2 h; cases this)⟩

set_option maxHeartbeats 8000000 in
theorem agrees_walk (a1 : Option Addr) (n c1 : Nat) (Z : List Int) (w : World) (hn : Z.length = n) (h1 : BytesAt w a1 Z) (m1 : n ≤ maxLen) (hz : ∀ z ∈ Z, 0 ≤ z ∧ z ≤ 255) :
    Calls Try.prog 9 #[.slice a1 n c1] w fun e w' => e = .returned (.bool true) ∧ Below w.heap.size w w' := by
  unfold maxLen at m1
  have H1 : Hid (BytesAt w a1 Z) := h1
  have HN : Hid (Z.length = n) := hn
  clear h1 hn
  by_cases p1 : n ≤ 1048576
  rotate_left
  · go_enter Try.func9, Try.ntmps9
    go_wp2
    all_goals (go_ret; exact ⟨rfl, Below.refl _ _⟩)
  by_cases p3 : n = 0
  · subst p3
    go_enter Try.func9, Try.ntmps9
    go_wp2
    all_goals (go_ret; exact ⟨rfl, Below.refl _ _⟩)
  have p3b : ((n : Int) == 0) = false := by rw [beq_eq_false_iff_ne]; omega
  obtain ⟨x, hx⟩ : ∃ x, a1 = some x := by
    rcases H1.out with h | ⟨b, o, ha, _⟩
    · exfalso; have := HN.out; rw [h] at this; exact p3 this.symm
    · exact ⟨_, ha⟩
  subst hx
  -- the first four bytes (0 where there is none)
  obtain ⟨x0, hx0⟩ : ∃ x0, x0 = Z[0]?.getD 0 := ⟨_, rfl⟩
  obtain ⟨x1, hx1⟩ : ∃ x1, x1 = Z[1]?.getD 0 := ⟨_, rfl⟩
  obtain ⟨x2, hx2⟩ : ∃ x2, x2 = Z[2]?.getD 0 := ⟨_, rfl⟩
  obtain ⟨x3, hx3⟩ : ∃ x3, x3 = Z[3]?.getD 0 := ⟨_, rfl⟩
  have hbd : ∀ i : Nat, 0 ≤ Z[i]?.getD 0 ∧ Z[i]?.getD 0 ≤ 255 := by
    intro i
    rcases Nat.lt_or_ge i Z.length with h | h
    · rw [List.getElem?_eq_getElem h]; exact hz _ (List.getElem_mem h)
    · rw [List.getElem?_eq_none h]; exact ⟨by decide, by decide⟩
  have l0 : 0 ≤ x0 ∧ x0 ≤ 255 := by rw [hx0]; exact hbd 0
  have l1 : 0 ≤ x1 ∧ x1 ≤ 255 := by rw [hx1]; exact hbd 1
  obtain ⟨L, hL⟩ : ∃ L : Bool, L = true ↔ Valid2 x0 64 := by
    by_cases h : Valid2 x0 64
    · exact ⟨true, by simp [h]⟩
    · exact ⟨false, by simp [h]⟩
  obtain ⟨b2, hb2⟩ : ∃ L : Bool, L = true ↔ Valid2 x0 x1 := by
    by_cases h : Valid2 x0 x1
    · exact ⟨true, by simp [h]⟩
    · exact ⟨false, by simp [h]⟩
  obtain ⟨b4, hb4⟩ : ∃ L : Bool, L = true ↔ (Lead x0 ∧ Digit x1 ∧ Lead x2 ∧ Digit x3) := by
    by_cases h : (Lead x0 ∧ Digit x1 ∧ Lead x2 ∧ Digit x3)
    · exact ⟨true, by simp [h]⟩
    · exact ⟨false, by simp [h]⟩
  obtain ⟨N, hN⟩ : ∃ N, N = cl n x0 x1 := ⟨_, rfl⟩
  have hag : Agree n N L b2 b4 := by rw [hN]; exact cl_agree n x0 x1 x2 x3 L b2 b4 hL hb2 hb4
  obtain ⟨mL, hcL⟩ := two_any x0 64 l0.1 l0.2 (by omega) (by omega) L hL
  obtain ⟨mB, hcB⟩ := two_any x0 x1 l0.1 l0.2 l1.1 l1.2 b2 hb2
  have HCL : Hid (∀ w : World, Calls Try.prog 11 #[.int .u8 x0, .int .u8 64] w fun e w' => e = .returned (.tuple #[.int .i64 mL, .bool L]) ∧ w' = w) := hcL
  have HCB : Hid (∀ w : World, Calls Try.prog 11 #[.int .u8 x0, .int .u8 x1] w fun e w' => e = .returned (.tuple #[.int .i64 mB, .bool b2]) ∧ w' = w) := hcB
  have HB4 : Hid (b4 = true ↔ (Lead x0 ∧ Digit x1 ∧ Lead x2 ∧ Digit x3)) := hb4
  have HCN : Hid (N = cl n x0 x1) := hN
  have HX0 : Hid (x0 = Z[0]?.getD 0) := hx0
  have HX1 : Hid (x1 = Z[1]?.getD 0) := hx1
  have HX2 : Hid (x2 = Z[2]?.getD 0) := hx2
  have HX3 : Hid (x3 = Z[3]?.getD 0) := hx3
  obtain ⟨g1, g2, g3, g4⟩ := hag
  have G1 : Hid (N = 0 ∨ N = 1 ∨ N = 2 ∨ N = 4) := g1
  have G2 : Hid ((N = 1) ↔ L = false) := g2
  have G3 : Hid (2 ≤ n → b2 = true → N = 2) := g3
  have G4 : Hid (4 ≤ n → b4 = true → N = 4) := g4
  clear hL hb2 hb4 hN hcL hcB hx0 hx1 hx2 hx3 hbd hz g1 g2 g3 g4 l0 l1
  go_enter Try.func9, Try.ntmps9
  go_wp2_with fail
  refine (bound20 (some x) n c1 _ p1).mono ?_
  rintro e w0 ⟨rfl, rfl⟩
  go_wp2_with fail
  refine (clone_walk x n c1 Z _ HN.out H1.out p1).mono ?_
  rintro e w1 ⟨rfl, hB1, hb1⟩
  have cells : ∀ i : Nat, i < n → ∀ y : Int, y = Z[i]?.getD 0 → w1.cell? ⟨w0.heap.size, 0 + i, none⟩ = some (.int .u8 y) := by
    intro i hi y hy
    have hil : i < Z.length := by rw [HN.out]; exact hi
    rw [hy, List.getElem?_eq_getElem hil]
    rcases hB1 with h | ⟨b, o', ha, _, hc⟩
    · subst h; exact absurd hil (Nat.not_lt_zero _)
    · injection ha with ha
      injection ha with h1 h2 _
      rw [h1, h2]
      exact hc i hil
  have CELLS : Hid (∀ i : Nat, i < n → ∀ y : Int, y = Z[i]?.getD 0 → w1.cell? ⟨w0.heap.size, 0 + i, none⟩ = some (.int .u8 y)) := cells
  have d0 : w1.cell? ⟨w0.heap.size, 0, none⟩ = some (.int .u8 x0) := cells 0 (by omega) x0 HX0.out
  have HD1 : Hid (2 ≤ n → w1.cell? ⟨w0.heap.size, 0 + 1, none⟩ = some (.int .u8 x1)) := fun h => cells 1 (by omega) x1 HX1.out
  have hG : w0.heap.size < w1.heap.size := by
    rcases hB1 with h | ⟨b, o', ha, hlt, _⟩
    · exfalso; have := HN.out; rw [h] at this; exact p3 this.symm
    · injection ha with ha
      injection ha with h1 _ _
      rw [h1]; exact hlt
  clear hB1 cells
  generalize w0.heap.size = G at d0 HD1 CELLS hG ⊢
  have n0 : (0 : Int) < (n : Int) := by omega
  go_wp2_with fail
  refine (codeLen_walk G 0 n n x0 x1 _ (by omega) p1 d0 HD1.out N HCN.out).mono ?_
  rintro e w2 ⟨rfl, rfl⟩
  by_cases r1 : n < 2
  · have r1i : ¬ (2 : Int) ≤ (n : Int) := by omega
    have r2i : ¬ (4 : Int) ≤ (n : Int) := by omega
    rcases G1.out with e | e | e | e
    · subst e
      obtain rfl : L = true := by cases L with
        | true => rfl
        | false => have := G2.out.2 rfl; omega
      go_wp2_with fail
      refine (HCL.out _).mono ?_
      rintro e w3 ⟨rfl, rfl⟩
      go_wp2_with fail
      go_ret
      exact ⟨rfl, hb1⟩
    · subst e
      obtain rfl : L = false := G2.out.1 rfl
      go_wp2_with fail
      refine (HCL.out _).mono ?_
      rintro e w3 ⟨rfl, rfl⟩
      go_wp2_with fail
      go_ret
      exact ⟨rfl, hb1⟩
    · subst e
      obtain rfl : L = true := by cases L with
        | true => rfl
        | false => have := G2.out.2 rfl; omega
      go_wp2_with fail
      refine (HCL.out _).mono ?_
      rintro e w3 ⟨rfl, rfl⟩
      go_wp2_with fail
      go_ret
      exact ⟨rfl, hb1⟩
    · subst e
      obtain rfl : L = true := by cases L with
        | true => rfl
        | false => have := G2.out.2 rfl; omega
      go_wp2_with fail
      refine (HCL.out _).mono ?_
      rintro e w3 ⟨rfl, rfl⟩
      go_wp2_with fail
      go_ret
      exact ⟨rfl, hb1⟩
  have n1 : (1 : Int) < (n : Int) := by omega
  have r1i : (2 : Int) ≤ (n : Int) := by omega
  have d1 : w2.cell? ⟨G, 0 + 1, none⟩ = some (.int .u8 x1) := HD1.out (by omega)
  by_cases r2 : n < 4
  · have r2i : ¬ (4 : Int) ≤ (n : Int) := by omega
    rcases G1.out with e | e | e | e
    · subst e
      obtain rfl : L = true := by cases L with
        | true => rfl
        | false => have := G2.out.2 rfl; omega
      obtain rfl : b2 = false := by cases b2 with
        | false => rfl
        | true => have := G3.out (by omega) rfl; omega
      go_wp2_with fail
      refine (HCL.out _).mono ?_
      rintro e w3 ⟨rfl, rfl⟩
      go_wp2_with fail
      go_quiet ((go_at_call 11; exact Calls.quiet_of_same (HCB.out _)))
      go_wp2_with fail
      go_ret
      exact ⟨rfl, below_drewN hb1 _⟩
    · subst e
      obtain rfl : L = false := G2.out.1 rfl
      obtain rfl : b2 = false := by cases b2 with
        | false => rfl
        | true => have := G3.out (by omega) rfl; omega
      go_wp2_with fail
      refine (HCL.out _).mono ?_
      rintro e w3 ⟨rfl, rfl⟩
      go_wp2_with fail
      go_quiet ((go_at_call 11; exact Calls.quiet_of_same (HCB.out _)))
      go_wp2_with fail
      go_ret
      exact ⟨rfl, below_drewN hb1 _⟩
    · subst e
      obtain rfl : L = true := by cases L with
        | true => rfl
        | false => have := G2.out.2 rfl; omega
      cases b2 with
      | true =>
        go_wp2_with fail
        refine (HCL.out _).mono ?_
        rintro e w3 ⟨rfl, rfl⟩
        go_wp2_with fail
        go_quiet ((go_at_call 11; exact Calls.quiet_of_same (HCB.out _)))
        go_wp2_with fail
        go_ret
        exact ⟨rfl, below_drewN hb1 _⟩
      | false =>
        go_wp2_with fail
        refine (HCL.out _).mono ?_
        rintro e w3 ⟨rfl, rfl⟩
        go_wp2_with fail
        go_quiet ((go_at_call 11; exact Calls.quiet_of_same (HCB.out _)))
        go_wp2_with fail
        go_ret
        exact ⟨rfl, below_drewN hb1 _⟩
    · subst e
      obtain rfl : L = true := by cases L with
        | true => rfl
        | false => have := G2.out.2 rfl; omega
      obtain rfl : b2 = false := by cases b2 with
        | false => rfl
        | true => have := G3.out (by omega) rfl; omega
      go_wp2_with fail
      refine (HCL.out _).mono ?_
      rintro e w3 ⟨rfl, rfl⟩
      go_wp2_with fail
      go_quiet ((go_at_call 11; exact Calls.quiet_of_same (HCB.out _)))
      go_wp2_with fail
      go_ret
      exact ⟨rfl, below_drewN hb1 _⟩
  have r2i : (4 : Int) ≤ (n : Int) := by omega
  have d2 : w2.cell? ⟨G, 0 + 2, none⟩ = some (.int .u8 x2) := CELLS.out 2 (by omega) x2 HX2.out
  have d3 : w2.cell? ⟨G, 0 + 3, none⟩ = some (.int .u8 x3) := CELLS.out 3 (by omega) x3 HX3.out
  obtain ⟨m4, hm4⟩ := four_any G n n x0 x1 x2 x3 (by omega) p1 b4 HB4.out
  have H4 : Hid (∀ w : World, w.cell? ⟨G, 0, none⟩ = some (.int .u8 x0) → w.cell? ⟨G, 0 + 1, none⟩ = some (.int .u8 x1) → w.cell? ⟨G, 0 + 2, none⟩ = some (.int .u8 x2) → w.cell? ⟨G, 0 + 3, none⟩ = some (.int .u8 x3) →
      Calls Try.prog 16 #[.slice (some ⟨G, 0, none⟩) n n] w fun e w' => e = .returned (.tuple #[.int .i32 m4, .bool b4]) ∧ Below w.heap.size w w') := hm4
  clear hm4
  rcases G1.out with e | e | e | e
  · subst e
    obtain rfl : L = true := by cases L with
      | true => rfl
      | false => have := G2.out.2 rfl; omega
    obtain rfl : b2 = false := by cases b2 with
      | false => rfl
      | true => have := G3.out (by omega) rfl; omega
    obtain rfl : b4 = false := by cases b4 with
      | false => rfl
      | true => have := G4.out (by omega) rfl; omega
    go_wp2_with fail
    refine (HCL.out _).mono ?_
    rintro e w3 ⟨rfl, rfl⟩
    go_wp2_with fail
    go_quiet ((go_at_call 11; exact Calls.quiet_of_same (HCB.out _)))
    go_wp2_with fail
    refine (H4.out _ (by exact d0) (by exact d1) (by exact d2) (by exact d3)).mono ?_
    rintro e w4 ⟨rfl, hb4⟩
    have hbf := (below_drewN hb1 _).trans (hb4.mono (by have := hb1.size; simp at *; omega))
    clear hb4
    go_wp2_with fail
    go_ret
    exact ⟨rfl, hbf⟩
  · subst e
    obtain rfl : L = false := G2.out.1 rfl
    obtain rfl : b2 = false := by cases b2 with
      | false => rfl
      | true => have := G3.out (by omega) rfl; omega
    obtain rfl : b4 = false := by cases b4 with
      | false => rfl
      | true => have := G4.out (by omega) rfl; omega
    go_wp2_with fail
    refine (HCL.out _).mono ?_
    rintro e w3 ⟨rfl, rfl⟩
    go_wp2_with fail
    go_quiet ((go_at_call 11; exact Calls.quiet_of_same (HCB.out _)))
    go_wp2_with fail
    refine (H4.out _ (by exact d0) (by exact d1) (by exact d2) (by exact d3)).mono ?_
    rintro e w4 ⟨rfl, hb4⟩
    have hbf := (below_drewN hb1 _).trans (hb4.mono (by have := hb1.size; simp at *; omega))
    clear hb4
    go_wp2_with fail
    go_ret
    exact ⟨rfl, hbf⟩
  · subst e
    obtain rfl : L = true := by cases L with
      | true => rfl
      | false => have := G2.out.2 rfl; omega
    obtain rfl : b4 = false := by cases b4 with
      | false => rfl
      | true => have := G4.out (by omega) rfl; omega
    cases b2 with
    | true =>
      go_wp2_with fail
      refine (HCL.out _).mono ?_
      rintro e w3 ⟨rfl, rfl⟩
      go_wp2_with fail
      go_quiet ((go_at_call 11; exact Calls.quiet_of_same (HCB.out _)))
      go_wp2_with fail
      refine (H4.out _ (by exact d0) (by exact d1) (by exact d2) (by exact d3)).mono ?_
      rintro e w4 ⟨rfl, hb4⟩
      have hbf := (below_drewN hb1 _).trans (hb4.mono (by have := hb1.size; simp at *; omega))
      clear hb4
      go_wp2_with fail
      go_ret
      exact ⟨rfl, hbf⟩
    | false =>
      go_wp2_with fail
      refine (HCL.out _).mono ?_
      rintro e w3 ⟨rfl, rfl⟩
      go_wp2_with fail
      go_quiet ((go_at_call 11; exact Calls.quiet_of_same (HCB.out _)))
      go_wp2_with fail
      refine (H4.out _ (by exact d0) (by exact d1) (by exact d2) (by exact d3)).mono ?_
      rintro e w4 ⟨rfl, hb4⟩
      have hbf := (below_drewN hb1 _).trans (hb4.mono (by have := hb1.size; simp at *; omega))
      clear hb4
      go_wp2_with fail
      go_ret
      exact ⟨rfl, hbf⟩
  · subst e
    obtain rfl : L = true := by cases L with
      | true => rfl
      | false => have := G2.out.2 rfl; omega
    obtain rfl : b2 = false := by cases b2 with
      | false => rfl
      | true => have := G3.out (by omega) rfl; omega
    cases b4 with
    | true =>
      go_wp2_with fail
      refine (HCL.out _).mono ?_
      rintro e w3 ⟨rfl, rfl⟩
      go_wp2_with fail
      go_quiet ((go_at_call 11; exact Calls.quiet_of_same (HCB.out _)))
      go_wp2_with fail
      refine (H4.out _ (by exact d0) (by exact d1) (by exact d2) (by exact d3)).mono ?_
      rintro e w4 ⟨rfl, hb4⟩
      have hbf := (below_drewN hb1 _).trans (hb4.mono (by have := hb1.size; simp at *; omega))
      clear hb4
      go_wp2_with fail
      go_ret
      exact ⟨rfl, hbf⟩
    | false =>
      go_wp2_with fail
      refine (HCL.out _).mono ?_
      rintro e w3 ⟨rfl, rfl⟩
      go_wp2_with fail
      go_quiet ((go_at_call 11; exact Calls.quiet_of_same (HCB.out _)))
      go_wp2_with fail
      refine (H4.out _ (by exact d0) (by exact d1) (by exact d2) (by exact d3)).mono ?_
      rintro e w4 ⟨rfl, hb4⟩
      have hbf := (below_drewN hb1 _).trans (hb4.mono (by have := hb1.size; simp at *; omega))
      clear hb4
      go_wp2_with fail
      go_ret
      exact ⟨rfl, hbf⟩
end Go.Proofs.Qxb6601077a.Ix
