/-
  Contracts of isLead, isDigit, twoByteIndex, ZZtwoByteIndex, validTwoB1, trailsBelowB1.
-/
import Derived.Test.Qxb6601077aProg
import Derived.WalkKit
import Derived.WalkSpells
import Derived.WalkLawsBesides
namespace Go.Proofs.Qxb6601077a.Ix
open Go.RowKit
set_option linter.unusedVariables false

/-- The place of a two-byte code. -/
def idx2 (l t : Int) : Int := (l - 129) * 190 + (if 127 < t then t - 65 else t - 64)
def Valid2 (l t : Int) : Prop := 129 ≤ l ∧ l ≤ 254 ∧ 64 ≤ t ∧ t ≤ 254 ∧ t ≠ 127
theorem idx2_lo {l t : Int} (h : ¬ 127 < t) : idx2 l t = (l - 129) * 190 + (t - 64) := by simp [idx2, h]
theorem idx2_hi {l t : Int} (h : 127 < t) : idx2 l t = (l - 129) * 190 + (t - 65) := by simp [idx2, h]

theorem two_yes (l t : Int) (w : World) (h : Valid2 l t) (m : Int) (hm : m = idx2 l t) :
    Calls Try.prog 11 #[.int .u8 l, .int .u8 t] w fun e w' => e = .returned (.tuple #[.int .i64 m, .bool true]) ∧ w' = w := by
  obtain ⟨h1, h2, h3, h4, h5⟩ := h
  have t1 : (t == 127) = false := by rw [beq_eq_false_iff_ne]; exact h5
  have t2 : (t == 255) = false := by rw [beq_eq_false_iff_ne]; omega
  by_cases hc : 127 < t
  · rw [idx2_hi hc] at hm
    have HM : Hid (m = (l - 129) * 190 + (t - 65)) := hm
    clear hm
    go_enter Try.func11, Try.ntmps11
    go_wp2
    go_ret2
    rw [show m = (l - 129) * 190 + (t - 64 - 1) from by rw [HM.out]; omega]
    exact ⟨rfl, rfl⟩
  · rw [idx2_lo hc] at hm
    have HM : Hid (m = (l - 129) * 190 + (t - 64)) := hm
    clear hm
    go_enter Try.func11, Try.ntmps11
    go_wp2
    go_ret2
    rw [HM.out]
    exact ⟨rfl, rfl⟩

theorem two_no (l t : Int) (w : World) (l0 : 0 ≤ l) (l1 : l ≤ 255) (t0 : 0 ≤ t) (t1 : t ≤ 255) (h : ¬ Valid2 l t) :
    Calls Try.prog 11 #[.int .u8 l, .int .u8 t] w fun e w' => e = .returned (.tuple #[.int .i64 0, .bool false]) ∧ w' = w := by
  by_cases h1 : 129 ≤ l
  · by_cases h2 : l ≤ 254
    · by_cases h3 : t < 64
      · clear h
        go_enter Try.func11, Try.ntmps11
        go_wp2
        go_ret2
        exact ⟨rfl, rfl⟩
      · by_cases h4 : t = 127
        · subst h4
          clear h
          go_enter Try.func11, Try.ntmps11
          go_wp2
          go_ret2
          exact ⟨rfl, rfl⟩
        · have h5 : t = 255 := by
            by_cases e : t = 255
            · exact e
            · exact absurd ⟨h1, h2, by omega, by omega, h4⟩ h
          subst h5
          clear h h4
          go_enter Try.func11, Try.ntmps11
          go_wp2
          go_ret2
          exact ⟨rfl, rfl⟩
    · clear h
      go_enter Try.func11, Try.ntmps11
      go_wp2
      go_ret2
      exact ⟨rfl, rfl⟩
  · clear h
    go_enter Try.func11, Try.ntmps11
    go_wp2
    go_ret2
    exact ⟨rfl, rfl⟩

theorem valid_yes (l t : Int) (w : World) (h : Valid2 l t) :
    Calls Try.prog 12 #[.int .u8 l, .int .u8 t] w fun e w' => e = .returned (.bool true) ∧ w' = w := by
  obtain ⟨h1, h2, h3, h4, h5⟩ := h
  have t1 : (t != 127) = true := by rw [bne_iff_ne]; exact h5
  go_enter Try.func12, Try.ntmps12
  go_wp2
  go_ret
  exact ⟨rfl, rfl⟩
theorem valid_no (l t : Int) (w : World) (l0 : 0 ≤ l) (l1 : l ≤ 255) (t0 : 0 ≤ t) (t1 : t ≤ 255) (h : ¬ Valid2 l t) :
    Calls Try.prog 12 #[.int .u8 l, .int .u8 t] w fun e w' => e = .returned (.bool false) ∧ w' = w := by
  by_cases h1 : 129 ≤ l
  · by_cases h2 : l ≤ 254
    · by_cases h3 : 64 ≤ t
      · by_cases h4 : t ≤ 254
        · have h5 : t = 127 := by
            by_cases e : t = 127
            · exact e
            · exact absurd ⟨h1, h2, h3, h4, e⟩ h
          subst h5
          clear h
          go_enter Try.func12, Try.ntmps12
          go_wp2
          go_ret
          exact ⟨rfl, rfl⟩
        · clear h
          go_enter Try.func12, Try.ntmps12
          go_wp2
          go_ret
          exact ⟨rfl, rfl⟩
      · clear h
        go_enter Try.func12, Try.ntmps12
        go_wp2
        go_ret
        exact ⟨rfl, rfl⟩
    · clear h
      go_enter Try.func12, Try.ntmps12
      go_wp2
      go_ret
      exact ⟨rfl, rfl⟩
  · clear h
    go_enter Try.func12, Try.ntmps12
    go_wp2
    go_ret
    exact ⟨rfl, rfl⟩

/-- How many trail bytes lie below b (64 ≤ b). -/
def cnt (b : Int) : Int := if b ≤ 127 then b - 64 else b - 65
theorem cnt_bd {b : Int} (h : 64 ≤ b) (h2 : b ≤ 255) : 0 ≤ cnt b ∧ cnt b ≤ 190 := by unfold cnt; split <;> omega
theorem cnt_succ_ne {b : Int} (h : ¬ b = 127) : cnt (b + 1) = cnt b + 1 := by unfold cnt; split <;> split <;> omega
theorem cnt_succ_eq : cnt (127 + 1) = cnt 127 := by decide

set_option maxHeartbeats 1000000 in
theorem trails_walk (t : Int) (w : World) (h0 : 64 ≤ t) (h1 : t ≤ 255) (m : Int) (hm : m = cnt t) :
    Calls Try.prog 13 #[.int .u8 t] w fun e w' => e = .returned (.int .i64 m) ∧ w' = w := by
  have HM : Hid (m = cnt t) := hm
  clear hm
  go_enter Try.func13, Try.ntmps13
  go_wp2
  go_loop [3, 4] (fun n b => ∃ x y : Int, 64 ≤ x ∧ x ≤ t ∧ b = .int .i64 x ∧ n = .int .i64 y ∧ 0 ≤ y ∧ y ≤ 190 ∧ Hid (y = cnt x)) (fun _ b => (t - intOf b).toNat)
  case atStart => exact ⟨64, 0, by omega, h0, rfl, rfl, by omega, by omega, rfl⟩
  case round =>
    obtain ⟨x, y, hx0, hx1, rfl, rfl, hy0, hy1, HY⟩ := hrel
    by_cases hlt : x < t
    · have hcb := cnt_bd (b := x + 1) (by omega) (by omega)
      by_cases he : x = 127
      · subst he
        have HY2 : Hid (y = cnt (127 + 1)) := by show _ = _; rw [cnt_succ_eq]; exact HY.out
        clear hcb HY
        go_wp2
        go_round
        case rel => exact ⟨127 + 1, y, by omega, by omega, rfl, rfl, hy0, hy1, HY2⟩
        case measure => simp [intOf]; omega
      · have t1 : (x != 127) = true := by rw [bne_iff_ne]; exact he
        have HY2 : Hid (y + 1 = cnt (x + 1)) := by show _ = _; rw [cnt_succ_ne he, HY.out]
        have hy2 : y + 1 ≤ 190 := by rw [HY2.out]; exact hcb.2
        clear hcb HY he
        go_wp2
        go_round
        case rel => exact ⟨x + 1, y + 1, by omega, by omega, rfl, rfl, by omega, hy2, HY2⟩
        case measure => simp [intOf]; omega
    · have hxt : x = t := by omega
      subst hxt
      go_wp2
      go_ret
      rw [HM.out, ← HY.out]
      exact ⟨rfl, rfl⟩
end Go.Proofs.Qxb6601077a.Ix
