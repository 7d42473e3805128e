/-
  Contracts of ZZfourByteIndex.
-/
import Derived.Test.Qxb6601077aProg
import Derived.WalkKit
import Derived.WalkSpells
import Derived.WalkLawsBesides
import Derived.Deep.QuietTactic
import Derived.BigQuiet
namespace Go.Proofs.Qxb6601077a.Ix
open Go.RowKit
set_option linter.unusedVariables false

def Lead (x : Int) : Prop := 129 ≤ x ∧ x ≤ 254
def Digit (x : Int) : Prop := 48 ≤ x ∧ x ≤ 57
def idx4 (x0 x1 x2 x3 : Int) : Int := (((x0 - 129) * 10 + (x1 - 48)) * 126 + (x2 - 129)) * 10 + (x3 - 48)

set_option maxHeartbeats 2000000 in
theorem four_yes (b o n cap : Nat) (x0 x1 x2 x3 : Int) (w : World) (hn : 4 ≤ n) (hn2 : n ≤ 1048576) (c0 : w.cell? ⟨b, o, none⟩ = some (.int .u8 x0)) (c1 : w.cell? ⟨b, o + 1, none⟩ = some (.int .u8 x1)) (c2 : w.cell? ⟨b, o + 2, none⟩ = some (.int .u8 x2)) (c3 : w.cell? ⟨b, o + 3, none⟩ = some (.int .u8 x3))
    (h0 : Lead x0) (h1 : Digit x1) (h2 : Lead x2) (h3 : Digit x3) (m : Int) (hm : m = idx4 x0 x1 x2 x3) :
    Calls Try.prog 16 #[.slice (some ⟨b, o, none⟩) n cap] w fun e w' => e = .returned (.tuple #[.int .i32 m, .bool true]) ∧ Below w.heap.size w w' := by
  obtain ⟨a0, b0⟩ := h0
  obtain ⟨a1, b1⟩ := h1
  obtain ⟨a2, b2⟩ := h2
  obtain ⟨a3, b3⟩ := h3
  have n0 : (0 : Int) < (n : Int) := by omega
  have n1 : (1 : Int) < (n : Int) := by omega
  have n2 : (2 : Int) < (n : Int) := by omega
  have n3 : (3 : Int) < (n : Int) := by omega
  have HM : Hid (m = idx4 x0 x1 x2 x3) := hm
  clear hm
  go_enter Try.func16, Try.ntmps16
  go_wp2
  go_quiet (fail)
  go_wp2
  go_ret2
  rw [HM.out]
  exact ⟨rfl, below_drewN (Below.refl _ _) _⟩

set_option maxHeartbeats 2000000 in
theorem four_no (b o n cap : Nat) (x0 x1 x2 x3 : Int) (w : World) (hn : 4 ≤ n) (hn2 : n ≤ 1048576) (c0 : w.cell? ⟨b, o, none⟩ = some (.int .u8 x0)) (c1 : w.cell? ⟨b, o + 1, none⟩ = some (.int .u8 x1)) (c2 : w.cell? ⟨b, o + 2, none⟩ = some (.int .u8 x2)) (c3 : w.cell? ⟨b, o + 3, none⟩ = some (.int .u8 x3))
    (h : ¬ (Lead x0 ∧ Digit x1 ∧ Lead x2 ∧ Digit x3)) :
    Calls Try.prog 16 #[.slice (some ⟨b, o, none⟩) n cap] w fun e w' => e = .returned (.tuple #[.int .i32 0, .bool false]) ∧ Below w.heap.size w w' := by
  have n0 : (0 : Int) < (n : Int) := by omega
  have n1 : (1 : Int) < (n : Int) := by omega
  have n2 : (2 : Int) < (n : Int) := by omega
  have n3 : (3 : Int) < (n : Int) := by omega
  unfold Lead Digit at h
  by_cases q0 : 129 ≤ x0
  rotate_left
  · clear h
    go_enter Try.func16, Try.ntmps16
    go_wp2
    go_ret2
    exact ⟨rfl, Below.refl _ _⟩
  by_cases q1 : x0 ≤ 254
  rotate_left
  · clear h
    go_enter Try.func16, Try.ntmps16
    go_wp2
    go_ret2
    exact ⟨rfl, Below.refl _ _⟩
  by_cases q2 : 48 ≤ x1
  rotate_left
  · clear h
    go_enter Try.func16, Try.ntmps16
    go_wp2
    go_ret2
    exact ⟨rfl, Below.refl _ _⟩
  by_cases q3 : x1 ≤ 57
  rotate_left
  · clear h
    go_enter Try.func16, Try.ntmps16
    go_wp2
    go_ret2
    exact ⟨rfl, Below.refl _ _⟩
  by_cases q4 : 129 ≤ x2
  rotate_left
  · clear h
    go_enter Try.func16, Try.ntmps16
    go_wp2
    go_ret2
    exact ⟨rfl, Below.refl _ _⟩
  by_cases q5 : x2 ≤ 254
  rotate_left
  · clear h
    go_enter Try.func16, Try.ntmps16
    go_wp2
    go_ret2
    exact ⟨rfl, Below.refl _ _⟩
  by_cases q6 : 48 ≤ x3
  rotate_left
  · clear h
    go_enter Try.func16, Try.ntmps16
    go_wp2
    go_ret2
    exact ⟨rfl, Below.refl _ _⟩
  by_cases q7 : x3 ≤ 57
  rotate_left
  · clear h
    go_enter Try.func16, Try.ntmps16
    go_wp2
    go_ret2
    exact ⟨rfl, Below.refl _ _⟩
  exact absurd ⟨⟨q0, q1⟩, ⟨q2, q3⟩, ⟨q4, q5⟩, ⟨q6, q7⟩⟩ h
end Go.Proofs.Qxb6601077a.Ix
