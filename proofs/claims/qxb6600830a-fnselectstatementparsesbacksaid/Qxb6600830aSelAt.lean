/-
  The walk of zzAt: the text p stands at place i of s; or the first byte differs.
-/
import Derived.Test.Qxb6600830aSelBase
import Derived.Deep.QuietTactic
import Derived.BigQuiet
namespace Go.Proofs.Qxb6600830a.Sel
open Go.RowKit

set_option maxHeartbeats 2000000 in
theorem at_yes (s p : ByteArray) (i : Int) (pre post : List UInt8) (w : World) (hs : s.size ≤ 8796093022208) (hsp : s.data.toList = pre ++ (p.data.toList ++ post)) (hi : i = (pre.length : Int)) :
    Calls Try.prog 21 #[.string s, .int .i64 i, .string p] w fun e w' => e = .returned (.bool true) ∧ Below w.heap.size w w' := by
  subst hi
  have hl : s.size = pre.length + (p.size + post.length) := by rw [← toList_len s, hsp, List.length_append, List.length_append, toList_len]
  have h1 : pre.length + p.size ≤ s.size := by omega
  have HSP : Hid (s.data.toList = pre ++ (p.data.toList ++ post)) := hsp
  clear hsp hl
  generalize hq : pre.length = n at h1
  have HQ : Hid (pre.length = n) := hq
  clear hq
  go_enter Try.func21, Try.ntmps21
  go_wp2
  go_loopw [7] (fun i wr => ∃ k : Nat, k ≤ p.size ∧ i = .int .i64 k ∧ Below w.heap.size w wr) (fun i _ => p.size - (intOf i).toNat)
  case atStart => exact ⟨0, Nat.zero_le _, rfl, Below.refl _ _⟩
  case round =>
    obtain ⟨k, hk, rfl, hb⟩ := hrel
    by_cases hlt : k < p.size
    · have hb1 : n + k < s.size := by omega
      have e1 : s[n + k] = p[k] := by
        refine get_of_list HSP.out hb1 (c := p[k]) ?_
        rw [← HQ.out, List.getElem?_append_right (by omega), Nat.add_sub_cancel_left, List.getElem?_append_left (by rw [toList_len]; exact hlt), List.getElem?_eq_getElem (by rw [toList_len]; exact hlt), toList_get p k hlt]
      have t1 : ((s[n + k].toNat : Int) != (p[k].toNat : Int)) = false := by rw [e1]; simp
      clear e1
      have i1 : (0 : Int) ≤ (n : Int) + (k : Int) := by omega
      have i2 : (n : Int) + (k : Int) < (s.size : Int) := by omega
      go_wp2
      go_quiet (fail)
      go_wp2
      go_roundw
      case rel => exact ⟨k + 1, by omega, by go_num, below_drewN hb _⟩
      case measure => simp [intOf]; omega
    · go_wp2
      go_ret
      exact ⟨rfl, hb⟩

set_option maxHeartbeats 2000000 in
theorem at_no (s p : ByteArray) (i : Int) (pre post : List UInt8) (c d : UInt8) (r : List UInt8) (w : World) (hs : s.size ≤ 8796093022208) (hps : p.size ≤ 100) (hsp : s.data.toList = pre ++ c :: post) (hp : p.data.toList = d :: r) (hcd : c ≠ d) (hi : i = (pre.length : Int)) :
    Calls Try.prog 21 #[.string s, .int .i64 i, .string p] w fun e w' => e = .returned (.bool false) ∧ Below w.heap.size w w' := by
  subst hi
  have hl : pre.length < s.size := by rw [← toList_len s, hsp]; simp
  have hp1 : 0 < p.size := by rw [← toList_len p, hp]; simp
  have e1 : s[pre.length] = c := get_of_list hsp hl (at_cut _ _ _)
  have e2 : p[0] = d := get_of_list hp hp1 (by simp)
  have t1 : ((s[pre.length].toNat : Int) != (p[0].toNat : Int)) = true := by
    rw [e1, e2, bne_iff_ne]
    intro h
    exact hcd (UInt8.toNat_inj.1 (by omega))
  clear e1 e2 hcd hp hsp
  generalize pre.length = n at hl t1
  by_cases hc : (s.size : Int) - n < p.size
  · go_enter Try.func21, Try.ntmps21
    go_wp2
    go_ret
    exact ⟨rfl, Below.refl _ _⟩
  · go_enter Try.func21, Try.ntmps21
    go_wp2
    go_loopw [7] (fun i wr => i = .int .i64 0 ∧ wr = w) (fun _ _ => 0)
    case atStart => exact ⟨rfl, rfl⟩
    case round =>
      obtain ⟨rfl, rfl⟩ := hrel
      have i1 : (0 : Int) ≤ (n : Int) := by omega
      have i2 : (n : Int) < (s.size : Int) := by omega
      go_wp2
      go_quiet (fail)
      go_wp2
      go_ret
      exact ⟨rfl, below_drewN (Below.refl _ _) _⟩
end Go.Proofs.Qxb6600830a.Sel
