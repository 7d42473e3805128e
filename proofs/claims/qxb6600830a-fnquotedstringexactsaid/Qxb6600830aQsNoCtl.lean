/-
  The walk of zzNoControl.
-/
import Derived.Test.Qxb6600830aOwn
import Derived.Test.Qxb6600830aQsPlain
namespace Go.Proofs.Qxb6600830a.Qs
open Go.RowKit

theorem nc_no1 (c : UInt8) (h : (c.toNat : Int) ≤ 31) : okB c = false := by
  have : c.toNat < 32 := by omega
  simp [okB, this]
theorem nc_no2 (c : UInt8) (h : (c.toNat : Int) = 127) : okB c = false := by
  have : c.toNat = 127 := by omega
  simp [okB, this]
theorem nc_yes (c : UInt8) (h : ¬ (c.toNat : Int) ≤ 31) (h2 : ¬ (c.toNat : Int) = 127) : okB c = true := by
  have : ¬ c.toNat < 32 := by omega
  have : ¬ c.toNat = 127 := by omega
  simp [okB, *]

set_option maxHeartbeats 400000 in
theorem noCtl_walk (s : ByteArray) (w : World) (hs : s.size ≤ maxLen) :
    Calls Try.prog 8 #[.string s] w fun e w' => e = .returned (.bool (noCtl s.data.toList)) ∧ w' = w := by
  unfold maxLen at hs
  go_enter Try.func8, Try.ntmps8
  go_wp2
  go_loop [3] (fun i => ∃ k : Nat, k ≤ s.size ∧ i = .int .i64 k ∧ noCtl (s.data.toList.take k) = true) (fun i => s.size - (intOf i).toNat)
  case atStart => exact ⟨0, Nat.zero_le _, rfl, rfl⟩
  case round =>
    obtain ⟨k, hk, rfl, hn⟩ := hrel
    have HN : Hid (noCtl (s.data.toList.take k) = true) := hn
    clear hn
    by_cases hlt : k < s.size
    · by_cases h1 : (s[k].toNat : Int) ≤ 31
      · go_wp2
        go_ret
        rw [noCtl_of_not _ k (by rw [toList_len]; exact hlt) (nc_no1 _ h1)]
        exact ⟨rfl, rfl⟩
      · by_cases h2 : (s[k].toNat : Int) = 127
        · have h2' : ((s[k].toNat : Int) == 127) = true := by simpa using h2
          have H2 : Hid ((s[k].toNat : Int) = 127) := h2
          clear h2
          go_wp2
          go_ret
          rw [noCtl_of_not _ k (by rw [toList_len]; exact hlt) (nc_no2 _ H2.out)]
          exact ⟨rfl, rfl⟩
        · have h2' : ((s[k].toNat : Int) == 127) = false := by simpa using h2
          go_wp2
          go_round
          case rel =>
            refine ⟨k + 1, by omega, by go_num, ?_⟩
            rw [noCtl_take_succ _ k (by rw [toList_len]; exact hlt), HN.out, toList_get s k hlt, nc_yes _ h1 h2]
            rfl
          case measure => simp [intOf]; omega
    · go_wp2
      go_ret
      have e : s.data.toList.take k = s.data.toList := List.take_of_length_le (by rw [toList_len]; omega)
      have := HN.out
      rw [e] at this
      rw [this]
      exact ⟨rfl, rfl⟩
end Go.Proofs.Qxb6600830a.Qs
