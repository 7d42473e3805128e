/-
  The walk of zzClone, and of zzEqualList.
-/
import Derived.Test.Qxb6600830aSelBase
import Derived.Lib.SliceRun
import Derived.Deep.QuietTactic
import Derived.BigQuiet
namespace Go.Proofs.Qxb6600830a.Sel
open Go.RowKit

theorem clone_nil (cap : Nat) (n : Nat) (w : World) :
    Calls Try.prog 13 #[.slice none n cap] w fun e w' => e = .returned (.slice none 0 0) ∧ w' = w := by
  have hnil := fun (W : World) (a : Option Addr) (n c : Nat) => Lib.run_eql_slice_nil (P := Try.prog) W 26 9 a n c 0 0 Try.underlying26
  go_enter Try.func13, Try.ntmps13
  go_wp2
  go_ret
  exact ⟨rfl, rfl⟩

/-- k strings have been copied. -/
def done (ss : List ByteArray) (k : Nat) : List Value := (ss.take k).map Value.string ++ List.replicate (ss.length - k) (Value.string ⟨#[]⟩)
theorem done_zero (ss : List ByteArray) : done ss 0 = List.replicate ss.length (Value.string ⟨#[]⟩) := by simp [done]
theorem done_all (ss : List ByteArray) : done ss ss.length = ss.map Value.string := by simp [done]
theorem done_len (ss : List ByteArray) (k : Nat) (h : k ≤ ss.length) : (done ss k).length = ss.length := by simp [done]; omega
theorem done_set (ss : List ByteArray) (k : Nat) (h : k < ss.length) : (done ss k).set k (.string ss[k]) = done ss (k + 1) := by
  unfold done
  have hl : ((ss.take k).map Value.string).length = k := by simp; omega
  rw [List.set_append_right _ _ (by omega), hl, Nat.sub_self]
  obtain ⟨m, hm⟩ : ∃ m, ss.length - k = m + 1 := ⟨ss.length - k - 1, by omega⟩
  rw [hm, show ss.length - (k + 1) = m from by omega, List.replicate_succ, List.set_cons_zero, List.take_succ_eq_append_getElem h, List.map_append, List.append_assoc]
  rfl
theorem made_is (n : Nat) : (madeCells (Value.string ByteArray.empty).cells (n * 1)).toList = List.replicate n (Value.string ⟨#[]⟩) := by
  rw [Nat.mul_one]; exact toList_madeCells_one _ n

set_option maxHeartbeats 2000000 in
theorem clone_walk (x : Addr) (n cap : Nat) (ss : List ByteArray) (w : World) (hn : ss.length = n) (hS : StrsAt w (some x) ss) (hn1 : n ≤ 1048576) :
    Calls Try.prog 13 #[.slice (some x) n cap] w fun e w' => ∃ a' cap', e = .returned (.slice a' n cap') ∧ StrsAt w' a' ss ∧ Below w.heap.size w w' := by
  obtain ⟨i0, hi, hz0, hz1, hz2⟩ := info_parts Try.info9
  have hnil := fun (W : World) (a : Option Addr) (n c : Nat) => Lib.run_eql_slice_nil (P := Try.prog) W 26 9 a n c 0 0 Try.underlying26
  have HS : Hid (StrsAt w (some x) ss) := hS
  have HN : Hid (ss.length = n) := hn
  clear hS hn
  go_enter Try.func13, Try.ntmps13
  go_wp2_with (at_make; refine wpList_make_full _ rfl _ _ 26 rfl w.heap.size 9 i0 (.string ByteArray.empty) 1 Try.underlying26 hi hz0 hz1 .i64 .i64 _ _ n rfl rfl rfl rfl (by rw [hz2]; omega) (by unfold maxLen; omega) (Nat.le_refl _) ?_; intro w1 hown1 hgrow1)
  have hb1 : Below w.heap.size w w1 := (Below.refl _ _).grown hgrow1 (Nat.le_refl _) (by simp)
  rw [made_is, ← HN.out, ← done_zero, HN.out] at hown1
  clear hgrow1
  go_loopw [4] (fun i wr => ∃ k : Nat, k ≤ n ∧ i = .int .i64 k ∧ wr.ownsRow w.heap.size 9 1 (.slice (some ⟨w.heap.size, 0, none⟩) n n) n (done ss k) ∧ Below w.heap.size w wr)
    (fun i _ => n - (intOf i).toNat)
  case atStart => exact ⟨0, Nat.zero_le _, rfl, hown1, hb1⟩
  case round =>
    obtain ⟨k, hk, rfl, hown, hb⟩ := hrel
    clear hown1 hb1
    have hbs := hb.size
    by_cases hlt : k < n
    · have hkF : k < ss.length := by have := HN.out; omega
      obtain ⟨b, o, hbo, hia, hcell0⟩ := HS.out.here HN.out hlt cap
      have hcell : wr.cell? ⟨b, o, none⟩ = some (.string ss[k]) := (hb.cell (p := ⟨b, o, none⟩) hbo).trans hcell0
      have hc2 : wr.cell? ⟨w.heap.size, k, none⟩ = (done ss k)[k]? := hown.cellAt k (by omega)
      have hf2 : wr.frozen? ⟨w.heap.size, k, none⟩ = false := hown.frozenAt k
      obtain ⟨h3, hg3⟩ := hown.stored k (.string ss[k])
      rw [done_set ss k hkF] at h3
      have hb3 := hb.grown hg3 hbs (fun j hj => by cases hj; exact Nat.le_refl _)
      clear hcell0 hg3 hown
      have hv : ∃ v0 : Value, (done ss k)[k]? = some v0 := ⟨_, List.getElem?_eq_getElem (by rw [done_len ss k (by omega)]; exact hkF)⟩
      obtain ⟨v0, hv0⟩ := hv
      rw [hv0] at hc2
      clear hv0
      generalize ss[k] = s at hcell h3 hb3
      go_wp2
      go_roundw
      case rel => exact ⟨k + 1, by omega, by go_num, h3, hb3⟩
      case measure => simp [intOf]; omega
    · go_wp2
      go_ret
      have e : k = ss.length := by have := HN.out; omega
      subst e
      rw [done_all] at hown
      obtain ⟨_, a', cap', hv, hS'⟩ := strsAt_own hown
      injection hv with h1 _ h3
      subst h1
      exact ⟨_, _, rfl, hS', hb⟩
set_option maxHeartbeats 2000000 in
theorem equal_walk (a1 a2 : Option Addr) (n c1 c2 : Nat) (ss : List ByteArray) (w : World) (hn : ss.length = n) (h1 : StrsAt w a1 ss) (h2 : StrsAt w a2 ss) (hn1 : n ≤ 1048576) :
    Calls Try.prog 18 #[.slice a1 n c1, .slice a2 n c2] w fun e w' => e = .returned (.bool true) ∧ Below w.heap.size w w' := by
  have H1 : Hid (StrsAt w a1 ss) := h1
  have H2 : Hid (StrsAt w a2 ss) := h2
  have HN : Hid (ss.length = n) := hn
  clear h1 h2 hn
  go_enter Try.func18, Try.ntmps18
  go_wp2
  go_loopw [5] (fun i wr => ∃ k : Nat, k ≤ n ∧ i = .int .i64 k ∧ Below w.heap.size w wr) (fun i _ => n - (intOf i).toNat)
  case atStart => exact ⟨0, Nat.zero_le _, rfl, Below.refl _ _⟩
  case round =>
    obtain ⟨k, hk, rfl, hb⟩ := hrel
    by_cases hlt : k < n
    · have hkF : k < ss.length := by have := HN.out; omega
      obtain ⟨b1, o1, hbo1, hia1, hcell1⟩ := H1.out.here HN.out hlt c1
      obtain ⟨b2, o2, hbo2, hia2, hcell2⟩ := H2.out.here HN.out hlt c2
      have hc1 : wr.cell? ⟨b1, o1, none⟩ = some (.string ss[k]) := (hb.cell (p := ⟨b1, o1, none⟩) hbo1).trans hcell1
      have hc2 : wr.cell? ⟨b2, o2, none⟩ = some (.string ss[k]) := (hb.cell (p := ⟨b2, o2, none⟩) hbo2).trans hcell2
      clear hcell1 hcell2
      generalize ss[k] = s at hc1 hc2
      go_wp2
      go_quiet (fail)
      go_wp2
      go_roundw
      case rel => exact ⟨k + 1, by omega, by go_num, below_drewN hb _⟩
      case measure => simp [intOf]; omega
    · go_wp2
      go_ret
      exact ⟨rfl, hb⟩
end Go.Proofs.Qxb6600830a.Sel
