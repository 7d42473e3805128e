/-
  The walk of zzPgQuote.
-/
import Derived.Test.Qxb6600830aSelBase
namespace Go.Proofs.Qxb6600830a.Sel
open Go.RowKit

theorem cellsN (l : List UInt8) (c : UInt8) (n : Int) (h : n = (c.toNat : Int)) : Lib.byteCells l ++ [Value.int .u8 n] = Lib.byteCells (l ++ [c]) := by rw [h, Lib.byteCells_append]; rfl
theorem own_cells {w : World} {B e size n n' : Nat} {v : Value} {xs ys : List Value} (h : w.ownsRow B e size v n xs) (hx : xs = ys) (hn : n = n') : w.ownsRow B e size v n' ys := by subst hx; subst hn; exact h

set_option maxHeartbeats 2000000 in
theorem pgq_walk (s : ByteArray) (w : World) (hs : s.size ≤ 1048576) :
    Calls Try.prog 14 #[.string s] w fun e w' => e = .returned (.string ⟨(pgq s.data.toList).toArray⟩) ∧ Below w.heap.size w w' := by
  obtain ⟨i0, hi, hz0, hz1, hz2⟩ := info_parts Try.info5
  go_enter Try.func14, Try.ntmps14
  go_wp2_with (first | (at_make; refine wpList_make_own _ rfl _ _ 38 rfl w.heap.size 5 i0 (.int .u8 0) 1 Try.underlying38 hi hz0 hz1 .i64 .i64 _ (s.size + 2) rfl rfl (by omega) (by rw [hz2]; omega) (by unfold maxLen; omega) (Nat.le_refl _) ?_; intro w1 hown1 hgrow1; have hsz1 := hgrow1.size) | (at_builtin; refine wpList_append_own _ rfl (.tmp 9) (.tmp 10) 38 rfl w.heap.size 5 i0 (.int .u8 0) 1 1 Try.underlying38 hi hz0 hz1 hz2 rfl (by decide) _ _ _ rfl (hown1.alloc _) ⟨w1.heap.size, 0, none⟩ 1 1 [.int .u8 (34 : Int)] rfl rfl (cell_one_new _ _ _) (ints_oneCell .u8 [(34 : Int)]) (by unfold maxLen; omega) (by omega) (by simp; omega) ?_; intro v2 w2 hown2 hgrow2 _))
  have hb1 : Below w.heap.size w w1 := (Below.refl _ _).grown hgrow1 (Nat.le_refl _) (by simp)
  have hb2 : Below w.heap.size w w2 := (hb1.alloc hb1.size _).grown hgrow2 (by simp; omega) (fun j hj => own_ge hown1 hj)
  have hown3 : w2.ownsRow w.heap.size 5 1 v2 (34 :: dbl (s.data.toList.take 0)).length (Lib.byteCells (34 :: dbl (s.data.toList.take 0))) := own_cells hown2 rfl rfl
  clear hown1 hgrow1 hb1 hown2 hgrow2 hsz1
  go_loopw [3, 4] (fun v i wr => ∃ k : Nat, k ≤ s.size ∧ i = .int .i64 k ∧ wr.ownsRow w.heap.size 5 1 v (34 :: dbl (s.data.toList.take k)).length (Lib.byteCells (34 :: dbl (s.data.toList.take k))) ∧ Below w.heap.size w wr)
    (fun _ i _ => s.size - (intOf i).toNat)
  case atStart => exact ⟨0, Nat.zero_le _, rfl, hown3, hb2⟩
  case round =>
    obtain ⟨k, hk, rfl, hown, hb⟩ := hrel
    clear hown3 hb2
    have hbs := hb.size
    have hL : (34 :: dbl (s.data.toList.take k)).length ≤ 2097155 := by
      have h1 := dbl_len (s.data.toList.take k)
      have h2 : (s.data.toList.take k).length ≤ s.size := by rw [← toList_len s]; exact List.length_take_le' _ _
      rw [List.length_cons]; omega
    by_cases hlt : k < s.size
    · have hlt' : k < s.data.toList.length := by rw [toList_len]; exact hlt
      by_cases hc : s[k] = 34
      · have t1 : ((s[k].toNat : Int) == 34) = true := by rw [hc]; rfl
        have HD : Hid (34 :: dbl (s.data.toList.take (k + 1)) = (34 :: dbl (s.data.toList.take k)) ++ [34] ++ [s[k]]) := by
          show _ = _
          rw [dbl_take_succ _ k hlt', toList_get s k hlt, dblB_q hc, hc]; simp
        clear hc
        generalize 34 :: dbl (s.data.toList.take k) = acc at hown hL HD
        go_wp2_with (first | (at_builtin; refine wpList_append_own _ rfl (.tmp 22) (.tmp 23) 38 rfl w.heap.size 5 i0 (.int .u8 0) 1 1 Try.underlying38 hi hz0 hz1 hz2 rfl (by decide) _ _ _ rfl (hown.alloc _) ⟨wr.heap.size, 0, none⟩ 1 1 [.int .u8 (34 : Int)] rfl rfl (cell_one_new _ _ _) (ints_oneCell .u8 [(34 : Int)]) (by unfold maxLen; omega) (by omega) (by simp; omega) ?_; intro v2 w2 hown2 hgrow2 _; have hsz2 := hgrow2.size; simp only [World.size_alloc] at hsz2) | (at_builtin; refine wpList_append_own _ rfl (.tmp 25) (.tmp 29) 38 rfl w.heap.size 5 i0 (.int .u8 0) 1 1 Try.underlying38 hi hz0 hz1 hz2 rfl (by decide) _ _ _ rfl (hown2.alloc _) ⟨w2.heap.size, 0, none⟩ 1 1 [.int .u8 (s[k].toNat : Int)] rfl rfl (cell_one_new _ _ _) (ints_oneCell .u8 [(s[k].toNat : Int)]) (by unfold maxLen; omega) (by omega) (by simp; omega) ?_; intro v3 w3 hown3 hgrow3 _))
        have hb2 : Below w.heap.size w w2 := (hb.alloc hbs _).grown hgrow2 (by simp; omega) (fun j hj => own_ge hown hj)
        have hb3 : Below w.heap.size w w3 := (hb2.alloc hb2.size _).grown hgrow3 (by simp; omega) (fun j hj => own_ge hown2 hj)
        clear hgrow2 hgrow3
        go_wp2
        go_roundw
        case rel => exact ⟨k + 1, by omega, by go_num, own_cells hown3 (by rw [cellsN _ 34 34 rfl, cellsN _ s[k] _ rfl, HD.out]) (by rw [HD.out]; simp), hb3⟩
        case measure => simp [intOf]; omega
      · have t1 : ((s[k].toNat : Int) == 34) = false := by
          rw [beq_eq_false_iff_ne]; intro h; exact hc (UInt8.toNat_inj.1 (by have : (34 : UInt8).toNat = 34 := rfl; omega))
        have HD : Hid (34 :: dbl (s.data.toList.take (k + 1)) = (34 :: dbl (s.data.toList.take k)) ++ [s[k]]) := by
          show _ = _
          rw [dbl_take_succ _ k hlt', toList_get s k hlt, dblB_n hc]; simp
        clear hc
        generalize 34 :: dbl (s.data.toList.take k) = acc at hown hL HD
        go_wp2_with (at_builtin; refine wpList_append_own _ rfl (.tmp 25) (.tmp 29) 38 rfl w.heap.size 5 i0 (.int .u8 0) 1 1 Try.underlying38 hi hz0 hz1 hz2 rfl (by decide) _ _ _ rfl (hown.alloc _) ⟨wr.heap.size, 0, none⟩ 1 1 [.int .u8 (s[k].toNat : Int)] rfl rfl (cell_one_new _ _ _) (ints_oneCell .u8 [(s[k].toNat : Int)]) (by unfold maxLen; omega) (by omega) (by simp; omega) ?_; intro v2 w2 hown2 hgrow2 _)
        have hb2 : Below w.heap.size w w2 := (hb.alloc hbs _).grown hgrow2 (by simp; omega) (fun j hj => own_ge hown hj)
        clear hgrow2
        go_wp2
        go_roundw
        case rel => exact ⟨k + 1, by omega, by go_num, own_cells hown2 (by rw [cellsN _ s[k] _ rfl, HD.out]) (by rw [HD.out]; simp), hb2⟩
        case measure => simp [intOf]; omega
    · have HD : Hid (pgq s.data.toList = (34 :: dbl (s.data.toList.take k)) ++ [34]) := by
        show _ = _
        rw [List.take_of_length_le (by rw [toList_len]; omega)]; rfl
      generalize 34 :: dbl (s.data.toList.take k) = acc at hown hL HD
      go_wp2_with (first | (at_builtin; refine wpList_append_own _ rfl (.tmp 31) (.tmp 32) 38 rfl w.heap.size 5 i0 (.int .u8 0) 1 1 Try.underlying38 hi hz0 hz1 hz2 rfl (by decide) _ _ _ rfl (hown.alloc _) ⟨wr.heap.size, 0, none⟩ 1 1 [.int .u8 (34 : Int)] rfl rfl (cell_one_new _ _ _) (ints_oneCell .u8 [(34 : Int)]) (by unfold maxLen; omega) (by omega) (by simp; omega) ?_; intro v2 w2 hown2 hgrow2 _; have hconv := conv_own (own_cells hown2 (cellsN _ 34 34 rfl) rfl)))
      have hb2 : Below w.heap.size w w2 := (hb.alloc hbs _).grown hgrow2 (by simp; omega) (fun j hj => own_ge hown hj)
      go_ret
      rw [HD.out]
      exact ⟨rfl, hb2⟩
end Go.Proofs.Qxb6600830a.Sel
