/-
  The walk of zzReadIdent at a quoted name: it gives the name and the place behind it.
-/
import Derived.Test.Qxb6600830aSelQuote
namespace Go.Proofs.Qxb6600830a.Sel
open Go.RowKit

theorem cells_take (l : List UInt8) (k : Nat) (h : k < l.length) : Lib.byteCells (l.take (k + 1)) = Lib.byteCells (l.take k) ++ [.int .u8 (l[k].toNat : Int)] := by
  rw [List.take_succ_eq_append_getElem h, Lib.byteCells_append]; rfl
theorem ne34 {c : UInt8} (h : ¬ c = 34) : ((c.toNat : Int) == 34) = false := by
  rw [beq_eq_false_iff_ne]; intro e; exact h (UInt8.toNat_inj.1 (by have : (34 : UInt8).toNat = 34 := rfl; omega))

set_option maxHeartbeats 4000000 in
theorem readIdent_walk (s : ByteArray) (i : Int) (pre nm post : List UInt8) (w : World) (hs : s.size ≤ 8796093022208) (hsp : s.data.toList = pre ++ (pgq nm ++ post)) (hpost : ∀ c r, post = c :: r → ¬ c = 34) (hi1 : i = (pre.length : Int)) (hnm : nm.length ≤ 1048576) (m : Int) (hm : m = ((pre.length + (pgq nm).length : Nat) : Int)) :
    Calls Try.prog 22 #[.string s, .int .i64 i] w fun e w' => e = .returned (.tuple #[.string ⟨nm.toArray⟩, .int .i64 m, .bool true]) ∧ Below w.heap.size w w' := by
  obtain ⟨i0, hi, hz0, hz1, hz2⟩ := info_parts Try.info5
  subst hi1
  have hl : s.size = pre.length + ((pgq nm).length + post.length) := by rw [← toList_len s, hsp, List.length_append, List.length_append]
  have hpq := pgq_len nm
  have b0 : pre.length < s.size := by omega
  have q0 : ((s[pre.length]'b0).toNat : Int) = 34 := by
    rw [get_of_list hsp b0 (c := 34) (by simp [pgq])]; rfl
  have HSP : Hid (s.data.toList = pre ++ (pgq nm ++ post)) := hsp
  have HPO : Hid (∀ c r, post = c :: r → ¬ c = 34) := hpost
  have HL : Hid (s.size = pre.length + ((pgq nm).length + post.length)) := hl
  have HPQ : Hid ((pgq nm).length = (dbl nm).length + 2) := hpq
  have HM : Hid (m = ((pre.length + (pgq nm).length : Nat) : Int)) := hm
  clear hsp hpost hl hpq hm
  generalize hq : pre.length = n at b0 q0
  have HQ : Hid (pre.length = n) := hq
  clear hq
  have g2 : ¬ s.size ≤ n := by omega
  go_enter Try.func22, Try.ntmps22
  go_wp2
  go_loopw [7, 8] (fun v i wr => ∃ k J : Nat, k ≤ nm.length ∧ Hid (J = n + 1 + (dbl (nm.take k)).length) ∧ i = .int .i64 J ∧ wr.ownsRow w.heap.size 5 1 v k (Lib.byteCells (nm.take k)) ∧ Below w.heap.size w wr)
    (fun _ i _ => s.size - (intOf i).toNat)
  case atStart => exact ⟨0, n + 1, Nat.zero_le _, rfl, by go_num, World.ownsRow_nil _ _ _ _, Below.refl _ _⟩
  case round =>
    obtain ⟨k, J, hk, HJ, rfl, hown, hb⟩ := hrel
    have hbs := hb.size
    have HA : Hid ((pre ++ 34 :: dbl (nm.take k)).length = J) := by
      show _ = _
      rw [HJ.out, List.length_append, List.length_cons, HQ.out]; omega
    by_cases hlt : k < nm.length
    · have HX : Hid (s.data.toList = (pre ++ 34 :: dbl (nm.take k)) ++ (dblB nm[k] ++ (dbl (nm.drop (k + 1)) ++ 34 :: post))) := by
        show _ = _
        rw [HSP.out, pgq_split nm k hlt]; simp
      by_cases hc : nm[k] = 34
      · have HY : Hid (s.data.toList = (pre ++ 34 :: dbl (nm.take k)) ++ 34 :: 34 :: (dbl (nm.drop (k + 1)) ++ 34 :: post)) := by
          show _ = _
          rw [HX.out, dblB_q hc]; rfl
        have hJ2 : J + 1 < s.size := by rw [← toList_len s, HY.out, List.length_append, HA.out]; simp
        have hJ1 : J < s.size := by omega
        have e1 : ((s[J]'hJ1).toNat : Int) = 34 := by
          rw [get_of_list HY.out hJ1 (c := 34) (by rw [← HA.out]; exact at_cut _ _ _)]; rfl
        have e2 : ((s[J + 1]'hJ2).toNat : Int) = 34 := by
          rw [get_of_list HY.out hJ2 (c := 34) (by rw [← HA.out]; exact at_cut1 _ _ _ _)]; rfl
        have i2 : (J : Int) + 1 < (s.size : Int) := by omega
        have HC : Hid (nm[k] = 34) := hc
        clear hc
        go_wp2_with (at_builtin; refine wpList_append_own _ rfl (.tmp 48) (.tmp 49) 38 rfl w.heap.size 5 i0 (.int .u8 0) 1 1 Try.underlying38 hi hz0 hz1 hz2 rfl (by decide) _ _ _ rfl (hown.alloc _) ⟨wr.heap.size, 0, none⟩ 1 1 [.int .u8 (34 : Int)] rfl rfl (cell_one_new _ _ _) (ints_oneCell .u8 [(34 : Int)]) (by unfold maxLen; omega) (by omega) (by simp; omega) ?_; intro v2 w2 hown2 hgrow2 _)
        have hb2 : Below w.heap.size w w2 := (hb.alloc hbs _).grown hgrow2 (by simp; omega) (fun j hj => own_ge hown hj)
        clear hgrow2
        go_wp2
        go_roundw
        case rel =>
          refine ⟨k + 1, J + 2, by omega, ?_, by go_num, ?_, hb2⟩
          · show _ = _
            rw [dbl_take_succ nm k hlt, dblB_q HC.out, List.length_append, HJ.out]; simp; omega
          · rw [cells_take nm k hlt, HC.out]; exact hown2
        case measure => simp [intOf]; omega
      · have HY : Hid (s.data.toList = (pre ++ 34 :: dbl (nm.take k)) ++ nm[k] :: (dbl (nm.drop (k + 1)) ++ 34 :: post)) := by
          show _ = _
          rw [HX.out, dblB_n hc]; rfl
        have hJ1 : J < s.size := by rw [← toList_len s, HY.out, List.length_append, HA.out]; simp
        have E1 : Hid (s[J]'hJ1 = nm[k]) := get_of_list HY.out hJ1 (c := nm[k]) (by rw [← HA.out]; exact at_cut _ _ _)
        have t1 : (((s[J]'hJ1).toNat : Int) == 34) = false := by rw [E1.out]; exact ne34 hc
        have HC : Hid (¬ nm[k] = 34) := hc
        clear hc
        go_wp2_with (at_builtin; refine wpList_append_own _ rfl (.tmp 57) (.tmp 59) 38 rfl w.heap.size 5 i0 (.int .u8 0) 1 1 Try.underlying38 hi hz0 hz1 hz2 rfl (by decide) _ _ _ rfl (hown.alloc _) ⟨wr.heap.size, 0, none⟩ 1 1 [.int .u8 ((s[J]'hJ1).toNat : Int)] rfl rfl (cell_one_new _ _ _) (ints_oneCell .u8 [((s[J]'hJ1).toNat : Int)]) (by unfold maxLen; omega) (by omega) (by simp; omega) ?_; intro v2 w2 hown2 hgrow2 _)
        have hb2 : Below w.heap.size w w2 := (hb.alloc hbs _).grown hgrow2 (by simp; omega) (fun j hj => own_ge hown hj)
        clear hgrow2
        go_wp2
        go_roundw
        case rel =>
          refine ⟨k + 1, J + 1, by omega, ?_, by go_num, ?_, hb2⟩
          · show _ = _
            rw [dbl_take_succ nm k hlt, dblB_n HC.out, List.length_append, HJ.out]; simp; omega
          · rw [cells_take nm k hlt, ← E1.out]; exact hown2
        case measure => simp [intOf]; omega
    · have hkl : nm.take k = nm := List.take_of_length_le (by omega)
      have HY : Hid (s.data.toList = (pre ++ 34 :: dbl (nm.take k)) ++ 34 :: post) := by
        show _ = _
        rw [HSP.out, hkl]; simp [pgq]
      have hJ1 : J < s.size := by rw [← toList_len s, HY.out, List.length_append, HA.out]; simp
      have e1 : ((s[J]'hJ1).toNat : Int) = 34 := by
        rw [get_of_list HY.out hJ1 (c := 34) (by rw [← HA.out]; exact at_cut _ _ _)]; rfl
      have hconv := conv_own hown
      have HEND : Hid (m = (J : Int) + 1) := by
        show _ = _
        have h1 := HJ.out; rw [hkl] at h1
        rw [HM.out, HPQ.out, HQ.out]; omega
      rw [hkl] at hconv
      have HK : Hid (nm.take k = nm) := hkl
      clear hkl hown
      by_cases hJ2 : J + 1 < s.size
      · have t2 : (((s[J + 1]'hJ2).toNat : Int) == 34) = false := by
          have hy := HY.out
          cases hpo : post with
          | nil => exfalso; rw [hpo] at hy; rw [← toList_len s, hy, List.length_append, HA.out] at hJ2; simp at hJ2
          | cons c r =>
            rw [hpo] at hy
            rw [get_of_list hy hJ2 (c := c) (by rw [← HA.out]; exact at_cut1 _ _ _ _)]
            exact ne34 (HPO.out c r hpo)
        have i2 : (J : Int) + 1 < (s.size : Int) := by omega
        go_wp2
        go_ret3
        rw [HEND.out]
        exact ⟨rfl, hb⟩
      · have i2 : ¬ (J : Int) + 1 < (s.size : Int) := by omega
        go_wp2
        go_ret3
        rw [HEND.out]
        exact ⟨rfl, hb⟩
end Go.Proofs.Qxb6600830a.Sel
