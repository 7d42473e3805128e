/-
  The walk of zzUnquoteHTTP at a canonical quoted string: it gives back what was quoted.
-/
import Derived.Test.Qxb6600830aOwn
import Derived.Test.Qxb6600830aQsPlain
namespace Go.Proofs.Qxb6600830a.Qs
open Go.RowKit

theorem cells_take (l : List UInt8) (k : Nat) (h : k < l.length) : Lib.byteCells (l.take (k + 1)) = Lib.byteCells (l.take k) ++ [.int .u8 (l[k].toNat : Int)] := by
  rw [List.take_succ_eq_append_getElem h, Lib.byteCells_append]; rfl

theorem own_ge {w : World} {B e size : Nat} {v : Value} {n : Nat} {xs : List Value} (h : w.ownsRow B e size v n xs) {j : Nat} (hj : v.ownBlock = some j) : B ≤ j := by
  rcases h.2 with ⟨rfl, _⟩ | ⟨g, cap, cur, rfl, hB, _⟩
  · cases hj
  · cases hj; exact hB

set_option maxHeartbeats 1000000 in
theorem unq_walk (l : List UInt8) (q : ByteArray) (hq : q.data.toList = quoted l) (w : World) (hl : l.length ≤ 1048576) :
    Calls Try.prog 9 #[.string q] w fun e w' => e = .returned (.tuple #[.string ⟨l.toArray⟩, .bool true]) ∧ Below w.heap.size w w' := by
  obtain ⟨i0, hi, hz0, hz1, hz2⟩ := info_parts Try.info5
  have hsz : q.size = (esc l).length + 2 := by rw [← toList_len, hq, quoted_len]
  have hel := esc_len l
  have hn2 : 2 ≤ q.size := by omega
  have hnb : q.size ≤ 2097154 := by omega
  have b0 : 0 < q.size := by omega
  have bn : q.size - 1 < q.size := by omega
  have q0 : ((q[0]'b0).toNat : Int) = 34 := by
    rw [get_of_list hq (k := 0) (by omega) (c := 34) (by simp [quoted])]; rfl
  have qn : ((q[q.size - 1]'bn).toNat : Int) = 34 := by
    rw [get_of_list hq (k := q.size - 1) (by omega) (c := 34) (by rw [hsz]; simp [quoted])]; rfl
  have HQ : Hid (q.data.toList = quoted l) := hq
  have HS : Hid (q.size = (esc l).length + 2) := hsz
  clear hq hsz
  go_enter Try.func9, Try.ntmps9
  go_wp2_with (at_make; refine wpList_make_own _ rfl _ _ 38 rfl w.heap.size 5 i0 (.int .u8 0) 1 Try.underlying38 hi hz0 hz1 .i64 .i64 _ (q.size - 2) rfl rfl (by omega) (by rw [hz2]; omega) (by unfold maxLen; omega) (Nat.le_refl _) ?_; intro w1 hown1 hgrow1)
  have hb1 : Below w.heap.size w w1 := (Below.refl _ _).grown hgrow1 (Nat.le_refl _) (by simp)
  clear hgrow1
  go_loopw [5, 6] (fun v i wr => ∃ k p : Nat, k ≤ l.length ∧ Hid (p = 1 + (esc (l.take k)).length) ∧ i = .int .i64 p ∧ wr.ownsRow w.heap.size 5 1 v k (Lib.byteCells (l.take k)) ∧ Below w.heap.size w wr)
    (fun _ i _ => q.size - (intOf i).toNat)
  case atStart => exact ⟨0, 1, Nat.zero_le _, rfl, rfl, hown1, hb1⟩
  case round =>
    obtain ⟨k, p, hk, HP, rfl, hown, hb⟩ := hrel
    clear hown1 hb1
    have hbs := hb.size
    by_cases hlt : k < l.length
    · have hel2 := esc_take_len l k hlt
      by_cases hc : l[k] = 34 ∨ l[k] = 92
      · have hpl : (p : Int) + 1 < (q.size : Int) - 1 := by
          have := HP.out; have := HS.out; rw [escB_esc hc] at hel2; simp at hel2; omega
        have bp : p < q.size := by omega
        have bp1 : p + 1 < q.size := by omega
        have e0 : ((q[p]'bp).toNat : Int) = 92 := by
          rw [get_of_list HQ.out (k := p) bp (c := 92) (by rw [HP.out, quoted_at l k hlt, escB_esc hc]; rfl)]; rfl
        have E1 : Hid (q[p + 1]'bp1 = l[k]) := get_of_list HQ.out (k := p + 1) bp1 (c := l[k]) (by rw [HP.out, quoted_at2 l k hlt (by rw [escB_esc hc]; rfl), escB_esc hc]; rfl)
        rcases hc with h34 | h34
        · have e1 : ((q[p + 1]'bp1).toNat : Int) = 34 := by rw [E1.out, h34]; rfl
          have H34 : Hid (l[k] = 34) := h34
          clear h34
          go_wp2_with (at_builtin; refine wpList_append_own _ rfl _ _ 38 rfl w.heap.size 5 i0 (.int .u8 0) 1 1 Try.underlying38 hi hz0 hz1 hz2 rfl (by decide) _ _ _ rfl (hown.alloc _) ⟨wr.heap.size, 0, none⟩ 1 1 [.int .u8 (34 : Int)] rfl rfl (cell_one_new _ _ _) (ints_oneCell .u8 [(34 : Int)]) (by unfold maxLen; omega) (by omega) (by simp; omega) ?_; intro v2 w2 hown2 hgrow2 _)
          have hb2 : Below w.heap.size w w2 := (hb.alloc hbs _).grown hgrow2 (by simp; omega) (fun j hj => own_ge hown hj)
          clear hgrow2
          go_wp2
          go_roundw
          case rel =>
            refine ⟨k + 1, p + 2, by omega, ?_, by go_num, ?_, hb2⟩
            · show _ = _
              rw [esc_take_succ l k hlt, List.length_append, escB_esc (.inl H34.out), HP.out]; simp; omega
            · rw [cells_take l k hlt, H34.out]; exact hown2
          case measure => simp [intOf]; omega
        · have e1 : ((q[p + 1]'bp1).toNat : Int) = 92 := by rw [E1.out, h34]; rfl
          have H34 : Hid (l[k] = 92) := h34
          clear h34
          go_wp2_with (at_builtin; refine wpList_append_own _ rfl _ _ 38 rfl w.heap.size 5 i0 (.int .u8 0) 1 1 Try.underlying38 hi hz0 hz1 hz2 rfl (by decide) _ _ _ rfl (hown.alloc _) ⟨wr.heap.size, 0, none⟩ 1 1 [.int .u8 (92 : Int)] rfl rfl (cell_one_new _ _ _) (ints_oneCell .u8 [(92 : Int)]) (by unfold maxLen; omega) (by omega) (by simp; omega) ?_; intro v2 w2 hown2 hgrow2 _)
          have hb2 : Below w.heap.size w w2 := (hb.alloc hbs _).grown hgrow2 (by simp; omega) (fun j hj => own_ge hown hj)
          clear hgrow2
          go_wp2
          go_roundw
          case rel =>
            refine ⟨k + 1, p + 2, by omega, ?_, by go_num, ?_, hb2⟩
            · show _ = _
              rw [esc_take_succ l k hlt, List.length_append, escB_esc (.inr H34.out), HP.out]; simp; omega
            · rw [cells_take l k hlt, H34.out]; exact hown2
          case measure => simp [intOf]; omega
      · have hpl : (p : Int) < (q.size : Int) - 1 := by
          have := HP.out; have := HS.out; rw [escB_plain hc] at hel2; simp at hel2; omega
        have bp : p < q.size := by omega
        have E0 : q[p]'bp = l[k] := get_of_list HQ.out (k := p) bp (c := l[k]) (by rw [HP.out, quoted_at l k hlt, escB_plain hc]; rfl)
        have t1 : (((q[p]'bp).toNat : Int) == 34) = false := by
          rw [E0, beq_eq_false_iff_ne]; intro h; exact hc (.inl (UInt8.toNat_inj.1 (by have : (34 : UInt8).toNat = 34 := rfl; omega)))
        have t2 : (((q[p]'bp).toNat : Int) == 92) = false := by
          rw [E0, beq_eq_false_iff_ne]; intro h; exact hc (.inr (UInt8.toNat_inj.1 (by have : (92 : UInt8).toNat = 92 := rfl; omega)))
        have HE0 : Hid (q[p]'bp = l[k]) := E0
        have HC : Hid (¬ (l[k] = 34 ∨ l[k] = 92)) := hc
        clear E0 hc
        go_wp2_with (at_builtin; refine wpList_append_own _ rfl _ _ 38 rfl w.heap.size 5 i0 (.int .u8 0) 1 1 Try.underlying38 hi hz0 hz1 hz2 rfl (by decide) _ _ _ rfl (hown.alloc _) ⟨wr.heap.size, 0, none⟩ 1 1 [.int .u8 ((q[p]'bp).toNat : Int)] rfl rfl (cell_one_new _ _ _) (ints_oneCell .u8 [((q[p]'bp).toNat : Int)]) (by unfold maxLen; omega) (by omega) (by simp; omega) ?_; intro v2 w2 hown2 hgrow2 _)
        have hb2 : Below w.heap.size w w2 := (hb.alloc hbs _).grown hgrow2 (by simp; omega) (fun j hj => own_ge hown hj)
        clear hgrow2
        go_wp2
        go_roundw
        case rel =>
          refine ⟨k + 1, p + 1, by omega, ?_, by go_num, ?_, hb2⟩
          · show _ = _
            rw [esc_take_succ l k hlt, List.length_append, escB_plain HC.out, HP.out]; simp; omega
          · rw [cells_take l k hlt, ← HE0.out]; exact hown2
        case measure => simp [intOf]; omega
    · have hpe : ¬ (p : Int) < (q.size : Int) - 1 := by
        have h1 := HP.out; have h2 := HS.out; rw [List.take_of_length_le (by omega)] at h1; omega
      have hkl : k = l.length := by omega
      have hconv := conv_own hown
      rw [List.take_of_length_le (by omega)] at hconv
      clear hown
      go_wp2
      go_ret2
      exact ⟨rfl, hb⟩
end Go.Proofs.Qxb6600830a.Qs
