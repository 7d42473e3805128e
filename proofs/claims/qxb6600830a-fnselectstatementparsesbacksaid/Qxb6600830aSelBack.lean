/-
  The walk of zzReadIdentBack at a text that ends in a quoted name.
-/
import Derived.Test.Qxb6600830aSelIdent
namespace Go.Proofs.Qxb6600830a.Sel
open Go.RowKit

/-- k bytes have been copied. -/
def doneB (nm : List UInt8) (k : Nat) : List Value := Lib.byteCells (nm.take k) ++ List.replicate (nm.length - k) (Value.int .u8 0)
theorem doneB_zero (nm : List UInt8) : doneB nm 0 = List.replicate nm.length (Value.int .u8 0) := by simp [doneB, Lib.byteCells]
theorem doneB_all (nm : List UInt8) (k : Nat) (h : nm.length ≤ k) : doneB nm k = Lib.byteCells nm := by
  unfold doneB
  rw [List.take_of_length_le h, show nm.length - k = 0 from by omega]; simp
theorem doneB_len (nm : List UInt8) (k : Nat) (h : k ≤ nm.length) : (doneB nm k).length = nm.length := by simp [doneB, Lib.byteCells_length]; omega
theorem doneB_set (nm : List UInt8) (k : Nat) (h : k < nm.length) : (doneB nm k).set k (.int .u8 (nm[k].toNat : Int)) = doneB nm (k + 1) := by
  unfold doneB
  have hl : (Lib.byteCells (nm.take k)).length = k := by rw [Lib.byteCells_length]; simp; omega
  rw [List.set_append_right _ _ (by omega), hl, Nat.sub_self]
  obtain ⟨m, hm⟩ : ∃ m, nm.length - k = m + 1 := ⟨nm.length - k - 1, by omega⟩
  rw [hm, show nm.length - (k + 1) = m from by omega, List.replicate_succ, List.set_cons_zero, cells_take nm k h, List.append_assoc]
  rfl
theorem madeB_is (n : Nat) : (madeCells (Value.int .u8 0).cells (n * 1)).toList = List.replicate n (Value.int .u8 0) := by
  rw [Nat.mul_one]; exact toList_madeCells_one _ n

/-- The form of a value that owns bytes; its elements' places. -/
theorem bytes_form {w : World} {B n : Nat} {v : Value} {l : List UInt8} (h : w.ownsRow B 5 1 v n (Lib.byteCells l)) :
    l.length = n ∧ ∃ a cap, v = .slice a n cap ∧ ∀ k, k < n → ∃ g, a = some ⟨g, 0, none⟩ ∧ g < w.heap.size := by
  have hl : l.length = n := by have := h.1; rw [Lib.byteCells_length] at this; omega
  refine ⟨hl, ?_⟩
  rcases h.2 with ⟨rfl, h0⟩ | ⟨g, cap, cur, rfl, _, hg, _⟩
  · exact ⟨none, 0, by rw [h0], fun k hk => by omega⟩
  · exact ⟨_, cap, rfl, fun _ _ => ⟨g, rfl, (Array.getElem?_eq_some_iff.1 hg).1⟩⟩

theorem byte_here {w : World} {B n cap : Nat} {a : Option Addr} {l : List UInt8} (h : w.ownsRow B 5 1 (.slice a n cap) n (Lib.byteCells l)) {j : Nat} (hj : j < l.length) {z : Int} (hz : z = (j : Int)) :
    ∃ g, (∀ W, (Instr.indexAt 38 (.slice a n cap) (.int .i64 z)).run Try.prog W = .ok (.pointer (some ⟨g, j, none⟩)) W) ∧ w.cell? ⟨g, j, none⟩ = some (.int .u8 (l[j].toNat : Int)) := by
  obtain ⟨hl, a', cap', hv, hg⟩ := bytes_form h
  injection hv with h1 _ h3
  subst h1
  obtain ⟨g, rfl, _⟩ := hg j (by omega)
  subst hz
  refine ⟨g, fun W => ?_, ?_⟩
  · have e : Try.prog.elem 38 = 5 := by kernel_rfl
    rw [run_indexAt_slice W 38 ⟨g, 0, none⟩ n cap .i64 (j : Int) (by rw [e]; exact Try.underlying38), e, if_pos ⟨by omega, by omega⟩, Try.sizeOf5]
    simp [Result.andThen, Addr.add]
    omega
  · rw [h.cellAt j (by omega)]
    simp [Lib.byteCells, List.getElem?_eq_getElem hj]

/-- One byte more, from the end. -/
theorem rev_step (nm : List UInt8) (t : Nat) (h : t < nm.length) : Lib.byteCells (nm.drop t).reverse = Lib.byteCells (nm.drop (t + 1)).reverse ++ [.int .u8 (nm[t].toNat : Int)] := by
  rw [List.drop_eq_getElem_cons h, List.reverse_cons, Lib.byteCells_append]; rfl
theorem back_cut (pre nm : List UInt8) (c0 : UInt8) (t : Nat) (h : t < nm.length) : pre ++ c0 :: pgq nm = (pre ++ c0 :: 34 :: dbl (nm.take t)) ++ (dblB nm[t] ++ (dbl (nm.drop (t + 1)) ++ [34])) := by
  rw [pgq_split nm t h]; simp
theorem back_len (pre : List UInt8) (c0 : UInt8) (l : List UInt8) : (pre ++ c0 :: 34 :: l).length = pre.length + 2 + l.length := by simp; omega

set_option maxHeartbeats 4000000 in
theorem readBack_walk (s : ByteArray) (pre nm : List UInt8) (c0 : UInt8) (w : World) (hs : s.size ≤ 8796093022208) (hsp : s.data.toList = pre ++ c0 :: pgq nm) (hc0 : ¬ c0 = 34) (hnm : nm.length ≤ 1048576) (m : Int) (hm : m = ((pre.length + 1 : Nat) : Int)) :
    Calls Try.prog 23 #[.string s] w fun e w' => e = .returned (.tuple #[.string ⟨nm.toArray⟩, .int .i64 m, .bool true]) ∧ Below w.heap.size w w' := by
  obtain ⟨i0, hi, hz0, hz1, hz2⟩ := info_parts Try.info5
  have hl : s.size = pre.length + 1 + ((dbl nm).length + 2) := by rw [← toList_len s, hsp, List.length_append, List.length_cons, pgq_len]; omega
  have bn : s.size - 1 < s.size := by omega
  have qn : ((s[s.size - 1]'bn).toNat : Int) = 34 := by
    rw [get_of_list (l := (pre ++ c0 :: 34 :: dbl nm) ++ 34 :: []) (by rw [hsp]; simp [pgq]) bn (c := 34) (by rw [show s.size - 1 = (pre ++ c0 :: 34 :: dbl nm).length from by rw [hl]; simp; omega]; exact at_cut _ _ _)]; rfl
  have hn2 : 2 ≤ s.size := by omega
  have hn2i : ¬ (s.size : Int) < 2 := by omega
  have HSP : Hid (s.data.toList = pre ++ c0 :: pgq nm) := hsp
  have HL : Hid (s.size = pre.length + 1 + ((dbl nm).length + 2)) := hl
  have HM : Hid (m = ((pre.length + 1 : Nat) : Int)) := hm
  have HC0 : Hid (¬ c0 = 34) := hc0
  clear hsp hl hm hc0
  go_enter Try.func23, Try.ntmps23
  go_wp2
  go_loopw [6, 7] (fun v i wr => ∃ t J : Nat, t ≤ nm.length ∧ Hid (J = pre.length + 1 + (dbl (nm.take t)).length) ∧ i = .int .i64 J ∧ wr.ownsRow w.heap.size 5 1 v (nm.length - t) (Lib.byteCells (nm.drop t).reverse) ∧ Below w.heap.size w wr)
    (fun _ i _ => (intOf i).toNat)
  case atStart =>
    refine ⟨nm.length, s.size - 2, Nat.le_refl _, ?_, congrArg (Value.int .i64) (by omega), ?_, Below.refl _ _⟩
    · show _ = _
      rw [HL.out, List.take_length]; omega
    · rw [List.drop_length, Nat.sub_self]; exact World.ownsRow_nil _ _ _ _
  case round =>
    obtain ⟨t, J, ht, HJ, rfl, hown, hb⟩ := hrel
    have hbs := hb.size
    cases t with
    | succ t =>
      have hlt : t < nm.length := by omega
      have HX : Hid (s.data.toList = (pre ++ c0 :: 34 :: dbl (nm.take t)) ++ (dblB nm[t] ++ (dbl (nm.drop (t + 1)) ++ [34]))) := by
        show _ = _
        rw [HSP.out, back_cut pre nm c0 t hlt]
      have HJ2 : Hid (J = pre.length + 1 + ((dbl (nm.take t)).length + (dblB nm[t]).length)) := by
        show _ = _
        rw [HJ.out, dbl_take_succ nm t hlt, List.length_append]
      by_cases hc : nm[t] = 34
      · obtain ⟨I, rfl⟩ : ∃ I, J = I + 1 := ⟨J - 1, by have := HJ2.out; omega⟩
        have HI : Hid ((pre ++ c0 :: 34 :: dbl (nm.take t)).length = I) := by
          show _ = _
          rw [back_len]; have := HJ2.out; rw [dblB_q hc] at this; simp at this; omega
        have HY : Hid (s.data.toList = (pre ++ c0 :: 34 :: dbl (nm.take t)) ++ 34 :: 34 :: (dbl (nm.drop (t + 1)) ++ [34])) := by
          show _ = _
          rw [HX.out, dblB_q hc]; rfl
        have hJ2 : I + 1 < s.size := by rw [← toList_len s, HY.out, List.length_append, HI.out]; simp
        have hJ1 : I < s.size := by omega
        have e1 : ((s[I]'hJ1).toNat : Int) = 34 := by
          rw [get_of_list HY.out hJ1 (c := 34) (by rw [← HI.out]; exact at_cut _ _ _)]; rfl
        have e2 : ((s[I + 1]'hJ2).toNat : Int) = 34 := by
          rw [get_of_list HY.out hJ2 (c := 34) (by rw [← HI.out]; exact at_cut1 _ _ _ _)]; rfl
        have hI1 : 1 ≤ I := by have := HI.out; rw [back_len] at this; omega
        have HC : Hid (nm[t] = 34) := hc
        clear hc
        go_wp2_with (at_builtin; refine wpList_append_own _ rfl (.tmp 40) (.tmp 41) 38 rfl w.heap.size 5 i0 (.int .u8 0) 1 1 Try.underlying38 hi hz0 hz1 hz2 rfl (by decide) _ _ _ rfl (hown.alloc _) ⟨wr.heap.size, 0, none⟩ 1 1 [.int .u8 (34 : Int)] rfl rfl (cell_one_new _ _ _) (ints_oneCell .u8 [(34 : Int)]) (by unfold maxLen; omega) (by omega) (by simp; omega) ?_; intro v2 w2 hown2 hgrow2 _)
        have hb2 : Below w.heap.size w w2 := (hb.alloc hbs _).grown hgrow2 (by simp; omega) (fun j hj => own_ge hown hj)
        clear hgrow2
        go_wp2
        go_roundw
        case rel =>
          refine ⟨t, I - 1, by omega, ?_, congrArg (Value.int .i64) (by omega), ?_, hb2⟩
          · show _ = _
            have := HI.out; rw [back_len] at this; omega
          · exact own_cells hown2 (by rw [rev_step nm t hlt, HC.out]; rfl) (by omega)
        case measure => simp [intOf]; omega
      · have HI : Hid ((pre ++ c0 :: 34 :: dbl (nm.take t)).length = J) := by
          show _ = _
          rw [back_len]; have := HJ2.out; rw [dblB_n hc] at this; simp at this; omega
        have HY : Hid (s.data.toList = (pre ++ c0 :: 34 :: dbl (nm.take t)) ++ nm[t] :: (dbl (nm.drop (t + 1)) ++ [34])) := by
          show _ = _
          rw [HX.out, dblB_n hc]; rfl
        have hJ1 : J < s.size := by rw [← toList_len s, HY.out, List.length_append, HI.out]; simp
        have E1 : Hid (s[J]'hJ1 = nm[t]) := get_of_list HY.out hJ1 (c := nm[t]) (by rw [← HI.out]; exact at_cut _ _ _)
        have t1 : (((s[J]'hJ1).toNat : Int) == 34) = false := by rw [E1.out]; exact ne34 hc
        have hJp : 2 ≤ J := by have := HI.out; rw [back_len] at this; omega
        clear hc
        go_wp2_with (at_builtin; refine wpList_append_own _ rfl (.tmp 68) (.tmp 70) 38 rfl w.heap.size 5 i0 (.int .u8 0) 1 1 Try.underlying38 hi hz0 hz1 hz2 rfl (by decide) _ _ _ rfl (hown.alloc _) ⟨wr.heap.size, 0, none⟩ 1 1 [.int .u8 ((s[J]'hJ1).toNat : Int)] rfl rfl (cell_one_new _ _ _) (ints_oneCell .u8 [((s[J]'hJ1).toNat : Int)]) (by unfold maxLen; omega) (by omega) (by simp; omega) ?_; intro v2 w2 hown2 hgrow2 _)
        have hb2 : Below w.heap.size w w2 := (hb.alloc hbs _).grown hgrow2 (by simp; omega) (fun j hj => own_ge hown hj)
        clear hgrow2
        go_wp2
        go_roundw
        case rel =>
          refine ⟨t, J - 1, by omega, ?_, congrArg (Value.int .i64) (by omega), ?_, hb2⟩
          · show _ = _
            have := HI.out; rw [back_len] at this; omega
          · exact own_cells hown2 (by rw [rev_step nm t hlt, ← E1.out]) (by omega)
        case measure => simp [intOf]; omega
    | zero =>
      obtain ⟨wo, rfl⟩ : ∃ wo : World, wo = wr := ⟨_, rfl⟩
      have HI : Hid (J = pre.length + 1) := by show _ = _; have := HJ.out; simpa [dbl] using this
      obtain ⟨I, rfl⟩ : ∃ I, J = I + 1 := ⟨pre.length, HI.out⟩
      have HI2 : Hid (pre.length = I) := by have := HI.out; show _ = _; omega
      have HY : Hid (s.data.toList = pre ++ c0 :: 34 :: (dbl nm ++ [34])) := HSP.out
      have hJ2 : I + 1 < s.size := by rw [← toList_len s, HY.out, List.length_append, HI2.out]; simp
      have hJ1 : I < s.size := by omega
      have t1 : (((s[I]'hJ1).toNat : Int) == 34) = false := by
        rw [get_of_list HY.out hJ1 (c := c0) (by rw [← HI2.out]; exact at_cut _ _ _)]; exact ne34 HC0.out
      have e2 : ((s[I + 1]'hJ2).toNat : Int) = 34 := by
        rw [get_of_list HY.out hJ2 (c := 34) (by rw [← HI2.out]; exact at_cut1 _ _ _ _)]; rfl
      have HMI : Hid (m = (I : Int) + 1) := by
        show _ = _
        rw [HM.out]; have := HI2.out; omega
      rw [List.drop_zero, Nat.sub_zero] at hown
      obtain ⟨_, a, cap, rfl, hfo⟩ := bytes_form hown
      have HFO : Hid (∀ k, k < nm.length → ∃ g, a = some ⟨g, 0, none⟩ ∧ g < wo.heap.size) := hfo
      clear hfo
      generalize hN : nm.length = N at hnm hown
      have HN : Hid (nm.length = N) := hN
      clear hN
      go_wp2_with (at_make; refine wpList_make_full _ rfl _ _ 38 rfl w.heap.size 5 i0 (.int .u8 0) 1 Try.underlying38 hi hz0 hz1 .i64 .i64 _ _ N rfl rfl rfl rfl (by rw [hz2]; omega) (by unfold maxLen; omega) hbs ?_; intro w1 hown1 hgrow1)
      have hb1 : Below w.heap.size w w1 := hb.grown hgrow1 hbs (by simp)
      have hR1 : w1.ownsRow w.heap.size 5 1 (.slice a N cap) N (Lib.byteCells nm.reverse) := hown.kept hgrow1 (by cases h : (Value.slice a N cap).ownBlock <;> simp)
      have HNE : Hid ((Value.slice a N cap).ownBlock ≠ some wo.heap.size) := by
        show _ ≠ _
        intro e
        by_cases h0 : 0 < N
        · obtain ⟨g, rfl, hg⟩ := HFO.out 0 (by rw [HN.out]; exact h0)
          simp only [Value.ownBlock, Option.some.injEq] at e
          omega
        · rcases hown.2 with ⟨hv, _⟩ | ⟨g, cap', cur, hv, _, hg, _⟩
          · rw [hv] at e; cases e
          · rw [hv] at e
            simp only [Value.ownBlock, Option.some.injEq] at e
            have := (Array.getElem?_eq_some_iff.1 hg).1
            omega
      have hO1 : w1.ownsRow w.heap.size 5 1 (.slice (some ⟨wo.heap.size, 0, none⟩) N N) N (doneB nm 0) := own_cells hown1 (by rw [madeB_is, doneB_zero, HN.out]) rfl
      clear hown1 hown hgrow1
      generalize wo.heap.size = G at hO1 HNE hbs
      go_loopw [10] (fun i wi => ∃ k : Nat, k ≤ N ∧ i = .int .i64 k ∧ wi.ownsRow w.heap.size 5 1 (.slice (some ⟨G, 0, none⟩) N N) N (doneB nm k) ∧ wi.ownsRow w.heap.size 5 1 (.slice a N cap) N (Lib.byteCells nm.reverse) ∧ Below w.heap.size w wi)
        (fun i _ => N - (intOf i).toNat)
      case atStart => exact ⟨0, Nat.zero_le _, rfl, hO1, hR1, hb1⟩
      case round =>
        obtain ⟨k, hk, rfl, hO, hR, hbi⟩ := hrel
        clear hO1 hR1 hb1
        by_cases hlt : k < N
        · have hkn : k < nm.length := by rw [HN.out]; exact hlt
          obtain ⟨g, hia, hcell⟩ := byte_here hR (j := N - 1 - k) (by rw [List.length_reverse, HN.out]; omega) (z := (N : Int) - 1 - k) (by omega)
          have ev : (nm.reverse[N - 1 - k]'(by rw [List.length_reverse, HN.out]; omega)) = nm[k] := by
            rw [List.getElem_reverse]
            congr 1
            rw [HN.out]; omega
          rw [ev] at hcell
          clear ev
          have hc2 : wr.cell? ⟨G, k, none⟩ = (doneB nm k)[k]? := hO.cellAt k (by omega)
          have hf2 : wr.frozen? ⟨G, k, none⟩ = false := hO.frozenAt k
          obtain ⟨h3, hg3⟩ := hO.stored k (.int .u8 (nm[k].toNat : Int))
          rw [doneB_set nm k hkn] at h3
          have hR3 := hR.kept hg3 (.inr HNE.out)
          have hb3 := hbi.grown hg3 hbi.size (fun j hj => by cases hj; exact hbs)
          obtain ⟨v0, hv0⟩ : ∃ v0 : Value, (doneB nm k)[k]? = some v0 := ⟨_, List.getElem?_eq_getElem (by rw [doneB_len nm k (by rw [HN.out]; omega)]; exact hkn)⟩
          rw [hv0] at hc2
          clear hv0 hg3 hO hR hbi
          generalize N - 1 - k = jj at hia hcell
          generalize nm[k] = cc at hcell h3 hR3 hb3
          go_wp2
          go_roundw
          case rel => exact ⟨k + 1, by omega, by go_num, h3, hR3, hb3⟩
          case measure => simp [intOf]; omega
        · rw [doneB_all nm k (by rw [HN.out]; omega)] at hO
          have hconv := conv_own hO
          clear hO hR
          go_wp2
          go_ret3
          rw [HMI.out]
          exact ⟨rfl, hbi⟩
end Go.Proofs.Qxb6600830a.Sel
