/-
  The walk of zzParseSelect at a statement.
-/
import Derived.Test.Qxb6600830aSelAt
import Derived.Test.Qxb6600830aSelBack
import Derived.Test.Qxb6600830aSelText
namespace Go.Proofs.Qxb6600830a.Sel
open Go.RowKit

/-- zzReadIdent, the name as the string that it is. -/
theorem readIdentB (s nm : ByteArray) (i : Int) (pre post : List UInt8) (w : World) (hs : s.size ≤ 8796093022208) (hsp : s.data.toList = pre ++ (pgq nm.data.toList ++ post)) (hpost : ∀ c r, post = c :: r → ¬ c = 34) (hi1 : i = (pre.length : Int)) (hnm : nm.size ≤ 1048576) (m : Int) (hm : m = ((pre.length + (pgq nm.data.toList).length : Nat) : Int)) :
    Calls Try.prog 22 #[.string s, .int .i64 i] w fun e w' => e = .returned (.tuple #[.string nm, .int .i64 m, .bool true]) ∧ Below w.heap.size w w' := by
  have h := readIdent_walk s i pre nm.data.toList post w hs hsp hpost hi1 (by rw [toList_len]; exact hnm) m hm
  rw [← byteArray_of_list (s := nm) rfl] at h
  exact h
theorem readBackB (s nm : ByteArray) (pre : List UInt8) (w : World) (hs : s.size ≤ 8796093022208) (hsp : s.data.toList = pre ++ 32 :: pgq nm.data.toList) (hnm : nm.size ≤ 1048576) (m : Int) (hm : m = ((pre.length + 1 : Nat) : Int)) :
    Calls Try.prog 23 #[.string s] w fun e w' => e = .returned (.tuple #[.string nm, .int .i64 m, .bool true]) ∧ Below w.heap.size w w' := by
  have h := readBack_walk s pre nm.data.toList 32 w hs hsp (by decide) (by rw [toList_len]; exact hnm) m hm
  rw [← byteArray_of_list (s := nm) rfl] at h
  exact h

theorem extract_list (s : ByteArray) (a b : Nat) : (s.extract a b).data.toList = (s.data.toList.take b).drop a := by
  rw [List.drop_take]; simp [ByteArray.data_extract]
/-- What the parser hands back. -/
def Parsed (C : List ByteArray) (tbl wh f0 : ByteArray) (w : World) (e : Ending) (w' : World) : Prop :=
  ∃ a cap, e = .returned (.tuple #[.slice a C.length cap, .string tbl, .string wh, .string f0, .bool true]) ∧ StrsAt w' a C ∧ Below w.heap.size w w'

theorem parsed_of {C : List ByteArray} {tbl wh f0 x : ByteArray} {w w' : World} {v : Value} {B : Nat} (hown : w'.ownsRow B 9 1 v C.length (C.map Value.string)) (hb : Below w.heap.size w w') (hx : x = wh) :
    Parsed C tbl wh f0 w (.returned (.tuple #[v, .string tbl, .string x, .string f0, .bool true])) w' := by
  obtain ⟨_, a, cap, rfl, hS⟩ := strsAt_own hown
  subst hx
  exact ⟨a, cap, rfl, hS, hb⟩

set_option maxHeartbeats 4000000 in
theorem parse_walk (s tbl wh f0 : ByteArray) (C : List ByteArray) (w : World) (hs : s.size ≤ 8796093022208) (hsp : s.data.toList = stmtQ (C.map fun c => c.data.toList) tbl.data.toList wh.data.toList f0.data.toList)
    (hC : C.length ≤ 1048576) (hzC : ∀ i (h : i < C.length), C[i].size ≤ 1048576) (ht : tbl.size ≤ 1048576) (hw : wh.size ≤ 1048576) (hf : f0.size ≤ 1048576) :
    Calls Try.prog 17 #[.string s] w fun e w' => Parsed C tbl wh f0 w e w' := by
  obtain ⟨i9, hi, hz0, hz1, hz2⟩ := info_parts Try.info9
  generalize hCL : (C.map fun c => c.data.toList) = CL at hsp
  have hn : CL.length = C.length := by rw [← hCL]; simp
  have HG : Hid (∀ k (h : k < C.length), ∃ h' : k < CL.length, CL[k] = C[k].data.toList) := by
    intro k h
    subst hCL
    exact ⟨by simpa using h, by simp⟩
  have HSP : Hid (s.data.toList = stmtQ CL tbl.data.toList wh.data.toList f0.data.toList) := hsp
  have HN : Hid (CL.length = C.length) := hn
  have HZ : Hid (∀ i (h : i < C.length), C[i].size ≤ 1048576) := hzC
  clear hsp hCL hn hzC
  by_cases hne : 0 < C.length
  · go_enter Try.func17, Try.ntmps17
    go_wp2_with fail
    refine (at_yes s ⟨#[115, 101, 108, 101, 99, 116, 32]⟩ 0 [] _ _ hs (by rw [HSP.out]; rfl) rfl).mono ?_
    rintro e w1 ⟨rfl, hb1⟩
    go_wp2_with fail
    obtain ⟨h0, hg0⟩ := HG.out 0 hne
    refine (at_no s ⟨#[32, 102, 114, 111, 109, 32]⟩ 7 kSel _ 34 32 _ _ hs (by decide) (by rw [HSP.out, stmt_at CL _ _ _ 0 h0, ahead_zero]; rfl) rfl (by decide) rfl).mono ?_
    rintro e w2 ⟨rfl, hb2⟩
    have hbb := hb1.trans (hb2.mono hb1.size)
    clear hb1 hb2 hg0 h0
    go_wp2_with fail
    go_loopw [7, 8] (fun i v wr => ∃ k I : Nat, k < C.length ∧ Hid (I = (ahead CL k).length) ∧ i = .int .i64 I ∧ wr.ownsRow w.heap.size 9 1 v k ((C.take k).map Value.string) ∧ Below w.heap.size w wr)
      (fun i _ _ => s.size - (intOf i).toNat)
    case atStart => exact ⟨0, 7, hne, by show _ = _; rw [ahead_zero]; rfl, rfl, World.ownsRow_nil _ _ _ _, hbb⟩
    case round =>
      obtain ⟨k, I, hk, HI, rfl, hown, hb⟩ := hrel
      have hbs := hb.size
      obtain ⟨hkL, hgk⟩ := HG.out k hk
      obtain ⟨J, hJ⟩ : ∃ J : Nat, J = I + (pgq CL[k]).length := ⟨_, rfl⟩
      have HA : Hid (s.data.toList = ahead CL k ++ (pgq C[k].data.toList ++ (restQ (CL.drop (k + 1)) ++ tailQ tbl.data.toList wh.data.toList f0.data.toList))) := by
        show _ = _
        rw [HSP.out, stmt_at CL _ _ _ k hkL, hgk]
      have hIJ : I + 2 ≤ J := by have := pgq_len CL[k]; omega
      have hJs : J ≤ s.size := by
        rw [← toList_len s, HA.out, List.length_append, List.length_append, ← hgk, hJ, HI.out]; omega
      have HJ : Hid (J = I + (pgq CL[k]).length) := hJ
      have hzk : C[k].size ≤ 1048576 := HZ.out k hk
      have HTK : Hid ((C.take (k + 1)).map Value.string = (C.take k).map Value.string ++ [Value.string C[k]]) := by
        show _ = _
        rw [List.take_succ_eq_append_getElem hk, List.map_append]; rfl
      have HGK : Hid (CL[k] = C[k].data.toList) := hgk
      clear hJ hgk
      go_wp2_with fail
      refine (readIdentB s C[k] (I : Int) (ahead CL k) _ _ hs HA.out (post_head CL _ _ _ k) (by rw [HI.out]) hzk (J : Int) (by rw [HJ.out, HI.out, HGK.out])).mono ?_
      rintro e w2 ⟨rfl, hb2⟩
      have hown2 := ownsRow_below hown (hb2.mono (Nat.le_refl _))
      have hbb2 := hb.trans (hb2.mono hbs)
      have hbs2 := hbb2.size
      clear hb2 hown hb
      generalize C[k] = nmk at HTK hzk
      go_wp2_with (at_builtin; refine wpList_append_own _ rfl (.tmp 40) (.tmp 42) 26 rfl w.heap.size 9 i9 (.string ByteArray.empty) 1 16 Try.underlying26 hi hz0 hz1 hz2 rfl (by decide) _ _ _ rfl (hown2.alloc _) ⟨w2.heap.size, 0, none⟩ 1 1 [.string nmk] rfl rfl (cell_one_new _ _ _) (fun u hu => by simp at hu; subst hu; rfl) (by unfold maxLen; omega) (by omega) (by simp; omega) ?_; intro v3 w3 hown3 hgrow3 _)
      have hbb3 : Below w.heap.size w w3 := (hbb2.alloc hbs2 _).grown hgrow3 (by simp; omega) (fun j hj => own_ge hown2 hj)
      rw [← HTK.out] at hown3
      clear hgrow3 hown2 hbb2 hbs2
      by_cases hnx : k + 1 < C.length
      · have hnxL : k + 1 < CL.length := by rw [HN.out]; exact hnx
        go_wp2_with fail
        refine (at_yes s ⟨#[44, 32]⟩ (J : Int) (ahead CL k ++ pgq CL[k]) _ _ hs (by rw [HSP.out, stmt_next CL _ _ _ k hnxL]; rfl) (by rw [HJ.out, HI.out, List.length_append])).mono ?_
        rintro e w4 ⟨rfl, hb4⟩
        have hown4 := ownsRow_below hown3 hb4
        have hbb4 := hbb3.trans (hb4.mono hbb3.size)
        clear hb4 hown3 hbb3
        go_wp2_with fail
        go_roundw
        case rel =>
          refine ⟨k + 1, J + 2, hnx, ?_, by go_num, hown4, hbb4⟩
          show _ = _
          rw [ahead_succ CL k hkL, List.length_append, List.length_append, HJ.out, HI.out]
          show _ = _ + (_ + 2)
          omega
        case measure => simp [intOf]; omega
      · have hnxL : ¬ k + 1 < CL.length := by rw [HN.out]; exact hnx
        have HL : Hid (s.data.toList = (ahead CL k ++ pgq CL[k]) ++ tailQ tbl.data.toList wh.data.toList f0.data.toList) := by
          show _ = _
          rw [HSP.out, stmt_last CL _ _ _ k hkL hnxL]
        have HPJ : Hid (J = (ahead CL k ++ pgq CL[k]).length) := by show _ = _; rw [HJ.out, HI.out, List.length_append]
        have HKC : Hid (k + 1 = C.length) := by show _ = _; omega
        rw [show C.take (k + 1) = C from List.take_of_length_le (by omega), HKC.out] at hown3
        go_wp2_with fail
        refine (at_no s ⟨#[44, 32]⟩ (J : Int) (ahead CL k ++ pgq CL[k]) _ 32 44 _ _ hs (by decide) (by rw [HL.out]; rfl) rfl (by decide) (by rw [HPJ.out])).mono ?_
        rintro e w4 ⟨rfl, hb4⟩
        have hown4 := ownsRow_below hown3 hb4
        have hbb4 := hbb3.trans (hb4.mono hbb3.size)
        generalize ahead CL k ++ pgq CL[k] = P0 at HL HPJ
        clear hb4 hown3 hbb3 HJ HI HA HGK HTK hIJ hkL hnxL
        go_wp2_with fail
        refine (at_yes s ⟨#[32, 102, 114, 111, 109, 32]⟩ (J : Int) P0 _ _ hs (by rw [HL.out, tail_from]; rfl) (by rw [HPJ.out])).mono ?_
        rintro e w5 ⟨rfl, hb5⟩
        have hown5 := ownsRow_below hown4 hb5
        have hbb5 := hbb4.trans (hb5.mono hbb4.size)
        clear hb5 hown4 hbb4
        obtain ⟨J2, hJ2⟩ : ∃ J2 : Nat, J2 = (P0 ++ kFrom).length + (pgq tbl.data.toList).length := ⟨_, rfl⟩
        obtain ⟨I3, hI3⟩ : ∃ I3 : Nat, I3 = (P0 ++ (kFrom ++ (pgq tbl.data.toList ++ whereQ wh.data.toList))).length := ⟨_, rfl⟩
        have hJI : J2 ≤ I3 := by rw [hJ2, hI3]; simp; omega
        have hIs : I3 ≤ s.size := by rw [← toList_len s, HL.out, tail_order, List.length_append, ← hI3]; omega
        have HIJ : Hid (I3 = J2 + (whereQ wh.data.toList).length) := by show _ = _; rw [hJ2, hI3]; simp; omega
        have HMID : Hid ((s.data.toList.take I3).drop J2 = whereQ wh.data.toList) := by show _ = _; rw [HL.out, hJ2, hI3]; exact tail_mid _ _ _ _
        have HJ2 : Hid (J2 = (P0 ++ kFrom).length + (pgq tbl.data.toList).length) := hJ2
        have HI3 : Hid (I3 = (P0 ++ (kFrom ++ (pgq tbl.data.toList ++ whereQ wh.data.toList))).length) := hI3
        clear hJ2 hI3
        go_wp2_with fail
        refine (readIdentB s tbl ((J : Int) + 6) (P0 ++ kFrom) _ _ hs (by rw [HL.out]; exact tail_tbl _ _ _ _) (post_tbl _ _) (by rw [HPJ.out, List.length_append]; rfl) ht (J2 : Int) (by rw [HJ2.out])).mono ?_
        rintro e w6 ⟨rfl, hb6⟩
        have hown6 := ownsRow_below hown5 hb6
        have hbb6 := hbb5.trans (hb6.mono hbb5.size)
        clear hb6 hown5 hbb5
        go_wp2_with fail
        refine (readBackB s f0 _ _ hs (by rw [HL.out]; exact tail_back _ _ _ _) hf ((I3 : Int) + 10) (by rw [tail_back_len, HI3.out]; rfl)).mono ?_
        rintro e w7 ⟨rfl, hb7⟩
        have hown7 := ownsRow_below hown6 hb7
        have hbb7 := hbb6.trans (hb7.mono hbb6.size)
        clear hb7 hown6 hbb6
        go_wp2_with fail
        refine (at_yes s ⟨#[32, 111, 114, 100, 101, 114, 32, 98, 121, 32]⟩ (I3 : Int) _ _ _ hs (by rw [HL.out]; exact tail_order _ _ _ _) (by rw [HI3.out])).mono ?_
        rintro e w8 ⟨rfl, hb8⟩
        have hown8 := ownsRow_below hown7 hb8
        have hbb8 := hbb7.trans (hb8.mono hbb7.size)
        clear hb8 hown7 hbb7
        have HEX : Hid ((s.extract J2 I3).data.toList = whereQ wh.data.toList) := by
          show _ = _
          rw [extract_list, HMID.out]
        by_cases hwe : wh.data.toList = []
        · have hmb : (s.extract J2 I3).toList.isEmpty = true := by rw [ByteArray.toList_eq, HEX.out, hwe]; rfl
          have HWE : Hid (wh = ⟨#[]⟩) := byteArray_of_list hwe
          clear hwe
          go_wp2_with fail
          exact bodyPost_ret (v := .tuple #[v3, .string tbl, .string ⟨#[]⟩, .string f0, .bool true]) (by simp [results, Try.results17, go_sem]) rfl (parsed_of hown8 hbb8 HWE.out.symm)
        · have hmb : (s.extract J2 I3).toList.isEmpty = false := by
            rw [ByteArray.toList_eq, HEX.out, whereQ_some hwe]; rfl
          have HM7 : Hid ((s.extract J2 I3).data.toList = kWhere ++ wh.data.toList) := by show _ = _; rw [HEX.out, whereQ_some hwe]
          have HIL : Hid (I3 = J2 + (7 + wh.size)) := by
            show _ = _
            rw [HIJ.out, whereQ_some hwe, List.length_append, toList_len]; rfl
          have hwp : 0 < wh.size := by
            rw [← toList_len wh]
            exact List.length_pos_iff.2 hwe
          have h37 : I3 = J2 + (7 + wh.size) := HIL.out
          have hge : J2 + 8 ≤ I3 := by omega
          clear hwe h37
          have hexs : (s.extract J2 I3).size = I3 - J2 := by
            rw [← toList_len, HM7.out, HIL.out, List.length_append, toList_len]; show 7 + _ = _; omega
          go_wp2_with fail
          refine (at_yes (s.extract J2 I3) ⟨#[32, 119, 104, 101, 114, 101, 32]⟩ 0 [] wh.data.toList _ (by rw [hexs]; omega) (by rw [HM7.out]; rfl) rfl).mono ?_
          rintro e w9 ⟨rfl, hb9⟩
          have hown9 := ownsRow_below hown8 hb9
          have hbb9 := hbb8.trans (hb9.mono hbb8.size)
          clear hb9 hown8 hbb8
          have HW : Hid ((s.extract J2 I3).extract 7 (I3 - J2) = wh) := byteArray_ext (by
            rw [extract_list, HM7.out, HIL.out, List.take_of_length_le (by rw [List.length_append, toList_len]; show 7 + _ ≤ _; omega)]; rfl)
          go_wp2_with fail
          exact bodyPost_ret (v := .tuple #[v3, .string tbl, .string ((s.extract J2 I3).extract 7 (I3 - J2)), .string f0, .bool true]) (by simp [results, Try.results17, go_sem]) rfl (parsed_of hown9 hbb9 HW.out)
  · have hC0 : C = [] := List.length_eq_zero_iff.1 (by omega)
    have HL : Hid (s.data.toList = kSel ++ tailQ tbl.data.toList wh.data.toList f0.data.toList) := by
      show _ = _
      have hcl : CL = [] := List.length_eq_zero_iff.1 (by rw [HN.out, hC0]; rfl)
      rw [HSP.out, hcl]; rfl
    subst hC0
    clear HSP HN HG HZ
    go_enter Try.func17, Try.ntmps17
    go_wp2_with fail
    refine (at_yes s ⟨#[115, 101, 108, 101, 99, 116, 32]⟩ 0 [] _ _ hs (by rw [HL.out]; rfl) rfl).mono ?_
    rintro e w1 ⟨rfl, hb1⟩
    go_wp2_with fail
    refine (at_yes s ⟨#[32, 102, 114, 111, 109, 32]⟩ 7 kSel _ _ hs (by rw [HL.out, tail_from]; rfl) rfl).mono ?_
    rintro e w4 ⟨rfl, hb2⟩
    have hbb4 := hb1.trans (hb2.mono hb1.size)
    have hown4 : w4.ownsRow w.heap.size 9 1 (.slice none 0 0) ([] : List ByteArray).length (([] : List ByteArray).map Value.string) := World.ownsRow_nil _ _ _ _
    clear hb1 hb2
    go_wp2_with fail
    refine (at_yes s ⟨#[32, 102, 114, 111, 109, 32]⟩ 7 kSel _ _ hs (by rw [HL.out, tail_from]; rfl) rfl).mono ?_
    rintro e w5 ⟨rfl, hb5⟩
    have hown5 := ownsRow_below hown4 hb5
    have hbb5 := hbb4.trans (hb5.mono hbb4.size)
    clear hb5 hown4 hbb4
    obtain ⟨J2, hJ2⟩ : ∃ J2 : Nat, J2 = (kSel ++ kFrom).length + (pgq tbl.data.toList).length := ⟨_, rfl⟩
    obtain ⟨I3, hI3⟩ : ∃ I3 : Nat, I3 = (kSel ++ (kFrom ++ (pgq tbl.data.toList ++ whereQ wh.data.toList))).length := ⟨_, rfl⟩
    have hJI : J2 ≤ I3 := by rw [hJ2, hI3]; simp; omega
    have hIs : I3 ≤ s.size := by rw [← toList_len s, HL.out, tail_order, List.length_append, ← hI3]; omega
    have HIJ : Hid (I3 = J2 + (whereQ wh.data.toList).length) := by show _ = _; rw [hJ2, hI3]; simp; omega
    have HMID : Hid ((s.data.toList.take I3).drop J2 = whereQ wh.data.toList) := by show _ = _; rw [HL.out, hJ2, hI3]; exact tail_mid _ _ _ _
    have HJ2 : Hid (J2 = (kSel ++ kFrom).length + (pgq tbl.data.toList).length) := hJ2
    have HI3 : Hid (I3 = (kSel ++ (kFrom ++ (pgq tbl.data.toList ++ whereQ wh.data.toList))).length) := hI3
    clear hJ2 hI3
    go_wp2_with fail
    refine (readIdentB s tbl 13 (kSel ++ kFrom) _ _ hs (by rw [HL.out]; exact tail_tbl _ _ _ _) (post_tbl _ _) rfl ht (J2 : Int) (by rw [HJ2.out])).mono ?_
    rintro e w6 ⟨rfl, hb6⟩
    have hown6 := ownsRow_below hown5 hb6
    have hbb6 := hbb5.trans (hb6.mono hbb5.size)
    clear hb6 hown5 hbb5
    go_wp2_with fail
    refine (readBackB s f0 _ _ hs (by rw [HL.out]; exact tail_back _ _ _ _) hf ((I3 : Int) + 10) (by rw [tail_back_len, HI3.out]; rfl)).mono ?_
    rintro e w7 ⟨rfl, hb7⟩
    have hown7 := ownsRow_below hown6 hb7
    have hbb7 := hbb6.trans (hb7.mono hbb6.size)
    clear hb7 hown6 hbb6
    go_wp2_with fail
    refine (at_yes s ⟨#[32, 111, 114, 100, 101, 114, 32, 98, 121, 32]⟩ (I3 : Int) _ _ _ hs (by rw [HL.out]; exact tail_order _ _ _ _) (by rw [HI3.out])).mono ?_
    rintro e w8 ⟨rfl, hb8⟩
    have hown8 := ownsRow_below hown7 hb8
    have hbb8 := hbb7.trans (hb8.mono hbb7.size)
    clear hb8 hown7 hbb7
    have HEX : Hid ((s.extract J2 I3).data.toList = whereQ wh.data.toList) := by
      show _ = _
      rw [extract_list, HMID.out]
    by_cases hwe : wh.data.toList = []
    · have hmb : (s.extract J2 I3).toList.isEmpty = true := by rw [ByteArray.toList_eq, HEX.out, hwe]; rfl
      have HWE : Hid (wh = ⟨#[]⟩) := byteArray_of_list hwe
      clear hwe
      go_wp2_with fail
      exact bodyPost_ret (v := .tuple #[.slice none 0 0, .string tbl, .string ⟨#[]⟩, .string f0, .bool true]) (by simp [results, Try.results17, go_sem]) rfl (parsed_of hown8 hbb8 HWE.out.symm)
    · have hmb : (s.extract J2 I3).toList.isEmpty = false := by
        rw [ByteArray.toList_eq, HEX.out, whereQ_some hwe]; rfl
      have HM7 : Hid ((s.extract J2 I3).data.toList = kWhere ++ wh.data.toList) := by show _ = _; rw [HEX.out, whereQ_some hwe]
      have HIL : Hid (I3 = J2 + (7 + wh.size)) := by
        show _ = _
        rw [HIJ.out, whereQ_some hwe, List.length_append, toList_len]; rfl
      have hwp : 0 < wh.size := by
        rw [← toList_len wh]
        exact List.length_pos_iff.2 hwe
      have h37 : I3 = J2 + (7 + wh.size) := HIL.out
      have hge : J2 + 8 ≤ I3 := by omega
      clear hwe h37
      have hexs : (s.extract J2 I3).size = I3 - J2 := by
        rw [← toList_len, HM7.out, HIL.out, List.length_append, toList_len]; show 7 + _ = _; omega
      go_wp2_with fail
      refine (at_yes (s.extract J2 I3) ⟨#[32, 119, 104, 101, 114, 101, 32]⟩ 0 [] wh.data.toList _ (by rw [hexs]; omega) (by rw [HM7.out]; rfl) rfl).mono ?_
      rintro e w9 ⟨rfl, hb9⟩
      have hown9 := ownsRow_below hown8 hb9
      have hbb9 := hbb8.trans (hb9.mono hbb8.size)
      clear hb9 hown8 hbb8
      have HW : Hid ((s.extract J2 I3).extract 7 (I3 - J2) = wh) := byteArray_ext (by
        rw [extract_list, HM7.out, HIL.out, List.take_of_length_le (by rw [List.length_append, toList_len]; show 7 + _ ≤ _; omega)]; rfl)
      go_wp2_with fail
      exact bodyPost_ret (v := .tuple #[.slice none 0 0, .string tbl, .string ((s.extract J2 I3).extract 7 (I3 - J2)), .string f0, .bool true]) (by simp [results, Try.results17, go_sem]) rfl (parsed_of hown9 hbb9 HW.out)
end Go.Proofs.Qxb6600830a.Sel
