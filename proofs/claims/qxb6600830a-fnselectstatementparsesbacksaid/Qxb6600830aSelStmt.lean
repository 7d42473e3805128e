/-
  The walk of (*Entity).selectStatement.
-/
import Derived.Test.Qxb6600830aSelBase
import Derived.Test.Qxb6600830aBuilder
import Derived.Deep.RegionWith
namespace Go.Proofs.Qxb6600830a.Sel
open Go.RowKit

theorem restQ_len (cs : List (List UInt8)) (h : ∀ c ∈ cs, c.length ≤ 1048576) : (restQ cs).length ≤ cs.length * 2097156 := by
  induction cs with
  | nil => simp [restQ]
  | cons c r ih =>
    have e : restQ (c :: r) = kComma ++ pgq c ++ restQ r := by simp [restQ]
    have h1 := ih (fun c hc => h c (List.mem_cons_of_mem _ hc))
    have h2 := h c List.mem_cons_self
    have h3 := pgq_le c
    rw [e, List.length_append, List.length_append, List.length_cons]
    simp only [kComma, List.length_cons, List.length_nil]
    omega
theorem joinQ_len (cs : List (List UInt8)) (h : ∀ c ∈ cs, c.length ≤ 1048576) : (joinQ cs).length ≤ cs.length * 2097156 := by
  cases cs with
  | nil => simp [joinQ]
  | cons c r =>
    have h1 := restQ_len r (fun c hc => h c (List.mem_cons_of_mem _ hc))
    have h2 := h c List.mem_cons_self
    have h3 := pgq_le c
    rw [joinQ, List.length_append, List.length_cons]
    omega
theorem isB {B b : Nat} {bs bs' : List Value} {w : World} (h : Lib.BuilderAt 49 5 B b (.pointer (some ⟨b, 0, none⟩)) bs w) (e : bs = bs') : Lib.IsBuilder 49 5 B b bs' w := e ▸ Or.inr h
theorem wrote {B b : Nat} {l l' : List UInt8} {s : ByteArray} {w : World} (h : Lib.BuilderAt 49 5 B b (.pointer (some ⟨b, 0, none⟩)) (Lib.byteCells l ++ Lib.strCells s) w) (e : l ++ s.data.toList = l') : Lib.IsBuilder 49 5 B b (Lib.byteCells l') w :=
  isB h (by rw [← e, Lib.byteCells_append]; rfl)
theorem take_map (C : List ByteArray) (k : Nat) : (C.map fun c => c.data.toList).take k = (C.take k).map fun c => c.data.toList := by rw [List.map_take]

set_option maxHeartbeats 4000000 in
theorem stmt_walk (eb m : Nat) (frm wh : ByteArray) (a1 a2 : Option Addr) (n1 cap1 n2 cap2 : Nat) (F C : List ByteArray) (w : World) (heb : eb < w.heap.size)
    (c1 : w.cell? ⟨eb, 1, none⟩ = some (.string frm)) (c2 : w.cell? ⟨eb, 2, none⟩ = some (.slice a1 n1 cap1)) (c3 : w.cell? ⟨eb, 3, none⟩ = some (.map (some m)))
    (hF : F.length = n1) (hC : C.length = n2) (hSF : StrsAt w a1 F) (hSC : StrsAt w a2 C) (hM : QMap w m F) (hin : ∀ c ∈ C, c ∈ F) (h0 : 0 < F.length)
    (hn2 : n2 ≤ 1048576) (hzF : ∀ c ∈ F, c.size ≤ 1048576) (hfr : frm.size ≤ 2097154) (hwh : wh.size ≤ 1048576) :
    Calls Try.prog 20 #[.pointer (some ⟨eb, 0, none⟩), .slice a2 n2 cap2, .string wh] w fun e w' =>
      e = .returned (.string ⟨(kSel ++ (joinQ (C.map fun c => c.data.toList) ++ (kFrom ++ (frm.data.toList ++ (whereQ wh.data.toList ++ (kOrder ++ pgq (F[0].data.toList))))))).toArray⟩) ∧ Below w.heap.size w w' := by
  have hzC : ∀ c ∈ C, c.size ≤ 1048576 := fun c hc => hzF c (hin c hc)
  have HF : Hid (F.length = n1) := hF
  have HC : Hid (C.length = n2) := hC
  have HSF : Hid (StrsAt w a1 F) := hSF
  have HSC : Hid (StrsAt w a2 C) := hSC
  have HM : Hid (QMap w m F) := hM
  have HIN : Hid (∀ c ∈ C, c ∈ F) := hin
  have HZF : Hid (∀ c ∈ F, c.size ≤ 1048576) := hzF
  have HZC : Hid (∀ c ∈ C, c.size ≤ 1048576) := hzC
  have HC1 : Hid (w.cell? ⟨eb, 1, none⟩ = some (.string frm)) := c1
  have HC2 : Hid (w.cell? ⟨eb, 2, none⟩ = some (.slice a1 n1 cap1)) := c2
  have HC3 : Hid (w.cell? ⟨eb, 3, none⟩ = some (.map (some m))) := c3
  clear hF hC hSF hSC hM hin hzF hzC c1 c2 c3
  have HLEN : Hid (∀ k, k ≤ n2 → (joinQ ((C.map fun c => c.data.toList).take k)).length ≤ 2199027449856) := by
    intro k hk
    have h1 := joinQ_len ((C.map fun c => c.data.toList).take k) (fun c hc => by
      obtain ⟨x, hx, rfl⟩ := List.mem_map.1 (List.mem_of_mem_take hc)
      rw [toList_len]; exact HZC.out x hx)
    have h2 : ((C.map fun c => c.data.toList).take k).length ≤ 1048576 := by
      exact Nat.le_trans (List.length_take_le k _) (Nat.le_trans hk hn2)
    exact Nat.le_trans h1 (Nat.le_trans (Nat.mul_le_mul_right 2097156 h2) (by decide))
  obtain ⟨RES, hres⟩ : ∃ R : List UInt8, R = kSel ++ (joinQ (C.map fun c => c.data.toList) ++ (kFrom ++ (frm.data.toList ++ (whereQ wh.data.toList ++ (kOrder ++ pgq (F[0].data.toList)))))) := ⟨_, rfl⟩
  rw [← hres]
  have HRES : Hid (RES = (kSel ++ joinQ (C.map fun c => c.data.toList)) ++ (kFrom ++ (frm.data.toList ++ (whereQ wh.data.toList ++ (kOrder ++ pgq (F[0].data.toList)))))) := by
    show _ = _
    rw [hres]; simp
  clear hres
  go_enter Try.func20, Try.ntmps20
  go_wp2_with fail
  refine (writeString w.heap.size w.heap.size [] _ _ (Lib.fresh_isBuilder 49 5 w) (by decide) (by simp)).mono ?_
  rintro e w1 ⟨rfl, hB1, hb1⟩
  have hb1' : Below w.heap.size w w1 := ((Below.refl _ w).alloc (Nat.le_refl _) _).trans hb1
  have hB1' : Lib.IsBuilder 49 5 w.heap.size w.heap.size (Lib.byteCells (kSel ++ joinQ ((C.map fun c => c.data.toList).take 0))) w1 := isB hB1 rfl
  clear hb1 hB1
  go_wp2_with fail
  go_loopw [13] (fun i wr => ∃ k : Nat, k ≤ n2 ∧ i = .int .i64 k ∧ Lib.IsBuilder 49 5 w.heap.size w.heap.size (Lib.byteCells (kSel ++ joinQ ((C.map fun c => c.data.toList).take k))) wr ∧ Below w.heap.size w wr)
    (fun i _ => n2 - (intOf i).toNat)
  case atStart => exact ⟨0, Nat.zero_le _, rfl, hB1', hb1'⟩
  case round =>
    obtain ⟨k, hk, rfl, hB, hb⟩ := hrel
    clear hB1' hb1'
    have hbs := hb.size
    have hL := HLEN.out k hk
    by_cases hlt : k < n2
    · have hkC : k < C.length := by have := HC.out; omega
      obtain ⟨b, o, hbo, hia, hcell0⟩ := HSC.out.here HC.out hlt cap2
      have hcell : wr.cell? ⟨b, o, none⟩ = some (.string C[k]) := (hb.cell (p := ⟨b, o, none⟩) hbo).trans hcell0
      have hzk : C[k].size ≤ 1048576 := HZC.out _ (List.getElem_mem hkC)
      have HIK : Hid (C[k] ∈ F) := HIN.out _ (List.getElem_mem hkC)
      have HLK : Hid ((C.map fun c => c.data.toList).take (k + 1) = (C.map fun c => c.data.toList).take (k + 1)) := rfl
      have HJ : Hid (kSel ++ joinQ ((C.map fun c => c.data.toList).take (k + 1)) = (kSel ++ joinQ ((C.map fun c => c.data.toList).take k)) ++ (sep k ++ pgq C[k].data.toList)) := by
        show _ = _
        rw [joinQ_take_succ _ k (by simpa using hkC)]; simp
      have hL2 : (kSel ++ joinQ ((C.map fun c => c.data.toList).take k)).length ≤ 2199027449863 := by rw [List.length_append]; have : kSel.length = 7 := rfl; omega
      clear hcell0 HLK hL
      generalize C[k] = s at hcell hzk HIK HJ
      have HQS : Hid (∀ q : ByteArray, q = ⟨(pgq s.data.toList).toArray⟩ → q.size ≤ 2097154) := by
        rintro q rfl
        have := pgq_le s.data.toList; rw [toList_len] at this; show (pgq s.data.toList).toArray.size ≤ _; rw [List.size_toArray]; omega
      obtain ⟨q, hq⟩ : ∃ q : ByteArray, q = ⟨(pgq s.data.toList).toArray⟩ := ⟨_, rfl⟩
      have hqs := HQS.out q hq
      have HQ : Hid (q = ⟨(pgq s.data.toList).toArray⟩) := hq
      have HQD : Hid (q.data.toList = pgq s.data.toList) := by show _ = _; rw [hq]
      have HSM : Hid (s.size ≤ maxLen) := by show _ ≤ _; unfold maxLen; omega
      clear hq HQS
      generalize kSel ++ joinQ ((C.map fun c => c.data.toList).take k) = acc at hB HJ hL2
      by_cases hk0 : (0 : Int) < (k : Int)
      rotate_left
      · have HK0 : Hid (k = 0) := by show _ = _; omega
        have hc3 : wr.cell? ⟨eb, 3, none⟩ = some (.map (some m)) := (hb.cell (p := ⟨eb, 3, none⟩) heb).trans HC3.out
        have hlook : (Instr.lookup 30 (.map (some m)) (.string s) false).run Try.prog wr = .ok (.string q) wr := by
          rw [(HM.out.below hb).look HSM.out HIK.out, HQ.out]
        go_wp2_with fail
        refine (writeString w.heap.size w.heap.size _ q _ hB (by rw [Lib.byteCells_length]; omega) hbs).mono ?_
        rintro e w2 ⟨rfl, hB2, hb2⟩
        clear hlook hc3 hcell
        go_wp2_with fail
        go_roundw
        case rel => exact ⟨k + 1, by omega, by go_num, wrote hB2 (by rw [HJ.out, HQD.out, HK0.out, sep_zero]; simp), hb.trans hb2⟩
        case measure => simp [intOf]; omega
      · go_wp2_with fail
        refine (writeString w.heap.size w.heap.size _ ⟨#[44, 32]⟩ _ hB (by rw [Lib.byteCells_length]; show _ + 2 ≤ _; omega) hbs).mono ?_
        rintro e w2 ⟨rfl, hB2, hb2⟩
        have hbb := hb.trans hb2
        have hB3 : Lib.IsBuilder 49 5 w.heap.size w.heap.size (Lib.byteCells (acc ++ kComma)) w2 := wrote hB2 rfl
        have hc3 : w2.cell? ⟨eb, 3, none⟩ = some (.map (some m)) := (hbb.cell (p := ⟨eb, 3, none⟩) heb).trans HC3.out
        have hlook : (Instr.lookup 30 (.map (some m)) (.string s) false).run Try.prog w2 = .ok (.string q) w2 := by
          rw [(HM.out.below hbb).look HSM.out HIK.out, HQ.out]
        have hL3 : (acc ++ kComma).length ≤ 2199027449865 := by rw [List.length_append]; have : kComma.length = 2 := rfl; omega
        have hbs2 := hbb.size
        clear hB2 hb2 hcell
        go_wp2_with fail
        refine (writeString w.heap.size w.heap.size _ q _ hB3 (by rw [Lib.byteCells_length]; omega) hbs2).mono ?_
        rintro e w3 ⟨rfl, hB4, hb4⟩
        clear hlook hc3
        go_wp2_with fail
        go_roundw
        case rel => exact ⟨k + 1, by omega, by go_num, wrote hB4 (by rw [HJ.out, HQD.out, sep_pos (by omega)]; simp), hbb.trans hb4⟩
        case measure => simp [intOf]; omega
    · have hke : (C.map fun c => c.data.toList).take k = C.map fun c => c.data.toList := List.take_of_length_le (by rw [List.length_map]; have := HC.out; omega)
      rw [hke] at hL hB
      clear hke
      have HF0 : Hid (F[0] ∈ F) := List.getElem_mem h0
      have hz0 : F[0].size ≤ 1048576 := HZF.out _ HF0.out
      obtain ⟨b, o, hbo, hia, hcell0⟩ := HSF.out.here (k := 0) HF.out (by rw [← HF.out]; exact h0) cap1
      have HCELL : Hid (w.cell? ⟨b, o, none⟩ = some (.string F[0])) := hcell0
      clear hcell0
      generalize F[0] = s at HF0 hz0 HCELL HRES
      generalize joinQ (C.map fun c => c.data.toList) = jn at hL hB HRES
      have hia0 : ∀ W, (Instr.indexAt 26 (.slice a1 n1 cap1) (.int .i64 0)).run Try.prog W = .ok (.pointer (some ⟨b, o, none⟩)) W := fun W => by simpa using hia W
      clear hia
      obtain ⟨q, hq⟩ : ∃ q : ByteArray, q = ⟨(pgq s.data.toList).toArray⟩ := ⟨_, rfl⟩
      have hqs : q.size ≤ 2097154 := by
        rw [hq]
        have := pgq_le s.data.toList; rw [toList_len] at this; show (pgq s.data.toList).toArray.size ≤ _; rw [List.size_toArray]; omega
      have HQ : Hid (q = ⟨(pgq s.data.toList).toArray⟩) := hq
      have HQD : Hid (q.data.toList = pgq s.data.toList) := by show _ = _; rw [hq]
      have HSM : Hid (s.size ≤ maxLen) := by show _ ≤ _; unfold maxLen; omega
      clear hq
      have hL1 : (kSel ++ jn).length ≤ 2199027449863 := by rw [List.length_append]; have : kSel.length = 7 := rfl; omega
      generalize kSel ++ jn = acc1 at hB hL1 HRES
      go_wp2_with fail
      refine (writeString w.heap.size w.heap.size _ ⟨#[32, 102, 114, 111, 109, 32]⟩ _ hB (by rw [Lib.byteCells_length]; show _ + 6 ≤ _; omega) hbs).mono ?_
      rintro e w2 ⟨rfl, hB2, hb2⟩
      have hbb2 := hb.trans hb2
      have hB2' : Lib.IsBuilder 49 5 w.heap.size w.heap.size (Lib.byteCells (acc1 ++ kFrom)) w2 := wrote hB2 rfl
      have hL2 : (acc1 ++ kFrom).length ≤ 2199027449869 := by rw [List.length_append]; have : kFrom.length = 6 := rfl; omega
      have d1 : w2.cell? ⟨eb, 1, none⟩ = some (.string frm) := (hbb2.cell (p := ⟨eb, 1, none⟩) heb).trans HC1.out
      clear hB2 hb2 hB
      go_wp2_with fail
      refine (writeString w.heap.size w.heap.size _ frm _ hB2' (by rw [Lib.byteCells_length]; omega) hbb2.size).mono ?_
      rintro e w3 ⟨rfl, hB3, hb3⟩
      have hbb3 := hbb2.trans hb3
      have hB3' : Lib.IsBuilder 49 5 w.heap.size w.heap.size (Lib.byteCells (acc1 ++ kFrom ++ frm.data.toList)) w3 := wrote hB3 rfl
      have hL3 : (acc1 ++ kFrom ++ frm.data.toList).length ≤ 2199030000000 := by rw [List.length_append, toList_len]; omega
      clear hB3 hb3 hB2' d1
      by_cases hwe : wh.data.toList = []
      · have HWE : Hid (wh.data.toList = []) := hwe
        have hwz : wh = ⟨#[]⟩ := byteArray_of_list hwe
        subst hwz
        go_wp2_with fail
        refine (writeString w.heap.size w.heap.size _ ⟨#[32, 111, 114, 100, 101, 114, 32, 98, 121, 32]⟩ _ hB3' (by rw [Lib.byteCells_length]; show _ + 10 ≤ _; omega) hbb3.size).mono ?_
        rintro e w8 ⟨rfl, hB8, hb8⟩
        have hbb8 := hbb3.trans hb8
        have hB8' : Lib.IsBuilder 49 5 w.heap.size w.heap.size (Lib.byteCells ((acc1 ++ kFrom ++ frm.data.toList) ++ kOrder)) w8.drew := (wrote hB8 rfl : Lib.IsBuilder 49 5 w.heap.size w.heap.size (Lib.byteCells ((acc1 ++ kFrom ++ frm.data.toList) ++ kOrder)) w8)
        have hL8 : ((acc1 ++ kFrom ++ frm.data.toList) ++ kOrder).length ≤ 2199033750000 := by rw [List.length_append]; have : kOrder.length = 10 := rfl; omega
        have d2 : w8.cell? ⟨eb, 2, none⟩ = some (.slice a1 n1 cap1) := (hbb8.cell (p := ⟨eb, 2, none⟩) heb).trans HC2.out
        have d3 : w8.cell? ⟨eb, 3, none⟩ = some (.map (some m)) := (hbb8.cell (p := ⟨eb, 3, none⟩) heb).trans HC3.out
        have d4 : w8.cell? ⟨b, o, none⟩ = some (.string s) := (hbb8.cell (p := ⟨b, o, none⟩) hbo).trans HCELL.out
        have hlook : (Instr.lookup 30 (.map (some m)) (.string s) false).run Try.prog w8.drew = .ok (.string q) w8.drew := by
          rw [((HM.out.below hbb8).below (Below.refl _ w8).drew).look HSM.out HF0.out, HQ.out]
        have HFIN : Hid (((acc1 ++ kFrom ++ frm.data.toList) ++ kOrder) ++ q.data.toList = RES) := by
          show _ = _
          rw [HQD.out, HRES.out]; simp [whereQ]
        clear hB8 hb8 hB3' hL3
        generalize (acc1 ++ kFrom ++ frm.data.toList) ++ kOrder = acc at hB8' hL8 HFIN
        go_wp2_with fail
        go_region_with (go_at_call 26; refine (writeString w.heap.size w.heap.size _ q _ hB8' (by rw [Lib.byteCells_length]; omega) hbb8.size).mono ?_; rintro e w9 ⟨rfl, hB9, hb9⟩)
        all_goals
          have hb10 : Below w.heap.size w w9 := hbb8.drew.trans hb9
          have hB10 : Lib.IsBuilder 49 5 w.heap.size w.heap.size (Lib.byteCells RES) w9 := wrote hB9 HFIN.out
          clear hB9 hb9 d2 d3 d4 hlook hia0 hB8'
          go_wp2_with fail
          refine (builderString w.heap.size w.heap.size _ _ hB10 (by rw [HRES.out]; simp [pgq])).mono ?_
          rintro e w11 ⟨rfl, hb11⟩
          go_wp2_with fail
          go_ret
          exact ⟨rfl, hb10.trans hb11⟩
      · have hwb : wh.toList.isEmpty = false := by
          rw [ByteArray.toList_eq]; cases h : wh.data.toList with
          | nil => exact absurd h hwe
          | cons _ _ => rfl
        have HWQ : Hid (whereQ wh.data.toList = kWhere ++ wh.data.toList) := by show _ = _; simp [whereQ, hwe]
        clear hwe
        go_wp2_with fail
        refine (writeString w.heap.size w.heap.size _ ⟨#[32, 119, 104, 101, 114, 101, 32]⟩ _ hB3' (by rw [Lib.byteCells_length]; show _ + 7 ≤ _; omega) hbb3.size).mono ?_
        rintro e w4 ⟨rfl, hB4, hb4⟩
        have hbb4 := hbb3.trans hb4
        have hB4' : Lib.IsBuilder 49 5 w.heap.size w.heap.size (Lib.byteCells (acc1 ++ kFrom ++ frm.data.toList ++ kWhere)) w4 := wrote hB4 rfl
        have hL4 : (acc1 ++ kFrom ++ frm.data.toList ++ kWhere).length ≤ 2199030000007 := by rw [List.length_append]; have : kWhere.length = 7 := rfl; omega
        clear hB4 hb4 hB3' hL3
        go_wp2_with fail
        refine (writeString w.heap.size w.heap.size _ wh _ hB4' (by rw [Lib.byteCells_length]; omega) hbb4.size).mono ?_
        rintro e w5 ⟨rfl, hB5, hb5⟩
        have hbb5 := hbb4.trans hb5
        have hB5' : Lib.IsBuilder 49 5 w.heap.size w.heap.size (Lib.byteCells (acc1 ++ kFrom ++ frm.data.toList ++ kWhere ++ wh.data.toList)) w5 := wrote hB5 rfl
        have hL5 : (acc1 ++ kFrom ++ frm.data.toList ++ kWhere ++ wh.data.toList).length ≤ 2199033000000 := by rw [List.length_append, toList_len]; omega
        clear hB5 hb5 hB4' hL4
        go_wp2_with fail
        refine (writeString w.heap.size w.heap.size _ ⟨#[32, 111, 114, 100, 101, 114, 32, 98, 121, 32]⟩ _ hB5' (by rw [Lib.byteCells_length]; show _ + 10 ≤ _; omega) hbb5.size).mono ?_
        rintro e w8 ⟨rfl, hB8, hb8⟩
        have hbb8 := hbb5.trans hb8
        have hB8' : Lib.IsBuilder 49 5 w.heap.size w.heap.size (Lib.byteCells ((acc1 ++ kFrom ++ frm.data.toList ++ kWhere ++ wh.data.toList) ++ kOrder)) w8.drew := (wrote hB8 rfl : Lib.IsBuilder 49 5 w.heap.size w.heap.size (Lib.byteCells ((acc1 ++ kFrom ++ frm.data.toList ++ kWhere ++ wh.data.toList) ++ kOrder)) w8)
        have hL8 : ((acc1 ++ kFrom ++ frm.data.toList ++ kWhere ++ wh.data.toList) ++ kOrder).length ≤ 2199033750000 := by rw [List.length_append]; have : kOrder.length = 10 := rfl; omega
        have d2 : w8.cell? ⟨eb, 2, none⟩ = some (.slice a1 n1 cap1) := (hbb8.cell (p := ⟨eb, 2, none⟩) heb).trans HC2.out
        have d3 : w8.cell? ⟨eb, 3, none⟩ = some (.map (some m)) := (hbb8.cell (p := ⟨eb, 3, none⟩) heb).trans HC3.out
        have d4 : w8.cell? ⟨b, o, none⟩ = some (.string s) := (hbb8.cell (p := ⟨b, o, none⟩) hbo).trans HCELL.out
        have hlook : (Instr.lookup 30 (.map (some m)) (.string s) false).run Try.prog w8.drew = .ok (.string q) w8.drew := by
          rw [((HM.out.below hbb8).below (Below.refl _ w8).drew).look HSM.out HF0.out, HQ.out]
        have HFIN : Hid (((acc1 ++ kFrom ++ frm.data.toList ++ kWhere ++ wh.data.toList) ++ kOrder) ++ q.data.toList = RES) := by
          show _ = _
          rw [HQD.out, HRES.out]; rw [HWQ.out]; simp
        clear hB8 hb8 hB5' hL5
        generalize (acc1 ++ kFrom ++ frm.data.toList ++ kWhere ++ wh.data.toList) ++ kOrder = acc at hB8' hL8 HFIN
        go_wp2_with fail
        go_region_with (go_at_call 26; refine (writeString w.heap.size w.heap.size _ q _ hB8' (by rw [Lib.byteCells_length]; omega) hbb8.size).mono ?_; rintro e w9 ⟨rfl, hB9, hb9⟩)
        all_goals
          have hb10 : Below w.heap.size w w9 := hbb8.drew.trans hb9
          have hB10 : Lib.IsBuilder 49 5 w.heap.size w.heap.size (Lib.byteCells RES) w9 := wrote hB9 HFIN.out
          clear hB9 hb9 d2 d3 d4 hlook hia0 hB8'
          go_wp2_with fail
          refine (builderString w.heap.size w.heap.size _ _ hB10 (by rw [HRES.out]; simp [pgq])).mono ?_
          rintro e w11 ⟨rfl, hb11⟩
          go_wp2_with fail
          go_ret
          exact ⟨rfl, hb10.trans hb11⟩
end Go.Proofs.Qxb6600830a.Sel
