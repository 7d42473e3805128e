/-
  The walk of FnSelectStatementParsesBack.
-/
import Derived.Test.Qxb6600830aSelSize
import Derived.Test.Qxb6600830aSelClone
import Derived.Test.Qxb6600830aSelStmt
import Derived.Test.Qxb6600830aSelParse
import Derived.Deep.RegionWith
namespace Go.Proofs.Qxb6600830a.Sel
open Go.RowKit

theorem clone_any (a : Option Addr) (n cap : Nat) (ss : List ByteArray) (w : World) (hn : ss.length = n) (hS : StrsAt w a ss) (hn1 : n ≤ 1048576) :
    Calls Try.prog 13 #[.slice a n cap] w fun e w' => ∃ a' cap', e = .returned (.slice a' n cap') ∧ StrsAt w' a' ss ∧ Below w.heap.size w w' := by
  cases a with
  | some x => exact clone_walk x n cap ss w hn hS hn1
  | none =>
    have h0 : ss = [] := by
      rcases hS with h | ⟨b, off, ha, _⟩
      · exact h
      · cases ha
    subst h0
    have : n = 0 := by simpa using hn.symm
    subst this
    refine (clone_nil cap 0 w).mono ?_
    rintro e w' ⟨rfl, rfl⟩
    exact ⟨none, 0, rfl, .inl rfl, Below.refl _ _⟩
theorem pgqQ (s q : ByteArray) (w : World) (hs : s.size ≤ 1048576) (hq : q = ⟨(pgq s.data.toList).toArray⟩) :
    Calls Try.prog 14 #[.string s] w fun e w' => e = .returned (.string q) ∧ Below w.heap.size w w' := by
  rw [hq]; exact pgq_walk s w hs
theorem q_size {s q : ByteArray} (hs : s.size ≤ 1048576) (hq : q = ⟨(pgq s.data.toList).toArray⟩) : q.size ≤ 2097154 := by
  rw [hq]
  have := pgq_le s.data.toList; rw [toList_len] at this; show (pgq s.data.toList).toArray.size ≤ _; rw [List.size_toArray]; omega
theorem makeMap_hint (n : Int) (w : World) : (Instr.makeMap 30 (some (.int .i64 n))).run Try.prog w = .ok (.map (some w.heap.size)) (w.alloc (.map #[] 0)) := by
  simp [Instr.makeMap, run_underlying Try.underlying30, asInt, asIntOf]

theorem entity_walk (q : ByteArray) (af : Option Addr) (n1 cf M : Nat) (w : World) :
    Calls Try.prog 15 #[.string q, .slice af n1 cf, .map (some M)] w fun e w' => e = .returned (.pointer (some ⟨w.heap.size, 0, none⟩)) ∧
      w' = w.alloc (.cells #[.string ⟨#[]⟩, .string q, .slice af n1 cf, .map (some M), .map none] 41) := by
  go_enter Try.func15, Try.ntmps15
  go_wp2
  go_ret
  exact ⟨rfl, rfl⟩
theorem zzStmt_walk (eb : Nat) (a2 : Option Addr) (n2 cap2 : Nat) (wh : ByteArray) (w : World) (v : Value)
    (h : Calls Try.prog 20 #[.pointer (some ⟨eb, 0, none⟩), .slice a2 n2 cap2, .string wh] w fun e w' => e = .returned v ∧ Below w.heap.size w w') :
    Calls Try.prog 16 #[.pointer (some ⟨eb, 0, none⟩), .slice a2 n2 cap2, .string wh] w fun e w' => e = .returned v ∧ Below w.heap.size w w' := by
  have H : Hid (Calls Try.prog 20 #[.pointer (some ⟨eb, 0, none⟩), .slice a2 n2 cap2, .string wh] w fun e w' => e = .returned v ∧ Below w.heap.size w w') := h
  clear h
  go_enter Try.func16, Try.ntmps16
  go_wp2_with fail
  refine H.out.mono ?_
  rintro e w1 ⟨rfl, hb⟩
  go_wp2_with fail
  go_ret
  exact ⟨rfl, hb⟩

theorem small_sum (x1 x2 x3 x4 x5 t f h : Nat) (g1 : x1 ≤ x2) (g3 : x2 ≤ 2199027449856) (g4 : x3 ≤ 2 * t + 2) (g5 : x4 ≤ 2 * f + 2) (g6 : x5 ≤ 7 + h) (g7 : f ≤ 1048576) (p1 : t ≤ 1048576) (p2 : h ≤ 1048576) :
    7 + (x1 + (6 + (x3 + (x5 + (10 + x4))))) ≤ 8796093022208 := by omega

set_option maxHeartbeats 8000000 in
theorem main_walk (tbl wh : ByteArray) (a1 a2 : Option Addr) (n1 c1 n2 c2 : Nat) (F C : List ByteArray) (w : World) (ht : tbl.size ≤ maxLen) (hw : wh.size ≤ maxLen) (hF : F.length = n1) (hC : C.length = n2)
    (h1 : StrsAt w a1 F) (h2 : StrsAt w a2 C) (hn1 : n1 ≤ maxLen) (hn2 : n2 ≤ maxLen) (hzF : ∀ i (h : i < F.length), F[i].size ≤ maxLen) (hzC : ∀ i (h : i < C.length), C[i].size ≤ maxLen) :
    Calls Try.prog 5 #[.string tbl, .slice a1 n1 c1, .slice a2 n2 c2, .string wh] w fun e w' => e = .returned (.bool true) ∧ Below w.heap.size w w' := by
  have hbd := bound_walk tbl wh a1 a2 n1 c1 n2 c2 F C w ht hw hF hC h1 h2 hn1 hn2 hzF hzC
  have HBD : Hid (Calls Try.prog 11 #[.string tbl, .slice a1 n1 c1, .slice a2 n2 c2, .string wh] w fun e w' => Bnd tbl wh F C w e w') := hbd
  have HF : Hid (F.length = n1) := hF
  have HC : Hid (C.length = n2) := hC
  have H1 : Hid (StrsAt w a1 F) := h1
  have H2 : Hid (StrsAt w a2 C) := h2
  unfold maxLen at ht hw hn1 hn2
  clear hbd hF hC h1 h2 hzF hzC
  have hmm := makeMap_hint
  go_enter Try.func5, Try.ntmps5
  go_wp2_with fail
  refine HBD.out.mono ?_
  rintro e w0 (⟨rfl, rfl⟩ | ⟨rfl, rfl, hsm⟩)
  · go_wp2_with fail
    go_ret
    exact ⟨rfl, Below.refl _ _⟩
  obtain ⟨p1, p2, p3, p4, p5, p6⟩ := hsm
  rw [HF.out] at p3
  rw [HC.out] at p4
  have HZF : Hid (∀ i (h : i < F.length), F[i].size ≤ 1048576) := p5
  have HZC : Hid (∀ i (h : i < C.length), C[i].size ≤ 1048576) := p6
  clear p5 p6 HBD
  by_cases q1 : (1048576 : Int) - tbl.size < wh.size
  · go_wp2_with fail
    go_ret
    exact ⟨rfl, Below.refl _ _⟩
  go_wp2_with fail
  refine (sliceBytes_walk a1 n1 c1 F _ _ HF.out H1.out p3 HZF.out (by omega) (by omega)).mono ?_
  rintro e w0' ⟨r, rfl, hr0, hr1, rfl⟩
  by_cases q2 : (1048576 : Int) - tbl.size - wh.size < r
  · go_wp2_with fail
    go_ret
    exact ⟨rfl, Below.refl _ _⟩
  go_wp2_with fail
  refine (sliceBytes_walk a2 n2 c2 C _ _ HC.out H2.out p4 HZC.out (by omega) (by omega)).mono ?_
  rintro e w0'' ⟨r2, rfl, hr20, hr21, rfl⟩
  by_cases q3 : (1048576 : Int) - tbl.size - wh.size - r < r2
  · go_wp2_with fail
    go_ret
    exact ⟨rfl, Below.refl _ _⟩
  go_wp2_with fail
  refine (clone_any a1 n1 c1 F _ HF.out H1.out p3).mono ?_
  rintro e w1 ⟨af, cf, rfl, hSF1, hb1⟩
  go_wp2_with fail
  refine (clone_any a2 n2 c2 C _ HC.out (H2.out.below hb1) p4).mono ?_
  rintro e w2 ⟨ac, cc, rfl, hSC2, hb2⟩
  have hSF2 := hSF1.below hb2
  have hbb2 := hb1.trans (hb2.mono hb1.size)
  have HSF : Hid (StrsAt w2 af F) := hSF2
  have HSC : Hid (StrsAt w2 ac C) := hSC2
  clear hSF1 hSF2 hSC2 hb1 hb2
  by_cases q4 : n1 = 0
  · subst q4
    go_wp2_with fail
    go_ret
    exact ⟨rfl, hbb2⟩
  have q4b : ((n1 : Int) == 0) = false := by rw [beq_eq_false_iff_ne]; omega
  go_wp2_with fail
  generalize hM : w2.heap.size = M
  have HM : Hid (w2.heap.size = M) := hM
  have hq0 : QMap (w2.alloc (.map #[] 0)) M (F.take 0) := by rw [← hM]; exact qmap_made w2
  have hb0 : Below M w2 (w2.alloc (.map #[] 0)) := by rw [← hM]; exact (Below.refl _ _).alloc (Nat.le_refl _) _
  clear hM
  go_loopw [12] (fun i wr => ∃ k : Nat, k ≤ n1 ∧ i = .int .i64 k ∧ QMap wr M (F.take k) ∧ Below M w2 wr) (fun i _ => n1 - (intOf i).toNat)
  case atStart => exact ⟨0, Nat.zero_le _, rfl, hq0, hb0⟩
  case round =>
    obtain ⟨k, hk, rfl, hQ, hb⟩ := hrel
    clear hq0 hb0
    by_cases hlt : k < n1
    · have hkF : k < F.length := by rw [HF.out]; exact hlt
      obtain ⟨b, o, hbo, hia, hcell0⟩ := HSF.out.here HF.out hlt cf
      have hcell : wr.cell? ⟨b, o, none⟩ = some (.string F[k]) := (hb.cell (p := ⟨b, o, none⟩) (by rw [← HM.out]; exact hbo)).trans hcell0
      have hzs : F[k].size ≤ 1048576 := HZF.out k hkF
      have HTK : Hid (F.take (k + 1) = F.take k ++ [F[k]]) := List.take_succ_eq_append_getElem hkF
      have hTL : (F.take k).length < maxLen := by
        have := List.length_take_le k F
        unfold maxLen; omega
      clear hcell0
      generalize F[k] = s at hcell hzs HTK
      obtain ⟨q, hq⟩ : ∃ q : ByteArray, q = ⟨(pgq s.data.toList).toArray⟩ := ⟨_, rfl⟩
      have HQ : Hid (q = ⟨(pgq s.data.toList).toArray⟩) := hq
      have HQZ : Hid (q.size ≤ maxLen) := by have := q_size hzs hq; show _ ≤ _; unfold maxLen; omega
      have HSZ : Hid (s.size ≤ maxLen) := by show _ ≤ _; unfold maxLen; omega
      have HQM : Hid (QMap wr M (F.take k)) := hQ
      have HTL : Hid ((F.take k).length < maxLen) := hTL
      have hbo2 : b < wr.heap.size := Nat.lt_of_lt_of_le hbo hb.size
      clear hq hQ hTL
      go_wp2_with fail
      go_region_with (go_at_call 14; refine (pgqQ s q _ hzs HQ.out).mono ?_; rintro e w3 ⟨rfl, hb3⟩; have hcell3 : w3.cell? ⟨b, o, none⟩ = some (.string s) := (hb3.cell (p := ⟨b, o, none⟩) hbo2).trans hcell; obtain ⟨w4, hrun, hQ4, hg4⟩ := QMap.put ((HQM.out.below (Below.refl _ wr).drew).below hb3) HSZ.out HQ.out HQZ.out HTL.out)
      all_goals
        have hb5 : Below M w2 w4 := (hb.drew.trans (hb3.mono (by have := hb.size; have := HM.out; simp; omega))).grown hg4 (by have := hb3.size; have := hb.size; have := HM.out; simp at *; omega) (fun j hj => by cases hj; exact Nat.le_refl _)
        rw [← HTK.out] at hQ4
        clear hg4 hb3 hcell3 hrun
        go_wp2_with fail
        go_roundw
        case rel => exact ⟨k + 1, by omega, by go_num, hQ4, hb5⟩
        case measure => simp [intOf]; omega
    · have hTF : F.take k = F := List.take_of_length_le (by rw [HF.out]; omega)
      rw [hTF] at hQ
      have HQM : Hid (QMap wr M F) := hQ
      clear hTF hQ
      obtain ⟨wo, rfl⟩ : ∃ wo : World, wo = wr := ⟨_, rfl⟩
      have hbo1 := hb.size
      have hsc := HSC.out.below (w' := wo) (by rw [HM.out]; exact hb)
      have hsf := HSF.out.below (w' := wo) (by rw [HM.out]; exact hb)
      have HSC2 : Hid (StrsAt wo ac C) := hsc
      have HSF2 : Hid (StrsAt wo af F) := hsf
      have hbw : Below w0''.heap.size w0'' wo := hbb2.trans (hb.mono (by rw [← HM.out]; exact hbb2.size))
      clear hsc hsf hb
      go_wp2_with fail
      go_loop [13] (fun i => ∃ k : Nat, k ≤ n2 ∧ i = .int .i64 k ∧ Hid (∀ j (h : j < C.length), j < k → C[j] ∈ F)) (fun i => n2 - (intOf i).toNat)
      case atStart => exact ⟨0, Nat.zero_le _, rfl, fun j _ h => absurd h (Nat.not_lt_zero _)⟩
      case round =>
        obtain ⟨k, hk, rfl, HIN⟩ := hrel
        by_cases hlt : k < n2
        · have hkC : k < C.length := by rw [HC.out]; exact hlt
          obtain ⟨b, o, hbo, hia, hcell⟩ := HSC2.out.here HC.out hlt cc
          have hzs : C[k].size ≤ 1048576 := HZC.out k hkC
          obtain ⟨q, bb, hrun, hbb⟩ := HQM.out.look_ok (s := C[k]) (by unfold maxLen; omega)
          have HIN2 : Hid (C[k] ∈ F → ∀ j (h : j < C.length), j < k + 1 → C[j] ∈ F) := by
            intro hck j h hj
            by_cases e : j = k
            · subst e; exact hck
            · exact HIN.out j h (by omega)
          have HBB : Hid (bb = true ↔ C[k] ∈ F) := hbb
          clear hbb
          generalize C[k] = s at hcell hzs hrun HIN2 HBB
          cases bb with
          | false =>
            go_wp2_with fail
            go_ret
            exact ⟨rfl, hbw⟩
          | true =>
            go_wp2_with fail
            go_round
            case rel => exact ⟨k + 1, by omega, by go_num, HIN2.out (HBB.out.1 rfl)⟩
            case measure => simp [intOf]; omega
        · have HALL : Hid (∀ c ∈ C, c ∈ F) := by
            intro c hc
            obtain ⟨j, hj, rfl⟩ := List.mem_iff_getElem.1 hc
            exact HIN.out j hj (by have := HC.out; omega)
          clear HIN
          obtain ⟨q, hq⟩ : ∃ q : ByteArray, q = ⟨(pgq tbl.data.toList).toArray⟩ := ⟨_, rfl⟩
          have HQ : Hid (q = ⟨(pgq tbl.data.toList).toArray⟩) := hq
          have HQZ : Hid (q.size ≤ 2097154) := q_size p1 hq
          clear hq
          go_wp2_with fail
          refine (pgqQ tbl q _ p1 HQ.out).mono ?_
          rintro e w5 ⟨rfl, hb5⟩
          go_wp2_with fail
          refine (entity_walk q af n1 cf M _).mono ?_
          rintro e w6 ⟨rfl, hw6⟩
          have hb6 : Below w5.heap.size w5 w6 := by rw [hw6]; exact (Below.refl _ _).alloc (Nat.le_refl _) _
          have heb : w5.heap.size < w6.heap.size := by rw [hw6]; simp
          have hblk : w6.heap[w5.heap.size]? = some (.cells #[.string ⟨#[]⟩, .string q, .slice af n1 cf, .map (some M), .map none] 41 (0, 0)) := by rw [hw6]; exact heap_alloc_new w5 _
          have e1 : w6.cell? ⟨w5.heap.size, 1, none⟩ = some (.string q) := by rw [Lib.cell_of_heap hblk]; rfl
          have e2 : w6.cell? ⟨w5.heap.size, 2, none⟩ = some (.slice af n1 cf) := by rw [Lib.cell_of_heap hblk]; rfl
          have e3 : w6.cell? ⟨w5.heap.size, 3, none⟩ = some (.map (some M)) := by rw [Lib.cell_of_heap hblk]; rfl
          clear hw6 hblk
          have hb56 : Below wo.heap.size wo w6 := hb5.trans (hb6.mono hb5.size)
          have hF0 : 0 < F.length := by rw [HF.out]; omega
          have HF0 : Hid (0 < F.length) := hF0
          obtain ⟨S, hS⟩ : ∃ S : ByteArray, S = ⟨(kSel ++ (joinQ (C.map fun c => c.data.toList) ++ (kFrom ++ (q.data.toList ++ (whereQ wh.data.toList ++ (kOrder ++ pgq (F[0].data.toList))))))).toArray⟩ := ⟨_, rfl⟩
          have hzFm : ∀ c ∈ F, c.size ≤ 1048576 := by
            intro c hc
            obtain ⟨j, hj, rfl⟩ := List.mem_iff_getElem.1 hc
            exact HZF.out j hj
          have HST : Hid (Calls Try.prog 16 #[.pointer (some ⟨w5.heap.size, 0, none⟩), .slice ac n2 cc, .string wh] w6 fun e w' => e = .returned (.string S) ∧ Below w6.heap.size w6 w') := by
            refine zzStmt_walk w5.heap.size ac n2 cc wh w6 _ ?_
            rw [hS]
            exact stmt_walk w5.heap.size M q wh af ac n1 cf n2 cc F C w6 heb e1 e2 e3 HF.out HC.out (HSF2.out.below hb56) (HSC2.out.below hb56) (HQM.out.below hb56) HALL.out hF0 p4 hzFm HQZ.out p2
          have HSL : Hid (S.data.toList = stmtQ (C.map fun c => c.data.toList) tbl.data.toList wh.data.toList F[0].data.toList) := by
            show _ = _
            rw [hS, HQ.out]; rfl
          have HSS : Hid (S.size ≤ 8796093022208) := by
            show _ ≤ _
            have g1 := joinQ_len (C.map fun c => c.data.toList) (fun c hc => by
              obtain ⟨x, hx, rfl⟩ := List.mem_map.1 hc
              rw [toList_len]; exact hzFm x (HALL.out x hx))
            have g2 : (C.map fun c => c.data.toList).length ≤ 1048576 := by rw [List.length_map, HC.out]; exact p4
            have g3 : (C.map fun c => c.data.toList).length * 2097156 ≤ 2199027449856 := Nat.le_trans (Nat.mul_le_mul_right 2097156 g2) (by decide)
            have g4 := pgq_le tbl.data.toList
            have g5 := pgq_le F[0].data.toList
            have g6 : (whereQ wh.data.toList).length ≤ 7 + wh.size := by
              unfold whereQ
              split
              · simp
              · rw [List.length_append, toList_len]; exact Nat.le_refl _
            have g7 := hzFm F[0] (List.getElem_mem hF0)
            rw [toList_len] at g4 g5
            rw [← toList_len S, HSL.out]
            unfold stmtQ tailQ
            simp only [List.length_append]
            have k1 : kSel.length = 7 := rfl
            have k2 : kFrom.length = 6 := rfl
            have k3 : kOrder.length = 10 := rfl
            rw [k1, k2, k3]
            exact small_sum _ _ _ _ _ _ _ _ g1 g3 g4 g5 g6 g7 p1 p2
          have HZ0 : Hid (F[0].size ≤ 1048576) := hzFm F[0] (List.getElem_mem hF0)
          clear hS hzFm e1 e2 e3
          go_wp2_with fail
          refine HST.out.mono ?_
          rintro e w7 ⟨rfl, hb7⟩
          have hb57 := hb56.trans (hb7.mono hb56.size)
          have HP : Hid (∀ W : World, Calls Try.prog 17 #[.string S] W fun e w' => ∃ a cap, e = .returned (.tuple #[.slice a n2 cap, .string tbl, .string wh, .string F[0], .bool true]) ∧ StrsAt w' a C ∧ Below W.heap.size W w') := by
            intro W
            refine (parse_walk S tbl wh F[0] C W HSS.out HSL.out (by rw [HC.out]; exact p4) HZC.out p1 p2 HZ0.out).mono ?_
            rintro e w' ⟨a, cap, rfl, h1, h2⟩
            rw [HC.out]
            exact ⟨a, cap, rfl, h1, h2⟩
          obtain ⟨b0, o0, hbo0, hia, hcell0⟩ := HSF2.out.here (k := 0) HF.out (by omega) cf
          have hia0 : ∀ W, (Instr.indexAt 26 (.slice af n1 cf) (.int .i64 0)).run Try.prog W = .ok (.pointer (some ⟨b0, o0, none⟩)) W := fun W => by simpa using hia W
          have HCELL : Hid (wo.cell? ⟨b0, o0, none⟩ = some (.string F[0])) := hcell0
          clear hia hcell0 HST HSL HSS HZ0 hb56 hb7 hb5 hb6 heb
          generalize F[0] = f0 at HP HCELL
          go_wp2_with fail
          refine (HP.out _).mono ?_
          rintro e w8 ⟨a8, cap8, rfl, hS8, hb8⟩
          have hb58 := hb57.trans (hb8.mono hb57.size)
          have hsc8 := HSC2.out.below hb58
          clear hb8 hb57 HP
          go_wp2_with fail
          refine (equal_walk a8 ac n2 cap8 cc C _ HC.out hS8 hsc8 p4).mono ?_
          rintro e w9 ⟨rfl, hb9⟩
          have hb59 := hb58.trans (hb9.mono hb58.size)
          have hcell9 : w9.cell? ⟨b0, o0, none⟩ = some (.string f0) := (hb59.cell (p := ⟨b0, o0, none⟩) hbo0).trans HCELL.out
          clear hb9 hb58 hS8 hsc8
          go_wp2_with fail
          go_ret
          exact ⟨rfl, hbw.trans (hb59.mono hbw.size)⟩
end Go.Proofs.Qxb6600830a.Sel
