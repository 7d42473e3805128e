/-
  The walk of quotedString.
-/
import Derived.Test.Qxb6600830aBuilder
import Derived.Test.Qxb6600830aQsPlain
namespace Go.Proofs.Qxb6600830a.Qs
open Go.RowKit

theorem cellsB (l : List UInt8) (c : UInt8) : Lib.byteCells l ++ [Value.int .u8 (c.toNat : Int)] = Lib.byteCells (l ++ [c]) := by rw [Lib.byteCells_append]; rfl
theorem cellsN (l : List UInt8) (c : UInt8) (n : Int) (h : n = (c.toNat : Int)) : Lib.byteCells l ++ [Value.int .u8 n] = Lib.byteCells (l ++ [c]) := by rw [h, cellsB]
theorem isB {B b : Nat} {bs bs' : List Value} {w : World} (h : Lib.BuilderAt 49 5 B b (.pointer (some ⟨b, 0, none⟩)) bs w) (e : bs = bs') : Lib.IsBuilder 49 5 B b bs' w := e ▸ Or.inr h

/-- What quotedString hands back. -/
def quoteRes (l : List UInt8) : List UInt8 := if noCtl l then quoted l else []
theorem quoteRes_no {l : List UInt8} (h : noCtl l = false) : quoteRes l = [] := by simp [quoteRes, h]
theorem quoteRes_yes {l : List UInt8} (h : noCtl l = true) : quoteRes l = quoted l := by simp [quoteRes, h]

theorem ok_no1 (c : UInt8) (h : (c.toNat : Int) < 32) : okB c = false := by
  have : c.toNat < 32 := by omega
  simp [okB, this]
theorem ok_no2 (c : UInt8) (h : (c.toNat : Int) = 127) : okB c = false := by
  have : c.toNat = 127 := by omega
  simp [okB, this]
theorem ok_yes (c : UInt8) (h : ¬ (c.toNat : Int) < 32) (h2 : ¬ (c.toNat : Int) = 127) : okB c = true := by
  have : ¬ c.toNat < 32 := by omega
  have : ¬ c.toNat = 127 := by omega
  simp [okB, *]
theorem spec_of {c : UInt8} (h : (c.toNat : Int) = 34 ∨ (c.toNat : Int) = 92) : c = 34 ∨ c = 92 := by
  have a1 : (34 : UInt8).toNat = 34 := rfl
  have a2 : (92 : UInt8).toNat = 92 := rfl
  rcases h with h | h
  · exact .inl (UInt8.toNat_inj.1 (by omega))
  · exact .inr (UInt8.toNat_inj.1 (by omega))
theorem spec_not {c : UInt8} (h : ¬ ((c.toNat : Int) = 34 ∨ (c.toNat : Int) = 92)) : ¬ (c = 34 ∨ c = 92) := by
  rintro (e | e)
  · subst e; exact h (.inl rfl)
  · subst e; exact h (.inr rfl)

set_option maxHeartbeats 2000000 in
theorem quote_walk (s : ByteArray) (w : World) (hs : s.size ≤ 1048576) :
    Calls Try.prog 19 #[.string s] w fun e w' => e = .returned (.tuple #[.string ⟨(quoteRes s.data.toList).toArray⟩, .bool (noCtl s.data.toList)]) ∧ Below w.heap.size w w' := by
  go_enter Try.func19, Try.ntmps19
  go_wp2_with fail
  refine (writeByte w.heap.size w.heap.size [] 34 _ (Lib.fresh_isBuilder 49 5 w) (by simp) (by simp)).mono ?_
  rintro e w1 ⟨rfl, hB1, hb1⟩
  have hb1' : Below w.heap.size w w1 := ((Below.refl _ w).alloc (Nat.le_refl _) _).trans hb1
  clear hb1
  go_wp2_with fail
  go_loopw [5] (fun i wr => ∃ k : Nat, k ≤ s.size ∧ i = .int .i64 k ∧ Hid (noCtl (s.data.toList.take k) = true) ∧ Lib.IsBuilder 49 5 w.heap.size w.heap.size (Lib.byteCells (34 :: esc (s.data.toList.take k))) wr ∧ Below w.heap.size w wr)
    (fun i _ => s.size - (intOf i).toNat)
  case atStart => exact ⟨0, Nat.zero_le _, rfl, rfl, isB hB1 rfl, hb1'⟩
  case round =>
    obtain ⟨k, hk, rfl, HN, hB, hb⟩ := hrel
    clear hB1 hb1'
    have hbs := hb.size
    have hL : (Lib.byteCells (34 :: esc (s.data.toList.take k))).length ≤ 2097155 := by
      have h1 := esc_len (s.data.toList.take k)
      have h2 : (s.data.toList.take k).length ≤ s.size := by rw [← toList_len s]; exact List.length_take_le' _ _
      rw [Lib.byteCells_length, List.length_cons]; omega
    by_cases hlt : k < s.size
    · have hlt' : k < s.data.toList.length := by rw [toList_len]; exact hlt
      by_cases h1 : (s[k].toNat : Int) < 32
      · go_wp2_with fail
        go_ret2
        have hn := noCtl_of_not s.data.toList k hlt' (ok_no1 s[k] h1)
        rw [quoteRes_no hn, hn]
        exact ⟨rfl, hb⟩
      · by_cases h2 : (s[k].toNat : Int) = 127
        · have h2' : ((s[k].toNat : Int) == 127) = true := by simpa using h2
          have H2 : Hid ((s[k].toNat : Int) = 127) := h2
          clear h2
          go_wp2_with fail
          go_ret2
          have hn := noCtl_of_not s.data.toList k hlt' (ok_no2 s[k] H2.out)
          rw [quoteRes_no hn, hn]
          exact ⟨rfl, hb⟩
        · have h2' : ((s[k].toNat : Int) == 127) = false := by simpa using h2
          have HN2 : Hid (noCtl (s.data.toList.take (k + 1)) = true) := by
            show _ = true
            rw [noCtl_take_succ _ k hlt', HN.out, toList_get s k hlt, ok_yes _ h1 h2]; rfl
          clear h2
          by_cases hc : (s[k].toNat : Int) = 34 ∨ (s[k].toNat : Int) = 92
          · have HE : Hid (esc (s.data.toList.take (k + 1)) = esc (s.data.toList.take k) ++ [92, s[k]]) := by
              show _ = _
              rw [esc_take_succ _ k hlt', toList_get s k hlt, escB_esc (spec_of hc)]
            rcases hc with hc | hc
            · have t1 : ((s[k].toNat : Int) == 34) = true := by simpa using hc
              clear hc
              go_wp2_with fail
              refine (writeByte w.heap.size w.heap.size _ _ _ hB (by omega) hbs).mono ?_
              rintro e w2 ⟨rfl, hB2, hb2⟩
              have hB3 := isB hB2 (cellsN _ 92 92 rfl)
              have hbs2 := hb2.size
              clear hB2
              go_wp2_with fail
              refine (writeByte w.heap.size w.heap.size _ _ _ hB3 (by rw [Lib.byteCells_length] at hL ⊢; rw [List.length_append]; simp only [List.length_cons, List.length_nil]; simp only [List.length_cons] at hL; omega) (by omega)).mono ?_
              rintro e w3 ⟨rfl, hB4, hb3⟩
              go_wp2_with fail
              go_roundw
              case rel => exact ⟨k + 1, by omega, by go_num, HN2, isB hB4 (by rw [cellsB, HE.out]; simp), (hb.trans hb2).trans hb3⟩
              case measure => simp [intOf]; omega
            · have t1 : ((s[k].toNat : Int) == 34) = false := by rw [hc]; rfl
              have t2 : ((s[k].toNat : Int) == 92) = true := by simpa using hc
              clear hc
              go_wp2_with fail
              refine (writeByte w.heap.size w.heap.size _ _ _ hB (by omega) hbs).mono ?_
              rintro e w2 ⟨rfl, hB2, hb2⟩
              have hB3 := isB hB2 (cellsN _ 92 92 rfl)
              have hbs2 := hb2.size
              clear hB2
              go_wp2_with fail
              refine (writeByte w.heap.size w.heap.size _ _ _ hB3 (by rw [Lib.byteCells_length] at hL ⊢; rw [List.length_append]; simp only [List.length_cons, List.length_nil]; simp only [List.length_cons] at hL; omega) (by omega)).mono ?_
              rintro e w3 ⟨rfl, hB4, hb3⟩
              go_wp2_with fail
              go_roundw
              case rel => exact ⟨k + 1, by omega, by go_num, HN2, isB hB4 (by rw [cellsB, HE.out]; simp), (hb.trans hb2).trans hb3⟩
              case measure => simp [intOf]; omega
          · have HE : Hid (esc (s.data.toList.take (k + 1)) = esc (s.data.toList.take k) ++ [s[k]]) := by
              show _ = _
              rw [esc_take_succ _ k hlt', toList_get s k hlt, escB_plain (spec_not hc)]
            have t1 : ((s[k].toNat : Int) == 34) = false := by rw [beq_eq_false_iff_ne]; intro h; exact hc (.inl h)
            have t2 : ((s[k].toNat : Int) == 92) = false := by rw [beq_eq_false_iff_ne]; intro h; exact hc (.inr h)
            clear hc
            go_wp2_with fail
            refine (writeByte w.heap.size w.heap.size _ _ _ hB (by omega) hbs).mono ?_
            rintro e w2 ⟨rfl, hB2, hb2⟩
            go_wp2_with fail
            go_roundw
            case rel => exact ⟨k + 1, by omega, by go_num, HN2, isB hB2 (by rw [cellsB, HE.out]; simp), hb.trans hb2⟩
            case measure => simp [intOf]; omega
    · go_wp2_with fail
      refine (writeByte w.heap.size w.heap.size _ _ _ hB (by omega) hbs).mono ?_
      rintro e w2 ⟨rfl, hB2, hb2⟩
      have e1 : s.data.toList.take k = s.data.toList := List.take_of_length_le (by rw [toList_len]; omega)
      have hB3 : Lib.IsBuilder 49 5 w.heap.size w.heap.size (Lib.byteCells (quoted s.data.toList)) w2 := isB hB2 (by rw [cellsN _ 34 34 rfl, e1]; rfl)
      have hn := HN.out
      rw [e1] at hn
      have HN3 : Hid (noCtl s.data.toList = true) := hn
      clear hn e1 hB2 hL
      go_wp2_with fail
      refine (builderString w.heap.size w.heap.size _ _ hB3 (by simp [quoted])).mono ?_
      rintro e w3 ⟨rfl, hb3⟩
      go_wp2_with fail
      go_ret2
      rw [quoteRes_yes HN3.out, HN3.out]
      exact ⟨rfl, (hb.trans hb2).trans hb3⟩
end Go.Proofs.Qxb6600830a.Qs
