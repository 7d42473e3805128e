/-
  Contracts of (*strings.Builder).copyCheck, WriteByte, WriteString at this dump. (Its copyCheck bears a refused statement where the shelf's body bears a panic, so that the shelf's layings do not fit; String's fits: Shelf.) The notions ('IsBuilder', 'BuilderAt' and their laws) are the library's.
-/
import Derived.Test.Qxb6600830aOwn
import Derived.Test.Qxb6600830aPtr
import Derived.Test.Qxb6600830aShelf
import Derived.Lib.Builder
import Derived.Lib.AppendStr
namespace Go.Proofs.Qxb6600830a
open Go.RowKit

/-- NoEscape's entry hands its argument back. -/
theorem noEscape_run (v : Value) (W : World) : (callFunc 28 #[v]).run Try.prog W = .ok (.value v) W := by
  rw [run_callFunc_extern Try.func28 (by kernel_rfl) (by kernel_rfl) (by kernel_rfl) (e := Extern.AbiNoEscape.same) (by kernel_rfl), Lib.run_noEscape]
  rfl

/-- Behind copyCheck the builder's first cell holds its own address; its bytes are as they were. The operations that the walk cannot run by itself are laid ahead as run equations. -/
theorem copyCheck_any (B b : Nat) (bs : List Value) (w : World) (h : Lib.IsBuilder 49 5 B b bs w) :
    Calls Try.prog 27 #[.pointer (some ⟨b, 0, none⟩)] w fun e w' => e = .returned (.tuple #[]) ∧ Lib.BuilderAt 49 5 B b (.pointer (some ⟨b, 0, none⟩)) bs w' ∧ Below B w w' := by
  obtain ⟨j, hj, _⟩ := Option.map_eq_some_iff.1 Try.sizeBuilder
  rcases h with h | h
  · have c0 := h.cell0
    have f0 := h.frozen0
    have r1 := run_there b w h.shape
    have r2 := noEscape_run
    have r3 := run_back b w h.shape
    have H : Hid (Lib.BuilderAt 49 5 B b (.pointer none) bs w) := h
    clear h
    go_enter Try.func27, Try.ntmps27
    go_wp2
    go_end0
    exact ⟨rfl, H.out.used _, (Below.refl B w).setCell (p := ⟨b, 0, none⟩) H.out.1 _⟩
  · have c0 := h.cell0
    have r1 := fun W : World => Lib.run_neq_ptr_same (P := Try.prog) W ⟨b, 0, none⟩ Try.underlying47 hj
    have H : Hid (Lib.BuilderAt 49 5 B b (.pointer (some ⟨b, 0, none⟩)) bs w) := h
    clear h
    go_enter Try.func27, Try.ntmps27
    go_wp2
    go_end0
    exact ⟨rfl, H.out, Below.refl B _⟩
/-- A value that owns bytes is a slice. -/
theorem slice_form {w : World} {B n : Nat} {v : Value} {xs : List Value} (h : w.ownsRow B 5 1 v n xs) : ∃ a m c, v = .slice a m c := by
  rcases h.2 with ⟨rfl, _⟩ | ⟨g, cap, cur, rfl, _⟩
  · exact ⟨_, _, _, rfl⟩
  · exact ⟨_, _, _, rfl⟩
/-- The builder's own block stands while its buffer's row grows; its second cell may be written. -/
theorem stands {w w' : World} {b : Nat} {p v : Value} (hbk : w.heap[b]? = some (.cells #[p, v] 49 (0, 0))) (hne : v.ownBlock ≠ some b) (hg : w.grownBy w' v.ownBlock) :
    w'.heap[b]? = some (.cells #[p, v] 49 (0, 0)) ∧ w'.cell? ⟨b, 1, none⟩ = some v ∧ w'.frozen? ⟨b, 1, none⟩ = false := by
  have h2 : w'.heap[b]? = some (.cells #[p, v] 49 (0, 0)) := (hg.block b (Array.getElem?_eq_some_iff.1 hbk).1 (Ne.symm hne)).trans hbk
  exact ⟨h2, by rw [Lib.cell_of_heap h2]; rfl, Lib.frozen_of_heap h2 1⟩

set_option maxHeartbeats 2000000 in
theorem writeByte (B b : Nat) (bs : List Value) (c : Int) (w : World) (h : Lib.IsBuilder 49 5 B b bs w) (hlen : bs.length + 1 ≤ 140737488355328) (hBw : B ≤ w.heap.size) :
    Calls Try.prog 24 #[.pointer (some ⟨b, 0, none⟩), .int .u8 c] w fun e w' => e = .returned .nilIface ∧ (Lib.BuilderAt 49 5 B b (.pointer (some ⟨b, 0, none⟩)) (bs ++ [.int .u8 c]) w' ∧ Below B w w') := by
  obtain ⟨i0, hi, hz0, hz1, hz2⟩ := info_parts Try.info5
  have H : Hid (Lib.IsBuilder 49 5 B b bs w) := h
  clear h
  go_enter Try.func24, Try.ntmps24
  go_wp2_with fail
  refine (copyCheck_any B b bs _ H.out).mono ?_
  rintro e w1 ⟨rfl, hA, hb1⟩
  have hs1 : B ≤ w1.heap.size := Nat.le_trans hBw hb1.size
  obtain ⟨hB, v, hbk, hown, hne⟩ := hA
  have c1 : w1.cell? ⟨b, 1, none⟩ = some v := by rw [Lib.cell_of_heap hbk]; rfl
  have HBK : Hid (w1.heap[b]? = some (.cells #[.pointer (some ⟨b, 0, none⟩), v] 49 (0, 0))) := hbk
  clear hbk
  go_wp2_with (at_builtin; refine wpList_append_own _ rfl (.tmp 11) (.tmp 13) 38 rfl B 5 i0 (.int .u8 0) 1 1 Try.underlying38 hi hz0 hz1 hz2 rfl (by decide) _ _ _ rfl (hown.alloc _) ⟨w1.heap.size, 0, none⟩ 1 1 [.int .u8 c] rfl rfl (cell_one_new _ _ _) (ints_oneCell .u8 [c]) (by unfold maxLen; omega) (by omega) (by simp; omega) ?_)
  intro v2 w2 hown2 hgrow2 _
  have hall := (World.grownBy_alloc w1 (.cells #[.int .u8 c] 5) v.ownBlock).trans hgrow2
  obtain ⟨hbk2, d1, f1⟩ := stands HBK.out hne hall
  have HBK2 : Hid (w2.heap[b]? = some (.cells #[.pointer (some ⟨b, 0, none⟩), v] 49 (0, 0))) := hbk2
  have hb2 : Below B w w2 := hb1.grown hall hs1 (fun k hk => (hown.lt k hk).1)
  obtain ⟨a3, n3, c3, rfl⟩ := slice_form hown2
  clear hbk2 hgrow2 hall
  go_wp2
  go_ret
  exact ⟨rfl, Lib.BuilderAt.put (T := 49) (e := 5) hB HBK2.out (bs' := bs ++ [.int .u8 c]) (by simpa using hown2) (by decide), hb2.setCell (p := ⟨b, 1, none⟩) hB _⟩

set_option maxHeartbeats 2000000 in
theorem writeString (B b : Nat) (bs : List Value) (s : ByteArray) (w : World) (h : Lib.IsBuilder 49 5 B b bs w) (hlen : bs.length + s.size ≤ 140737488355328) (hBw : B ≤ w.heap.size) :
    Calls Try.prog 26 #[.pointer (some ⟨b, 0, none⟩), .string s] w fun e w' => e = .returned (.tuple #[.int .i64 s.size, .nilIface]) ∧ (Lib.BuilderAt 49 5 B b (.pointer (some ⟨b, 0, none⟩)) (bs ++ Lib.strCells s) w' ∧ Below B w w') := by
  obtain ⟨i0, hi, hz0, hz1, hz2⟩ := info_parts Try.info5
  have H : Hid (Lib.IsBuilder 49 5 B b bs w) := h
  clear h
  go_enter Try.func26, Try.ntmps26
  go_wp2_with fail
  refine (copyCheck_any B b bs _ H.out).mono ?_
  rintro e w1 ⟨rfl, hA, hb1⟩
  have hs1 : B ≤ w1.heap.size := Nat.le_trans hBw hb1.size
  obtain ⟨hB, v, hbk, hown, hne⟩ := hA
  have c1 : w1.cell? ⟨b, 1, none⟩ = some v := by rw [Lib.cell_of_heap hbk]; rfl
  have HBK : Hid (w1.heap[b]? = some (.cells #[.pointer (some ⟨b, 0, none⟩), v] 49 (0, 0))) := hbk
  clear hbk
  go_wp2_with (at_builtin; refine Lib.wpList_append_own_string _ rfl (.tmp 12) (.tmp 13) 38 9 rfl B 5 i0 Try.underlying38 Try.underlying9 hi hz0 hz1 hz2 _ _ _ rfl hown s rfl (by unfold maxLen; omega) (by omega) hs1 ?_)
  intro v2 w2 hown2 hgrow2 _
  obtain ⟨hbk2, d1, f1⟩ := stands HBK.out hne hgrow2
  have HBK2 : Hid (w2.heap[b]? = some (.cells #[.pointer (some ⟨b, 0, none⟩), v] 49 (0, 0))) := hbk2
  have hb2 : Below B w w2 := hb1.grown hgrow2 hs1 (fun k hk => (hown.lt k hk).1)
  obtain ⟨a3, n3, c3, rfl⟩ := slice_form hown2
  clear hbk2 hgrow2
  go_wp2
  go_ret2
  exact ⟨rfl, Lib.BuilderAt.put (T := 49) (e := 5) hB HBK2.out (bs' := bs ++ Lib.strCells s) (by simpa [Lib.strCells_length] using hown2) (by decide), hb2.setCell (p := ⟨b, 1, none⟩) hB _⟩

theorem builderString (B b : Nat) (l : List UInt8) (w : World) (h : Lib.IsBuilder 49 5 B b (Lib.byteCells l) w) (h0 : l ≠ []) :
    Calls Try.prog 25 #[.pointer (some ⟨b, 0, none⟩)] w fun e w' => e = .returned (.string ⟨l.toArray⟩) ∧ Below B w w' := Try.builderString B b l w h h0
end Go.Proofs.Qxb6600830a
