/-
  Small facts that several walks of this seat share: bytes that the call itself made, turned to a string; the element types' rows of the table.
-/
import Derived.Test.Qxb6600830aProg
import Derived.WalkKit
import Derived.WalkSpells
import Derived.WalkLawsBesides
import Derived.Lib.OthersKept
import Derived.Maps.AppendAt
namespace Go.Proofs.Qxb6600830a
open Go.RowKit

theorem Try.info5 : (Try.prog.info? 5).map (fun i => (i.zero, i.size, i.bytes)) = some (some (.int .u8 0), 1, 1) := by kernel_rfl
theorem Try.info9 : (Try.prog.info? 9).map (fun i => (i.zero, i.size, i.bytes)) = some (some (.string ByteArray.empty), 1, 16) := by kernel_rfl

theorem toList_len (s : ByteArray) : s.data.toList.length = s.size := Array.length_toList
theorem toList_get (s : ByteArray) (k : Nat) (h : k < s.size) : s.data.toList[k]'(by rw [toList_len]; exact h) = s[k] := rfl
theorem get_of_list {s : ByteArray} {l : List UInt8} (h : s.data.toList = l) {k : Nat} (hk : k < s.size) {c : UInt8} (hc : l[k]? = some c) : s[k] = c := by
  subst h
  rw [List.getElem?_eq_getElem (by rw [toList_len]; exact hk)] at hc
  exact Option.some.inj hc
theorem byteArray_ext {s t : ByteArray} (h : s.data.toList = t.data.toList) : s = t := by
  cases s with
  | mk a =>
    cases t with
    | mk b =>
      simp only at h
      congr 1
      exact Array.toList_inj.1 h
theorem byteArray_of_list {s : ByteArray} {l : List UInt8} (h : s.data.toList = l) : s = ⟨l.toArray⟩ := byteArray_ext (by rw [h])

/-- Bytes in a row of the call's own, turned to a string. -/
theorem conv_own {w : World} {B n : Nat} {v : Value} {l : List UInt8} (h : w.ownsRow B 5 1 v n (Lib.byteCells l)) :
    (convert 38 9 v).run Try.prog w = .ok (.string ⟨l.toArray⟩) w := by
  have hlen := h.1
  rw [Lib.byteCells_length] at hlen
  rcases h.2 with ⟨rfl, h0⟩ | ⟨g, cap, cur, rfl, _, hg, _, _, _, htk⟩
  · have : l = [] := List.length_eq_zero_iff.1 (by omega)
    subst this
    exact run_convert_bytes_nil w 38 5 Try.underlying38 Try.underlying5 0 0 9 Try.underlying9
  · have hx := run_convert_bytes_arg (P := Try.prog) w 38 5 Try.underlying38 Try.underlying5 g 0 n cap (l.map fun b => (b.toNat : Int)) (by simpa using hlen) (fun i hi => by
      have hil : i < l.length := by omega
      have e1 : w.cell? ⟨g, 0 + i, none⟩ = cur[i]? := by simp [World.cell?, hg]
      have e2 : cur.toList[i]? = (Lib.byteCells l)[i]? := by rw [← htk, List.getElem?_take_of_lt (by omega)]
      rw [e1, ← Array.getElem?_toList, e2]
      simp [Lib.byteCells, List.getElem?_eq_getElem hil]) 9 Try.underlying9
    rw [hx]
    congr 2
    unfold strOfNums
    congr 2
    rw [List.map_map]
    conv => rhs; rw [← List.map_id l]
    refine List.map_congr_left fun b _ => ?_
    simp
end Go.Proofs.Qxb6600830a
