/-
  What the walks of FnSelectStatementParsesBack share: a slice of strings that can be read; the map of quoted names.
-/
import Derived.Test.Qxb6600830aOwn
import Derived.Test.Qxb6600830aSelPlain
import Derived.Maps.OwnSet
import Derived.Maps.StringElems
namespace Go.Proofs.Qxb6600830a.Sel
open Go.RowKit Go.Maps Go.WideMaps

theorem Try.cells9 : Try.prog.cellsOf 9 = 1 := by kernel_rfl
theorem zero9 (w : World) : (zeroValue 9).run Try.prog w = .ok (.string ⟨#[]⟩) w := by kernel_rfl

/-- The elements 'ss' of a slice whose address is 'a' can be read in w (where there are none, nothing is said of the address). -/
def StrsAt (w : World) (a : Option Addr) (ss : List ByteArray) : Prop :=
  ss = [] ∨ ∃ b off, a = some ⟨b, off, none⟩ ∧ b < w.heap.size ∧ ∀ i (h : i < ss.length), w.cell? ⟨b, off + i, none⟩ = some (.string ss[i])

theorem StrsAt.below {w w' : World} {a : Option Addr} {ss : List ByteArray} (h : StrsAt w a ss) (hb : Below w.heap.size w w') : StrsAt w' a ss := by
  rcases h with h | ⟨b, off, ha, hlt, hc⟩
  · exact .inl h
  · exact .inr ⟨b, off, ha, Nat.lt_of_lt_of_le hlt hb.size, fun i hi => (hb.cell (p := ⟨b, off + i, none⟩) hlt).trans (hc i hi)⟩

/-- At an element: the run of the address's reckoning, whatever the world; and what lies there. -/
theorem StrsAt.here {w : World} {a : Option Addr} {ss : List ByteArray} (h : StrsAt w a ss) {n k : Nat} (hn : ss.length = n) (hk : k < n) (cap : Nat) :
    ∃ b o, b < w.heap.size ∧ (∀ W, (Instr.indexAt 26 (.slice a n cap) (.int .i64 k)).run Try.prog W = .ok (.pointer (some ⟨b, o, none⟩)) W) ∧ w.cell? ⟨b, o, none⟩ = some (.string (ss[k]'(by omega))) := by
  rcases h with h | ⟨b, off, ha, hlt, hc⟩
  · subst h; simp at hn; omega
  · refine ⟨b, off + k, hlt, fun W => ?_, hc k (by omega)⟩
    subst ha
    have e : Try.prog.elem 26 = 9 := by kernel_rfl
    rw [run_indexAt_slice W 26 ⟨b, off, none⟩ n cap .i64 (k : Int) (by rw [e]; exact Try.underlying26), e, if_pos ⟨by omega, by omega⟩, Try.sizeOf9]
    simp [Result.andThen, Addr.add]

theorem strsAt_own {w : World} {B n : Nat} {v : Value} {ss : List ByteArray} (h : w.ownsRow B 9 1 v n (ss.map Value.string)) : ss.length = n ∧ ∃ a cap, v = .slice a n cap ∧ StrsAt w a ss := by
  have hl : ss.length = n := by simpa using h.1
  refine ⟨hl, ?_⟩
  rcases h.2 with ⟨rfl, h0⟩ | ⟨g, cap, cur, rfl, _, hg, _, _, _, htk⟩
  · exact ⟨none, 0, by rw [h0], .inl (List.length_eq_zero_iff.1 (by omega))⟩
  · refine ⟨_, cap, rfl, .inr ⟨g, 0, rfl, (Array.getElem?_eq_some_iff.1 hg).1, fun i hi => ?_⟩⟩
    have e1 : w.cell? ⟨g, 0 + i, none⟩ = cur[i]? := by simp [World.cell?, hg]
    have e2 : cur.toList[i]? = (ss.map Value.string)[i]? := by rw [← htk, List.getElem?_take_of_lt (by omega)]
    rw [e1, ← Array.getElem?_toList, e2]
    simp [List.getElem?_eq_getElem hi]

theorem ownsRow_below {w w' : World} {B e size n : Nat} {v : Value} {xs : List Value} (h : w.ownsRow B e size v n xs) (hb : Below w.heap.size w w') : w'.ownsRow B e size v n xs := by
  refine ⟨h.1, ?_⟩
  rcases h.2 with hn | ⟨g, cap, cur, hv, hB, hg, rest⟩
  · exact .inl hn
  · exact .inr ⟨g, cap, cur, hv, hB, (hb.block g (Array.getElem?_eq_some_iff.1 hg).1).trans hg, rest⟩

theorem own_ge {w : World} {B e size : Nat} {v : Value} {n : Nat} {xs : List Value} (h : w.ownsRow B e size v n xs) {j : Nat} (hj : v.ownBlock = some j) : B ≤ j := by
  rcases h.2 with ⟨rfl, _⟩ | ⟨g, cap, cur, rfl, hB, _⟩
  · cases hj
  · cases hj; exact hB

/-! ### The map of quoted names -/
theorem law9 : Keyed Try.prog 9 := string_keyed Try.underlying9
def kl (s : ByteArray) : Lit := .string s.data.toList
theorem keyOf9 (s : ByteArray) (hs : s.size ≤ maxLen) : keyOf Try.prog 9 (.string s) = some (kl s) := keyOf_string_mk Try.underlying9 hs
theorem kl_inj {s t : ByteArray} (h : kl s = kl t) : s = t := byteArray_ext (by injection h)

/-- Block m is a map of just the names 'ks', each with its quoted form. -/
def QMap (w : World) (m : Nat) (ks : List ByteArray) : Prop :=
  ∃ D : DataW Unit, w.ownsMap Try.prog 9 (plainElem Try.prog 9) m ks.length D ∧
    ∀ s : ByteArray, (Maps.has D (kl s) = true ↔ s ∈ ks) ∧ (s ∈ ks → ∀ z, D.atKey (kl s) z = .lit (.string (pgq s.data.toList)))

theorem QMap.below {w w' : World} {m : Nat} {ks : List ByteArray} (h : QMap w m ks) (hb : Below w.heap.size w w') : QMap w' m ks := by
  obtain ⟨D, ho, hD⟩ := h
  have hlt := ho.lt
  obtain ⟨es, clock, hbk, r⟩ := ho
  exact ⟨D, ⟨es, clock, (hb.block m hlt).trans hbk, r⟩, hD⟩
theorem QMap.lt {w : World} {m : Nat} {ks : List ByteArray} (h : QMap w m ks) : m < w.heap.size := by
  obtain ⟨D, ho, _⟩ := h
  exact ho.lt
theorem qmap_made (w : World) : QMap (w.alloc (.map #[] 0)) w.heap.size [] := by
  refine ⟨.map [], World.ownsMap_made w _ _ _, fun s => ⟨?_, ?_⟩⟩
  · simp [Maps.has]
  · simp

theorem QMap.look {w : World} {m : Nat} {ks : List ByteArray} (h : QMap w m ks) {s : ByteArray} (hs : s.size ≤ maxLen) (hin : s ∈ ks) :
    (Instr.lookup 30 (.map (some m)) (.string s) false).run Try.prog w = .ok (.string ⟨(pgq s.data.toList).toArray⟩) w := by
  obtain ⟨D, ho, hD⟩ := h
  obtain ⟨v, ps, hrun, hv⟩ := ho.lookup law9 Try.underlying30 (zero9 w) (plainElem_string Try.underlying9 (s := ⟨#[]⟩) (by simp [maxLen, ByteArray.size])) (keyOf9 s hs)
  rw [(hD s).2 hin] at hv
  obtain ⟨q, rfl, hz, _⟩ := plainElem_string_inv Try.underlying9 hv
  simp only [Prod.mk.injEq, DataW.lit.injEq, Lit.string.injEq] at hz
  rw [hrun, byteArray_of_list hz.1.symm]

theorem QMap.look_ok {w : World} {m : Nat} {ks : List ByteArray} (h : QMap w m ks) {s : ByteArray} (hs : s.size ≤ maxLen) :
    ∃ (q : ByteArray) (b : Bool), (Instr.lookup 30 (.map (some m)) (.string s) true).run Try.prog w = .ok (.tuple #[.string q, .bool b]) w ∧ (b = true ↔ s ∈ ks) := by
  obtain ⟨D, ho, hD⟩ := h
  obtain ⟨v, ps, hrun, hv⟩ := ho.look_ok law9 Try.underlying30 (zero9 w) (plainElem_string Try.underlying9 (s := ⟨#[]⟩) (by simp [maxLen, ByteArray.size])) (keyOf9 s hs)
  obtain ⟨q, rfl, _, _⟩ := plainElem_string_inv Try.underlying9 hv
  exact ⟨q, _, hrun, (hD s).1⟩

theorem QMap.put {w : World} {m : Nat} {ks : List ByteArray} (h : QMap w m ks) {s q : ByteArray} (hs : s.size ≤ maxLen) (hq : q = ⟨(pgq s.data.toList).toArray⟩) (hqs : q.size ≤ maxLen) (hn : ks.length < maxLen) :
    ∃ w', (Instr.mapUpdate 30 (.map (some m)) (.string s) (.string q)).run Try.prog w = .ok () w' ∧ QMap w' m (ks ++ [s]) ∧ w.grownBy w' (some m) := by
  obtain ⟨D, ho, hD⟩ := h
  have hmap := ho.isMap
  obtain ⟨w', hrun, ho', hg⟩ := ho.update law9 Try.underlying30 hn (keyOf9 s hs) (plainElem_string Try.underlying9 hqs)
  have hkl : ∀ t : ByteArray, WideAt.IsKeyLit (kl t) := fun t => by simp [WideAt.IsKeyLit, kl]
  refine ⟨w', hrun, ⟨_, by simpa using ho', fun t => ?_⟩, hg⟩
  by_cases ht : t = s
  · subst ht
    refine ⟨by simp [Maps.has_put_same hmap (hkl t)], fun _ z => ?_⟩
    rw [Maps.atKey_put_same hmap (hkl t), hq]
  · have hne : kl t ≠ kl s := fun e => ht (kl_inj e)
    rw [Maps.has_put_other hne]
    refine ⟨by rw [(hD t).1]; simp [ht], fun hin z => ?_⟩
    rw [Maps.atKey_put_other hne]
    exact (hD t).2 (by simpa [ht] using hin) z
end Go.Proofs.Qxb6600830a.Sel
