/-
  Contracts of ZZcodeLen and cloneB1.
-/
import Derived.Test.Qxb6601077aProg
import Derived.WalkKit
import Derived.WalkSpells
import Derived.WalkLawsBesides
import Derived.Laws.CopyOwn
import Derived.Lib.SliceRun
import Derived.Lib.Builder
namespace Go.Proofs.Qxb6601077a.Ix
open Go.RowKit
set_option linter.unusedVariables false

/-- The length of the code that heads a text of n bytes, the first two of them x0, x1. -/
def cl (n : Nat) (x0 x1 : Int) : Int :=
  if 129 ≤ x0 ∧ x0 ≤ 254 then (if n < 2 then 0 else if 48 ≤ x1 ∧ x1 ≤ 57 then (if n < 4 then 0 else 4) else 2) else 1

set_option maxHeartbeats 1000000 in
theorem codeLen_walk (b o n cap : Nat) (x0 x1 : Int) (w : World) (hn : 1 ≤ n) (hn2 : n ≤ 1048576) (c0 : w.cell? ⟨b, o, none⟩ = some (.int .u8 x0)) (c1 : 2 ≤ n → w.cell? ⟨b, o + 1, none⟩ = some (.int .u8 x1)) (m : Int) (hm : m = cl n x0 x1) :
    Calls Try.prog 21 #[.slice (some ⟨b, o, none⟩) n cap] w fun e w' => e = .returned (.int .i64 m) ∧ w' = w := by
  have n0 : (0 : Int) < (n : Int) := by omega
  unfold cl at hm
  by_cases q0 : 129 ≤ x0
  · by_cases q1 : x0 ≤ 254
    · rw [if_pos ⟨q0, q1⟩] at hm
      by_cases q2 : n < 2
      · rw [if_pos q2] at hm
        subst hm
        have q2i : (n : Int) < 2 := by omega
        clear c1
        go_enter Try.func21, Try.ntmps21
        go_wp2
        go_ret
        exact ⟨rfl, rfl⟩
      · rw [if_neg q2] at hm
        have q2i : ¬ (n : Int) < 2 := by omega
        have n1 : (1 : Int) < (n : Int) := by omega
        have c1' := c1 (by omega)
        clear c1
        by_cases q3 : 48 ≤ x1
        · by_cases q4 : x1 ≤ 57
          · rw [if_pos ⟨q3, q4⟩] at hm
            by_cases q5 : n < 4
            · rw [if_pos q5] at hm
              subst hm
              have q5i : (n : Int) < 4 := by omega
              go_enter Try.func21, Try.ntmps21
              go_wp2
              go_ret
              exact ⟨rfl, rfl⟩
            · rw [if_neg q5] at hm
              subst hm
              have q5i : ¬ (n : Int) < 4 := by omega
              go_enter Try.func21, Try.ntmps21
              go_wp2
              go_ret
              exact ⟨rfl, rfl⟩
          · rw [if_neg (fun h => q4 h.2)] at hm
            subst hm
            go_enter Try.func21, Try.ntmps21
            go_wp2
            go_ret
            exact ⟨rfl, rfl⟩
        · rw [if_neg (fun h => q3 h.1)] at hm
          subst hm
          go_enter Try.func21, Try.ntmps21
          go_wp2
          go_ret
          exact ⟨rfl, rfl⟩
    · rw [if_neg (fun h => q1 h.2)] at hm
      subst hm
      clear c1
      go_enter Try.func21, Try.ntmps21
      go_wp2
      go_ret
      exact ⟨rfl, rfl⟩
  · rw [if_neg (fun h => q0 h.1)] at hm
    subst hm
    clear c1
    go_enter Try.func21, Try.ntmps21
    go_wp2
    go_ret
    exact ⟨rfl, rfl⟩

/-! ### cloneB1 -/
theorem Try.info5 : (Try.prog.info? 5).map (fun i => (i.zero, i.size, i.bytes)) = some (some (.int .u8 0), 1, 1) := by kernel_rfl
theorem Try.size5 : (Try.prog.info? 5).map (·.size) = some 1 := by kernel_rfl

/-- The bytes 'zs' can be read at a slice's address (where there are none, nothing is said of it). -/
def BytesAt (w : World) (a : Option Addr) (zs : List Int) : Prop :=
  zs = [] ∨ ∃ b o, a = some ⟨b, o, none⟩ ∧ b < w.heap.size ∧ ∀ i (h : i < zs.length), w.cell? ⟨b, o + i, none⟩ = some (.int .u8 zs[i])
theorem BytesAt.below {w w' : World} {a : Option Addr} {zs : List Int} (h : BytesAt w a zs) (hb : Below w.heap.size w w') : BytesAt w' a zs := by
  rcases h with h | ⟨b, o, ha, hlt, hc⟩
  · exact .inl h
  · exact .inr ⟨b, o, ha, Nat.lt_of_lt_of_le hlt hb.size, fun i hi => (hb.cell (p := ⟨b, o + i, none⟩) hlt).trans (hc i hi)⟩
def row (zs : List Int) : List Value := zs.map (Value.int .u8)
theorem row_len (zs : List Int) : (row zs).length = zs.length := by simp [row]
theorem row_one (zs : List Int) : ∀ v ∈ row zs, v.oneCell' = true := ints_oneCell .u8 zs
theorem BytesAt.src {w : World} {a : Option Addr} {zs : List Int} (h : BytesAt w a zs) (h0 : 0 < (row zs).length) : ∃ ad, a = some ad ∧ ∀ j v, (row zs)[j]? = some v → w.cell? (ad.add j) = some v := by
  rcases h with h | ⟨b, o, ha, _, hc⟩
  · subst h; simp [row] at h0
  · refine ⟨_, ha, fun j v hj => ?_⟩
    have hjl : j < zs.length := by
      rcases Nat.lt_or_ge j zs.length with h' | h'
      · exact h'
      · simp [row, List.getElem?_eq_none h'] at hj
    have hp : (⟨b, o, none⟩ : Addr).add j = ⟨b, o + j, none⟩ := by unfold Addr.add; split <;> simp_all
    rw [hp, hc j hjl]
    simp [row, List.getElem?_eq_getElem hjl] at hj
    rw [hj]
theorem bytesAt_block {w : World} {g : Nat} {zs : List Int} (h : w.heap[g]? = some (.cells (row zs).toArray 5 (0, 0))) : BytesAt w (some ⟨g, 0, none⟩) zs := by
  refine .inr ⟨g, 0, rfl, (Array.getElem?_eq_some_iff.1 h).1, fun i hi => ?_⟩
  rw [Lib.cell_of_heap h]
  simp [row, List.getElem?_eq_getElem hi]
theorem splice_all (L cs : List Value) (h : L.length = cs.length) : splice L 0 cs = cs := by
  simp [splice, List.drop_of_length_le (show L.length ≤ cs.length by omega)]

theorem own_full {w : World} {B e n g : Nat} {xs : List Value} (h : w.ownsRow B e 1 (.slice (some ⟨g, 0, none⟩) n n) n xs) : w.heap[g]? = some (.cells xs.toArray e (0, 0)) := by
  rcases h.2 with ⟨hv, _⟩ | ⟨g', cap, cur, hv, _, hg, _, _, hcs, htk⟩
  · cases hv
  · injection hv with h1 _ h3
    injection h1 with h1
    injection h1 with h1 _ _
    subst h1
    subst h3
    rw [hg]
    have : cur.toList = xs := by rw [← htk, List.take_of_length_le (by rw [Array.length_toList]; omega)]
    rw [← this]
theorem made_is (n : Nat) : (madeCells (Value.int .u8 0).cells (n * 1)).toList = List.replicate n (Value.int .u8 0) := by
  rw [Nat.mul_one]; exact toList_madeCells_one _ n
/-- n zero bytes. -/
def zeros (n : Nat) : List Value := List.replicate n (Value.int .u8 0)
theorem zeros_len (n : Nat) : (zeros n).length = n := by simp [zeros]

theorem clone_nil (n cap : Nat) (w : World) :
    Calls Try.prog 15 #[.slice none n cap] w fun e w' => e = .returned (.slice none 0 0) ∧ w' = w := by
  have hnil := fun (W : World) (a : Option Addr) (n c : Nat) => Lib.run_eql_slice_nil (P := Try.prog) W 28 5 a n c 0 0 Try.underlying28
  go_enter Try.func15, Try.ntmps15
  go_wp2
  go_ret
  exact ⟨rfl, rfl⟩

set_option maxHeartbeats 2000000 in
theorem clone_walk (x : Addr) (n cap : Nat) (zs : List Int) (w : World) (hn : zs.length = n) (hS : BytesAt w (some x) zs) (hn1 : n ≤ 1048576) :
    Calls Try.prog 15 #[.slice (some x) n cap] w fun e w' => e = .returned (.slice (some ⟨w.heap.size, 0, none⟩) n n) ∧ BytesAt w' (some ⟨w.heap.size, 0, none⟩) zs ∧ Below w.heap.size w w' := by
  obtain ⟨i0, hi, hz0, hz1, hz2⟩ := info_parts Try.info5
  have hnil := fun (W : World) (a : Option Addr) (n c : Nat) => Lib.run_eql_slice_nil (P := Try.prog) W 28 5 a n c 0 0 Try.underlying28
  have HS : Hid (BytesAt w (some x) zs) := hS
  have HN : Hid (zs.length = n) := hn
  clear hS hn
  go_enter Try.func15, Try.ntmps15
  obtain ⟨R, hR⟩ : ∃ R, R = row zs := ⟨_, rfl⟩
  obtain ⟨Z, hZ⟩ : ∃ Z, Z = zeros n := ⟨_, rfl⟩
  have hRl : R.length = n := by rw [hR, row_len, HN.out]
  have HZl : Hid (Z.length = n) := by show _ = _; rw [hZ, zeros_len]
  have HRl : Hid (R.length = n) := hRl
  have HR : Hid (R = row zs) := hR
  have HZ : Hid (Z = zeros n) := hZ
  have HR1 : Hid (∀ v ∈ R, v.oneCell' = true) := by rw [hR]; exact row_one zs
  clear hR hZ hRl
  go_wp2_with (first | (at_make; refine wpList_make_full _ rfl _ _ 28 rfl w.heap.size 5 i0 (.int .u8 0) 1 Try.underlying28 hi hz0 hz1 .i64 .i64 _ _ n rfl rfl rfl rfl (by rw [hz2]; omega) (by unfold maxLen; omega) (Nat.le_refl _) ?_; intro w1 hown1 hgrow1; rw [made_is] at hown1; have HG1 : Hid (w1.heap[w.heap.size]? = some (.cells Z.toArray 5 (0, 0))) := (by rw [HZ.out]; exact own_full hown1); have hb1 : Below w.heap.size w w1 := (Below.refl _ _).grown hgrow1 (Nat.le_refl _) (by simp); clear hown1 hgrow1) | (refine wpList_copy_splice rfl (.tmp 9) (.tmp 10) 28 28 rfl 5 Try.underlying28 Try.size5 _ _ _ _ _ _ rfl rfl w.heap.size 0 Z 5 HG1.out R ?hn ?hpos ?hfit HR1.out w.heap.size w hb1 (Nat.le_refl _) ?_))
  case hn => rw [HRl.out]; simp
  case hpos =>
    intro h0
    rw [HR.out] at h0 ⊢
    obtain ⟨ad, e, h⟩ := (HS.out.below hb1).src h0
    cases e
    exact h
  case hfit => rw [HRl.out, HZl.out]; omega
  intro w2 HG2 hb2
  have HB2 : Hid (BytesAt w2 (some ⟨w.heap.size, 0, none⟩) zs) := by
    have h := HG2.out
    rw [splice_all Z R (by rw [HZl.out, HRl.out]), HR.out] at h
    exact bytesAt_block h
  go_wp2
  go_ret
  exact ⟨rfl, HB2.out, hb2⟩
theorem clone_any (a : Option Addr) (n cap : Nat) (zs : List Int) (w : World) (hn : zs.length = n) (hS : BytesAt w a zs) (hn1 : n ≤ 1048576) :
    Calls Try.prog 15 #[.slice a n cap] w fun e w' => ∃ a' cap', e = .returned (.slice a' n cap') ∧ BytesAt w' a' zs ∧ Below w.heap.size w w' := by
  cases a with
  | some x =>
    refine (clone_walk x n cap zs w hn hS hn1).mono ?_
    rintro e w' ⟨rfl, h1, h2⟩
    exact ⟨_, _, rfl, h1, h2⟩
  | none =>
    have h0 : zs = [] := by
      rcases hS with h | ⟨b, o, ha, _⟩
      · exact h
      · cases ha
    subst h0
    have : n = 0 := by simpa using hn.symm
    subst this
    refine (clone_nil 0 cap w).mono ?_
    rintro e w' ⟨rfl, rfl⟩
    exact ⟨none, 0, rfl, .inl rfl, Below.refl _ _⟩
end Go.Proofs.Qxb6601077a.Ix
