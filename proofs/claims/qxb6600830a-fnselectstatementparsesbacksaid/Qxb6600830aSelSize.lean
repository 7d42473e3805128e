/-
  The walks of zzSliceBytes and zzBytes_FnSelectStatementParsesBack: bounds alone.
-/
import Derived.Test.Qxb6600830aSelBase
namespace Go.Proofs.Qxb6600830a.Sel
open Go.RowKit

set_option maxHeartbeats 1000000 in
theorem sliceBytes_walk (a : Option Addr) (n cap : Nat) (ss : List ByteArray) (limit : Int) (w : World) (hn : ss.length = n) (hS : StrsAt w a ss) (hn1 : n ≤ 1048576)
    (hsz : ∀ i (h : i < ss.length), ss[i].size ≤ 1048576) (hl0 : 0 ≤ limit) (hl1 : limit ≤ 1048576) :
    Calls Try.prog 12 #[.slice a n cap, .int .i64 limit] w fun e w' => ∃ r : Int, e = .returned (.int .i64 r) ∧ 0 ≤ r ∧ r ≤ limit + 1 ∧ w' = w := by
  have HS : Hid (StrsAt w a ss) := hS
  have HN : Hid (ss.length = n) := hn
  have HZ : Hid (∀ i (h : i < ss.length), ss[i].size ≤ 1048576) := hsz
  clear hS hn hsz
  go_enter Try.func12, Try.ntmps12
  go_wp2
  go_loop [5, 6] (fun t i => ∃ (k : Nat) (T : Int), k ≤ n ∧ i = .int .i64 k ∧ t = .int .i64 T ∧ 0 ≤ T ∧ T ≤ limit) (fun _ i => n - (intOf i).toNat)
  case atStart => exact ⟨0, 0, Nat.zero_le _, rfl, rfl, by omega, by omega⟩
  case round =>
    obtain ⟨k, T, hk, rfl, rfl, hT0, hT1⟩ := hrel
    by_cases hlt : k < n
    · obtain ⟨b, o, hbo, hia, hcell⟩ := HS.out.here HN.out hlt cap
      have hz : (ss[k]'(by have := HN.out; omega)).size ≤ 1048576 := HZ.out k _
      generalize (ss[k]'(by have := HN.out; omega)) = s at hcell hz
      by_cases hc : limit - T - 16 < (s.size : Int)
      · go_wp2
        go_ret
        exact ⟨_, rfl, by omega, by omega, rfl⟩
      · go_wp2
        go_round
        case rel => exact ⟨k + 1, T + 16 + s.size, by omega, by go_num, by go_num, by omega, by omega⟩
        case measure => simp [intOf]; omega
    · go_wp2
      go_ret
      exact ⟨_, rfl, by omega, by omega, rfl⟩

/-- What a yes of the bound says. -/
def Small (tbl wh : ByteArray) (F C : List ByteArray) : Prop :=
  tbl.size ≤ 1048576 ∧ wh.size ≤ 1048576 ∧ F.length ≤ 1048576 ∧ C.length ≤ 1048576 ∧ (∀ i (h : i < F.length), F[i].size ≤ 1048576) ∧ (∀ i (h : i < C.length), C[i].size ≤ 1048576)

def Bnd (tbl wh : ByteArray) (F C : List ByteArray) (w : World) (e : Ending) (w' : World) : Prop := (e = .returned (.bool false) ∧ w' = w) ∨ (e = .returned (.bool true) ∧ w' = w ∧ Small tbl wh F C)
theorem bnd_no (tbl wh : ByteArray) (F C : List ByteArray) (w : World) : Bnd tbl wh F C w (.returned (.bool false)) w := .inl ⟨rfl, rfl⟩
theorem bnd_yes {tbl wh : ByteArray} {F C : List ByteArray} (w : World) (h : Small tbl wh F C) : Bnd tbl wh F C w (.returned (.bool true)) w := .inr ⟨rfl, rfl, h⟩

set_option maxHeartbeats 4000000 in
theorem bound_walk (tbl wh : ByteArray) (a1 a2 : Option Addr) (n1 c1 n2 c2 : Nat) (F C : List ByteArray) (w : World) (ht : tbl.size ≤ maxLen) (hw : wh.size ≤ maxLen) (hF : F.length = n1) (hC : C.length = n2)
    (h1 : StrsAt w a1 F) (h2 : StrsAt w a2 C) (hn1 : n1 ≤ maxLen) (hn2 : n2 ≤ maxLen) (hzF : ∀ i (h : i < F.length), F[i].size ≤ maxLen) (hzC : ∀ i (h : i < C.length), C[i].size ≤ maxLen) :
    Calls Try.prog 11 #[.string tbl, .slice a1 n1 c1, .slice a2 n2 c2, .string wh] w fun e w' => Bnd tbl wh F C w e w' := by
  unfold maxLen at ht hw hn1 hn2 hzF hzC
  have H1 : Hid (StrsAt w a1 F) := h1
  have H2 : Hid (StrsAt w a2 C) := h2
  have HF : Hid (F.length = n1) := hF
  have HC : Hid (C.length = n2) := hC
  have HZF : Hid (∀ i (h : i < F.length), F[i].size ≤ 9223372036854775807) := hzF
  have HZC : Hid (∀ i (h : i < C.length), C[i].size ≤ 9223372036854775807) := hzC
  clear h1 h2 hF hC hzF hzC
  by_cases p1 : tbl.size ≤ 1048576
  · by_cases p2 : n1 ≤ 1048576
    · by_cases p3 : tbl.size + n1 ≤ 1048576
      · go_enter Try.func11, Try.ntmps11
        go_wp2
        go_loop [9, 10] (fun t i => ∃ (k : Nat) (T : Int), k ≤ n1 ∧ i = .int .i64 k ∧ t = .int .i64 T ∧ 0 ≤ T ∧ T ≤ 1048576 ∧ Hid (∀ i (h : i < F.length), i < k → F[i].size ≤ 1048576)) (fun _ i => n1 - (intOf i).toNat)
        case atStart => exact ⟨0, (tbl.size : Int) + n1, Nat.zero_le _, rfl, by go_num, by omega, by omega, fun i _ h => absurd h (Nat.not_lt_zero _)⟩
        case round =>
          obtain ⟨k, T, hk, rfl, rfl, hT0, hT1, HB⟩ := hrel
          by_cases hlt : k < n1
          · have hkF : k < F.length := by have := HF.out; omega
            obtain ⟨b, o, hbo, hia, hcell⟩ := H1.out.here HF.out hlt c1
            have hz : F[k].size ≤ 9223372036854775807 := HZF.out k _
            by_cases q1 : F[k].size ≤ 1048576
            · have HB2 : Hid (∀ i (h : i < F.length), i < k + 1 → F[i].size ≤ 1048576) := by
                intro i h hi
                by_cases e : i = k
                · subst e; exact q1
                · exact HB.out i h (by omega)
              generalize F[k] = s at hcell hz q1
              by_cases q2 : T + s.size ≤ 1048576
              · go_wp2
                go_round
                case rel => exact ⟨k + 1, T + s.size, by omega, by go_num, by go_num, by omega, by omega, HB2⟩
                case measure => simp [intOf]; omega
              · go_wp2
                go_ret
                exact bnd_no _ _ _ _ _
            · generalize F[k] = s at hcell hz q1
              go_wp2
              go_ret
              exact bnd_no _ _ _ _ _
          · have HB1 : Hid (∀ i (h : i < F.length), F[i].size ≤ 1048576) := fun i h => HB.out i h (by have := HF.out; omega)
            clear HB
            by_cases p4 : n2 ≤ 1048576
            · by_cases p5 : T + n2 ≤ 1048576
              · go_wp2
                go_loop [9, 11] (fun t i => ∃ (k : Nat) (T : Int), k ≤ n2 ∧ i = .int .i64 k ∧ t = .int .i64 T ∧ 0 ≤ T ∧ T ≤ 1048576 ∧ Hid (∀ i (h : i < C.length), i < k → C[i].size ≤ 1048576)) (fun _ i => n2 - (intOf i).toNat)
                case atStart => exact ⟨0, T + n2, Nat.zero_le _, rfl, by go_num, by omega, by omega, fun i _ h => absurd h (Nat.not_lt_zero _)⟩
                case round =>
                  obtain ⟨k, T, hk, rfl, rfl, hT0, hT1, HB⟩ := hrel
                  by_cases hlt : k < n2
                  · have hkF : k < C.length := by have := HC.out; omega
                    obtain ⟨b, o, hbo, hia, hcell⟩ := H2.out.here HC.out hlt c2
                    have hz : C[k].size ≤ 9223372036854775807 := HZC.out k _
                    by_cases q1 : C[k].size ≤ 1048576
                    · have HB2 : Hid (∀ i (h : i < C.length), i < k + 1 → C[i].size ≤ 1048576) := by
                        intro i h hi
                        by_cases e : i = k
                        · subst e; exact q1
                        · exact HB.out i h (by omega)
                      generalize C[k] = s at hcell hz q1
                      by_cases q2 : T + s.size ≤ 1048576
                      · go_wp2
                        go_round
                        case rel => exact ⟨k + 1, T + s.size, by omega, by go_num, by go_num, by omega, by omega, HB2⟩
                        case measure => simp [intOf]; omega
                      · go_wp2
                        go_ret
                        exact bnd_no _ _ _ _ _
                    · generalize C[k] = s at hcell hz q1
                      go_wp2
                      go_ret
                      exact bnd_no _ _ _ _ _
                  · have HB3 : Hid (∀ i (h : i < C.length), C[i].size ≤ 1048576) := fun i h => HB.out i h (by have := HC.out; omega)
                    clear HB
                    by_cases p6 : wh.size ≤ 1048576
                    · by_cases p7 : T + wh.size ≤ 1048576
                      · go_wp2
                        go_ret
                        exact bnd_yes _ ⟨p1, p6, by rw [HF.out]; exact p2, by rw [HC.out]; exact p4, HB1.out, HB3.out⟩
                      · go_wp2
                        go_ret
                        exact bnd_no _ _ _ _ _
                    · go_wp2
                      go_ret
                      exact bnd_no _ _ _ _ _
              · go_wp2
                go_ret
                exact bnd_no _ _ _ _ _
            · go_wp2
              go_ret
              exact bnd_no _ _ _ _ _
      · go_enter Try.func11, Try.ntmps11
        go_wp2
        go_ret
        exact bnd_no _ _ _ _ _
    · go_enter Try.func11, Try.ntmps11
      go_wp2
      go_ret
      exact bnd_no _ _ _ _ _
  · go_enter Try.func11, Try.ntmps11
    go_wp2
    go_ret
    exact bnd_no _ _ _ _ _
end Go.Proofs.Qxb6600830a.Sel
