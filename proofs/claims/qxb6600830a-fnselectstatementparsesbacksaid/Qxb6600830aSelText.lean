/-
  Where the statement's parts lie: plain facts that the parser's walk wants.
-/
import Derived.Test.Qxb6600830aSelPlain
namespace Go.Proofs.Qxb6600830a.Sel

/-- What stands ahead of the k-th name. -/
def ahead (cs : List (List UInt8)) (k : Nat) : List UInt8 := kSel ++ (joinQ (cs.take k) ++ sep k)
theorem ahead_zero (cs : List (List UInt8)) : ahead cs 0 = kSel := by simp [ahead, joinQ, sep]
theorem stmt_at (cs : List (List UInt8)) (tbl wh f0 : List UInt8) (k : Nat) (h : k < cs.length) : stmtQ cs tbl wh f0 = ahead cs k ++ (pgq cs[k] ++ (restQ (cs.drop (k + 1)) ++ tailQ tbl wh f0)) := by
  unfold stmtQ ahead
  rw [joinQ_split cs k h]
  simp
theorem restQ_cons (cs : List (List UInt8)) (k : Nat) (h : k < cs.length) : restQ (cs.drop k) = kComma ++ (pgq cs[k] ++ restQ (cs.drop (k + 1))) := by
  rw [List.drop_eq_getElem_cons h]
  unfold restQ
  rw [List.flatMap_cons, List.append_assoc]
theorem ahead_succ (cs : List (List UInt8)) (k : Nat) (h : k < cs.length) : ahead cs (k + 1) = ahead cs k ++ (pgq cs[k] ++ kComma) := by
  unfold ahead
  rw [joinQ_take_succ cs k h, sep_pos (Nat.succ_ne_zero k)]
  simp
/-- Behind the k-th name: the next one. -/
theorem stmt_next (cs : List (List UInt8)) (tbl wh f0 : List UInt8) (k : Nat) (h : k + 1 < cs.length) : stmtQ cs tbl wh f0 = (ahead cs k ++ pgq cs[k]) ++ (kComma ++ (pgq cs[k + 1] ++ (restQ (cs.drop (k + 1 + 1)) ++ tailQ tbl wh f0))) := by
  rw [stmt_at cs tbl wh f0 k (by omega), restQ_cons cs (k + 1) h]
  simp
/-- .. or, behind the last, the tail. -/
theorem stmt_last (cs : List (List UInt8)) (tbl wh f0 : List UInt8) (k : Nat) (h : k < cs.length) (hl : ¬ k + 1 < cs.length) : stmtQ cs tbl wh f0 = (ahead cs k ++ pgq cs[k]) ++ tailQ tbl wh f0 := by
  rw [stmt_at cs tbl wh f0 k h, List.drop_of_length_le (by omega)]
  simp [restQ]
theorem post_head (cs : List (List UInt8)) (tbl wh f0 : List UInt8) (k : Nat) : ∀ c r, restQ (cs.drop (k + 1)) ++ tailQ tbl wh f0 = c :: r → ¬ c = 34 := by
  intro c r h
  by_cases hl : k + 1 < cs.length
  · rw [restQ_cons cs (k + 1) hl] at h
    simp only [kComma, List.cons_append, List.append_assoc, List.cons.injEq] at h
    rw [← h.1]; decide
  · rw [List.drop_of_length_le (by omega)] at h
    simp only [restQ, List.flatMap_nil, List.nil_append, tailQ, kFrom, List.cons_append, List.cons.injEq] at h
    rw [← h.1]; decide
/-- Behind the table's name. -/
theorem post_tbl (wh f0 : List UInt8) : ∀ c r, whereQ wh ++ (kOrder ++ pgq f0) = c :: r → ¬ c = 34 := by
  intro c r h
  unfold whereQ at h
  split at h
  · simp only [List.nil_append, kOrder, List.cons_append, List.cons.injEq] at h
    rw [← h.1]; decide
  · simp only [kWhere, List.cons_append, List.cons.injEq] at h
    rw [← h.1]; decide
def kOrd9 : List UInt8 := [32, 111, 114, 100, 101, 114, 32, 98, 121]
theorem kOrder_cut : kOrder = kOrd9 ++ [32] := rfl
theorem tail_back (p tbl wh f0 : List UInt8) : p ++ tailQ tbl wh f0 = (p ++ (kFrom ++ (pgq tbl ++ (whereQ wh ++ kOrd9)))) ++ 32 :: pgq f0 := by
  unfold tailQ
  rw [kOrder_cut]
  simp
theorem tail_back_len (p tbl wh : List UInt8) : (p ++ (kFrom ++ (pgq tbl ++ (whereQ wh ++ kOrd9)))).length + 1 = (p ++ (kFrom ++ (pgq tbl ++ whereQ wh))).length + 10 := by
  simp [kOrd9]
  omega
theorem tail_from (p tbl wh f0 : List UInt8) : p ++ tailQ tbl wh f0 = p ++ (kFrom ++ (pgq tbl ++ (whereQ wh ++ (kOrder ++ pgq f0)))) := rfl
theorem tail_tbl (p tbl wh f0 : List UInt8) : p ++ tailQ tbl wh f0 = (p ++ kFrom) ++ (pgq tbl ++ (whereQ wh ++ (kOrder ++ pgq f0))) := by unfold tailQ; simp
theorem tail_order (p tbl wh f0 : List UInt8) : p ++ tailQ tbl wh f0 = (p ++ (kFrom ++ (pgq tbl ++ whereQ wh))) ++ (kOrder ++ pgq f0) := by unfold tailQ; simp
/-- What lies between the table's name and the order. -/
theorem tail_mid (p tbl wh f0 : List UInt8) : ((p ++ tailQ tbl wh f0).take (p ++ (kFrom ++ (pgq tbl ++ whereQ wh))).length).drop ((p ++ kFrom).length + (pgq tbl).length) = whereQ wh := by
  rw [tail_order, List.take_left]
  rw [show p ++ (kFrom ++ (pgq tbl ++ whereQ wh)) = (p ++ kFrom ++ pgq tbl) ++ whereQ wh from by simp]
  rw [show (p ++ kFrom).length + (pgq tbl).length = (p ++ kFrom ++ pgq tbl).length from by simp; omega]
  exact List.drop_left
theorem whereQ_nil : whereQ [] = [] := rfl
theorem whereQ_some {wh : List UInt8} (h : ¬ wh = []) : whereQ wh = kWhere ++ wh := by simp [whereQ, h]
end Go.Proofs.Qxb6600830a.Sel
