/-
  The plain side of FnSelectStatementParsesBack: bytes alone, no Go in sight.
-/
namespace Go.Proofs.Qxb6600830a.Sel

def dblB (c : UInt8) : List UInt8 := if c = 34 then [34, 34] else [c]
def dbl (l : List UInt8) : List UInt8 := l.flatMap dblB
/-- A name as a quoted identifier: quotes doubled. -/
def pgq (l : List UInt8) : List UInt8 := 34 :: (dbl l ++ [34])

theorem dblB_q {c : UInt8} (h : c = 34) : dblB c = [34, 34] := by simp [dblB, h]
theorem dblB_n {c : UInt8} (h : ¬ c = 34) : dblB c = [c] := by simp [dblB, h]
theorem dbl_append (a b : List UInt8) : dbl (a ++ b) = dbl a ++ dbl b := by simp [dbl]
theorem dbl_take_succ (l : List UInt8) (k : Nat) (h : k < l.length) : dbl (l.take (k + 1)) = dbl (l.take k) ++ dblB l[k] := by
  rw [List.take_succ_eq_append_getElem h, dbl_append]; simp [dbl]
theorem dbl_cons (c : UInt8) (r : List UInt8) : dbl (c :: r) = dblB c ++ dbl r := by simp [dbl]
theorem dblB_len (c : UInt8) : 1 ≤ (dblB c).length ∧ (dblB c).length ≤ 2 := by unfold dblB; split <;> simp
theorem dbl_len (l : List UInt8) : (dbl l).length ≤ 2 * l.length := by
  induction l with
  | nil => simp [dbl]
  | cons c r ih =>
    rw [dbl_cons, List.length_append]
    have := dblB_len c
    simp; omega
theorem dbl_split (l : List UInt8) (k : Nat) (h : k < l.length) : dbl l = dbl (l.take k) ++ (dblB l[k] ++ dbl (l.drop (k + 1))) := by
  conv => lhs; rw [← List.take_append_drop k l, dbl_append, List.drop_eq_getElem_cons h, dbl_cons]
theorem pgq_len (l : List UInt8) : (pgq l).length = (dbl l).length + 2 := by simp [pgq]
theorem pgq_le (l : List UInt8) : (pgq l).length ≤ 2 * l.length + 2 := by
  have := dbl_len l
  rw [pgq_len]; omega
theorem pgq_split (l : List UInt8) (k : Nat) (h : k < l.length) : pgq l = (34 :: dbl (l.take k)) ++ (dblB l[k] ++ (dbl (l.drop (k + 1)) ++ [34])) := by
  unfold pgq
  rw [dbl_split l k h]
  simp

/-- The byte at a place of a text that is cut there. -/
theorem at_cut (a : List UInt8) (c : UInt8) (b : List UInt8) : (a ++ c :: b)[a.length]? = some c := by simp
theorem at_cut1 (a : List UInt8) (c d : UInt8) (b : List UInt8) : (a ++ c :: d :: b)[a.length + 1]? = some d := by
  rw [List.getElem?_append_right (by omega)]
  simp

/-! ### The statement -/
def kSel : List UInt8 := [115, 101, 108, 101, 99, 116, 32]
def kComma : List UInt8 := [44, 32]
def kFrom : List UInt8 := [32, 102, 114, 111, 109, 32]
def kWhere : List UInt8 := [32, 119, 104, 101, 114, 101, 32]
def kOrder : List UInt8 := [32, 111, 114, 100, 101, 114, 32, 98, 121, 32]

def restQ (cs : List (List UInt8)) : List UInt8 := cs.flatMap fun c => kComma ++ pgq c
def joinQ : List (List UInt8) → List UInt8
  | [] => []
  | c :: r => pgq c ++ restQ r
theorem restQ_append (a b : List (List UInt8)) : restQ (a ++ b) = restQ a ++ restQ b := by simp [restQ]
/-- What stands ahead of the k-th name. -/
def sep (k : Nat) : List UInt8 := if k = 0 then [] else kComma
theorem sep_zero : sep 0 = [] := rfl
theorem sep_pos {k : Nat} (h : k ≠ 0) : sep k = kComma := by simp [sep, h]
theorem joinQ_take_succ (cs : List (List UInt8)) (k : Nat) (h : k < cs.length) : joinQ (cs.take (k + 1)) = joinQ (cs.take k) ++ (sep k ++ pgq cs[k]) := by
  match cs, k, h with
  | c :: r, 0, _ => simp [joinQ, restQ, sep]
  | c :: r, k + 1, h =>
    have hk : k < r.length := by simpa using h
    have e : restQ (r.take (k + 1)) = restQ (r.take k) ++ (kComma ++ pgq r[k]) := by
      rw [List.take_succ_eq_append_getElem hk, restQ_append]; simp [restQ]
    simp only [joinQ, List.take_succ_cons, List.getElem_cons_succ, sep, List.append_assoc]
    rw [e]
    simp
theorem joinQ_split (cs : List (List UInt8)) (k : Nat) (h : k < cs.length) : joinQ cs = joinQ (cs.take k) ++ (sep k ++ (pgq cs[k] ++ restQ (cs.drop (k + 1)))) := by
  match cs, k, h with
  | c :: r, 0, _ => simp [joinQ, sep]
  | c :: r, k + 1, h =>
    have hk : k < r.length := by simpa using h
    simp only [joinQ, List.take_succ_cons, List.drop_succ_cons, List.getElem_cons_succ, sep, List.append_assoc]
    have e : restQ r = restQ (r.take k) ++ (kComma ++ (pgq r[k] ++ restQ (r.drop (k + 1)))) := by
      conv => lhs; rw [← List.take_append_drop k r, restQ_append, List.drop_eq_getElem_cons hk]
      unfold restQ
      rw [List.flatMap_cons, List.append_assoc]
    rw [e]
    simp
def whereQ (wh : List UInt8) : List UInt8 := if wh = [] then [] else kWhere ++ wh
def tailQ (tbl wh f0 : List UInt8) : List UInt8 := kFrom ++ (pgq tbl ++ (whereQ wh ++ (kOrder ++ pgq f0)))
def stmtQ (cs : List (List UInt8)) (tbl wh f0 : List UInt8) : List UInt8 := kSel ++ (joinQ cs ++ tailQ tbl wh f0)
end Go.Proofs.Qxb6600830a.Sel
