/-
  The plain law of FnQuotedStringExact: no Go in sight.
-/
namespace Go.Proofs.Qxb6600830a.Qs

/-- A byte that a quoted string may hold. -/
def okB (c : UInt8) : Bool := !(decide (c.toNat < 32) || c.toNat == 127)
def noCtl (l : List UInt8) : Bool := l.all okB

def escB (c : UInt8) : List UInt8 := if c = 34 ∨ c = 92 then [92, c] else [c]
def esc (l : List UInt8) : List UInt8 := l.flatMap escB
def quoted (l : List UInt8) : List UInt8 := 34 :: (esc l ++ [34])

theorem esc_nil : esc [] = [] := rfl
theorem esc_append (a b : List UInt8) : esc (a ++ b) = esc a ++ esc b := by simp [esc]
theorem esc_take_succ (l : List UInt8) (k : Nat) (h : k < l.length) : esc (l.take (k + 1)) = esc (l.take k) ++ escB l[k] := by
  rw [List.take_succ_eq_append_getElem h, esc_append]; simp [esc]
theorem esc_len (l : List UInt8) : (esc l).length ≤ 2 * l.length := by
  induction l with
  | nil => simp [esc]
  | cons c r ih =>
    have : esc (c :: r) = escB c ++ esc r := by simp [esc]
    rw [this, List.length_append]
    have : (escB c).length ≤ 2 := by unfold escB; split <;> simp
    simp; omega
theorem escB_pos (c : UInt8) : 1 ≤ (escB c).length := by unfold escB; split <;> simp
theorem esc_split (l : List UInt8) (k : Nat) (h : k < l.length) : esc l = esc (l.take k) ++ (escB l[k] ++ esc (l.drop (k + 1))) := by
  conv => lhs; rw [← List.take_append_drop k l, esc_append, List.drop_eq_getElem_cons h]
  unfold esc
  rw [List.flatMap_cons]
theorem noCtl_take_succ (l : List UInt8) (k : Nat) (h : k < l.length) : noCtl (l.take (k + 1)) = (noCtl (l.take k) && okB l[k]) := by
  unfold noCtl
  rw [List.take_succ_eq_append_getElem h, List.all_append]
  simp only [List.all_cons, List.all_nil, Bool.and_true]
theorem noCtl_of_not (l : List UInt8) (k : Nat) (h : k < l.length) (hk : okB l[k] = false) : noCtl l = false := by
  simp only [noCtl, List.all_eq_false]
  exact ⟨l[k], List.getElem_mem h, by simp [hk]⟩
theorem quoted_len (l : List UInt8) : (quoted l).length = (esc l).length + 2 := by simp [quoted]

/-- The byte at the place behind the escaped forms of the first k bytes. -/
theorem quoted_at (l : List UInt8) (k : Nat) (h : k < l.length) : (quoted l)[1 + (esc (l.take k)).length]? = (escB l[k])[0]? := by
  unfold quoted
  rw [Nat.add_comm, List.getElem?_cons_succ, esc_split l k h]
  have := escB_pos l[k]
  simp only [List.append_assoc]
  rw [List.getElem?_append_right (Nat.le_refl _), Nat.sub_self, List.getElem?_append_left (by omega)]
theorem quoted_at2 (l : List UInt8) (k : Nat) (h : k < l.length) (h2 : (escB l[k]).length = 2) : (quoted l)[1 + (esc (l.take k)).length + 1]? = (escB l[k])[1]? := by
  unfold quoted
  rw [show 1 + (esc (l.take k)).length + 1 = ((esc (l.take k)).length + 1) + 1 from by omega, List.getElem?_cons_succ, esc_split l k h]
  simp only [List.append_assoc]
  rw [List.getElem?_append_right (by omega), List.getElem?_append_left (by omega)]
  congr 1
  omega
theorem esc_take_len (l : List UInt8) (k : Nat) (h : k < l.length) : (esc (l.take k)).length + (escB l[k]).length ≤ (esc l).length := by
  rw [esc_split l k h]; simp
theorem escB_esc {c : UInt8} (h : c = 34 ∨ c = 92) : escB c = [92, c] := by simp [escB, h]
theorem escB_plain {c : UInt8} (h : ¬ (c = 34 ∨ c = 92)) : escB c = [c] := by simp [escB, h]
end Go.Proofs.Qxb6600830a.Qs
