/-
  Two run equations: a builder's address turned to the bare pointer type and back ('copyCheck').
-/
import Derived.Test.Qxb6600830aOwn
import Derived.Lib.Builder
namespace Go.Proofs.Qxb6600830a
open Go.RowKit

theorem Try.sizeBuilder : (Try.prog.info? 49).map (·.size) = some 2 := by kernel_rfl
theorem Try.liesBuilder : liesAt Try.prog Try.prog.depth 49 (2 / Try.prog.cellsOf 49) 0 49 1 = true := by kernel_rfl
theorem Try.cellsByte : Try.prog.cellsOf 5 = 1 := by kernel_rfl

theorem there_form (a : Addr) (w : World) : (convert 47 57 (.pointer (some a))).run Try.prog w =
    (Conv.seenAt a >>= fun s => cellsIn s.block >>= fun c => Go.sizeOf 49 >>= fun n =>
      if (n = 0 || (match c with | some cells => decide (s.off ≥ cells) && s.spot.isNone | none => false)) = true then newObj (.view s 49) >>= fun k => pure (Value.pointer (some ⟨k, 0, none⟩)) else pure (Value.pointer (some s)) : Sem Value).run Try.prog w := by kernel_rfl

theorem run_there (b : Nat) (w : World) (hsh : w.shape? b = some (49, 2)) :
    (convert 47 57 (.pointer (some ⟨b, 0, none⟩))).run Try.prog w = .ok (.pointer (some ⟨b, 0, none⟩)) w := by
  obtain ⟨j, hj, hjs⟩ := Option.map_eq_some_iff.1 Try.sizeBuilder
  rw [there_form]
  simp [Conv.seenAt, viewAt, cellsIn, hsh, Go.sizeOf, typeInfo, hj, hjs]
theorem two_asked {x : Sem Value} {F : TypeDesc → TypeDesc → Sem Value} {w : World} {r : Result Value} {T U : TypeDesc} (hT : Try.prog.underlying 57 = some T) (hU : Try.prog.underlying 47 = some U)
    (h : x = (underlying 57 >>= fun u1 => underlying 47 >>= fun u2 => F u1 u2)) (h2 : (F T U).run Try.prog w = r) : x.run Try.prog w = r := by
  rw [h]
  simp only [Sem.run_bind, run_underlying hT, run_underlying hU, Result.andThen_ok]
  exact h2

theorem run_back (b : Nat) (w : World) (hsh : w.shape? b = some (49, 2)) :
    (convert 57 47 (.pointer (some ⟨b, 0, none⟩))).run Try.prog w = .ok (.pointer (some ⟨b, 0, none⟩)) w := by
  obtain ⟨j, hj, _⟩ := Option.map_eq_some_iff.1 Try.sizeBuilder
  refine two_asked Try.underlying57 Try.underlying47 (x := convert 57 47 _) rfl ?_
  refine two_asked Try.underlying57 Try.underlying47 rfl ?_
  simp [Conv.seenAt, viewAt, hsh, variablesAt, Try.liesBuilder, Go.sizeOf, typeInfo, hj]
end Go.Proofs.Qxb6600830a
