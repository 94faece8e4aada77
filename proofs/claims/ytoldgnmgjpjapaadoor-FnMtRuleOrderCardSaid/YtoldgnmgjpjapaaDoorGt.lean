/-
Small words for the printed walks: which operation stands ahead.
-/
import Derived.Test.YtoldgnmgjpjapaaDoorWWords
namespace Go.Proofs.YtoldgnmgjpjapaaDoor.Gt
open Go.RowKit Go.Proofs.YtoldgnmgjpjapaaDoorW.PrintWords
section
variable {P : Program} {ops : Array Oper} {rest : List Oper} {o : Oper} {a : Act} {Q : Exit → Act → World → Prop} {W : World}
theorem gate_callee {f : FuncId} {as : Array Operand} {ts : Array TypeId} (_ho : o.op = .call { callee := .value (.func f), args := as, argTypes := ts }) (h : wpList P ops Q (o :: rest) a W) : wpList P ops Q (o :: rest) a W := h
theorem gate_builtin {b : Builtin} {xs : Array Operand} {ts : Array TypeId} (_ho : o.op = .call { callee := .builtin b, args := xs, argTypes := ts }) (h : wpList P ops Q (o :: rest) a W) : wpList P ops Q (o :: rest) a W := h
end
theorem drewN_self (w : World) (n : Nat) : w.drewN n = w.drewN n := rfl
end Go.Proofs.YtoldgnmgjpjapaaDoor.Gt
