/- Part. -/
import Derived.Test.YtkphbhncpdcbeaaGreatDoorQBI
set_option linter.unusedVariables false
set_option linter.unusedSimpArgs false
namespace Go.Proofs.YtkphbhncpdcbeaaGreatDoor.J
open Go.RowKit YtkphbhncpdcbeaaGreatDoorW.PrintWords YtkphbhncpdcbeaaGreatDoorW.PrintLast YtkphbhncpdcbeaaGreatDoorW.PrintMore PJT
open YtkphbhncpdcbeaaGreatDoorW
theorem buildr_ {P:Program} {a:Act} {w:World} {o:Oper} {t:TypeId} {parts:Array (Nat×Operand)} (cells:Array Value) (ho:o.op= .build t parts)
  (hf:P.built t (parts.map fun (i,x)=>(i,a.eval x)).toList=some cells):(execOp a.eval o).run P w= .ok (.value (.agg cells)) w:=by
 unfold execOp
 simp only [ho,Sem.run_bind,run_build w t _ _ hf,Result.andThen_ok]
 rfl
end Go.Proofs.YtkphbhncpdcbeaaGreatDoor.J
