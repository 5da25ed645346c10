/- Part. -/
import Derived.Test.YtkphbhncpdcbeaaGreatDoorQAE
namespace Go.Proofs.YtkphbhncpdcbeaaGreatDoor.PJT
open Go.RowKit Go.Proofs.YtkphbhncpdcbeaaGreatDoorW.PrintWords Go.Proofs.YtkphbhncpdcbeaaGreatDoorW.PrintLast Go.Proofs.YtkphbhncpdcbeaaGreatDoorW.PrintMore
theorem wb_ {p:Prop} (h:p:=by repeat (first|(with_reducible first|exact HB.out|apply below_alloc|apply pw_below_drewN|apply below_drew1|refine below_set ?_ (Aside0.out (by assumption)))|exact HB.out)):p:=h
theorem r1_ {p:Prop} (h:p:=by first|rfl|(simp;done)|(simp [*];done)):p:=h
theorem ap_ {p:Prop} (h:p:=by (try simp only [List.map_toArray,List.map_cons,List.map_nil]);first|done|rfl|(simp only [List.length_drop,List.length_take];rfl)):p:=h
theorem as_ {p:Prop} (h:p:=by first|(with_reducible assumption)|assumption):p:=h
theorem dr_ {p:Prop} (h:p:=by repeat (first|exact Drawn0.refl _|apply Drawn0.step)):p:=h
theorem er_ {p:Prop} (h:p:=by first|rfl|(simp [errW_none,errW_some]<;>rfl)|(simp [*,errW_none,errW_some]<;>rfl)):p:=h
theorem bk_ {p:Prop} (h:p:=by ((with_reducible repeat (first|refine blk_drewN ?_ _|refine blk_drew ?_|refine blk_alloc ?_ _));exact Aside0.out (by assumption))):p:=h
theorem kr_ {p:Prop} (h:p:=by kernel_rfl):p:=h
theorem cb_ {W:World} {g:Nat} {t:TypeId} {cs:Array Value} (h:W.heap[g]? =some (.cells cs t (0,0))):(∀ j,W.cell? ⟨g,j,none⟩=cs[j]?)∧∀ j,W.frozen? ⟨g,j,none⟩=false:=⟨fun j=>blk_cell h j,fun j=>blk_frozen h j⟩
theorem asd_ {p:Prop} (h:p):Aside0 p:=⟨h⟩
end Go.Proofs.YtkphbhncpdcbeaaGreatDoor.PJT
