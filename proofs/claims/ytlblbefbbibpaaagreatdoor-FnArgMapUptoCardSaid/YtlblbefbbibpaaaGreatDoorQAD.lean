/- Part. -/
import Derived.Test.YtlblbefbbibpaaaGreatDoorQAC
import Derived.Laws.StructEq
namespace Go.Proofs.Zw.PrintWords
open Go.RowKit
namespace Kd
end Kd
end Go.Proofs.Zw.PrintWords
namespace Go.Proofs.Zw.PrintWords
open Go.RowKit
namespace Kd
end Kd
def Foot (P:World→Prop) (W:World) (ok:Nat→Prop):Prop:=∀ W':World,(∀ k,ok k→k < W.heap.size→W'.heap[k]? =W.heap[k]?)→P W'
namespace Foot
end Foot
namespace Kd
def F {α:Type} (d:Kd α) (W:World) (ok:Nat→Prop) (A:Option Addr) (n:Nat) (xs:List α):Prop:=Foot (fun W=>d.C W A n xs) W ok
def FK {α:Type} (d:Kd α) (W:World) (ok:Nat→Prop) (x:α) (c:List Value):Prop:=Foot (fun W=>d.K W x c) W ok
end Kd
end Go.Proofs.Zw.PrintWords
namespace Go.Proofs.Zw.PrintWords
open Go.RowKit
namespace Kd
section
variable {α:Type} {d:Kd α} {e base n cc g:Nat} {ok ok' okp S:Nat→Prop} {w w1 W W1:World} {A:Option Addr} {u v v1:Value} {xs:List α} {x:α} {c:List Value}
def N {α:Type} (d:Kd α) (e:Nat) (w:World) (base:Nat) (ok:Nat→Prop) (v:Value) (xs:List α):Prop:=
 (∀ k,v.ownBlock=some k→ok k)∧∃ rows:List (List Value),rows.length=xs.length∧(raw d.sz).R e w base (fun k=>some k=v.ownBlock) v rows∧∀ (j:Nat) (x:α) (c:List Value),xs[j]? =some x→rows[j]? =some c→FK d w (fun k=>ok k∧some k≠v.ownBlock) x c
end
end Kd
end Go.Proofs.Zw.PrintWords
namespace Go.Proofs.Zw.PrintWords
open Go.RowKit
namespace Kd
end Kd
end Go.Proofs.Zw.PrintWords
