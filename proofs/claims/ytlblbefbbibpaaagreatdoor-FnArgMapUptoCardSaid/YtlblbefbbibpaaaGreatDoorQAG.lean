/- Part. -/
import Derived.Test.YtlblbefbbibpaaaGreatDoorProg
import Derived.Test.YtlblbefbbibpaaaGreatDoorQAF
set_option linter.unusedVariables false
set_option linter.unusedSimpArgs false
namespace Go.Proofs.YtlblbefbbibpaaaGreatDoor.PAM
open Go.RowKit Zw.PrintWords Zw.PrintLast Zw.PrintMore
attribute [local go_sem] max2_int min2_int max_two min_two max_three min_three max_four min_four
def errW:Option Int→Value
 |none=> .nilIface
 |some c=> .iface 163 (.int .i64 c)
theorem errW_none:errW none= .nilIface:=rfl
theorem errW_some (c:Int):errW (some c)= .iface 163 (.int .i64 c):=rfl
theorem info9:(Tryz.prog.info? 9).map (fun i=>(i.zero,i.size,i.bytes))=some (some (.string ⟨#[]⟩),1,16):=by kernel_rfl
structure S41 where
 f0:ByteArray
 f1:(List S41)
 f2:Bool
def z41:S41:=⟨(⟨#[]⟩:ByteArray),([]:List S41),false⟩
def F41 (d:Kd S41):Kd S41:=Kd.iso (Kd.pair Kd.string (Kd.pair (Kd.slice 41 d) Kd.bool)) (fun x:S41=>(x.f0,x.f1,x.f2))
theorem mono41:Kd.Mono F41:=Kd.mono_iso _ (Kd.mono_pair (Kd.mono_const _) (Kd.mono_pair (Kd.mono_slice 41 Kd.mono_id) (Kd.mono_const _)))
theorem sub41:Kd.Sub F41 [41]:=Kd.sub_iso _ (Kd.sub_pair (Kd.sub_const _ (by decide)) (Kd.sub_pair (Kd.sub_slice 41 (by decide) Kd.sub_id) (Kd.sub_const _ (by decide))))
theorem sz41:∀ n,(Kd.upto F41 3 [41] n).sz=3:=Kd.upto_sz (fun _=>rfl)
def k41:Kd S41:=Kd.fix F41 3 [41] sz41 (Kd.upto_E sub41)
theorem k41_open {w:World} {x:S41} {cs:List Value} (h:k41.K w x cs):∃ A1 c1,cs=[.string x.f0,.slice A1 x.f1.length c1,.bool x.f2]∧x.f1.length≤c1∧k41.C w A1 x.f1.length x.f1:=by
 obtain ⟨n,h⟩:=h
 cases n with
 |zero=>exact h.elim
 |succ n=>
  obtain ⟨_,_,rfl,rfl,⟨_,_,rfl,⟨A1,c1,rfl,l1,g1⟩,rfl⟩⟩:=h
  exact ⟨A1,c1,rfl,l1,Kd.fix_C g1⟩
theorem k41_mk (w:World) (x:S41) {A1:Option Addr} {c1:Nat} (l1:x.f1.length≤c1) (g1:k41.C w A1 x.f1.length x.f1):k41.K w x [.string x.f0,.slice A1 x.f1.length c1,.bool x.f2]:=by
 obtain ⟨n1,q1⟩:=Kd.fix_C_back mono41 g1
 have r1:=Kd.upto_C_le mono41 sz41 (show n1≤n1 by omega) q1
 exact ⟨n1 + 1,⟨[.string x.f0],[.slice A1 x.f1.length c1,.bool x.f2],rfl,rfl,⟨[.slice A1 x.f1.length c1],[.bool x.f2],rfl,⟨A1,c1,rfl,l1,r1⟩,rfl⟩⟩⟩
def rd_T41 (xs:List S41) (i:Int):S41:=xs.getD i.toNat z41
theorem at_T41 {w:World} {A:Option Addr} {n:Nat} {xs:List S41} (h:Kd.C k41 w A n xs) (i:Int) (h0:0≤i) (h1:i < n):∃ ad A1 c1,A=some ad∧w.cell? (ad.add (i.toNat * 3))=some (.string (rd_T41 xs i).f0)∧w.cell? ⟨(ad.add (i.toNat * 3)).block,(ad.add (i.toNat * 3)).off + 1,none⟩=some (.slice A1 (rd_T41 xs i).f1.length c1)∧w.cell? ⟨(ad.add (i.toNat * 3)).block,(ad.add (i.toNat * 3)).off + 2,none⟩=some (.bool (rd_T41 xs i).f2)∧(rd_T41 xs i).f1.length≤c1∧k41.C w A1 (rd_T41 xs i).f1.length (rd_T41 xs i).f1:=by
 obtain ⟨ad,c,e,_,hK,hc0⟩:=Kd.C_get h z41 i h0 h1
 have hc:∀ j u,c[j]? =some u→w.cell? (ad.add (i.toNat * 3 + j))=some u:=hc0
 obtain ⟨A1,c1,rfl,l1,g1⟩:=k41_open hK
 exact ⟨ad,A1,c1,e,hc 0 _ rfl,by rw [← add_field _ _ 1 (by omega)];exact hc 1 _ rfl,by rw [← add_field _ _ 2 (by omega)];exact hc 2 _ rfl,l1,g1⟩
end Go.Proofs.YtlblbefbbibpaaaGreatDoor.PAM
