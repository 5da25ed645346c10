/- Part. -/
import Derived.Test.YtkphbhncpdcbeaaGreatDoorQBL
set_option linter.unusedVariables false
set_option linter.unusedSimpArgs false
set_option maxHeartbeats 8000000
set_option maxRecDepth 100000
namespace Go.Proofs.YtkphbhncpdcbeaaGreatDoor.J
open Go.RowKit YtkphbhncpdcbeaaGreatDoorW.PrintWords YtkphbhncpdcbeaaGreatDoorW.PrintLast YtkphbhncpdcbeaaGreatDoorW.PrintMore PJT
attribute [local go_sem] ta_null_4 ta_null_9 ta_null_117 ta_null_113 ta_bool_4 ta_bool_9 ta_bool_117 ta_bool_113 ta_text_4 ta_text_340 ta_text_343 ta_text_3 ta_text_344 ta_text_345 ta_text_21 ta_text_2 ta_text_232 ta_text_5 ta_text_346 ta_text_324 ta_text_326 ta_text_9 ta_text_117 ta_text_113 ta_array_4 ta_array_340 ta_array_343 ta_array_3 ta_array_344 ta_array_345 ta_array_21 ta_array_2 ta_array_232 ta_array_5 ta_array_346 ta_array_324 ta_array_326 ta_array_9 ta_array_117 ta_array_113 ta_object_4 ta_object_340 ta_object_343 ta_object_3 ta_object_344 ta_object_345 ta_object_21 ta_object_2 ta_object_232 ta_object_5 ta_object_346 ta_object_324 ta_object_326 ta_object_9 ta_object_117 ta_object_113
theorem val_e_all (vv:Value) (hvv:vv.oneCell'=true) (ty:Int) (hty:ty≠0) (w w0:World) (l:List Blk) (gv gs gc:Nat) (ad:Addr) (up:Value) (loc:ByteArray) (req props pats deps dreq dsch:Value) (ge0:Nat) (AE:Option Addr) (ne cE:Nat) (ks:Int) (vs:List Value) (hne:ne≤LM) (hge0:w0.heap[ge0]? =some (row #[.slice AE ne cE,.int .i64 ks] 285)) (hcell:∀ i,i < ne→∃ ad,AE=some ad∧w0.cell? (ad.add i)=some (vs.getD i .nilIface)) (H:At w0 (.b gv (row (vdc (vv) ad (.pointer (some ⟨gs,0,none⟩)) (.pointer (some ⟨gc,0,none⟩)) up nilS) 182):: .b gc (row (#[.pointer (some ⟨gs,0,none⟩),eS,i0,nP]) 178)::l) w) (hgv:w0.heap.size≤gv) (hS:w0.heap[gs]? =some (row (Sc.cells ⟨2020,loc,nP,.pointer (some ⟨ge0,0,none⟩),nP,nP,req,props,pats,deps,dreq,dsch,.nilIface⟩) 119)) (hT:∀ W:World,Calls Tryz.prog 139 #[vv] W (rb (.int .i64 ty) W)) (hKI:∀ W,Below w0.heap.size w0 W→Calls Tryz.prog 141 #[.int .i64 ks,.int .i64 ty] W (rb (.bool true) W)) (qs:Nat→Bool) (hE:∀ i,i < ne→∀ W,Below w0.heap.size w0 W→Calls Tryz.prog 144 #[vv,vs.getD i .nilIface] W (rb (.tuple #[.bool (qs i),.nilIface]) W)) (hend:(∃ j,j < ne∧qs j=true)→(vv= .nilIface∨(∃ b:Bool,vv= .iface 4 (.bool b))∨(∃ t:ByteArray,vv= .iface 9 (.string t))∨(∃ (A:Option Addr) (n c:Nat),vv= .iface 117 (.slice A n c))∨(∃ g:Nat,vv= .iface 113 (.map (some g))∧(∀ W l,At w0 (.b gv (row (vdc (.iface 113 (.map (some g))) ad (.pointer (some ⟨gs,0,none⟩)) (.pointer (some ⟨gc,0,none⟩)) up nilS) 182)::l) W→Calls Tryz.prog 147 #[.pointer (some ⟨gv,0,none⟩),.map (some g)] W fun e w'=>e= .returned (.tuple #[])∧At w0 (.b gv (row (vdc (.iface 113 (.map (some g))) ad (.pointer (some ⟨gs,0,none⟩)) (.pointer (some ⟨gc,0,none⟩)) up nilS) 182)::l) w')))):
  Calls Tryz.prog 99 #[.pointer (some ⟨gv,0,none⟩)] w fun e w'=>(e= .returned (.tuple #[up,.nilIface])∧(∃ j,j < ne∧qs j=true)∧At w0 (.b gv (row (vdc (vv) ad (.pointer (some ⟨gs,0,none⟩)) (.pointer (some ⟨gc,0,none⟩)) up nilS) 182):: .b gc (row (#[.pointer (some ⟨gs,0,none⟩),eS,i0,nP]) 178)::l) w')∨((∀ j,j < ne→qs j=false)∧∃ ge gki Ae ce Y,e= .returned (.tuple #[nP,.iface 76 (.pointer (some ⟨ge,0,none⟩))])∧At w0 (.b ge (row (vec loc Ae ce (.iface 286 (.pointer (some ⟨gki,0,none⟩))) nilS) 129)::Y) w'):=by
 have HT:=asd_ hT
 have HKI:=asd_ hKI
 have HE:=asd_ hE
 have Hend:=asd_ hend
 clear hT hKI hE hend
 have hd0:(ty == 0)=false:=by simpa using hty
 have hm:=cells_one hvv;unfold Value.cells at hm;have Hvv:=asd_ hvv;clear hvv
 have Hne:=asd_ hne;have Hcell:=asd_ hcell;clear hne hcell
 have HK:=asd_ H
 clear H
 replace Bc:=ce2_ HK 1 0;replace Bf:=fe1_ HK 0;have bgs:=cel_ (blk_below hS HK.out.b);have bge0:=cel_ (blk_below hge0 HK.out.b)
 have Ggv:=asd_ hgv
 clear hgv
 go_enter Tryz.func99,Tryz.ntmps99
 go_wp2_with (first|((first|((with_reducible refine gd_ 55 ?_);refine cl_ #[.pointer (some ⟨gc,0,none⟩)] (nP) Tryz.func137 (cycle_none _ gc gs (HK.out.k.2.1)) ?_)|((with_reducible refine gd_ 76 ?_);refine cl_ #[vv] (.int .i64 ty) Tryz.func139 (HT.out _) ?_));intro wc55 HK1;replace HK:=asd_ HK1;clear HK1;clear bgs bge0;replace Bc:=ce2_ HK 1 0;replace Bf:=fe1_ HK 0;have bgs:=cel_ (blk_below hS HK.out.b);have bge0:=cel_ (blk_below hge0 HK.out.b)))
 refine st_ 11 (fun w'=>At w0 (.b gv (row (vdc (vv) ad (.pointer (some ⟨gs,0,none⟩)) (.pointer (some ⟨gc,0,none⟩)) up nilS) 182):: .b gc (row (#[.pointer (some ⟨gs,0,none⟩),eS,i0,nP]) 178)::l) w'∧(∀ j,w'.cell? ⟨gc,j,none⟩=(#[.pointer (some ⟨gs,0,none⟩),eS,i0,nP]:Array Value)[j]?)∧(∀ j,w'.cell? ⟨gv,j,none⟩=(vdc (vv) ad (.pointer (some ⟨gs,0,none⟩)) (.pointer (some ⟨gc,0,none⟩)) up nilS:Array Value)[j]?)∧(∀ j,w'.cell? ⟨gs,j,none⟩=(Sc.cells ⟨2020,loc,nP,.pointer (some ⟨ge0,0,none⟩),nP,nP,req,props,pats,deps,dreq,dsch,.nilIface⟩:Array Value)[j]?)∧(∀ j,w'.cell? ⟨ge0,j,none⟩=(#[.slice AE ne cE,.int .i64 ks]:Array Value)[j]?)) [] (fun A=>⟨A,(cA_ A 1),(cA_ A 0),(cel_ (blk_below hS A.b)),(cel_ (blk_below hge0 A.b))⟩) (fun hHeld=> ?_)
 refine pu_ 0 168 1 ?_
 refine pu_ 1 169 3 ?_
 refine pu_ 2 170 7 ?_
 refine pu_ 7 175 135 ?_
 refine ta5_ 3 171 143 hHeld ?_
 refine pu_ 4 172 159 ?_
 refine pu_ 5 173 191 ?_
 refine ta5_ 6 174 255 hHeld ?_
 refine on_ 8 176 511 (fun K hK=> ?_)
 have HE:=asd_ (hHeld.1)
 refine ge_ Tryz.func139 #[vv] ?_
 with_reducible refine (HT.out _).mono ?_
 rintro e w3 ⟨rfl,hb⟩
 refine ⟨_,rfl,?_⟩
 replace HE:=asd_ (At.step HE.out hb)
 refine hK.out _ _ ⟨HE.out,(cE_ HE 1),(cE_ HE 0),(cel_ (blk_below hS HE.out.b)),(cel_ (blk_below hge0 HE.out.b))⟩ (fun hHeld=> ?_)
 clear hK K
 refine nq_ 176 ?_
 refine on_ 9 177 1023 (fun K hK=> ?_)
 refine ge_ Tryz.func141 #[.int .i64 ks,.int .i64 ty] ?_
 with_reducible refine (HKI.out _ HE.out.b).mono ?_
 rintro e w3 ⟨rfl,hb⟩
 refine ⟨_,rfl,?_⟩
 replace HE:=asd_ (At.step HE.out hb)
 refine hK.out _ _ ⟨HE.out,(cE_ HE 1),(cE_ HE 0),(cel_ (blk_below hS HE.out.b)),(cel_ (blk_below hge0 HE.out.b))⟩ (fun hHeld=> ?_)
 clear hK K
 refine nq_ 177 ?_
 refine pu_ 10 11 2047 ?_
 refine done_ kr_ ?_
 clear HK;have HK:=HE;clear HE
 clear hHeld
 clear bgs bge0
 replace Bc:=ce2_ HK 1 0
 replace Bf:=fe1_ HK 0
 have bgs:=cel_ (blk_below hS HK.out.b)
 have bge0:=cel_ (blk_below hge0 HK.out.b)
 go_wp2_with fail
 go_loopg [11,187] ne (fun kq v11 v187 w'=>v11= .bool false∧∃ i:Int,v187= .int .i64 i∧0≤i∧i + kq=ne∧Aside0 (∀ j:Nat,(j:Int) < i→qs j=false)∧Aside0 (At w0 (.b gv (row (vdc (vv) ad (.pointer (some ⟨gs,0,none⟩)) (.pointer (some ⟨gc,0,none⟩)) up nilS) 182):: .b gc (row (#[.pointer (some ⟨gs,0,none⟩),eS,i0,nP]) 178)::l) w'))
 case atStart=>exact ⟨rfl,0,rfl,by omega,by omega,⟨fun j hj=>absurd hj (by omega)⟩,⟨at_⟩⟩
 case round=>
  clear HK bgs bge0
  obtain ⟨rfl,i,rfl,hi0,hik,HP,HK⟩:=hrel
  replace Bc:=ce2_ HK 1 0;replace Bf:=fe1_ HK 0;have bgs:=cel_ (blk_below hS HK.out.b);have bge0:=cel_ (blk_below hge0 HK.out.b)
  cases gk with
  |zero=>
   have ht:decide (i < (ne:Int))=false:=decide_eq_false (by omega)
   go_wp2_with (first|((with_reducible refine gd_ 217 ?_);refine bx_ #[vv,.slice AE ne cE] 288 ?_;clear HK bgs bge0;intro gki wb217 HK Ggki;replace Bc:=ce3_ HK 2 1 0;replace Bf:=fe1_ HK 1;have bgs:=cel_ (blk_below hS HK.out.b);have bge0:=cel_ (blk_below hge0 HK.out.b))|((with_reducible refine gd_ 219 ?_);refine cw_ #[.pointer (some ⟨gv,0,none⟩),.iface 286 (.pointer (some ⟨gki,0,none⟩))] Tryz.func136 (error_form (error_ok _ gv gs gki 286 (vv) ad (.pointer (some ⟨gc,0,none⟩)) up ⟨2020,loc,nP,.pointer (some ⟨ge0,0,none⟩),nP,nP,req,props,pats,deps,dreq,dsch,.nilIface⟩ (HK.out.k.2.1) (blk_below hS HK.out.b))) ?_;rintro v219 wc219 HK0 ⟨ge,Ae,ce,rfl,hge,hgn⟩ hB;have HK1:=At.came at_ hB hge hgn;clear HK0 hge hgn hB;replace HK:=asd_ HK1;clear HK1;clear bgs bge0;replace Bc:=ce3_ HK 3 2 1;replace Bf:=fe1_ HK 2;have bgs:=cel_ (blk_below hS HK.out.b);have bge0:=cel_ (blk_below hge0 HK.out.b)))
   go_ret2
   exact Or.inr ⟨fun j hj=>HP.out j (by omega),ge,rfl,gki,Ae,ce,_,HK.out⟩
  |succ kk=>
   have ht:decide (i < (ne:Int))=true:=decide_eq_true (by omega)
   have hil:i < (ne:Int):=by omega
   have hin:i.toNat < ne:=by omega
   obtain ⟨ad0,e1,hc1⟩:=Hcell.out i.toNat hin
   subst e1
   have q1:=(HK.out.b.cell (World.block_lt_of_cell? w0 _ hc1)).trans hc1
   have Hik:=asd_ hik;have Hi0:=asd_ hi0;have Hil:=asd_ hil;have Hin:=asd_ hin
   have p1:=eq_true hi0;have p2:=eq_true hil
   clear hik hi0 hil hin hc1
   cases hq:qs i.toNat
   case true=>
    have Hq:=asd_ hq;clear hq
    rcases Hend.out ⟨_,Hin.out,Hq.out⟩ with rfl|⟨b,rfl⟩|⟨t,rfl⟩|⟨A,n,c,rfl⟩|⟨g,rfl,hO⟩
    ·go_wp2_with (first|((first|((with_reducible refine gd_ 194 ?_);refine cl_ #[.nilIface,vs.getD i.toNat .nilIface] (.tuple #[.bool true,.nilIface]) Tryz.func144 ((by have h:=HE.out _ Hin.out _ HK.out.b;rw [Hq.out] at h;exact h)) ?_)|((with_reducible refine gd_ 311 ?_);refine cl_ #[.pointer (some ⟨gv,0,none⟩)] (.tuple #[]) Tryz.func150 (cond_quiet_g _ gv gs (.nilIface) ad (.pointer (some ⟨gc,0,none⟩)) up nilS ⟨2020,loc,nP,.pointer (some ⟨ge0,0,none⟩),nP,nP,req,props,pats,deps,dreq,dsch,.nilIface⟩ (HK.out.k.1) (blk_below hS HK.out.b)) ?_)|((with_reducible refine gd_ 318 ?_);refine cl_ #[.pointer (some ⟨gv,0,none⟩)] (.tuple #[]) Tryz.func151 (uneval_null_g _ gv gs ad (.pointer (some ⟨gc,0,none⟩)) up nilS ⟨2020,loc,nP,.pointer (some ⟨ge0,0,none⟩),nP,nP,req,props,pats,deps,dreq,dsch,.nilIface⟩ (HK.out.k.1) (blk_below hS HK.out.b)) ?_));intro wc194 HK1;replace HK:=asd_ HK1;clear HK1;clear bgs bge0;replace Bc:=ce2_ HK 1 0;replace Bf:=fe1_ HK 0;have bgs:=cel_ (blk_below hS HK.out.b);have bge0:=cel_ (blk_below hge0 HK.out.b)))
     go_ret2
     exact Or.inl ⟨rfl,⟨_,Hin.out,Hq.out⟩,HK.out⟩
    ·go_wp2_with (first|((first|((with_reducible refine gd_ 194 ?_);refine cl_ #[.iface 4 (.bool b),vs.getD i.toNat .nilIface] (.tuple #[.bool true,.nilIface]) Tryz.func144 ((by have h:=HE.out _ Hin.out _ HK.out.b;rw [Hq.out] at h;exact h)) ?_)|((with_reducible refine gd_ 311 ?_);refine cl_ #[.pointer (some ⟨gv,0,none⟩)] (.tuple #[]) Tryz.func150 (cond_quiet_g _ gv gs (.iface 4 (.bool b)) ad (.pointer (some ⟨gc,0,none⟩)) up nilS ⟨2020,loc,nP,.pointer (some ⟨ge0,0,none⟩),nP,nP,req,props,pats,deps,dreq,dsch,.nilIface⟩ (HK.out.k.1) (blk_below hS HK.out.b)) ?_)|((with_reducible refine gd_ 318 ?_);refine cl_ #[.pointer (some ⟨gv,0,none⟩)] (.tuple #[]) Tryz.func151 (uneval_bool_g _ gv gs b ad (.pointer (some ⟨gc,0,none⟩)) up nilS ⟨2020,loc,nP,.pointer (some ⟨ge0,0,none⟩),nP,nP,req,props,pats,deps,dreq,dsch,.nilIface⟩ (HK.out.k.1) (blk_below hS HK.out.b)) ?_));intro wc194 HK1;replace HK:=asd_ HK1;clear HK1;clear bgs bge0;replace Bc:=ce2_ HK 1 0;replace Bf:=fe1_ HK 0;have bgs:=cel_ (blk_below hS HK.out.b);have bge0:=cel_ (blk_below hge0 HK.out.b)))
     go_ret2
     exact Or.inl ⟨rfl,⟨_,Hin.out,Hq.out⟩,HK.out⟩
    ·go_wp2_with (first|((first|((with_reducible refine gd_ 194 ?_);refine cl_ #[.iface 9 (.string t),vs.getD i.toNat .nilIface] (.tuple #[.bool true,.nilIface]) Tryz.func144 ((by have h:=HE.out _ Hin.out _ HK.out.b;rw [Hq.out] at h;exact h)) ?_)|((with_reducible refine gd_ 296 ?_);refine cl_ #[.pointer (some ⟨gv,0,none⟩),.string t] (.tuple #[]) Tryz.func149 (str_quiet _ gv gs (.iface 9 (.string t)) ad (.pointer (some ⟨gc,0,none⟩)) up nilS ⟨2020,loc,nP,.pointer (some ⟨ge0,0,none⟩),nP,nP,req,props,pats,deps,dreq,dsch,.nilIface⟩ (HK.out.k.1) (blk_below hS HK.out.b) t) ?_)|((with_reducible refine gd_ 311 ?_);refine cl_ #[.pointer (some ⟨gv,0,none⟩)] (.tuple #[]) Tryz.func150 (cond_quiet_g _ gv gs (.iface 9 (.string t)) ad (.pointer (some ⟨gc,0,none⟩)) up nilS ⟨2020,loc,nP,.pointer (some ⟨ge0,0,none⟩),nP,nP,req,props,pats,deps,dreq,dsch,.nilIface⟩ (HK.out.k.1) (blk_below hS HK.out.b)) ?_)|((with_reducible refine gd_ 318 ?_);refine cl_ #[.pointer (some ⟨gv,0,none⟩)] (.tuple #[]) Tryz.func151 (uneval_text_g _ gv gs t ad (.pointer (some ⟨gc,0,none⟩)) up nilS ⟨2020,loc,nP,.pointer (some ⟨ge0,0,none⟩),nP,nP,req,props,pats,deps,dreq,dsch,.nilIface⟩ (HK.out.k.1) (blk_below hS HK.out.b)) ?_));intro wc194 HK1;replace HK:=asd_ HK1;clear HK1;clear bgs bge0;replace Bc:=ce2_ HK 1 0;replace Bf:=fe1_ HK 0;have bgs:=cel_ (blk_below hS HK.out.b);have bge0:=cel_ (blk_below hge0 HK.out.b)))
     go_ret2
     exact Or.inl ⟨rfl,⟨_,Hin.out,Hq.out⟩,HK.out⟩
    ·go_wp2_with (first|((first|((with_reducible refine gd_ 194 ?_);refine cl_ #[.iface 117 (.slice A n c),vs.getD i.toNat .nilIface] (.tuple #[.bool true,.nilIface]) Tryz.func144 ((by have h:=HE.out _ Hin.out _ HK.out.b;rw [Hq.out] at h;exact h)) ?_)|((with_reducible refine gd_ 290 ?_);refine cl_ #[.pointer (some ⟨gv,0,none⟩),.slice A n c] (.tuple #[]) Tryz.func148 (arr_quiet_g _ gv gs (.iface 117 (.slice A n c)) ad (.pointer (some ⟨gc,0,none⟩)) up nilS ⟨2020,loc,nP,.pointer (some ⟨ge0,0,none⟩),nP,nP,req,props,pats,deps,dreq,dsch,.nilIface⟩ (HK.out.k.1) (blk_below hS HK.out.b) A n c) ?_)|((with_reducible refine gd_ 311 ?_);refine cl_ #[.pointer (some ⟨gv,0,none⟩)] (.tuple #[]) Tryz.func150 (cond_quiet_g _ gv gs (.iface 117 (.slice A n c)) ad (.pointer (some ⟨gc,0,none⟩)) up nilS ⟨2020,loc,nP,.pointer (some ⟨ge0,0,none⟩),nP,nP,req,props,pats,deps,dreq,dsch,.nilIface⟩ (HK.out.k.1) (blk_below hS HK.out.b)) ?_)|((with_reducible refine gd_ 318 ?_);refine cl_ #[.pointer (some ⟨gv,0,none⟩)] (.tuple #[]) Tryz.func151 (uneval_array_g _ gv gs A n c ad (.pointer (some ⟨gc,0,none⟩)) up nilS ⟨2020,loc,nP,.pointer (some ⟨ge0,0,none⟩),nP,nP,req,props,pats,deps,dreq,dsch,.nilIface⟩ (HK.out.k.1) (blk_below hS HK.out.b)) ?_));intro wc194 HK1;replace HK:=asd_ HK1;clear HK1;clear bgs bge0;replace Bc:=ce2_ HK 1 0;replace Bf:=fe1_ HK 0;have bgs:=cel_ (blk_below hS HK.out.b);have bge0:=cel_ (blk_below hge0 HK.out.b)))
     go_ret2
     exact Or.inl ⟨rfl,⟨_,Hin.out,Hq.out⟩,HK.out⟩
    ·have HO:=asd_ hO;clear hO
     go_wp2_with (first|((first|((with_reducible refine gd_ 194 ?_);refine cl_ #[.iface 113 (.map (some g)),vs.getD i.toNat .nilIface] (.tuple #[.bool true,.nilIface]) Tryz.func144 ((by have h:=HE.out _ Hin.out _ HK.out.b;rw [Hq.out] at h;exact h)) ?_)|((with_reducible refine gd_ 284 ?_);refine call_to #[.pointer (some ⟨gv,0,none⟩),.map (some g)] (.tuple #[]) _ rfl Tryz.func147 kr_ rfl rfl ar_ (HO.out _ _ HK.out) ?_)|((with_reducible refine gd_ 311 ?_);refine cl_ #[.pointer (some ⟨gv,0,none⟩)] (.tuple #[]) Tryz.func150 (cond_quiet_g _ gv gs (.iface 113 (.map (some g))) ad (.pointer (some ⟨gc,0,none⟩)) up nilS ⟨2020,loc,nP,.pointer (some ⟨ge0,0,none⟩),nP,nP,req,props,pats,deps,dreq,dsch,.nilIface⟩ (HK.out.k.1) (blk_below hS HK.out.b)) ?_)|((with_reducible refine gd_ 318 ?_);refine cl_ #[.pointer (some ⟨gv,0,none⟩)] (.tuple #[]) Tryz.func151 (uneval_object_g _ gv gs g ad (.pointer (some ⟨gc,0,none⟩)) up nilS ⟨2020,loc,nP,.pointer (some ⟨ge0,0,none⟩),nP,nP,req,props,pats,deps,dreq,dsch,.nilIface⟩ (HK.out.k.1) (blk_below hS HK.out.b)) ?_));intro wc194 HK1;replace HK:=asd_ HK1;clear HK1;clear bgs bge0;replace Bc:=ce2_ HK 1 0;replace Bf:=fe1_ HK 0;have bgs:=cel_ (blk_below hS HK.out.b);have bge0:=cel_ (blk_below hge0 HK.out.b)))
     go_ret2
     exact Or.inl ⟨rfl,⟨_,Hin.out,Hq.out⟩,HK.out⟩
   case false=>
    have Hq:=asd_ hq;clear hq
    go_wp2_with (first|((with_reducible refine gd_ 194 ?_);refine cl_ #[vv,vs.getD i.toNat .nilIface] (.tuple #[.bool false,.nilIface]) Tryz.func144 ((by have h:=HE.out _ Hin.out _ HK.out.b;rw [Hq.out] at h;exact h)) ?_;intro wc194 HK1;replace HK:=asd_ HK1;clear HK1;clear bgs bge0;replace Bc:=ce2_ HK 1 0;replace Bf:=fe1_ HK 0;have bgs:=cel_ (blk_below hS HK.out.b);have bge0:=cel_ (blk_below hge0 HK.out.b)))
    go_roundg kk
    case measure=>exact Nat.lt_succ_self _
    case rel=>
     have e1:wrap64 (i + 1)=i + 1:=wup Hi0.out Hil.out Hne.out
     refine ⟨rfl,wrap64 (i + 1),rfl,by have:=Hi0.out;rw [e1];omega,by have:=Hik.out;rw [e1];omega,⟨fun j hj=> ?_⟩,⟨at_⟩⟩
     rw [e1] at hj
     by_cases hji:(j:Int) < i
     ·exact HP.out j hji
     ·have:j=i.toNat:=by have:=Hi0.out;omega
      subst this
      exact Hq.out
theorem val_e_null (w w0:World) (l:List Blk) (gv gs gc:Nat) (ad:Addr) (up:Value) (loc:ByteArray) (req props pats deps dreq dsch:Value) (ge0:Nat) (AE:Option Addr) (ne cE:Nat) (ks:Int) (vs:List Value) (hne:ne≤LM) (hge0:w0.heap[ge0]? =some (row #[.slice AE ne cE,.int .i64 ks] 285)) (hcell:∀ i,i < ne→∃ ad,AE=some ad∧w0.cell? (ad.add i)=some (vs.getD i .nilIface)) (H:At w0 (.b gv (row (vdc (.nilIface) ad (.pointer (some ⟨gs,0,none⟩)) (.pointer (some ⟨gc,0,none⟩)) up nilS) 182):: .b gc (row (#[.pointer (some ⟨gs,0,none⟩),eS,i0,nP]) 178)::l) w) (hgv:w0.heap.size≤gv) (hS:w0.heap[gs]? =some (row (Sc.cells ⟨2020,loc,nP,.pointer (some ⟨ge0,0,none⟩),nP,nP,req,props,pats,deps,dreq,dsch,.nilIface⟩) 119)) (hKI:∀ W,Below w0.heap.size w0 W→Calls Tryz.prog 141 #[.int .i64 ks,.int .i64 2] W (rb (.bool true) W)) (qs:Nat→Bool) (hE:∀ i,i < ne→∀ W,Below w0.heap.size w0 W→Calls Tryz.prog 144 #[.nilIface,vs.getD i .nilIface] W (rb (.tuple #[.bool (qs i),.nilIface]) W)) (hex:∃ j,j < ne∧qs j=true):
  Calls Tryz.prog 99 #[.pointer (some ⟨gv,0,none⟩)] w fun e w'=>e= .returned (.tuple #[up,.nilIface])∧At w0 (.b gv (row (vdc (.nilIface) ad (.pointer (some ⟨gs,0,none⟩)) (.pointer (some ⟨gc,0,none⟩)) up nilS) 182):: .b gc (row (#[.pointer (some ⟨gs,0,none⟩),eS,i0,nP]) 178)::l) w':=by
 refine (val_e_all (.nilIface) rfl 2 (by decide) w w0 l gv gs gc ad up loc req props pats deps dreq dsch ge0 AE ne cE ks vs hne hge0 hcell H hgv hS (fun W=>type_null W) hKI qs hE (fun _=>Or.inl rfl)).mono ?_
 rintro e w' (⟨he,_,h⟩|⟨hn,_⟩)
 ·exact ⟨he,h⟩
 ·obtain ⟨j,hj,hq⟩:=hex
  rw [hn j hj] at hq
  cases hq
theorem val_e_bool (b:Bool) (w w0:World) (l:List Blk) (gv gs gc:Nat) (ad:Addr) (up:Value) (loc:ByteArray) (req props pats deps dreq dsch:Value) (ge0:Nat) (AE:Option Addr) (ne cE:Nat) (ks:Int) (vs:List Value) (hne:ne≤LM) (hge0:w0.heap[ge0]? =some (row #[.slice AE ne cE,.int .i64 ks] 285)) (hcell:∀ i,i < ne→∃ ad,AE=some ad∧w0.cell? (ad.add i)=some (vs.getD i .nilIface)) (H:At w0 (.b gv (row (vdc (.iface 4 (.bool b)) ad (.pointer (some ⟨gs,0,none⟩)) (.pointer (some ⟨gc,0,none⟩)) up nilS) 182):: .b gc (row (#[.pointer (some ⟨gs,0,none⟩),eS,i0,nP]) 178)::l) w) (hgv:w0.heap.size≤gv) (hS:w0.heap[gs]? =some (row (Sc.cells ⟨2020,loc,nP,.pointer (some ⟨ge0,0,none⟩),nP,nP,req,props,pats,deps,dreq,dsch,.nilIface⟩) 119)) (hKI:∀ W,Below w0.heap.size w0 W→Calls Tryz.prog 141 #[.int .i64 ks,.int .i64 4] W (rb (.bool true) W)) (qs:Nat→Bool) (hE:∀ i,i < ne→∀ W,Below w0.heap.size w0 W→Calls Tryz.prog 144 #[.iface 4 (.bool b),vs.getD i .nilIface] W (rb (.tuple #[.bool (qs i),.nilIface]) W)) (hex:∃ j,j < ne∧qs j=true):
  Calls Tryz.prog 99 #[.pointer (some ⟨gv,0,none⟩)] w fun e w'=>e= .returned (.tuple #[up,.nilIface])∧At w0 (.b gv (row (vdc (.iface 4 (.bool b)) ad (.pointer (some ⟨gs,0,none⟩)) (.pointer (some ⟨gc,0,none⟩)) up nilS) 182):: .b gc (row (#[.pointer (some ⟨gs,0,none⟩),eS,i0,nP]) 178)::l) w':=by
 refine (val_e_all (.iface 4 (.bool b)) rfl 4 (by decide) w w0 l gv gs gc ad up loc req props pats deps dreq dsch ge0 AE ne cE ks vs hne hge0 hcell H hgv hS (fun W=>type_bool W b) hKI qs hE (fun _=>Or.inr (Or.inl ⟨b,rfl⟩))).mono ?_
 rintro e w' (⟨he,_,h⟩|⟨hn,_⟩)
 ·exact ⟨he,h⟩
 ·obtain ⟨j,hj,hq⟩:=hex
  rw [hn j hj] at hq
  cases hq
theorem val_e_text (t:ByteArray) (w w0:World) (l:List Blk) (gv gs gc:Nat) (ad:Addr) (up:Value) (loc:ByteArray) (req props pats deps dreq dsch:Value) (ge0:Nat) (AE:Option Addr) (ne cE:Nat) (ks:Int) (vs:List Value) (hne:ne≤LM) (hge0:w0.heap[ge0]? =some (row #[.slice AE ne cE,.int .i64 ks] 285)) (hcell:∀ i,i < ne→∃ ad,AE=some ad∧w0.cell? (ad.add i)=some (vs.getD i .nilIface)) (H:At w0 (.b gv (row (vdc (.iface 9 (.string t)) ad (.pointer (some ⟨gs,0,none⟩)) (.pointer (some ⟨gc,0,none⟩)) up nilS) 182):: .b gc (row (#[.pointer (some ⟨gs,0,none⟩),eS,i0,nP]) 178)::l) w) (hgv:w0.heap.size≤gv) (hS:w0.heap[gs]? =some (row (Sc.cells ⟨2020,loc,nP,.pointer (some ⟨ge0,0,none⟩),nP,nP,req,props,pats,deps,dreq,dsch,.nilIface⟩) 119)) (hKI:∀ W,Below w0.heap.size w0 W→Calls Tryz.prog 141 #[.int .i64 ks,.int .i64 32] W (rb (.bool true) W)) (qs:Nat→Bool) (hE:∀ i,i < ne→∀ W,Below w0.heap.size w0 W→Calls Tryz.prog 144 #[.iface 9 (.string t),vs.getD i .nilIface] W (rb (.tuple #[.bool (qs i),.nilIface]) W)) (hex:∃ j,j < ne∧qs j=true):
  Calls Tryz.prog 99 #[.pointer (some ⟨gv,0,none⟩)] w fun e w'=>e= .returned (.tuple #[up,.nilIface])∧At w0 (.b gv (row (vdc (.iface 9 (.string t)) ad (.pointer (some ⟨gs,0,none⟩)) (.pointer (some ⟨gc,0,none⟩)) up nilS) 182):: .b gc (row (#[.pointer (some ⟨gs,0,none⟩),eS,i0,nP]) 178)::l) w':=by
 refine (val_e_all (.iface 9 (.string t)) rfl 32 (by decide) w w0 l gv gs gc ad up loc req props pats deps dreq dsch ge0 AE ne cE ks vs hne hge0 hcell H hgv hS (fun W=>type_text W t) hKI qs hE (fun _=>Or.inr (Or.inr (Or.inl ⟨t,rfl⟩)))).mono ?_
 rintro e w' (⟨he,_,h⟩|⟨hn,_⟩)
 ·exact ⟨he,h⟩
 ·obtain ⟨j,hj,hq⟩:=hex
  rw [hn j hj] at hq
  cases hq
theorem val_e_array (A:Option Addr) (n c:Nat) (w w0:World) (l:List Blk) (gv gs gc:Nat) (ad:Addr) (up:Value) (loc:ByteArray) (req props pats deps dreq dsch:Value) (ge0:Nat) (AE:Option Addr) (ne cE:Nat) (ks:Int) (vs:List Value) (hne:ne≤LM) (hge0:w0.heap[ge0]? =some (row #[.slice AE ne cE,.int .i64 ks] 285)) (hcell:∀ i,i < ne→∃ ad,AE=some ad∧w0.cell? (ad.add i)=some (vs.getD i .nilIface)) (H:At w0 (.b gv (row (vdc (.iface 117 (.slice A n c)) ad (.pointer (some ⟨gs,0,none⟩)) (.pointer (some ⟨gc,0,none⟩)) up nilS) 182):: .b gc (row (#[.pointer (some ⟨gs,0,none⟩),eS,i0,nP]) 178)::l) w) (hgv:w0.heap.size≤gv) (hS:w0.heap[gs]? =some (row (Sc.cells ⟨2020,loc,nP,.pointer (some ⟨ge0,0,none⟩),nP,nP,req,props,pats,deps,dreq,dsch,.nilIface⟩) 119)) (hKI:∀ W,Below w0.heap.size w0 W→Calls Tryz.prog 141 #[.int .i64 ks,.int .i64 64] W (rb (.bool true) W)) (qs:Nat→Bool) (hE:∀ i,i < ne→∀ W,Below w0.heap.size w0 W→Calls Tryz.prog 144 #[.iface 117 (.slice A n c),vs.getD i .nilIface] W (rb (.tuple #[.bool (qs i),.nilIface]) W)) (hex:∃ j,j < ne∧qs j=true):
  Calls Tryz.prog 99 #[.pointer (some ⟨gv,0,none⟩)] w fun e w'=>e= .returned (.tuple #[up,.nilIface])∧At w0 (.b gv (row (vdc (.iface 117 (.slice A n c)) ad (.pointer (some ⟨gs,0,none⟩)) (.pointer (some ⟨gc,0,none⟩)) up nilS) 182):: .b gc (row (#[.pointer (some ⟨gs,0,none⟩),eS,i0,nP]) 178)::l) w':=by
 refine (val_e_all (.iface 117 (.slice A n c)) rfl 64 (by decide) w w0 l gv gs gc ad up loc req props pats deps dreq dsch ge0 AE ne cE ks vs hne hge0 hcell H hgv hS (fun W=>type_array W A n c) hKI qs hE (fun _=>Or.inr (Or.inr (Or.inr (Or.inl ⟨A,n,c,rfl⟩))))).mono ?_
 rintro e w' (⟨he,_,h⟩|⟨hn,_⟩)
 ·exact ⟨he,h⟩
 ·obtain ⟨j,hj,hq⟩:=hex
  rw [hn j hj] at hq
  cases hq
theorem val_e_object (g:Nat) (w w0:World) (l:List Blk) (gv gs gc:Nat) (ad:Addr) (up:Value) (loc:ByteArray) (req props pats deps dreq dsch:Value) (ge0:Nat) (AE:Option Addr) (ne cE:Nat) (ks:Int) (vs:List Value) (hne:ne≤LM) (hge0:w0.heap[ge0]? =some (row #[.slice AE ne cE,.int .i64 ks] 285)) (hcell:∀ i,i < ne→∃ ad,AE=some ad∧w0.cell? (ad.add i)=some (vs.getD i .nilIface)) (H:At w0 (.b gv (row (vdc (.iface 113 (.map (some g))) ad (.pointer (some ⟨gs,0,none⟩)) (.pointer (some ⟨gc,0,none⟩)) up nilS) 182):: .b gc (row (#[.pointer (some ⟨gs,0,none⟩),eS,i0,nP]) 178)::l) w) (hgv:w0.heap.size≤gv) (hS:w0.heap[gs]? =some (row (Sc.cells ⟨2020,loc,nP,.pointer (some ⟨ge0,0,none⟩),nP,nP,req,props,pats,deps,dreq,dsch,.nilIface⟩) 119)) (hKI:∀ W,Below w0.heap.size w0 W→Calls Tryz.prog 141 #[.int .i64 ks,.int .i64 128] W (rb (.bool true) W)) (qs:Nat→Bool) (hE:∀ i,i < ne→∀ W,Below w0.heap.size w0 W→Calls Tryz.prog 144 #[.iface 113 (.map (some g)),vs.getD i .nilIface] W (rb (.tuple #[.bool (qs i),.nilIface]) W)) (hex:∃ j,j < ne∧qs j=true) (hO:∀ W l,At w0 (.b gv (row (vdc (.iface 113 (.map (some g))) ad (.pointer (some ⟨gs,0,none⟩)) (.pointer (some ⟨gc,0,none⟩)) up nilS) 182)::l) W→Calls Tryz.prog 147 #[.pointer (some ⟨gv,0,none⟩),.map (some g)] W fun e w'=>e= .returned (.tuple #[])∧At w0 (.b gv (row (vdc (.iface 113 (.map (some g))) ad (.pointer (some ⟨gs,0,none⟩)) (.pointer (some ⟨gc,0,none⟩)) up nilS) 182)::l) w'):
  Calls Tryz.prog 99 #[.pointer (some ⟨gv,0,none⟩)] w fun e w'=>e= .returned (.tuple #[up,.nilIface])∧At w0 (.b gv (row (vdc (.iface 113 (.map (some g))) ad (.pointer (some ⟨gs,0,none⟩)) (.pointer (some ⟨gc,0,none⟩)) up nilS) 182):: .b gc (row (#[.pointer (some ⟨gs,0,none⟩),eS,i0,nP]) 178)::l) w':=by
 refine (val_e_all (.iface 113 (.map (some g))) rfl 128 (by decide) w w0 l gv gs gc ad up loc req props pats deps dreq dsch ge0 AE ne cE ks vs hne hge0 hcell H hgv hS (fun W=>type_object W g) hKI qs hE (fun _=>Or.inr (Or.inr (Or.inr (Or.inr ⟨g,rfl,hO⟩))))).mono ?_
 rintro e w' (⟨he,_,h⟩|⟨hn,_⟩)
 ·exact ⟨he,h⟩
 ·obtain ⟨j,hj,hq⟩:=hex
  rw [hn j hj] at hq
  cases hq
theorem val_e_kind (vv:Value) (hvv:vv.oneCell'=true) (ty:Int) (hty:ty≠0) (w w0:World) (l:List Blk) (gv gs gc:Nat) (ad:Addr) (up:Value) (loc:ByteArray) (req props pats deps dreq dsch:Value) (ge0:Nat) (AE:Option Addr) (ne cE:Nat) (ks:Int) (vs:List Value) (hne:ne≤LM) (hge0:w0.heap[ge0]? =some (row #[.slice AE ne cE,.int .i64 ks] 285)) (hcell:∀ i,i < ne→∃ ad,AE=some ad∧w0.cell? (ad.add i)=some (vs.getD i .nilIface)) (H:At w0 (.b gv (row (vdc (vv) ad (.pointer (some ⟨gs,0,none⟩)) (.pointer (some ⟨gc,0,none⟩)) up nilS) 182):: .b gc (row (#[.pointer (some ⟨gs,0,none⟩),eS,i0,nP]) 178)::l) w) (hgv:w0.heap.size≤gv) (hS:w0.heap[gs]? =some (row (Sc.cells ⟨2020,loc,nP,.pointer (some ⟨ge0,0,none⟩),nP,nP,req,props,pats,deps,dreq,dsch,.nilIface⟩) 119)) (hT:∀ W:World,Calls Tryz.prog 139 #[vv] W (rb (.int .i64 ty) W)) (hKI:∀ W,Below w0.heap.size w0 W→Calls Tryz.prog 141 #[.int .i64 ks,.int .i64 ty] W (rb (.bool false) W)):
  Calls Tryz.prog 99 #[.pointer (some ⟨gv,0,none⟩)] w fun e w'=>∃ ge gki Ae ce Y,e= .returned (.tuple #[nP,.iface 76 (.pointer (some ⟨ge,0,none⟩))])∧At w0 (.b ge (row (vec loc Ae ce (.iface 286 (.pointer (some ⟨gki,0,none⟩))) nilS) 129)::Y) w':=by
 have HT:=asd_ hT
 have HKI:=asd_ hKI
 clear hT hKI
 have hd0:(ty == 0)=false:=by simpa using hty
 have hm:=cells_one hvv;unfold Value.cells at hm;have Hvv:=asd_ hvv;clear hvv
 have Hne:=asd_ hne;have Hcell:=asd_ hcell;clear hne hcell
 have HK:=asd_ H
 clear H
 replace Bc:=ce2_ HK 1 0;replace Bf:=fe1_ HK 0;have bgs:=cel_ (blk_below hS HK.out.b);have bge0:=cel_ (blk_below hge0 HK.out.b)
 have Ggv:=asd_ hgv
 clear hgv
 go_enter Tryz.func99,Tryz.ntmps99
 go_wp2_with (first|((first|((with_reducible refine gd_ 55 ?_);refine cl_ #[.pointer (some ⟨gc,0,none⟩)] (nP) Tryz.func137 (cycle_none _ gc gs (HK.out.k.2.1)) ?_)|((with_reducible refine gd_ 76 ?_);refine cl_ #[vv] (.int .i64 ty) Tryz.func139 (HT.out _) ?_));intro wc55 HK1;replace HK:=asd_ HK1;clear HK1;clear bgs bge0;replace Bc:=ce2_ HK 1 0;replace Bf:=fe1_ HK 0;have bgs:=cel_ (blk_below hS HK.out.b);have bge0:=cel_ (blk_below hge0 HK.out.b)))
 refine st_ 11 (fun w'=>At w0 (.b gv (row (vdc (vv) ad (.pointer (some ⟨gs,0,none⟩)) (.pointer (some ⟨gc,0,none⟩)) up nilS) 182):: .b gc (row (#[.pointer (some ⟨gs,0,none⟩),eS,i0,nP]) 178)::l) w'∧(∀ j,w'.cell? ⟨gc,j,none⟩=(#[.pointer (some ⟨gs,0,none⟩),eS,i0,nP]:Array Value)[j]?)∧(∀ j,w'.cell? ⟨gv,j,none⟩=(vdc (vv) ad (.pointer (some ⟨gs,0,none⟩)) (.pointer (some ⟨gc,0,none⟩)) up nilS:Array Value)[j]?)∧(∀ j,w'.cell? ⟨gs,j,none⟩=(Sc.cells ⟨2020,loc,nP,.pointer (some ⟨ge0,0,none⟩),nP,nP,req,props,pats,deps,dreq,dsch,.nilIface⟩:Array Value)[j]?)∧(∀ j,w'.cell? ⟨ge0,j,none⟩=(#[.slice AE ne cE,.int .i64 ks]:Array Value)[j]?)) [] (fun A=>⟨A,(cA_ A 1),(cA_ A 0),(cel_ (blk_below hS A.b)),(cel_ (blk_below hge0 A.b))⟩) (fun hHeld=> ?_)
 refine pu_ 0 168 1 ?_
 refine pu_ 1 169 3 ?_
 refine pu_ 2 170 7 ?_
 refine pu_ 7 175 135 ?_
 refine ta5_ 3 171 143 hHeld ?_
 refine pu_ 4 172 159 ?_
 refine pu_ 5 173 191 ?_
 refine ta5_ 6 174 255 hHeld ?_
 refine on_ 8 176 511 (fun K hK=> ?_)
 have HE:=asd_ (hHeld.1)
 refine ge_ Tryz.func139 #[vv] ?_
 with_reducible refine (HT.out _).mono ?_
 rintro e w3 ⟨rfl,hb⟩
 refine ⟨_,rfl,?_⟩
 replace HE:=asd_ (At.step HE.out hb)
 refine hK.out _ _ ⟨HE.out,(cE_ HE 1),(cE_ HE 0),(cel_ (blk_below hS HE.out.b)),(cel_ (blk_below hge0 HE.out.b))⟩ (fun hHeld=> ?_)
 clear hK K
 refine nq_ 176 ?_
 refine on_ 9 177 1023 (fun K hK=> ?_)
 refine ge_ Tryz.func141 #[.int .i64 ks,.int .i64 ty] ?_
 with_reducible refine (HKI.out _ HE.out.b).mono ?_
 rintro e w3 ⟨rfl,hb⟩
 refine ⟨_,rfl,?_⟩
 replace HE:=asd_ (At.step HE.out hb)
 refine hK.out _ _ ⟨HE.out,(cE_ HE 1),(cE_ HE 0),(cel_ (blk_below hS HE.out.b)),(cel_ (blk_below hge0 HE.out.b))⟩ (fun hHeld=> ?_)
 clear hK K
 refine nq_ 177 ?_
 refine pu_ 10 11 2047 ?_
 refine done_ kr_ ?_
 clear HK;have HK:=HE;clear HE
 clear hHeld
 clear bgs bge0
 replace Bc:=ce2_ HK 1 0
 replace Bf:=fe1_ HK 0
 have bgs:=cel_ (blk_below hS HK.out.b)
 have bge0:=cel_ (blk_below hge0 HK.out.b)
 go_wp2_with (first|((with_reducible refine gd_ 217 ?_);refine bx_ #[vv,.slice AE ne cE] 288 ?_;clear HK bgs bge0;intro gki wb217 HK Ggki;replace Bc:=ce3_ HK 2 1 0;replace Bf:=fe1_ HK 1;have bgs:=cel_ (blk_below hS HK.out.b);have bge0:=cel_ (blk_below hge0 HK.out.b))|((with_reducible refine gd_ 219 ?_);refine cw_ #[.pointer (some ⟨gv,0,none⟩),.iface 286 (.pointer (some ⟨gki,0,none⟩))] Tryz.func136 (error_form (error_ok _ gv gs gki 286 (vv) ad (.pointer (some ⟨gc,0,none⟩)) up ⟨2020,loc,nP,.pointer (some ⟨ge0,0,none⟩),nP,nP,req,props,pats,deps,dreq,dsch,.nilIface⟩ (HK.out.k.2.1) (blk_below hS HK.out.b))) ?_;rintro v219 wc219 HK0 ⟨ge,Ae,ce,rfl,hge,hgn⟩ hB;have HK1:=At.came at_ hB hge hgn;clear HK0 hge hgn hB;replace HK:=asd_ HK1;clear HK1;clear bgs bge0;replace Bc:=ce3_ HK 3 2 1;replace Bf:=fe1_ HK 2;have bgs:=cel_ (blk_below hS HK.out.b);have bge0:=cel_ (blk_below hge0 HK.out.b)))
 go_ret2
 exact ⟨ge,rfl,gki,Ae,ce,_,HK.out⟩
theorem val_e_none (vv:Value) (hvv:vv.oneCell'=true) (ty:Int) (hty:ty≠0) (w w0:World) (l:List Blk) (gv gs gc:Nat) (ad:Addr) (up:Value) (loc:ByteArray) (req props pats deps dreq dsch:Value) (ge0:Nat) (AE:Option Addr) (ne cE:Nat) (ks:Int) (vs:List Value) (hne:ne≤LM) (hge0:w0.heap[ge0]? =some (row #[.slice AE ne cE,.int .i64 ks] 285)) (hcell:∀ i,i < ne→∃ ad,AE=some ad∧w0.cell? (ad.add i)=some (vs.getD i .nilIface)) (H:At w0 (.b gv (row (vdc (vv) ad (.pointer (some ⟨gs,0,none⟩)) (.pointer (some ⟨gc,0,none⟩)) up nilS) 182):: .b gc (row (#[.pointer (some ⟨gs,0,none⟩),eS,i0,nP]) 178)::l) w) (hgv:w0.heap.size≤gv) (hS:w0.heap[gs]? =some (row (Sc.cells ⟨2020,loc,nP,.pointer (some ⟨ge0,0,none⟩),nP,nP,req,props,pats,deps,dreq,dsch,.nilIface⟩) 119)) (hT:∀ W:World,Calls Tryz.prog 139 #[vv] W (rb (.int .i64 ty) W)) (hKI:∀ W,Below w0.heap.size w0 W→Calls Tryz.prog 141 #[.int .i64 ks,.int .i64 ty] W (rb (.bool true) W)) (qs:Nat→Bool) (hE:∀ i,i < ne→∀ W,Below w0.heap.size w0 W→Calls Tryz.prog 144 #[vv,vs.getD i .nilIface] W (rb (.tuple #[.bool (qs i),.nilIface]) W)) (hall:∀ j,j < ne→qs j=false):
  Calls Tryz.prog 99 #[.pointer (some ⟨gv,0,none⟩)] w fun e w'=>∃ ge gki Ae ce Y,e= .returned (.tuple #[nP,.iface 76 (.pointer (some ⟨ge,0,none⟩))])∧At w0 (.b ge (row (vec loc Ae ce (.iface 286 (.pointer (some ⟨gki,0,none⟩))) nilS) 129)::Y) w':=by
 refine (val_e_all vv hvv ty hty w w0 l gv gs gc ad up loc req props pats deps dreq dsch ge0 AE ne cE ks vs hne hge0 hcell H hgv hS hT hKI qs hE (fun ⟨j,hj,hq⟩=>by rw [hall j hj] at hq;cases hq)).mono ?_
 rintro e w' (⟨_,⟨j,hj,hq⟩,_⟩|⟨_,h⟩)
 ·rw [hall j hj] at hq
  cases hq
 ·exact h
end Go.Proofs.YtkphbhncpdcbeaaGreatDoor.J
namespace Go.Proofs.YtkphbhncpdcbeaaGreatDoor.J
open Go.RowKit YtkphbhncpdcbeaaGreatDoorW.PrintWords YtkphbhncpdcbeaaGreatDoorW.PrintLast YtkphbhncpdcbeaaGreatDoorW.PrintMore PJT
theorem zero74ES (W:World):(zeroValue 74).run Tryz.prog W= .ok (.pointer none) W:=by kernel_rfl
theorem obj_quiet (w w0:World) (l:List Blk) (gv gs gm gpr gpp gde gdr gds:Nat) (vv:Value) (ad:Addr) (cp up:Value) (loc:ByteArray) (es:Array MapEntry) (ck n:Nat) (keys:List ByteArray) (A2:Option Addr) (c2:Nat) (enum const format pat:Value)
  (H:At w0 (.b gv (row (vdc vv ad (.pointer (some ⟨gs,0,none⟩)) cp up nilS) 182)::l) w) (hgv:w0.heap.size≤gv) (hS:w0.heap[gs]? =some (row (Sc.cells ⟨2020,loc,nP,enum,const,format,.slice A2 0 c2,.map (some gpr),.map (some gpp),.map (some gde),.map (some gdr),.map (some gds),pat⟩) 119)) (hm:w0.heap[gm]? =some (.map es ck)) (hM:MapIs Tryz.prog 9 RT es ck n (mapOf keys))
  (hpr:w0.heap[gpr]? =some (.map #[] 0)) (hpp:w0.heap[gpp]? =some (.map #[] 0)) (hde:w0.heap[gde]? =some (.map #[] 0)) (hds:w0.heap[gds]? =some (.map #[] 0)) (hdr:w0.heap[gdr]? =some (.map #[] 0))
  :
  Calls Tryz.prog 147 #[.pointer (some ⟨gv,0,none⟩),.map (some gm)] w fun e w'=>e= .returned (.tuple #[])∧At w0 (.b gv (row (vdc vv ad (.pointer (some ⟨gs,0,none⟩)) cp up nilS) 182)::l) w':=by
 have HM:=asd_ hM
 have Ggv:=asd_ hgv
 clear hM hgv
 have HK:=asd_ H
 clear H
 replace Bc:=ce1_ HK 0;replace Bf:=fe1_ HK 0;have bgs:=cel_ (blk_below hS HK.out.b)
 go_enter Tryz.func147,Tryz.ntmps147
 go_wp2_with (first|((with_reducible refine gd_ 131 ?_);refine range_any at_ (blk_below hde be_) rfl rfl Tryz.underlying113 rfl ?_;intro r131 wm131 HK1 hr131;have Gr131:=asd_ hr131;clear hr131;replace HK:=asd_ HK1;clear HK1;clear bgs;replace Bc:=ce1_ HK 1;replace Bf:=fe1_ HK 1;have bgs:=cel_ (blk_below hS HK.out.b)))
 refine wp_loop_once ?_
 go_wp2_with (first|((with_reducible refine gd_ 132 ?_);refine next_done at_ (blk_below hde be_) 0 rfl rfl (by simp) (Nat.le_refl _) rfl rfl rfl ?_)|((with_reducible refine gd_ 170 ?_);refine rangeh_at KS at_ (blk_below hm be_) HM.out rfl rfl Tryz.underlying113 rfl ?_;intro r170 since seen c0 wm170 hI HK1 hr170;have Gr170:=asd_ hr170;clear hr170;have HI:=asd_ hI;clear hI;replace HK:=asd_ HK1;clear HK1;clear bgs;replace Bc:=ce1_ HK 2;replace Bf:=fe1_ HK 2;have bgs:=cel_ (blk_below hS HK.out.b)))
 go_frame
 go_loopg [13] (Maps.size (mapOf keys)) (fun kq v13 w'=>v13=nilS∧∃ (since:Nat) (seen:Array Nat) (c0:Nat) (left:Lit→Bool),Aside0 (IterIs Tryz.prog 9 RT es ck since seen c0 left kq)∧Aside0 (At w0 (.b r170 (.mapIter (some gm) since seen c0):: .b r131 (.mapIter (some gde) 0 #[] 0):: .b gv (row (vdc vv ad (.pointer (some ⟨gs,0,none⟩)) cp up nilS) 182)::l) w'))
 case atStart=>exact ⟨rfl,since,seen,c0,_,HI,⟨at_⟩⟩
 case round=>
  clear HK HI bgs
  obtain ⟨rfl,since,seen,c0,left,HI,HK⟩:=hrel
  replace Bc:=ce1_ HK 2;replace Bf:=fe1_ HK 2;have bgs:=cel_ (blk_below hS HK.out.b)
  cases gk with
  |zero=>
   go_wp2_with (first|((with_reducible refine gd_ 171 ?_);refine next_done at_ (blk_below hm be_) 0 rfl HI.out.cnt HI.out.hold HI.out.s1 rfl rfl rfl ?_)|((with_reducible refine gd_ 340 ?_);refine range_any at_ (blk_below hds be_) rfl rfl Tryz.underlying111 rfl ?_;intro r340 wm340 HK1 hr340;have Gr340:=asd_ hr340;clear hr340;replace HK:=asd_ HK1;clear HK1;clear bgs;replace Bc:=ce1_ HK 3;replace Bf:=fe1_ HK 3;have bgs:=cel_ (blk_below hS HK.out.b)))
   refine wp_loop_once ?_
   go_wp2_with (first|((with_reducible refine gd_ 341 ?_);refine next_done at_ (blk_below hds be_) 0 rfl rfl (by simp) (Nat.le_refl _) rfl rfl rfl ?_)|((with_reducible refine gd_ 362 ?_);refine range_any at_ (blk_below hdr be_) rfl rfl Tryz.underlying114 rfl ?_;intro r362 wm362 HK1 hr362;have Gr362:=asd_ hr362;clear hr362;replace HK:=asd_ HK1;clear HK1;clear bgs;replace Bc:=ce1_ HK 4;replace Bf:=fe1_ HK 4;have bgs:=cel_ (blk_below hS HK.out.b)))
   refine wp_loop_once ?_
   go_wp2_with (first|((with_reducible refine gd_ 363 ?_);refine next_done at_ (blk_below hdr be_) 0 rfl rfl (by simp) (Nat.le_refl _) rfl rfl rfl ?_))
   go_end0
   exact ⟨rfl,((At.front 3 (At.front 2 (At.front 1 (At.front 0 HK.out rfl) rfl) rfl) rfl).drop.drop.drop.drop)⟩
  |succ kk=>
   go_wp2_with (first|((with_reducible refine gd_ 171 ?_);refine nexth_more (α:=ByteArray) (β:=Value) KS Value.string id (fun key kl h=>let ⟨s,e,_⟩:=key_inv Tryz.underlying9 h;⟨s,e⟩) (fun v _ _=>⟨v,rfl⟩) at_ (blk_below hm be_) 0 rfl Gr170.out HM.out HI.out rfl rfl rfl ?_;intro pk pv kl since2 seen2 c02 cnt2 wn171 hkey hl2 hI2 hlt HK1 hent;have HI2:=asd_ hI2;have Hlt:=asd_ hlt;have Hkey:=asd_ hkey;clear hI2 hl2 hlt hkey HI;replace HK:=asd_ HK1;clear HK1;clear bgs;replace Bc:=ce1_ HK 2;replace Bf:=fe1_ HK 2;have bgs:=cel_ (blk_below hS HK.out.b))|((with_reducible refine gd_ 194 ?_);refine lookh_at KS (blk_below hpr be_) (map_made _ _ RT) rfl rfl Tryz.underlying111 (zero74ES _) (zd:= .lit (.bool true)) (zp:=[]) rfl rfl rfl Hkey.out false rfl ?_;intro v194)|((with_reducible refine gd_ 209 ?_);refine range_any at_ (blk_below hpp be_) rfl rfl Tryz.underlying112 rfl ?_;intro r209 wm209 HK1 hr209;have Gr209:=asd_ hr209;clear hr209;replace HK:=asd_ HK1;clear HK1;clear bgs;replace Bc:=ce1_ HK 3;replace Bf:=fe1_ HK 3;have bgs:=cel_ (blk_below hS HK.out.b)))
   refine wp_loop_once ?_
   go_wp2_with (first|((with_reducible refine gd_ 210 ?_);refine next_done at_ (blk_below hpp be_) 0 rfl rfl (by simp) (Nat.le_refl _) rfl rfl rfl ?_))
   go_roundg cnt2
   case measure=>exact Hlt.out
   case rel=>
    exact ⟨rfl,since2,seen2,c02,_,HI2,⟨((At.front 0 HK.out rfl).drop)⟩⟩
def Sch_e (l0:List S25) (gs:Nat) (W:World):Prop:=∃ A2 c2 gm gpp gpr gds gdr ge A2e c2e,W.heap[gs]? =some (row (Sc.cells ⟨2020,⟨#[49]⟩,nP,.pointer (some ⟨ge,0,none⟩),nP,nP,.slice A2 0 c2,.map (some gpr),.map (some gpp),.map (some gm),.map (some gdr),.map (some gds),.nilIface⟩) 119)∧W.heap[gpr]? =some (.map #[] 0)∧W.heap[gpp]? =some (.map #[] 0)∧W.heap[gm]? =some (.map #[] 0)∧W.heap[gds]? =some (.map #[] 0)∧W.heap[gdr]? =some (.map #[] 0)∧W.heap[ge]? =some (row #[.slice A2e l0.length c2e,.int .i64 (kinds l0).v] 285)∧RowD W 0 l0 (.slice A2e l0.length c2e)
theorem Sch_e.below (l0:List S25) {gs:Nat} {W W1:World} (h:Sch_e l0 gs W) (hb:Below W.heap.size W W1):Sch_e l0 gs W1:=by
 obtain ⟨A2,c2,gm,gpp,gpr,gds,gdr,ge,A2e,c2e,h1,h2,h3,h4,h5,h6,h7,h8⟩:=h
 exact ⟨A2,c2,gm,gpp,gpr,gds,gdr,ge,A2e,c2e,blk_below h1 hb,blk_below h2 hb,blk_below h3 hb,blk_below h4 hb,blk_below h5 hb,blk_below h6 hb,blk_below h7 hb,h8.grow hb⟩
theorem comp_e (w:World) (gn cS:Nat) {AE:Option Addr} {l0:List S25} {cE:Nat} (he:Kd.C k25 w AE l0.length l0) (hn:l0.length≤LM) (hv:∀ x∈l0,V x) (hS:w.heap[gn]? =some (row (ndE AE l0 cE) 45)):Calls Tryz.prog 27 #[.slice (some ⟨gn,0,none⟩) 1 cS,.int .i64 2020] w fun e w'=>∃ v,e= .returned v∧(∃ gs,v= .pointer (some ⟨gs,0,none⟩)∧Sch_e l0 gs w')∧Below w.heap.size w w':=by
 refine (compiled_e w gn cS he hn hv (by simp [Nd.cells,Value.oneCell']) hS).mono ?_
 rintro e w' ⟨gs,A2,c2,gm,gpp,gpr,gds,gdr,ge,A2e,c2e,rfl,h1,h2,h3,h4,h5,h6,h7,h8,hb⟩
 exact ⟨_,rfl,⟨gs,rfl,A2,c2,gm,gpp,gpr,gds,gdr,ge,A2e,c2e,h1,h2,h3,h4,h5,h6,h7,h8.low (Nat.zero_le _)⟩,hb⟩
theorem quiet_e (l0:List S25) {W0:World} {gs:Nat} {x:S25} {v:Value} (hP:Sch_e l0 gs W0) (hO:OutD W0 (fun _=>True) x v) (hVx:V x) (hn:l0.length≤LM) (hv:∀ x∈l0,V x) (hj:∃ y∈l0,JE x y):
  Calls Tryz.prog 28 #[.pointer (some ⟨gs,0,none⟩),v] W0 (rb .nilIface W0):=by
 obtain ⟨A2,c2,gm,gpp,gpr,gds,gdr,ge,A2e,c2e,h1,h2,h3,h4,h5,h6,h7,h8⟩:=hP
 obtain ⟨vs,hl,hcell,ho⟩:=h8.cells
 classical
 have hE:∀ i,i < l0.length→∀ W,Below W0.heap.size W0 W→Calls Tryz.prog 144 #[v,vs.getD i .nilIface] W (rb (.tuple #[.bool (decide (JE x (l0.getD i z25))),.nilIface]) W):=fun i hi W hb=>
  (equals_ok hO hVx (hv _ (getD_mem hi)) W hb ((ho i hi).grow hb)).is _ (by simp)
 have hK:∀ W:World,Calls Tryz.prog 141 #[.int .i64 (kinds l0).v,.int .i64 (tcode x.f0)] W (rb (.bool ((kinds l0).has x.f0)) W):=fun W=>contains_ok W (kinds l0) x.f0 hVx.kind
 have hhas:(kinds l0).has x.f0=true:=by
  obtain ⟨y,hy,hj⟩:=hj
  exact (kinds_has hv hVx.kind).2 ⟨y,hy,hj.kind.symm⟩
 have hex:∃ j,j < l0.length∧decide (JE x (l0.getD j z25))=true:=by
  obtain ⟨y,hy,hj⟩:=hj
  obtain ⟨j,hj',e⟩:=List.mem_iff_getElem.1 hy
  exact ⟨j,hj',decide_eq_true (by rw [List.getD_eq_getElem?_getD,List.getElem?_eq_getElem hj',e];exact hj)⟩
 refine val28_none (sch_none W0 gs v hO.one ⟨2020,⟨#[49]⟩,nP,.pointer (some ⟨ge,0,none⟩),nP,nP,.slice A2 0 c2,.map (some gpr),.map (some gpp),.map (some gm),.map (some gdr),.map (some gds),.nilIface⟩ h1 (fun W hb=>from_out hO W gs ⟨2020,⟨#[49]⟩,nP,.pointer (some ⟨ge,0,none⟩),nP,nP,.slice A2 0 c2,.map (some gpr),.map (some gpp),.map (some gm),.map (some gdr),.map (some gds),.nilIface⟩ (blk_below h1 hb)) (fun W l gv gc ad up H hgv=> ?_))
 cases hO with
 |null k=>exact val_e_null W W0 l gv gs gc ad up ⟨#[49]⟩ _ _ _ _ _ _ ge A2e l0.length c2e _ vs hn h7 hcell H hgv h1 (fun W _=>by have h:=hK W;rw [hhas,k] at h;exact h) _ hE hex
 |bool k=>exact val_e_bool _ W W0 l gv gs gc ad up ⟨#[49]⟩ _ _ _ _ _ _ ge A2e l0.length c2e _ vs hn h7 hcell H hgv h1 (fun W _=>by have h:=hK W;rw [hhas,k] at h;exact h) _ hE hex
 |text k=>exact val_e_text _ W W0 l gv gs gc ad up ⟨#[49]⟩ _ _ _ _ _ _ ge A2e l0.length c2e _ vs hn h7 hcell H hgv h1 (fun W _=>by have h:=hK W;rw [hhas,k] at h;exact h) _ hE hex
 |empty k c h0=>exact val_e_array _ _ _ W W0 l gv gs gc ad up ⟨#[49]⟩ _ _ _ _ _ _ ge A2e l0.length c2e _ vs hn h7 hcell H hgv h1 (fun W _=>by have h:=hK W;rw [hhas,k] at h;exact h) _ hE hex
 |array k b c cur us hl2 hb h hc hs=>exact val_e_array _ _ _ W W0 l gv gs gc ad up ⟨#[49]⟩ _ _ _ _ _ _ ge A2e l0.length c2e _ vs hn h7 hcell H hgv h1 (fun W _=>by have h:=hK W;rw [hhas,k] at h;exact h) _ hE hex
 |object k g es ck us hl2 h45 hg h M hs=>exact val_e_object _ W W0 l gv gs gc ad up ⟨#[49]⟩ _ _ _ _ _ _ ge A2e l0.length c2e _ vs hn h7 hcell H hgv h1 (fun W _=>by have h:=hK W;rw [hhas,k] at h;exact h) _ hE hex (fun W l H=>obj_quiet W W0 l gv gs g gpr gpp gm gdr gds _ ad _ up _ es ck _ x.f4 A2 c2 _ _ _ _ H hgv h1 h (by rw [← bare_mapV (h45.trans hl2.symm)];exact M.bare) h2 h3 h4 h5 h6)
theorem loud_e (l0:List S25) {W0:World} {gs:Nat} {x:S25} {v:Value} (hP:Sch_e l0 gs W0) (hO:OutD W0 (fun _=>True) x v) (hVx:V x) (hn:l0.length≤LM) (hv:∀ x∈l0,V x) (hj:∀ y∈l0,¬ JE x y):
  Calls Tryz.prog 28 #[.pointer (some ⟨gs,0,none⟩),v] W0 fun e w'=>∃ u,e= .returned u∧(∃ gr,u= .iface 76 (.pointer (some ⟨gr,0,none⟩))∧Left ⟨#[49]⟩ 286 (fun _ _=>True) gr w')∧Below W0.heap.size W0 w':=by
 obtain ⟨A2,c2,gm,gpp,gpr,gds,gdr,ge,A2e,c2e,h1,h2,h3,h4,h5,h6,h7,h8⟩:=hP
 obtain ⟨vs,hl,hcell,ho⟩:=h8.cells
 classical
 have hE:∀ i,i < l0.length→∀ W,Below W0.heap.size W0 W→Calls Tryz.prog 144 #[v,vs.getD i .nilIface] W (rb (.tuple #[.bool (decide (JE x (l0.getD i z25))),.nilIface]) W):=fun i hi W hb=>
  (equals_ok hO hVx (hv _ (getD_mem hi)) W hb ((ho i hi).grow hb)).is _ (by simp)
 have hK:∀ W:World,Calls Tryz.prog 141 #[.int .i64 (kinds l0).v,.int .i64 (tcode x.f0)] W (rb (.bool ((kinds l0).has x.f0)) W):=fun W=>contains_ok W (kinds l0) x.f0 hVx.kind
 refine loud_any W0 gs v hO.one ⟨2020,⟨#[49]⟩,nP,.pointer (some ⟨ge,0,none⟩),nP,nP,.slice A2 0 c2,.map (some gpr),.map (some gpp),.map (some gm),.map (some gdr),.map (some gds),.nilIface⟩ h1 (fun W hb=>from_out hO W gs ⟨2020,⟨#[49]⟩,nP,.pointer (some ⟨ge,0,none⟩),nP,nP,.slice A2 0 c2,.map (some gpr),.map (some gpp),.map (some gm),.map (some gdr),.map (some gds),.nilIface⟩ (blk_below h1 hb)) 286 tk_286_185 (fun W l gv gc ad up H hgv=> ?_)
 cases hhas:(kinds l0).has x.f0 with
 |false=>exact val_e_kind v hO.one _ (tcode_ne x.f0) W W0 l gv gs gc ad up ⟨#[49]⟩ _ _ _ _ _ _ ge A2e l0.length c2e _ vs hn h7 hcell H hgv h1 (fun W=>type_out hO W) (fun W _=>by have h:=hK W;rw [hhas] at h;exact h)
 |true=>exact val_e_none v hO.one _ (tcode_ne x.f0) W W0 l gv gs gc ad up ⟨#[49]⟩ _ _ _ _ _ _ ge A2e l0.length c2e _ vs hn h7 hcell H hgv h1 (fun W=>type_out hO W) (fun W _=>by have h:=hK W;rw [hhas] at h;exact h) _ hE (fun j hj'=>decide_eq_false (hj _ (getD_mem hj')))
theorem errors_e_none (w:World) (gn cS:Nat) (x:S25) (A4 A5:Option Addr) (c4 c5:Nat) (hx:Rep w x A4 c4 A5 c5) {AE:Option Addr} {l0:List S25} {cE:Nat} (he:Kd.C k25 w AE l0.length l0) (hn:l0.length≤LM) (hv:∀ x∈l0,V x) (hVx:V x) (hS:w.heap[gn]? =some (row (ndE AE l0 cE) 45)) (hj:∃ y∈l0,JE x y):
  Calls Tryz.prog 14 #[.slice (some ⟨gn,0,none⟩) 1 cS,.agg (jvc x A4 A5 c4 c5)] w (rb (.tuple #[.agg #[eS,eS,nilS,nilS,eS,nilS,nilS,nilS],.bool false]) w):=
 errors_none w gn cS x A4 A5 c4 c5 (fun W hb=>draft_none_d W gn cS x A4 A5 c4 c5 (Sch_e l0) (fun _ _ _=>Sch_e.below _) (hx.below hb) hVx (fun W1 hb0=>comp_e W1 gn cS (Kd.C_below he (below_step hb hb0)) hn hv (blk_below hS (below_step hb hb0))) (fun W0 gs v hP hO=>quiet_e _ hP hO hVx hn hv hj))
theorem errors_e_some (w:World) (gn cS:Nat) (x:S25) (A4 A5:Option Addr) (c4 c5:Nat) (hx:Rep w x A4 c4 A5 c5) {AE:Option Addr} {l0:List S25} {cE:Nat} (he:Kd.C k25 w AE l0.length l0) (hn:l0.length≤LM) (hv:∀ x∈l0,V x) (hVx:V x) (hS:w.heap[gn]? =some (row (ndE AE l0 cE) 45)) (hj:∀ y∈l0,¬ JE x y):
  Calls Tryz.prog 14 #[.slice (some ⟨gn,0,none⟩) 1 cS,.agg (jvc x A4 A5 c4 c5)] w fun e w'=>Told ⟨#[49]⟩ ⟨#[69,110,117,109]⟩ eS [⟨#[101,110,117,109]⟩] [] w e w':=
 errors_some w gn cS x A4 A5 c4 c5 _ _ _ _ _ (fun W hb=>draft_some_d W gn cS x A4 A5 c4 c5 _ _ _ _ _ (Sch_e l0) (fun _ _ _=>Sch_e.below _) (hx.below hb) hVx (fun W1 hb0=>comp_e W1 gn cS (Kd.C_below he (below_step hb hb0)) hn hv (blk_below hS (below_step hb hb0)))
  (Left ⟨#[49]⟩ 286 (fun _ _=>True)) (fun W0 gs v hP hO=>loud_e _ hP hO hVx hn hv hj)
  (fun W gr h=>by
   obtain ⟨gk2,adc,ge,gki,Ae,ce,h1,h2,h3,_⟩:=h
   exact root_ok W gr ge gk2 _ _ _ _ _ adc 1 h1 h2 (fun W1 hb=>leaf_enum W1 ge gki _ Ae ce (blk_below h3 hb))))
theorem set_c {c:S25} {B4 B5:Option Addr} {d4 d5 gq cq:Nat} (w w0:World) (l:List Blk) (gs:Nat) (lv:Value) (own d:Int) (hown:0≤own) (H:At w0 (.b gs (row (Sc.cells ⟨0,⟨#[]⟩,nP,nP,nP,nP,nilS,nM,nM,nM,nM,nM,.nilIface⟩) 119)::l) w) (hgs:w0.heap.size≤gs)
  (hq:w0.heap[gq]? =some (row #[.int .i64 c.f0,.bool c.f1,.int .i64 c.f2,.string c.f3,.slice B4 c.f4.length d4,.slice B5 c.f5.length d5] 25)) (hx:Rep w0 c B4 d4 B5 d5) (hv:V c):
  Calls Tryz.prog 49 #[lv,.pointer (some ⟨gs,0,none⟩),.agg (ndC gq cq),.int .i64 own,.int .i64 d] w fun e w'=>e= .returned (.tuple #[])∧∃ A2 c2 gm gpp gpr gds gdr gk v140 ms,Coded v140∧At w0 (.b gm (.map #[] 0):: .b gs (row (Sc.cells ⟨d,⟨#[]⟩,nP,nP,(.pointer (some ⟨gk,0,none⟩)),nP,(.slice A2 0 c2),(.map (some gpr)),(.map (some gpp)),(.map (some gm)),(.map (some gdr)),(.map (some gds)),.nilIface⟩) 119):: .b gpp (.map #[] 0):: .b gpr (.map #[] 0):: .b gds (.map #[] 0):: .b gdr (.map #[] 0):: .b gk (row (#[v140]) 20)::(l ++ ms)) w'∧∀ W',Keeps ms W'→OutD W' (fun k=>w0.heap.size≤k) c v140:=by
 refine (set_any false nilS (some ⟨gq,0,none⟩) 1 cq false nilS false nilS w w0 l gs lv own d hown H hgs (fun v3 b=>v3=nP∧b=l) (fun v3 v4 b=>∃ gk v140 ms,Coded v140∧v3=nP∧v4= .pointer (some ⟨gk,0,none⟩)∧b= .b gk (row (#[v140]) 20)::(l ++ ms)∧∀ W',Keeps ms W'→OutD W' (fun k=>w0.heap.size≤k) c v140) (fun v3 v4 v12 b=>v12= .nilIface∧∃ gk v140 ms,Coded v140∧v3=nP∧v4= .pointer (some ⟨gk,0,none⟩)∧b= .b gk (row (#[v140]) 20)::(l ++ ms)∧∀ W',Keeps ms W'→OutD W' (fun k=>w0.heap.size≤k) c v140) (fun v3 v4 v5 v12 b=>v5=nP∧v12= .nilIface∧∃ gk v140 ms,Coded v140∧v3=nP∧v4= .pointer (some ⟨gk,0,none⟩)∧b= .b gk (row (#[v140]) 20)::(l ++ ms)∧∀ W',Keeps ms W'→OutD W' (fun k=>w0.heap.size≤k) c v140) (Or.inl ⟨rfl,rfl,rfl⟩) (fun v3 b ⟨e3,eb⟩=>Or.inr ⟨rfl,c,B4,B5,d4,d5,gq,rfl,hq,hx,hv,fun gk v140 ms hk h=>⟨gk,v140,ms,hk,e3,rfl,by rw [eb],h⟩⟩) (fun v3 v4 b h=>Or.inl ⟨rfl,rfl,h⟩) (fun v3 v4 v12 b h=>Or.inl ⟨rfl,rfl,h⟩)).mono ?_
 rintro e w' ⟨rfl,A2,c2,gm,gpp,gpr,gds,gdr,v3,v4,v5,v12,cs,⟨rfl,rfl,gk,v140,ms,hk,rfl,rfl,rfl,h⟩,hA⟩
 exact ⟨rfl,A2,c2,gm,gpp,gpr,gds,gdr,gk,v140,ms,hk,hA,h⟩
def Comp_c (c:S25) (w:World) (e:Ending) (w':World):Prop:=∃ gs A2 c2 gm gpp gpr gds gdr gk v140,e= .returned (.pointer (some ⟨gs,0,none⟩))∧w'.heap[gs]? =some (row (Sc.cells ⟨2020,⟨#[49]⟩,nP,nP,(.pointer (some ⟨gk,0,none⟩)),nP,(.slice A2 0 c2),(.map (some gpr)),(.map (some gpp)),(.map (some gm)),(.map (some gdr)),(.map (some gds)),.nilIface⟩) 119)∧w'.heap[gpr]? =some (.map #[] 0)∧w'.heap[gpp]? =some (.map #[] 0)∧w'.heap[gm]? =some (.map #[] 0)∧w'.heap[gds]? =some (.map #[] 0)∧w'.heap[gdr]? =some (.map #[] 0)∧w'.heap[gk]? =some (row (#[v140]) 20)∧Coded v140∧OutD w' (fun k=>w.heap.size≤k) c v140∧Below w.heap.size w w'
theorem compiled_c {c:S25} {B4 B5:Option Addr} {d4 d5 gq cq:Nat} (w:World) (gn cS:Nat) (hq:w.heap[gq]? =some (row #[.int .i64 c.f0,.bool c.f1,.int .i64 c.f2,.string c.f3,.slice B4 c.f4.length d4,.slice B5 c.f5.length d5] 25)) (hx:Rep w c B4 d4 B5 d5) (hv:V c) (hn1:(ndC gq cq).all (·.oneCell')=true) (hS:w.heap[gn]? =some (row (ndC gq cq) 45)):
  Calls Tryz.prog 27 #[.slice (some ⟨gn,0,none⟩) 1 cS,.int .i64 2020] w (Comp_c c w):=by
 refine (compiled_any false nilS (some ⟨gq,0,none⟩) 1 cq false nilS false nilS w gn cS hn1 hS (fun v3 v4 v5 v12 rest=>∃ gk v140 ms,v3=nP∧v4= .pointer (some ⟨gk,0,none⟩)∧v5=nP∧v12= .nilIface∧rest=(.b gk (row (#[v140]) 20)::ms)∧Coded v140∧∀ W',Keeps ms W'→OutD W' (fun k=>w.heap.size≤k) c v140) (fun W l gs lv own hown H hgs=>(set_c W w l gs lv own 2020 hown H hgs hq hx hv).mono ?_)).mono ?_
 ·rintro e w' ⟨rfl,A2,c2,gm,gpp,gpr,gds,gdr,gk,v140,ms,hk,hA,h⟩
  exact ⟨rfl,A2,c2,gm,gpp,gpr,gds,gdr,_,_,_,_,_,⟨gk,v140,ms,rfl,rfl,rfl,rfl,rfl,hk,h⟩,At.behind [_] hA⟩
 ·rintro e w' ⟨gs,A2,c2,gm,gpp,gpr,gds,gdr,v3,v4,v5,v12,rest,rfl,⟨gk,v140,ms,rfl,rfl,rfl,rfl,rfl,hc0,h⟩,h1,h2,h3,h4,h5,h6,hk,hb⟩
  exact ⟨gs,A2,c2,gm,gpp,gpr,gds,gdr,gk,v140,rfl,h1,h2,h3,h4,h5,h6,hk.1,hc0,h _ hk.2,hb⟩
end Go.Proofs.YtkphbhncpdcbeaaGreatDoor.J
