/- Part. -/
import Derived.Test.YtkphbhncpdcbeaaGreatDoorQBB
set_option linter.unusedVariables false
set_option linter.unusedSimpArgs false
set_option maxHeartbeats 8000000
set_option maxRecDepth 100000
namespace Go.Proofs.YtkphbhncpdcbeaaGreatDoor.J
open Go.RowKit YtkphbhncpdcbeaaGreatDoorW.PrintWords YtkphbhncpdcbeaaGreatDoorW.PrintLast YtkphbhncpdcbeaaGreatDoorW.PrintMore PJT
attribute [local go_sem] ta_null_4 ta_null_9 ta_null_117 ta_null_113 ta_bool_4 ta_bool_9 ta_bool_117 ta_bool_113 ta_text_4 ta_text_340 ta_text_343 ta_text_3 ta_text_344 ta_text_345 ta_text_21 ta_text_2 ta_text_232 ta_text_5 ta_text_346 ta_text_324 ta_text_326 ta_text_9 ta_text_117 ta_text_113 ta_array_4 ta_array_340 ta_array_343 ta_array_3 ta_array_344 ta_array_345 ta_array_21 ta_array_2 ta_array_232 ta_array_5 ta_array_346 ta_array_324 ta_array_326 ta_array_9 ta_array_117 ta_array_113 ta_object_4 ta_object_340 ta_object_343 ta_object_3 ta_object_344 ta_object_345 ta_object_21 ta_object_2 ta_object_232 ta_object_5 ta_object_346 ta_object_324 ta_object_326 ta_object_9 ta_object_117 ta_object_113
theorem val_null (w w0:World) (l:List Blk) (gv gs gc:Nat) (ad:Addr) (up:Value) (loc:ByteArray) (req props pats deps dreq dsch:Value) (H:At w0 (.b gv (row (vdc (.nilIface) ad (.pointer (some ⟨gs,0,none⟩)) (.pointer (some ⟨gc,0,none⟩)) up nilS) 182):: .b gc (row (#[.pointer (some ⟨gs,0,none⟩),eS,i0,nP]) 178)::l) w) (hgv:w0.heap.size≤gv) (hS:w0.heap[gs]? =some (row (Sc.cells ⟨2020,loc,nP,nP,nP,nP,req,props,pats,deps,dreq,dsch,.nilIface⟩) 119)):
  Calls Tryz.prog 99 #[.pointer (some ⟨gv,0,none⟩)] w fun e w'=>e= .returned (.tuple #[up,.nilIface])∧At w0 (.b gv (row (vdc (.nilIface) ad (.pointer (some ⟨gs,0,none⟩)) (.pointer (some ⟨gc,0,none⟩)) up nilS) 182):: .b gc (row (#[.pointer (some ⟨gs,0,none⟩),eS,i0,nP]) 178)::l) w':=by
 have HK:=asd_ H
 clear H
 replace Bc:=ce2_ HK 1 0;replace Bf:=fe1_ HK 0;have bgs:=cel_ (blk_below hS HK.out.b)
 have Ggv:=asd_ hgv
 clear hgv
 go_enter Tryz.func99,Tryz.ntmps99
 go_wp2_with (first|((first|((with_reducible refine gd_ 55 ?_);refine cl_ #[.pointer (some ⟨gc,0,none⟩)] (nP) Tryz.func137 (cycle_none _ gc gs (HK.out.k.2.1)) ?_)|((with_reducible refine gd_ 76 ?_);refine cl_ #[.nilIface] (.int .i64 2) Tryz.func139 (type_null _) ?_)|((with_reducible refine gd_ 311 ?_);refine cl_ #[.pointer (some ⟨gv,0,none⟩)] (.tuple #[]) Tryz.func150 (cond_quiet _ gv gs (.nilIface) ad (.pointer (some ⟨gc,0,none⟩)) up nilS ⟨2020,loc,nP,nP,nP,nP,req,props,pats,deps,dreq,dsch,.nilIface⟩ (HK.out.k.1) (blk_below hS HK.out.b)) ?_)|((with_reducible refine gd_ 318 ?_);refine cl_ #[.pointer (some ⟨gv,0,none⟩)] (.tuple #[]) Tryz.func151 (uneval_null _ gv gs ad (.pointer (some ⟨gc,0,none⟩)) up nilS ⟨2020,loc,nP,nP,nP,nP,req,props,pats,deps,dreq,dsch,.nilIface⟩ (HK.out.k.1) (blk_below hS HK.out.b)) ?_));intro wc55 HK1;replace HK:=asd_ HK1;clear HK1;clear bgs;replace Bc:=ce2_ HK 1 0;replace Bf:=fe1_ HK 0;have bgs:=cel_ (blk_below hS HK.out.b)))
 go_ret2
 exact ⟨rfl,HK.out⟩
theorem val_bool (w w0:World) (l:List Blk) (gv gs gc:Nat) (b:Bool) (ad:Addr) (up:Value) (loc:ByteArray) (req props pats deps dreq dsch:Value) (H:At w0 (.b gv (row (vdc (.iface 4 (.bool b)) ad (.pointer (some ⟨gs,0,none⟩)) (.pointer (some ⟨gc,0,none⟩)) up nilS) 182):: .b gc (row (#[.pointer (some ⟨gs,0,none⟩),eS,i0,nP]) 178)::l) w) (hgv:w0.heap.size≤gv) (hS:w0.heap[gs]? =some (row (Sc.cells ⟨2020,loc,nP,nP,nP,nP,req,props,pats,deps,dreq,dsch,.nilIface⟩) 119)):
  Calls Tryz.prog 99 #[.pointer (some ⟨gv,0,none⟩)] w fun e w'=>e= .returned (.tuple #[up,.nilIface])∧At w0 (.b gv (row (vdc (.iface 4 (.bool b)) ad (.pointer (some ⟨gs,0,none⟩)) (.pointer (some ⟨gc,0,none⟩)) up nilS) 182):: .b gc (row (#[.pointer (some ⟨gs,0,none⟩),eS,i0,nP]) 178)::l) w':=by
 have HK:=asd_ H
 clear H
 replace Bc:=ce2_ HK 1 0;replace Bf:=fe1_ HK 0;have bgs:=cel_ (blk_below hS HK.out.b)
 have Ggv:=asd_ hgv
 clear hgv
 go_enter Tryz.func99,Tryz.ntmps99
 go_wp2_with (first|((first|((with_reducible refine gd_ 55 ?_);refine cl_ #[.pointer (some ⟨gc,0,none⟩)] (nP) Tryz.func137 (cycle_none _ gc gs (HK.out.k.2.1)) ?_)|((with_reducible refine gd_ 76 ?_);refine cl_ #[.iface 4 (.bool b)] (.int .i64 4) Tryz.func139 (type_bool _ b) ?_)|((with_reducible refine gd_ 311 ?_);refine cl_ #[.pointer (some ⟨gv,0,none⟩)] (.tuple #[]) Tryz.func150 (cond_quiet _ gv gs (.iface 4 (.bool b)) ad (.pointer (some ⟨gc,0,none⟩)) up nilS ⟨2020,loc,nP,nP,nP,nP,req,props,pats,deps,dreq,dsch,.nilIface⟩ (HK.out.k.1) (blk_below hS HK.out.b)) ?_)|((with_reducible refine gd_ 318 ?_);refine cl_ #[.pointer (some ⟨gv,0,none⟩)] (.tuple #[]) Tryz.func151 (uneval_bool _ gv gs b ad (.pointer (some ⟨gc,0,none⟩)) up nilS ⟨2020,loc,nP,nP,nP,nP,req,props,pats,deps,dreq,dsch,.nilIface⟩ (HK.out.k.1) (blk_below hS HK.out.b)) ?_));intro wc55 HK1;replace HK:=asd_ HK1;clear HK1;clear bgs;replace Bc:=ce2_ HK 1 0;replace Bf:=fe1_ HK 0;have bgs:=cel_ (blk_below hS HK.out.b)))
 go_ret2
 exact ⟨rfl,HK.out⟩
theorem val_text (w w0:World) (l:List Blk) (gv gs gc:Nat) (t:ByteArray) (ad:Addr) (up:Value) (loc:ByteArray) (req props pats deps dreq dsch:Value) (H:At w0 (.b gv (row (vdc (.iface 9 (.string t)) ad (.pointer (some ⟨gs,0,none⟩)) (.pointer (some ⟨gc,0,none⟩)) up nilS) 182):: .b gc (row (#[.pointer (some ⟨gs,0,none⟩),eS,i0,nP]) 178)::l) w) (hgv:w0.heap.size≤gv) (hS:w0.heap[gs]? =some (row (Sc.cells ⟨2020,loc,nP,nP,nP,nP,req,props,pats,deps,dreq,dsch,.nilIface⟩) 119)):
  Calls Tryz.prog 99 #[.pointer (some ⟨gv,0,none⟩)] w fun e w'=>e= .returned (.tuple #[up,.nilIface])∧At w0 (.b gv (row (vdc (.iface 9 (.string t)) ad (.pointer (some ⟨gs,0,none⟩)) (.pointer (some ⟨gc,0,none⟩)) up nilS) 182):: .b gc (row (#[.pointer (some ⟨gs,0,none⟩),eS,i0,nP]) 178)::l) w':=by
 have HK:=asd_ H
 clear H
 replace Bc:=ce2_ HK 1 0;replace Bf:=fe1_ HK 0;have bgs:=cel_ (blk_below hS HK.out.b)
 have Ggv:=asd_ hgv
 clear hgv
 go_enter Tryz.func99,Tryz.ntmps99
 go_wp2_with (first|((first|((with_reducible refine gd_ 55 ?_);refine cl_ #[.pointer (some ⟨gc,0,none⟩)] (nP) Tryz.func137 (cycle_none _ gc gs (HK.out.k.2.1)) ?_)|((with_reducible refine gd_ 76 ?_);refine cl_ #[.iface 9 (.string t)] (.int .i64 32) Tryz.func139 (type_text _ t) ?_)|((with_reducible refine gd_ 296 ?_);refine cl_ #[.pointer (some ⟨gv,0,none⟩),.string t] (.tuple #[]) Tryz.func149 (str_quiet _ gv gs (.iface 9 (.string t)) ad (.pointer (some ⟨gc,0,none⟩)) up nilS ⟨2020,loc,nP,nP,nP,nP,req,props,pats,deps,dreq,dsch,.nilIface⟩ (HK.out.k.1) (blk_below hS HK.out.b) t) ?_)|((with_reducible refine gd_ 311 ?_);refine cl_ #[.pointer (some ⟨gv,0,none⟩)] (.tuple #[]) Tryz.func150 (cond_quiet _ gv gs (.iface 9 (.string t)) ad (.pointer (some ⟨gc,0,none⟩)) up nilS ⟨2020,loc,nP,nP,nP,nP,req,props,pats,deps,dreq,dsch,.nilIface⟩ (HK.out.k.1) (blk_below hS HK.out.b)) ?_)|((with_reducible refine gd_ 318 ?_);refine cl_ #[.pointer (some ⟨gv,0,none⟩)] (.tuple #[]) Tryz.func151 (uneval_text _ gv gs t ad (.pointer (some ⟨gc,0,none⟩)) up nilS ⟨2020,loc,nP,nP,nP,nP,req,props,pats,deps,dreq,dsch,.nilIface⟩ (HK.out.k.1) (blk_below hS HK.out.b)) ?_));intro wc55 HK1;replace HK:=asd_ HK1;clear HK1;clear bgs;replace Bc:=ce2_ HK 1 0;replace Bf:=fe1_ HK 0;have bgs:=cel_ (blk_below hS HK.out.b)))
 go_ret2
 exact ⟨rfl,HK.out⟩
theorem val_array (w w0:World) (l:List Blk) (gv gs gc:Nat) (A:Option Addr) (n c:Nat) (ad:Addr) (up:Value) (loc:ByteArray) (req props pats deps dreq dsch:Value) (H:At w0 (.b gv (row (vdc (.iface 117 (.slice A n c)) ad (.pointer (some ⟨gs,0,none⟩)) (.pointer (some ⟨gc,0,none⟩)) up nilS) 182):: .b gc (row (#[.pointer (some ⟨gs,0,none⟩),eS,i0,nP]) 178)::l) w) (hgv:w0.heap.size≤gv) (hS:w0.heap[gs]? =some (row (Sc.cells ⟨2020,loc,nP,nP,nP,nP,req,props,pats,deps,dreq,dsch,.nilIface⟩) 119)):
  Calls Tryz.prog 99 #[.pointer (some ⟨gv,0,none⟩)] w fun e w'=>e= .returned (.tuple #[up,.nilIface])∧At w0 (.b gv (row (vdc (.iface 117 (.slice A n c)) ad (.pointer (some ⟨gs,0,none⟩)) (.pointer (some ⟨gc,0,none⟩)) up nilS) 182):: .b gc (row (#[.pointer (some ⟨gs,0,none⟩),eS,i0,nP]) 178)::l) w':=by
 have HK:=asd_ H
 clear H
 replace Bc:=ce2_ HK 1 0;replace Bf:=fe1_ HK 0;have bgs:=cel_ (blk_below hS HK.out.b)
 have Ggv:=asd_ hgv
 clear hgv
 go_enter Tryz.func99,Tryz.ntmps99
 go_wp2_with (first|((first|((with_reducible refine gd_ 55 ?_);refine cl_ #[.pointer (some ⟨gc,0,none⟩)] (nP) Tryz.func137 (cycle_none _ gc gs (HK.out.k.2.1)) ?_)|((with_reducible refine gd_ 76 ?_);refine cl_ #[.iface 117 (.slice A n c)] (.int .i64 64) Tryz.func139 (type_array _ A n c) ?_)|((with_reducible refine gd_ 290 ?_);refine cl_ #[.pointer (some ⟨gv,0,none⟩),.slice A n c] (.tuple #[]) Tryz.func148 (arr_quiet _ gv gs (.iface 117 (.slice A n c)) ad (.pointer (some ⟨gc,0,none⟩)) up nilS ⟨2020,loc,nP,nP,nP,nP,req,props,pats,deps,dreq,dsch,.nilIface⟩ (HK.out.k.1) (blk_below hS HK.out.b) A n c) ?_)|((with_reducible refine gd_ 311 ?_);refine cl_ #[.pointer (some ⟨gv,0,none⟩)] (.tuple #[]) Tryz.func150 (cond_quiet _ gv gs (.iface 117 (.slice A n c)) ad (.pointer (some ⟨gc,0,none⟩)) up nilS ⟨2020,loc,nP,nP,nP,nP,req,props,pats,deps,dreq,dsch,.nilIface⟩ (HK.out.k.1) (blk_below hS HK.out.b)) ?_)|((with_reducible refine gd_ 318 ?_);refine cl_ #[.pointer (some ⟨gv,0,none⟩)] (.tuple #[]) Tryz.func151 (uneval_array _ gv gs A n c ad (.pointer (some ⟨gc,0,none⟩)) up nilS ⟨2020,loc,nP,nP,nP,nP,req,props,pats,deps,dreq,dsch,.nilIface⟩ (HK.out.k.1) (blk_below hS HK.out.b)) ?_));intro wc55 HK1;replace HK:=asd_ HK1;clear HK1;clear bgs;replace Bc:=ce2_ HK 1 0;replace Bf:=fe1_ HK 0;have bgs:=cel_ (blk_below hS HK.out.b)))
 go_ret2
 exact ⟨rfl,HK.out⟩
theorem val_object (w w0:World) (l:List Blk) (gv gs gc:Nat) (g:Nat) (ad:Addr) (up:Value) (loc:ByteArray) (req props pats deps dreq dsch:Value) (H:At w0 (.b gv (row (vdc (.iface 113 (.map (some g))) ad (.pointer (some ⟨gs,0,none⟩)) (.pointer (some ⟨gc,0,none⟩)) up nilS) 182):: .b gc (row (#[.pointer (some ⟨gs,0,none⟩),eS,i0,nP]) 178)::l) w) (hgv:w0.heap.size≤gv) (hS:w0.heap[gs]? =some (row (Sc.cells ⟨2020,loc,nP,nP,nP,nP,req,props,pats,deps,dreq,dsch,.nilIface⟩) 119)) (hO:∀ W l,At w0 (.b gv (row (vdc (.iface 113 (.map (some g))) ad (.pointer (some ⟨gs,0,none⟩)) (.pointer (some ⟨gc,0,none⟩)) up nilS) 182)::l) W→Calls Tryz.prog 147 #[.pointer (some ⟨gv,0,none⟩),.map (some g)] W fun e w'=>e= .returned (.tuple #[])∧At w0 (.b gv (row (vdc (.iface 113 (.map (some g))) ad (.pointer (some ⟨gs,0,none⟩)) (.pointer (some ⟨gc,0,none⟩)) up nilS) 182)::l) w'):
  Calls Tryz.prog 99 #[.pointer (some ⟨gv,0,none⟩)] w fun e w'=>e= .returned (.tuple #[up,.nilIface])∧At w0 (.b gv (row (vdc (.iface 113 (.map (some g))) ad (.pointer (some ⟨gs,0,none⟩)) (.pointer (some ⟨gc,0,none⟩)) up nilS) 182):: .b gc (row (#[.pointer (some ⟨gs,0,none⟩),eS,i0,nP]) 178)::l) w':=by
 have HO:=asd_ hO
 clear hO
 have HK:=asd_ H
 clear H
 replace Bc:=ce2_ HK 1 0;replace Bf:=fe1_ HK 0;have bgs:=cel_ (blk_below hS HK.out.b)
 have Ggv:=asd_ hgv
 clear hgv
 go_enter Tryz.func99,Tryz.ntmps99
 go_wp2_with (first|((first|((with_reducible refine gd_ 55 ?_);refine cl_ #[.pointer (some ⟨gc,0,none⟩)] (nP) Tryz.func137 (cycle_none _ gc gs (HK.out.k.2.1)) ?_)|((with_reducible refine gd_ 76 ?_);refine cl_ #[.iface 113 (.map (some g))] (.int .i64 128) Tryz.func139 (type_object _ g) ?_)|((with_reducible refine gd_ 284 ?_);refine call_to #[.pointer (some ⟨gv,0,none⟩),.map (some g)] (.tuple #[]) _ rfl Tryz.func147 kr_ rfl rfl ar_ (HO.out _ _ HK.out) ?_)|((with_reducible refine gd_ 311 ?_);refine cl_ #[.pointer (some ⟨gv,0,none⟩)] (.tuple #[]) Tryz.func150 (cond_quiet _ gv gs (.iface 113 (.map (some g))) ad (.pointer (some ⟨gc,0,none⟩)) up nilS ⟨2020,loc,nP,nP,nP,nP,req,props,pats,deps,dreq,dsch,.nilIface⟩ (HK.out.k.1) (blk_below hS HK.out.b)) ?_)|((with_reducible refine gd_ 318 ?_);refine cl_ #[.pointer (some ⟨gv,0,none⟩)] (.tuple #[]) Tryz.func151 (uneval_object _ gv gs g ad (.pointer (some ⟨gc,0,none⟩)) up nilS ⟨2020,loc,nP,nP,nP,nP,req,props,pats,deps,dreq,dsch,.nilIface⟩ (HK.out.k.1) (blk_below hS HK.out.b)) ?_));intro wc55 HK1;replace HK:=asd_ HK1;clear HK1;clear bgs;replace Bc:=ce2_ HK 1 0;replace Bf:=fe1_ HK 0;have bgs:=cel_ (blk_below hS HK.out.b)))
 go_ret2
 exact ⟨rfl,HK.out⟩
theorem ptr_cell {W:World} {b:Nat} {A:Option Addr} {c:Nat} {p:Option Addr} (h:(Fact.rows kPtr 76 b E76 (.slice A 1 c) [p]).P W):∃ ad,A=some ad∧W.cell? ad=some (.pointer p):=by
 obtain ⟨A',c',e,_,hC⟩:=Kd.R_reads (show Kd.R kPtr 76 W b _ (.slice A 1 c) [p] from h)
 cases e
 obtain ⟨ad,rfl,hc⟩:=hC.2.2 (by simp)
 obtain ⟨cs,hs,hK,hcell⟩:=hc 0 p rfl
 have hK':cs=[.pointer p]:=hK
 subst hK'
 have:=hcell 0 _ rfl
 exact ⟨ad,rfl,by simpa [Addr.add] using this⟩
end Go.Proofs.YtkphbhncpdcbeaaGreatDoor.J
namespace Go.Proofs.YtkphbhncpdcbeaaGreatDoor.J
open Go.RowKit YtkphbhncpdcbeaaGreatDoorW.PrintWords YtkphbhncpdcbeaaGreatDoorW.PrintLast YtkphbhncpdcbeaaGreatDoorW.PrintMore PJT
theorem error_form {args:Array Value} {W:World} {loc:ByteArray} {kd:Value} (h:Calls Tryz.prog 136 args W fun e w'=>∃ ge Ae ce,e= .returned (.pointer (some ⟨ge,0,none⟩))∧w'.heap[ge]? =some (row (vec loc Ae ce kd nilS) 129)∧W.heap.size≤ge∧Below W.heap.size W w'):
  Calls Tryz.prog 136 args W fun e w'=>∃ v,e= .returned v∧(∃ ge Ae ce,v= .pointer (some ⟨ge,0,none⟩)∧w'.heap[ge]? =some (row (vec loc Ae ce kd nilS) 129)∧W.heap.size≤ge)∧Below W.heap.size W w':=by
 refine h.mono ?_
 rintro e w' ⟨ge,Ae,ce,rfl,h1,h2,hb⟩
 exact ⟨_,rfl,⟨ge,Ae,ce,rfl,h1,h2⟩,hb⟩
theorem val_false (w w0:World) (l:List Blk) (gv gs gc gb:Nat) (vv:Value) (ad:Addr) (up:Value) (loc:ByteArray) (enum const format req props pats deps dreq dsch pat:Value) (H:At w0 (.b gv (row (vdc (vv) ad (.pointer (some ⟨gs,0,none⟩)) (.pointer (some ⟨gc,0,none⟩)) up nilS) 182)::l) w) (hgv:w0.heap.size≤gv) (hS:w0.heap[gs]? =some (row (Sc.cells ⟨2020,loc,.pointer (some ⟨gb,0,none⟩),enum,const,format,req,props,pats,deps,dreq,dsch,pat⟩) 119)) (hb:w0.heap[gb]? =some (row #[.bool false] 4)):
  Calls Tryz.prog 99 #[.pointer (some ⟨gv,0,none⟩)] w fun e w'=>∃ ge gki Ae ce,e= .returned (.tuple #[nP,.iface 76 (.pointer (some ⟨ge,0,none⟩))])∧At w0 (.b ge (row (vec loc Ae ce (.iface 267 (.pointer (some ⟨gki,0,none⟩))) nilS) 129):: .b gki (row #[] 268)::l) w':=by
 have HK:=asd_ H
 clear H
 replace Bc:=ce1_ HK 0;replace Bf:=fe1_ HK 0;have bgs:=cel_ (blk_below hS HK.out.b);have bgb:=cel_ (blk_below hb HK.out.b)
 have Ggv:=asd_ hgv
 clear hgv
 go_enter Tryz.func99,Tryz.ntmps99
 go_wp2_with (first|((with_reducible refine gd_ 47 ?_);refine bx_ #[] 268 ?_;clear HK bgs bgb;intro gki wb47 HK Ggki;replace Bc:=ce2_ HK 1 0;replace Bf:=fe1_ HK 1;have bgs:=cel_ (blk_below hS HK.out.b);have bgb:=cel_ (blk_below hb HK.out.b))|((with_reducible refine gd_ 49 ?_);refine cw_ #[.pointer (some ⟨gv,0,none⟩),.iface 267 (.pointer (some ⟨gki,0,none⟩))] Tryz.func136 (error_form (error_ok _ gv gs gki 267 vv ad (.pointer (some ⟨gc,0,none⟩)) up ⟨2020,loc,.pointer (some ⟨gb,0,none⟩),enum,const,format,req,props,pats,deps,dreq,dsch,pat⟩ (HK.out.k.2.1) (blk_below hS HK.out.b))) ?_;rintro v49 wc49 HK0 ⟨ge,Ae,ce,rfl,hge,hgn⟩ hB;have HK1:=At.came at_ hB hge hgn;clear HK0 hge hgn hB;replace HK:=asd_ HK1;clear HK1;clear bgs bgb;replace Bc:=ce2_ HK 2 1;replace Bf:=fe1_ HK 2;have bgs:=cel_ (blk_below hS HK.out.b);have bgb:=cel_ (blk_below hb HK.out.b)))
 go_ret2
 exact ⟨ge,rfl,gki,Ae,ce,((At.front 2 HK.out rfl).drop)⟩
theorem told_form {args:Array Value} {W:World} {loc kn:ByteArray} {T:Value} {path names:List ByteArray} (h:Calls Tryz.prog 19 args W fun e w'=>Told loc kn T path names W e w'):
  Calls Tryz.prog 19 args W fun e w'=>∃ v,e= .returned v∧(∃ Aq cq Aa ca gx cx curx Ap cp Aa2 ca2 An cn,v= .tuple #[.agg #[.string loc,.string ⟨#[83,99,104,101,109,97]⟩,.slice Aq 0 cq,.slice Aa 0 ca,eS,nilS,nilS,.slice (some ⟨gx,0,none⟩) 1 cx],.bool true]∧w'.heap[gx]? =some (row curx 54)∧W.heap.size≤gx∧1≤cx∧curx.toList.take 8=[.string loc,.string kn,.slice Ap path.length cp,.slice Aa2 0 ca2,T,.slice An names.length cn,nilS,nilS]∧(Fact.strs (.slice Ap path.length cp) path).P w'∧(Fact.strs (.slice An names.length cn) names).P w')∧Below W.heap.size W w':=by
 refine h.mono ?_
 rintro e w' ⟨Aq,cq,Aa,ca,gx,cx,curx,Ap,cp,Aa2,ca2,An,cn,rfl,h1,h2,h3,h4,h5,h6,hb⟩
 exact ⟨_,rfl,⟨Aq,cq,Aa,ca,gx,cx,curx,Ap,cp,Aa2,ca2,An,cn,rfl,h1,h2,h3,h4,h5,h6⟩,hb⟩
theorem errors_none (w:World) (gn cS:Nat) (x:S25) (A4 A5:Option Addr) (c4 c5:Nat) (hD:∀ W,Below w.heap.size w W→Calls Tryz.prog 19 #[.int .i64 2020,.slice (some ⟨gn,0,none⟩) 1 cS,.agg (jvc x A4 A5 c4 c5)] W (rb (.tuple #[.agg #[eS,eS,nilS,nilS,eS,nilS,nilS,nilS],.bool false]) W)):
  Calls Tryz.prog 14 #[.slice (some ⟨gn,0,none⟩) 1 cS,.agg (jvc x A4 A5 c4 c5)] w (rb (.tuple #[.agg #[eS,eS,nilS,nilS,eS,nilS,nilS,nilS],.bool false]) w):=by
 have HD:=asd_ hD
 clear hD
 have HK:=st0_ w
 go_enter Tryz.func14,Tryz.ntmps14
 go_wp2_with (first|((with_reducible refine gd_ 3 ?_);refine bx_ (jvc x A4 A5 c4 c5) 25 ?_;clear HK;intro g3 wb3 HK Gg3;replace Bc:=ce1_ HK 0)|((with_reducible refine gd_ 4 ?_);refine bx_ #[eS,eS,nilS,nilS,eS,nilS,nilS,nilS] 54 ?_;clear HK;intro g4 wb4 HK Gg4;replace Bc:=ce2_ HK 1 0)|((with_reducible refine gd_ 7 ?_);refine lo_ 25 3 g3 (jvc x A4 A5 c4 c5) HK.out.k.2.1 Tryz.underlying25 ?_)|((first|((with_reducible refine gd_ 8 ?_);refine cl_ #[.int .i64 2020,.slice (some ⟨gn,0,none⟩) 1 cS,.agg (jvc x A4 A5 c4 c5)] (.tuple #[.agg #[eS,eS,nilS,nilS,eS,nilS,nilS,nilS],.bool false]) Tryz.func19 (HD.out _ (by repeat (first|exact HK.out.b|exact Below.refl _ _|apply below_alloc|apply pw_below_drewN|apply below_drew1))) ?_)|((with_reducible refine gate_ (.store 54 (.tmp 4) (.tmp 9)) rfl ?_);refine storerow_at (cs:=#[eS,eS,nilS,nilS,eS,nilS,nilS,nilS]) (g:=g4) 0 (#[eS,eS,nilS,nilS,eS,nilS,nilS,nilS]) at_ rfl Gg4.out rfl rfl rfl rfl rfl rfl kr_ rfl (by simp [Value.oneCell']) ?_));intro wc8 HK1;replace HK:=asd_ HK1;clear HK1;replace Bc:=ce2_ HK 1 0))
 ((try simp only [Exit.inBlock,Exit.then]);refine bodyPost_ret (results_ct rfl _ _ g4 54 (#[eS,eS,nilS,nilS,eS,nilS,nilS,nilS]) (0,0) _ rfl (HK.out.k.1) Tryz.underlying54 rfl kr_) rfl ?_)
 exact ⟨rfl,HK.out.b⟩
theorem errors_some (w:World) (gn cS:Nat) (x:S25) (A4 A5:Option Addr) (c4 c5:Nat) (loc kn:ByteArray) (T:Value) (path names:List ByteArray) (hD:∀ W,Below w.heap.size w W→Calls Tryz.prog 19 #[.int .i64 2020,.slice (some ⟨gn,0,none⟩) 1 cS,.agg (jvc x A4 A5 c4 c5)] W fun e w'=>Told loc kn T path names W e w'):
  Calls Tryz.prog 14 #[.slice (some ⟨gn,0,none⟩) 1 cS,.agg (jvc x A4 A5 c4 c5)] w fun e w'=>Told loc kn T path names w e w':=by
 have HD:=asd_ hD
 clear hD
 have HK:=st0_ w
 go_enter Tryz.func14,Tryz.ntmps14
 go_wp2_with (first|((with_reducible refine gd_ 3 ?_);refine bx_ (jvc x A4 A5 c4 c5) 25 ?_;clear HK;intro g3 wb3 HK Gg3;replace Bc:=ce1_ HK 0)|((with_reducible refine gd_ 4 ?_);refine bx_ #[eS,eS,nilS,nilS,eS,nilS,nilS,nilS] 54 ?_;clear HK;intro g4 wb4 HK Gg4;replace Bc:=ce2_ HK 1 0)|((with_reducible refine gd_ 7 ?_);refine lo_ 25 3 g3 (jvc x A4 A5 c4 c5) HK.out.k.2.1 Tryz.underlying25 ?_)|((with_reducible refine gd_ 8 ?_);refine cw_ #[.int .i64 2020,.slice (some ⟨gn,0,none⟩) 1 cS,.agg (jvc x A4 A5 c4 c5)] Tryz.func19 (told_form (HD.out _ (by repeat (first|exact HK.out.b|exact Below.refl _ _|apply below_alloc|apply pw_below_drewN|apply below_drew1)))) ?_;rintro v8 wc8 HK0 ⟨Aq,cq,Aa,ca,gx,cx,curx,Ap,cp,Aa2,ca2,An,cn,rfl,hgx,hgxn,hcx,hcur,hFp,hFn⟩ hB;have HK1:=At.fact (Fact.strs (.slice Ap path.length cp) path) (At.fact (Fact.strs (.slice An names.length cn) names) (At.came at_ hB hgx hgxn) hFn) hFp;have Hcur:=asd_ (And.intro hcx hcur);have Hgx:=asd_ (Nat.le_trans (by first|exact HK.out.b.size|exact (At.b at_).size) hgxn);clear HK0 hB hgx hgxn hcx hcur hFp hFn;replace HK:=asd_ HK1;clear HK1;replace Bc:=ce2_ HK 4 3)|((with_reducible refine gate_ (.store 54 (.tmp 4) (.tmp 9)) rfl ?_);refine storerow_at (cs:=#[eS,eS,nilS,nilS,eS,nilS,nilS,nilS]) (g:=g4) 3 (#[.string loc,.string ⟨#[83,99,104,101,109,97]⟩,.slice Aq 0 cq,.slice Aa 0 ca,eS,nilS,nilS,.slice (some ⟨gx,0,none⟩) 1 cx]) at_ rfl Gg4.out rfl rfl rfl rfl rfl rfl kr_ rfl (by simp [Value.oneCell']) ?_;intro wr1 HK1;replace HK:=asd_ HK1;clear HK1;replace Bc:=ce2_ HK 4 3))
 ((try simp only [Exit.inBlock,Exit.then]);refine bodyPost_ret (results_ct rfl _ _ g4 54 (#[.string loc,.string ⟨#[83,99,104,101,109,97]⟩,.slice Aq 0 cq,.slice Aa 0 ca,eS,nilS,nilS,.slice (some ⟨gx,0,none⟩) 1 cx]) (0,0) _ rfl (HK.out.k.2.2.2.1) Tryz.underlying54 rfl kr_) rfl ?_)
 exact ⟨Aq,cq,Aa,ca,gx,cx,curx,Ap,cp,Aa2,ca2,An,cn,rfl,HK.out.k.2.2.1,Hgx.out,Hcur.out.1,Hcur.out.2,HK.out.k.1,HK.out.k.2.1,HK.out.b⟩
end Go.Proofs.YtkphbhncpdcbeaaGreatDoor.J
namespace Go.Proofs.YtkphbhncpdcbeaaGreatDoor.J
open YtkphbhncpdcbeaaGreatDoorW Go.RowKit YtkphbhncpdcbeaaGreatDoorW.PrintWords YtkphbhncpdcbeaaGreatDoorW.PrintLast YtkphbhncpdcbeaaGreatDoorW.PrintMore PJT
theorem mk8 {o:Oper} {a:Act} (W:World) (ho:o.op= .makeSlice 22 (.const (.int .i64 0)) (.const (.int .i64 8)):=by rfl):(execOp a.eval o).run Tryz.prog W= .ok (.value (.slice (some ⟨W.heap.size,0,none⟩) 0 8)) (W.alloc (.cells #[eS,eS,eS,eS,eS,eS,eS,eS] 9)):=by
 have h:(Instr.makeSlice 22 (.int .i64 0) (.int .i64 8)).run Tryz.prog W= .ok (.slice (some ⟨W.heap.size,0,none⟩) 0 8) (W.alloc (.cells #[eS,eS,eS,eS,eS,eS,eS,eS] 9)):=by kernel_rfl
 unfold execOp
 simp [ho,Act.eval,h,Result.andThen]
def ins:Nat→Blk→List Blk→List Blk
 |0,b,l=>b::l
 |_ + 1,b,[]=>[b]
 |k + 1,b,c::l=>c::ins k b l
theorem ins_perm (b:Blk):∀ (k:Nat) (l:List Blk),(b::l).Perm (ins k b l)
 |0,l=>List.Perm.refl _
 |_ + 1,[]=>List.Perm.refl _
 |k + 1,c::l=>(List.Perm.swap c b l).trans ((ins_perm b k l).cons c)
theorem At.sink {w W:World} {b:Blk} {l:List Blk} (k:Nat) (h:At w (b::l) W):At w (ins k b l) W:=h.perm (ins_perm b k l)
end Go.Proofs.YtkphbhncpdcbeaaGreatDoor.J
