/- Part. -/
import Derived.Test.YtkphbhncpdcbeaaGreatDoorQBM
set_option linter.unusedVariables false
set_option linter.unusedSimpArgs false
set_option maxHeartbeats 8000000
set_option maxRecDepth 100000
namespace Go.Proofs.YtkphbhncpdcbeaaGreatDoor.J
open Go.RowKit YtkphbhncpdcbeaaGreatDoorW.PrintWords YtkphbhncpdcbeaaGreatDoorW.PrintLast YtkphbhncpdcbeaaGreatDoorW.PrintMore PJT
attribute [local go_sem] ta_null_4 ta_null_9 ta_null_117 ta_null_113 ta_bool_4 ta_bool_9 ta_bool_117 ta_bool_113 ta_text_4 ta_text_340 ta_text_343 ta_text_3 ta_text_344 ta_text_345 ta_text_21 ta_text_2 ta_text_232 ta_text_5 ta_text_346 ta_text_324 ta_text_326 ta_text_9 ta_text_117 ta_text_113 ta_array_4 ta_array_340 ta_array_343 ta_array_3 ta_array_344 ta_array_345 ta_array_21 ta_array_2 ta_array_232 ta_array_5 ta_array_346 ta_array_324 ta_array_326 ta_array_9 ta_array_117 ta_array_113 ta_object_4 ta_object_340 ta_object_343 ta_object_3 ta_object_344 ta_object_345 ta_object_21 ta_object_2 ta_object_232 ta_object_5 ta_object_346 ta_object_324 ta_object_326 ta_object_9 ta_object_117 ta_object_113
theorem val_c_null (w w0:World) (l:List Blk) (gv gs gc:Nat) (ad:Addr) (up:Value) (loc:ByteArray) (req props pats deps dreq dsch:Value) (gk:Nat) (cv:Value) (hgk:w0.heap[gk]? =some (row #[cv] 20)) (H:At w0 (.b gv (row (vdc (.nilIface) ad (.pointer (some ⟨gs,0,none⟩)) (.pointer (some ⟨gc,0,none⟩)) up nilS) 182):: .b gc (row (#[.pointer (some ⟨gs,0,none⟩),eS,i0,nP]) 178)::l) w) (hgv:w0.heap.size≤gv) (hS:w0.heap[gs]? =some (row (Sc.cells ⟨2020,loc,nP,nP,.pointer (some ⟨gk,0,none⟩),nP,req,props,pats,deps,dreq,dsch,.nilIface⟩) 119)) (hE:∀ W,Below w0.heap.size w0 W→Calls Tryz.prog 144 #[.nilIface,cv] W (rb (.tuple #[.bool true,.nilIface]) W)):
  Calls Tryz.prog 99 #[.pointer (some ⟨gv,0,none⟩)] w fun e w'=>e= .returned (.tuple #[up,.nilIface])∧At w0 (.b gv (row (vdc (.nilIface) ad (.pointer (some ⟨gs,0,none⟩)) (.pointer (some ⟨gc,0,none⟩)) up nilS) 182):: .b gc (row (#[.pointer (some ⟨gs,0,none⟩),eS,i0,nP]) 178)::l) w':=by
 have HE:=asd_ hE
 clear hE
 have HK:=asd_ H
 clear H
 replace Bc:=ce2_ HK 1 0;replace Bf:=fe1_ HK 0;have bgs:=cel_ (blk_below hS HK.out.b);have bgk:=cel_ (blk_below hgk HK.out.b)
 have Ggv:=asd_ hgv
 clear hgv
 go_enter Tryz.func99,Tryz.ntmps99
 go_wp2_with (first|((first|((with_reducible refine gd_ 55 ?_);refine cl_ #[.pointer (some ⟨gc,0,none⟩)] (nP) Tryz.func137 (cycle_none _ gc gs (HK.out.k.2.1)) ?_)|((with_reducible refine gd_ 76 ?_);refine cl_ #[.nilIface] (.int .i64 2) Tryz.func139 (type_null _) ?_)|((with_reducible refine gd_ 139 ?_);refine cl_ #[.nilIface,cv] (.tuple #[.bool true,.nilIface]) Tryz.func144 (HE.out _ HK.out.b) ?_)|((with_reducible refine gd_ 311 ?_);refine cl_ #[.pointer (some ⟨gv,0,none⟩)] (.tuple #[]) Tryz.func150 (cond_quiet_g _ gv gs (.nilIface) ad (.pointer (some ⟨gc,0,none⟩)) up nilS ⟨2020,loc,nP,nP,.pointer (some ⟨gk,0,none⟩),nP,req,props,pats,deps,dreq,dsch,.nilIface⟩ (HK.out.k.1) (blk_below hS HK.out.b)) ?_)|((with_reducible refine gd_ 318 ?_);refine cl_ #[.pointer (some ⟨gv,0,none⟩)] (.tuple #[]) Tryz.func151 (uneval_null_g _ gv gs ad (.pointer (some ⟨gc,0,none⟩)) up nilS ⟨2020,loc,nP,nP,.pointer (some ⟨gk,0,none⟩),nP,req,props,pats,deps,dreq,dsch,.nilIface⟩ (HK.out.k.1) (blk_below hS HK.out.b)) ?_));intro wc55 HK1;replace HK:=asd_ HK1;clear HK1;clear bgs bgk;replace Bc:=ce2_ HK 1 0;replace Bf:=fe1_ HK 0;have bgs:=cel_ (blk_below hS HK.out.b);have bgk:=cel_ (blk_below hgk HK.out.b)))
 go_ret2
 exact ⟨rfl,HK.out⟩
theorem val_c_bool (b:Bool) (w w0:World) (l:List Blk) (gv gs gc:Nat) (ad:Addr) (up:Value) (loc:ByteArray) (req props pats deps dreq dsch:Value) (gk:Nat) (cv:Value) (hgk:w0.heap[gk]? =some (row #[cv] 20)) (H:At w0 (.b gv (row (vdc (.iface 4 (.bool b)) ad (.pointer (some ⟨gs,0,none⟩)) (.pointer (some ⟨gc,0,none⟩)) up nilS) 182):: .b gc (row (#[.pointer (some ⟨gs,0,none⟩),eS,i0,nP]) 178)::l) w) (hgv:w0.heap.size≤gv) (hS:w0.heap[gs]? =some (row (Sc.cells ⟨2020,loc,nP,nP,.pointer (some ⟨gk,0,none⟩),nP,req,props,pats,deps,dreq,dsch,.nilIface⟩) 119)) (hE:∀ W,Below w0.heap.size w0 W→Calls Tryz.prog 144 #[.iface 4 (.bool b),cv] W (rb (.tuple #[.bool true,.nilIface]) W)):
  Calls Tryz.prog 99 #[.pointer (some ⟨gv,0,none⟩)] w fun e w'=>e= .returned (.tuple #[up,.nilIface])∧At w0 (.b gv (row (vdc (.iface 4 (.bool b)) ad (.pointer (some ⟨gs,0,none⟩)) (.pointer (some ⟨gc,0,none⟩)) up nilS) 182):: .b gc (row (#[.pointer (some ⟨gs,0,none⟩),eS,i0,nP]) 178)::l) w':=by
 have HE:=asd_ hE
 clear hE
 have HK:=asd_ H
 clear H
 replace Bc:=ce2_ HK 1 0;replace Bf:=fe1_ HK 0;have bgs:=cel_ (blk_below hS HK.out.b);have bgk:=cel_ (blk_below hgk HK.out.b)
 have Ggv:=asd_ hgv
 clear hgv
 go_enter Tryz.func99,Tryz.ntmps99
 go_wp2_with (first|((first|((with_reducible refine gd_ 55 ?_);refine cl_ #[.pointer (some ⟨gc,0,none⟩)] (nP) Tryz.func137 (cycle_none _ gc gs (HK.out.k.2.1)) ?_)|((with_reducible refine gd_ 76 ?_);refine cl_ #[.iface 4 (.bool b)] (.int .i64 4) Tryz.func139 (type_bool _ b) ?_)|((with_reducible refine gd_ 139 ?_);refine cl_ #[.iface 4 (.bool b),cv] (.tuple #[.bool true,.nilIface]) Tryz.func144 (HE.out _ HK.out.b) ?_)|((with_reducible refine gd_ 311 ?_);refine cl_ #[.pointer (some ⟨gv,0,none⟩)] (.tuple #[]) Tryz.func150 (cond_quiet_g _ gv gs (.iface 4 (.bool b)) ad (.pointer (some ⟨gc,0,none⟩)) up nilS ⟨2020,loc,nP,nP,.pointer (some ⟨gk,0,none⟩),nP,req,props,pats,deps,dreq,dsch,.nilIface⟩ (HK.out.k.1) (blk_below hS HK.out.b)) ?_)|((with_reducible refine gd_ 318 ?_);refine cl_ #[.pointer (some ⟨gv,0,none⟩)] (.tuple #[]) Tryz.func151 (uneval_bool_g _ gv gs b ad (.pointer (some ⟨gc,0,none⟩)) up nilS ⟨2020,loc,nP,nP,.pointer (some ⟨gk,0,none⟩),nP,req,props,pats,deps,dreq,dsch,.nilIface⟩ (HK.out.k.1) (blk_below hS HK.out.b)) ?_));intro wc55 HK1;replace HK:=asd_ HK1;clear HK1;clear bgs bgk;replace Bc:=ce2_ HK 1 0;replace Bf:=fe1_ HK 0;have bgs:=cel_ (blk_below hS HK.out.b);have bgk:=cel_ (blk_below hgk HK.out.b)))
 go_ret2
 exact ⟨rfl,HK.out⟩
theorem val_c_text (t:ByteArray) (w w0:World) (l:List Blk) (gv gs gc:Nat) (ad:Addr) (up:Value) (loc:ByteArray) (req props pats deps dreq dsch:Value) (gk:Nat) (cv:Value) (hgk:w0.heap[gk]? =some (row #[cv] 20)) (H:At w0 (.b gv (row (vdc (.iface 9 (.string t)) ad (.pointer (some ⟨gs,0,none⟩)) (.pointer (some ⟨gc,0,none⟩)) up nilS) 182):: .b gc (row (#[.pointer (some ⟨gs,0,none⟩),eS,i0,nP]) 178)::l) w) (hgv:w0.heap.size≤gv) (hS:w0.heap[gs]? =some (row (Sc.cells ⟨2020,loc,nP,nP,.pointer (some ⟨gk,0,none⟩),nP,req,props,pats,deps,dreq,dsch,.nilIface⟩) 119)) (hE:∀ W,Below w0.heap.size w0 W→Calls Tryz.prog 144 #[.iface 9 (.string t),cv] W (rb (.tuple #[.bool true,.nilIface]) W)):
  Calls Tryz.prog 99 #[.pointer (some ⟨gv,0,none⟩)] w fun e w'=>e= .returned (.tuple #[up,.nilIface])∧At w0 (.b gv (row (vdc (.iface 9 (.string t)) ad (.pointer (some ⟨gs,0,none⟩)) (.pointer (some ⟨gc,0,none⟩)) up nilS) 182):: .b gc (row (#[.pointer (some ⟨gs,0,none⟩),eS,i0,nP]) 178)::l) w':=by
 have HE:=asd_ hE
 clear hE
 have HK:=asd_ H
 clear H
 replace Bc:=ce2_ HK 1 0;replace Bf:=fe1_ HK 0;have bgs:=cel_ (blk_below hS HK.out.b);have bgk:=cel_ (blk_below hgk HK.out.b)
 have Ggv:=asd_ hgv
 clear hgv
 go_enter Tryz.func99,Tryz.ntmps99
 go_wp2_with (first|((first|((with_reducible refine gd_ 55 ?_);refine cl_ #[.pointer (some ⟨gc,0,none⟩)] (nP) Tryz.func137 (cycle_none _ gc gs (HK.out.k.2.1)) ?_)|((with_reducible refine gd_ 76 ?_);refine cl_ #[.iface 9 (.string t)] (.int .i64 32) Tryz.func139 (type_text _ t) ?_)|((with_reducible refine gd_ 139 ?_);refine cl_ #[.iface 9 (.string t),cv] (.tuple #[.bool true,.nilIface]) Tryz.func144 (HE.out _ HK.out.b) ?_)|((with_reducible refine gd_ 296 ?_);refine cl_ #[.pointer (some ⟨gv,0,none⟩),.string t] (.tuple #[]) Tryz.func149 (str_quiet _ gv gs (.iface 9 (.string t)) ad (.pointer (some ⟨gc,0,none⟩)) up nilS ⟨2020,loc,nP,nP,.pointer (some ⟨gk,0,none⟩),nP,req,props,pats,deps,dreq,dsch,.nilIface⟩ (HK.out.k.1) (blk_below hS HK.out.b) t) ?_)|((with_reducible refine gd_ 311 ?_);refine cl_ #[.pointer (some ⟨gv,0,none⟩)] (.tuple #[]) Tryz.func150 (cond_quiet_g _ gv gs (.iface 9 (.string t)) ad (.pointer (some ⟨gc,0,none⟩)) up nilS ⟨2020,loc,nP,nP,.pointer (some ⟨gk,0,none⟩),nP,req,props,pats,deps,dreq,dsch,.nilIface⟩ (HK.out.k.1) (blk_below hS HK.out.b)) ?_)|((with_reducible refine gd_ 318 ?_);refine cl_ #[.pointer (some ⟨gv,0,none⟩)] (.tuple #[]) Tryz.func151 (uneval_text_g _ gv gs t ad (.pointer (some ⟨gc,0,none⟩)) up nilS ⟨2020,loc,nP,nP,.pointer (some ⟨gk,0,none⟩),nP,req,props,pats,deps,dreq,dsch,.nilIface⟩ (HK.out.k.1) (blk_below hS HK.out.b)) ?_));intro wc55 HK1;replace HK:=asd_ HK1;clear HK1;clear bgs bgk;replace Bc:=ce2_ HK 1 0;replace Bf:=fe1_ HK 0;have bgs:=cel_ (blk_below hS HK.out.b);have bgk:=cel_ (blk_below hgk HK.out.b)))
 go_ret2
 exact ⟨rfl,HK.out⟩
theorem val_c_array (A:Option Addr) (n c:Nat) (w w0:World) (l:List Blk) (gv gs gc:Nat) (ad:Addr) (up:Value) (loc:ByteArray) (req props pats deps dreq dsch:Value) (gk:Nat) (cv:Value) (hgk:w0.heap[gk]? =some (row #[cv] 20)) (H:At w0 (.b gv (row (vdc (.iface 117 (.slice A n c)) ad (.pointer (some ⟨gs,0,none⟩)) (.pointer (some ⟨gc,0,none⟩)) up nilS) 182):: .b gc (row (#[.pointer (some ⟨gs,0,none⟩),eS,i0,nP]) 178)::l) w) (hgv:w0.heap.size≤gv) (hS:w0.heap[gs]? =some (row (Sc.cells ⟨2020,loc,nP,nP,.pointer (some ⟨gk,0,none⟩),nP,req,props,pats,deps,dreq,dsch,.nilIface⟩) 119)) (hE:∀ W,Below w0.heap.size w0 W→Calls Tryz.prog 144 #[.iface 117 (.slice A n c),cv] W (rb (.tuple #[.bool true,.nilIface]) W)):
  Calls Tryz.prog 99 #[.pointer (some ⟨gv,0,none⟩)] w fun e w'=>e= .returned (.tuple #[up,.nilIface])∧At w0 (.b gv (row (vdc (.iface 117 (.slice A n c)) ad (.pointer (some ⟨gs,0,none⟩)) (.pointer (some ⟨gc,0,none⟩)) up nilS) 182):: .b gc (row (#[.pointer (some ⟨gs,0,none⟩),eS,i0,nP]) 178)::l) w':=by
 have HE:=asd_ hE
 clear hE
 have HK:=asd_ H
 clear H
 replace Bc:=ce2_ HK 1 0;replace Bf:=fe1_ HK 0;have bgs:=cel_ (blk_below hS HK.out.b);have bgk:=cel_ (blk_below hgk HK.out.b)
 have Ggv:=asd_ hgv
 clear hgv
 go_enter Tryz.func99,Tryz.ntmps99
 go_wp2_with (first|((first|((with_reducible refine gd_ 55 ?_);refine cl_ #[.pointer (some ⟨gc,0,none⟩)] (nP) Tryz.func137 (cycle_none _ gc gs (HK.out.k.2.1)) ?_)|((with_reducible refine gd_ 76 ?_);refine cl_ #[.iface 117 (.slice A n c)] (.int .i64 64) Tryz.func139 (type_array _ A n c) ?_)|((with_reducible refine gd_ 139 ?_);refine cl_ #[.iface 117 (.slice A n c),cv] (.tuple #[.bool true,.nilIface]) Tryz.func144 (HE.out _ HK.out.b) ?_)|((with_reducible refine gd_ 290 ?_);refine cl_ #[.pointer (some ⟨gv,0,none⟩),.slice A n c] (.tuple #[]) Tryz.func148 (arr_quiet_g _ gv gs (.iface 117 (.slice A n c)) ad (.pointer (some ⟨gc,0,none⟩)) up nilS ⟨2020,loc,nP,nP,.pointer (some ⟨gk,0,none⟩),nP,req,props,pats,deps,dreq,dsch,.nilIface⟩ (HK.out.k.1) (blk_below hS HK.out.b) A n c) ?_)|((with_reducible refine gd_ 311 ?_);refine cl_ #[.pointer (some ⟨gv,0,none⟩)] (.tuple #[]) Tryz.func150 (cond_quiet_g _ gv gs (.iface 117 (.slice A n c)) ad (.pointer (some ⟨gc,0,none⟩)) up nilS ⟨2020,loc,nP,nP,.pointer (some ⟨gk,0,none⟩),nP,req,props,pats,deps,dreq,dsch,.nilIface⟩ (HK.out.k.1) (blk_below hS HK.out.b)) ?_)|((with_reducible refine gd_ 318 ?_);refine cl_ #[.pointer (some ⟨gv,0,none⟩)] (.tuple #[]) Tryz.func151 (uneval_array_g _ gv gs A n c ad (.pointer (some ⟨gc,0,none⟩)) up nilS ⟨2020,loc,nP,nP,.pointer (some ⟨gk,0,none⟩),nP,req,props,pats,deps,dreq,dsch,.nilIface⟩ (HK.out.k.1) (blk_below hS HK.out.b)) ?_));intro wc55 HK1;replace HK:=asd_ HK1;clear HK1;clear bgs bgk;replace Bc:=ce2_ HK 1 0;replace Bf:=fe1_ HK 0;have bgs:=cel_ (blk_below hS HK.out.b);have bgk:=cel_ (blk_below hgk HK.out.b)))
 go_ret2
 exact ⟨rfl,HK.out⟩
theorem val_c_object (g:Nat) (w w0:World) (l:List Blk) (gv gs gc:Nat) (ad:Addr) (up:Value) (loc:ByteArray) (req props pats deps dreq dsch:Value) (gk:Nat) (cv:Value) (hgk:w0.heap[gk]? =some (row #[cv] 20)) (H:At w0 (.b gv (row (vdc (.iface 113 (.map (some g))) ad (.pointer (some ⟨gs,0,none⟩)) (.pointer (some ⟨gc,0,none⟩)) up nilS) 182):: .b gc (row (#[.pointer (some ⟨gs,0,none⟩),eS,i0,nP]) 178)::l) w) (hgv:w0.heap.size≤gv) (hS:w0.heap[gs]? =some (row (Sc.cells ⟨2020,loc,nP,nP,.pointer (some ⟨gk,0,none⟩),nP,req,props,pats,deps,dreq,dsch,.nilIface⟩) 119)) (hE:∀ W,Below w0.heap.size w0 W→Calls Tryz.prog 144 #[.iface 113 (.map (some g)),cv] W (rb (.tuple #[.bool true,.nilIface]) W)) (hO:∀ W l,At w0 (.b gv (row (vdc (.iface 113 (.map (some g))) ad (.pointer (some ⟨gs,0,none⟩)) (.pointer (some ⟨gc,0,none⟩)) up nilS) 182)::l) W→Calls Tryz.prog 147 #[.pointer (some ⟨gv,0,none⟩),.map (some g)] W fun e w'=>e= .returned (.tuple #[])∧At w0 (.b gv (row (vdc (.iface 113 (.map (some g))) ad (.pointer (some ⟨gs,0,none⟩)) (.pointer (some ⟨gc,0,none⟩)) up nilS) 182)::l) w'):
  Calls Tryz.prog 99 #[.pointer (some ⟨gv,0,none⟩)] w fun e w'=>e= .returned (.tuple #[up,.nilIface])∧At w0 (.b gv (row (vdc (.iface 113 (.map (some g))) ad (.pointer (some ⟨gs,0,none⟩)) (.pointer (some ⟨gc,0,none⟩)) up nilS) 182):: .b gc (row (#[.pointer (some ⟨gs,0,none⟩),eS,i0,nP]) 178)::l) w':=by
 have HE:=asd_ hE
 have HO:=asd_ hO
 clear hE hO
 have HK:=asd_ H
 clear H
 replace Bc:=ce2_ HK 1 0;replace Bf:=fe1_ HK 0;have bgs:=cel_ (blk_below hS HK.out.b);have bgk:=cel_ (blk_below hgk HK.out.b)
 have Ggv:=asd_ hgv
 clear hgv
 go_enter Tryz.func99,Tryz.ntmps99
 go_wp2_with (first|((first|((with_reducible refine gd_ 55 ?_);refine cl_ #[.pointer (some ⟨gc,0,none⟩)] (nP) Tryz.func137 (cycle_none _ gc gs (HK.out.k.2.1)) ?_)|((with_reducible refine gd_ 76 ?_);refine cl_ #[.iface 113 (.map (some g))] (.int .i64 128) Tryz.func139 (type_object _ g) ?_)|((with_reducible refine gd_ 139 ?_);refine cl_ #[.iface 113 (.map (some g)),cv] (.tuple #[.bool true,.nilIface]) Tryz.func144 (HE.out _ HK.out.b) ?_)|((with_reducible refine gd_ 284 ?_);refine call_to #[.pointer (some ⟨gv,0,none⟩),.map (some g)] (.tuple #[]) _ rfl Tryz.func147 kr_ rfl rfl ar_ (HO.out _ _ HK.out) ?_)|((with_reducible refine gd_ 311 ?_);refine cl_ #[.pointer (some ⟨gv,0,none⟩)] (.tuple #[]) Tryz.func150 (cond_quiet_g _ gv gs (.iface 113 (.map (some g))) ad (.pointer (some ⟨gc,0,none⟩)) up nilS ⟨2020,loc,nP,nP,.pointer (some ⟨gk,0,none⟩),nP,req,props,pats,deps,dreq,dsch,.nilIface⟩ (HK.out.k.1) (blk_below hS HK.out.b)) ?_)|((with_reducible refine gd_ 318 ?_);refine cl_ #[.pointer (some ⟨gv,0,none⟩)] (.tuple #[]) Tryz.func151 (uneval_object_g _ gv gs g ad (.pointer (some ⟨gc,0,none⟩)) up nilS ⟨2020,loc,nP,nP,.pointer (some ⟨gk,0,none⟩),nP,req,props,pats,deps,dreq,dsch,.nilIface⟩ (HK.out.k.1) (blk_below hS HK.out.b)) ?_));intro wc55 HK1;replace HK:=asd_ HK1;clear HK1;clear bgs bgk;replace Bc:=ce2_ HK 1 0;replace Bf:=fe1_ HK 0;have bgs:=cel_ (blk_below hS HK.out.b);have bgk:=cel_ (blk_below hgk HK.out.b)))
 go_ret2
 exact ⟨rfl,HK.out⟩
theorem val_c_no (vv:Value) (hvv:vv.oneCell'=true) (ty:Int) (hty:ty≠0) (w w0:World) (l:List Blk) (gv gs gc:Nat) (ad:Addr) (up:Value) (loc:ByteArray) (req props pats deps dreq dsch:Value) (gk:Nat) (cv:Value) (hgk:w0.heap[gk]? =some (row #[cv] 20)) (H:At w0 (.b gv (row (vdc (vv) ad (.pointer (some ⟨gs,0,none⟩)) (.pointer (some ⟨gc,0,none⟩)) up nilS) 182):: .b gc (row (#[.pointer (some ⟨gs,0,none⟩),eS,i0,nP]) 178)::l) w) (hgv:w0.heap.size≤gv) (hS:w0.heap[gs]? =some (row (Sc.cells ⟨2020,loc,nP,nP,.pointer (some ⟨gk,0,none⟩),nP,req,props,pats,deps,dreq,dsch,.nilIface⟩) 119)) (hT:∀ W:World,Calls Tryz.prog 139 #[vv] W (rb (.int .i64 ty) W)) (hcv:cv.oneCell'=true) (hE:∀ W,Below w0.heap.size w0 W→Calls Tryz.prog 144 #[vv,cv] W (rb (.tuple #[.bool false,.nilIface]) W)):
  Calls Tryz.prog 99 #[.pointer (some ⟨gv,0,none⟩)] w fun e w'=>∃ ge gki Ae ce Y,e= .returned (.tuple #[nP,.iface 76 (.pointer (some ⟨ge,0,none⟩))])∧At w0 (.b ge (row (vec loc Ae ce (.iface 281 (.pointer (some ⟨gki,0,none⟩))) nilS) 129)::Y) w':=by
 have HT:=asd_ hT
 have HE:=asd_ hE
 clear hT hE
 have hd0:(ty == 0)=false:=by simpa using hty
 have hm:=cells_one hvv;unfold Value.cells at hm;have Hvv:=asd_ hvv;clear hvv
 have hmc:=cells_one hcv;unfold Value.cells at hmc;have Hcv:=asd_ hcv;clear hcv
 have HK:=asd_ H
 clear H
 replace Bc:=ce2_ HK 1 0;replace Bf:=fe1_ HK 0;have bgs:=cel_ (blk_below hS HK.out.b);have bgk:=cel_ (blk_below hgk HK.out.b)
 have Ggv:=asd_ hgv
 clear hgv
 go_enter Tryz.func99,Tryz.ntmps99
 go_wp2_with (first|((with_reducible refine gd_ 159 ?_);refine bx_ #[vv,cv] 283 ?_;clear HK bgs bgk;intro gki wb159 HK Ggki;replace Bc:=ce3_ HK 2 1 0;replace Bf:=fe1_ HK 1;have bgs:=cel_ (blk_below hS HK.out.b);have bgk:=cel_ (blk_below hgk HK.out.b))|((with_reducible refine gd_ 161 ?_);refine cw_ #[.pointer (some ⟨gv,0,none⟩),.iface 281 (.pointer (some ⟨gki,0,none⟩))] Tryz.func136 (error_form (error_ok _ gv gs gki 281 (vv) ad (.pointer (some ⟨gc,0,none⟩)) up ⟨2020,loc,nP,nP,.pointer (some ⟨gk,0,none⟩),nP,req,props,pats,deps,dreq,dsch,.nilIface⟩ (HK.out.k.2.1) (blk_below hS HK.out.b))) ?_;rintro v161 wc161 HK0 ⟨ge,Ae,ce,rfl,hge,hgn⟩ hB;have HK1:=At.came at_ hB hge hgn;clear HK0 hge hgn hB;replace HK:=asd_ HK1;clear HK1;clear bgs bgk;replace Bc:=ce3_ HK 3 2 1;replace Bf:=fe1_ HK 2;have bgs:=cel_ (blk_below hS HK.out.b);have bgk:=cel_ (blk_below hgk HK.out.b))|((first|((with_reducible refine gd_ 55 ?_);refine cl_ #[.pointer (some ⟨gc,0,none⟩)] (nP) Tryz.func137 (cycle_none _ gc gs (HK.out.k.2.1)) ?_)|((with_reducible refine gd_ 76 ?_);refine cl_ #[vv] (.int .i64 ty) Tryz.func139 (HT.out _) ?_)|((with_reducible refine gd_ 139 ?_);refine cl_ #[vv,cv] (.tuple #[.bool false,.nilIface]) Tryz.func144 (HE.out _ HK.out.b) ?_));intro wc55 HK1;replace HK:=asd_ HK1;clear HK1;clear bgs bgk;replace Bc:=ce2_ HK 1 0;replace Bf:=fe1_ HK 0;have bgs:=cel_ (blk_below hS HK.out.b);have bgk:=cel_ (blk_below hgk HK.out.b)))
 go_ret2
 exact ⟨ge,rfl,gki,Ae,ce,_,HK.out⟩
end Go.Proofs.YtkphbhncpdcbeaaGreatDoor.J
namespace Go.Proofs.YtkphbhncpdcbeaaGreatDoor.J
open Go.RowKit YtkphbhncpdcbeaaGreatDoorW.PrintWords YtkphbhncpdcbeaaGreatDoorW.PrintLast YtkphbhncpdcbeaaGreatDoorW.PrintMore PJT
def Sch_c (c:S25) (gs:Nat) (W:World):Prop:=∃ A2 c2 gm gpp gpr gds gdr gk cv,W.heap[gs]? =some (row (Sc.cells ⟨2020,⟨#[49]⟩,nP,nP,.pointer (some ⟨gk,0,none⟩),nP,.slice A2 0 c2,.map (some gpr),.map (some gpp),.map (some gm),.map (some gdr),.map (some gds),.nilIface⟩) 119)∧W.heap[gpr]? =some (.map #[] 0)∧W.heap[gpp]? =some (.map #[] 0)∧W.heap[gm]? =some (.map #[] 0)∧W.heap[gds]? =some (.map #[] 0)∧W.heap[gdr]? =some (.map #[] 0)∧W.heap[gk]? =some (row #[cv] 20)∧Coded cv∧OutD W (fun _=>True) c cv
theorem Sch_c.below (c:S25) {gs:Nat} {W W1:World} (h:Sch_c c gs W) (hb:Below W.heap.size W W1):Sch_c c gs W1:=by
 obtain ⟨A2,c2,gm,gpp,gpr,gds,gdr,gk,cv,h1,h2,h3,h4,h5,h6,h7,h8,h9⟩:=h
 exact ⟨A2,c2,gm,gpp,gpr,gds,gdr,gk,cv,blk_below h1 hb,blk_below h2 hb,blk_below h3 hb,blk_below h4 hb,blk_below h5 hb,blk_below h6 hb,blk_below h7 hb,h8,h9.grow hb⟩
theorem comp_c (w:World) (gn cS:Nat) {c:S25} {B4 B5:Option Addr} {d4 d5 gq cq:Nat} (hq:w.heap[gq]? =some (row #[.int .i64 c.f0,.bool c.f1,.int .i64 c.f2,.string c.f3,.slice B4 c.f4.length d4,.slice B5 c.f5.length d5] 25)) (hx:Rep w c B4 d4 B5 d5) (hv:V c) (hS:w.heap[gn]? =some (row (ndC gq cq) 45)):Calls Tryz.prog 27 #[.slice (some ⟨gn,0,none⟩) 1 cS,.int .i64 2020] w fun e w'=>∃ v,e= .returned v∧(∃ gs,v= .pointer (some ⟨gs,0,none⟩)∧Sch_c c gs w')∧Below w.heap.size w w':=by
 refine (compiled_c w gn cS hq hx hv (by simp [Nd.cells,Value.oneCell']) hS).mono ?_
 rintro e w' ⟨gs,A2,c2,gm,gpp,gpr,gds,gdr,gk,cv,rfl,h1,h2,h3,h4,h5,h6,h7,h8,h9,hb⟩
 exact ⟨_,rfl,⟨gs,rfl,A2,c2,gm,gpp,gpr,gds,gdr,gk,cv,h1,h2,h3,h4,h5,h6,h7,h8,h9.mono (fun _ _ _=>trivial)⟩,hb⟩
theorem quiet_c (c:S25) {W0:World} {gs:Nat} {x:S25} {v:Value} (hP:Sch_c c gs W0) (hO:OutD W0 (fun _=>True) x v) (hVx:V x) (hv:V c) (hj:JE x c):
  Calls Tryz.prog 28 #[.pointer (some ⟨gs,0,none⟩),v] W0 (rb .nilIface W0):=by
 obtain ⟨A2,c2,gm,gpp,gpr,gds,gdr,gk,cv,h1,h2,h3,h4,h5,h6,h7,h8,h9⟩:=hP
 have hE:∀ W,Below W0.heap.size W0 W→EqC (JE x c) v cv W:=fun W hb=>equals_ok hO hVx hv W hb (h9.grow hb)
 refine val28_none (sch_none W0 gs v hO.one ⟨2020,⟨#[49]⟩,nP,nP,.pointer (some ⟨gk,0,none⟩),nP,.slice A2 0 c2,.map (some gpr),.map (some gpp),.map (some gm),.map (some gdr),.map (some gds),.nilIface⟩ h1 (fun W hb=>from_out hO W gs ⟨2020,⟨#[49]⟩,nP,nP,.pointer (some ⟨gk,0,none⟩),nP,.slice A2 0 c2,.map (some gpr),.map (some gpp),.map (some gm),.map (some gdr),.map (some gds),.nilIface⟩ (blk_below h1 hb)) (fun W l gv gc ad up H hgv=> ?_))
 cases hO with
 |null k=>exact val_c_null W W0 l gv gs gc ad up ⟨#[49]⟩ _ _ _ _ _ _ gk cv h7 H hgv h1 (fun W hb=>(hE W hb).yes hj)
 |bool k=>exact val_c_bool _ W W0 l gv gs gc ad up ⟨#[49]⟩ _ _ _ _ _ _ gk cv h7 H hgv h1 (fun W hb=>(hE W hb).yes hj)
 |text k=>exact val_c_text _ W W0 l gv gs gc ad up ⟨#[49]⟩ _ _ _ _ _ _ gk cv h7 H hgv h1 (fun W hb=>(hE W hb).yes hj)
 |empty k c h0=>exact val_c_array _ _ _ W W0 l gv gs gc ad up ⟨#[49]⟩ _ _ _ _ _ _ gk cv h7 H hgv h1 (fun W hb=>(hE W hb).yes hj)
 |array k b c cur us hl hb h hc hs=>exact val_c_array _ _ _ W W0 l gv gs gc ad up ⟨#[49]⟩ _ _ _ _ _ _ gk cv h7 H hgv h1 (fun W hb=>(hE W hb).yes hj)
 |object k g es ck us hl h45 hg h M hs=>exact val_c_object _ W W0 l gv gs gc ad up ⟨#[49]⟩ _ _ _ _ _ _ gk cv h7 H hgv h1 (fun W hb=>(hE W hb).yes hj) (fun W l H=>obj_quiet W W0 l gv gs g gpr gpp gm gdr gds _ ad _ up _ es ck _ x.f4 A2 c2 _ _ _ _ H hgv h1 h (by rw [← bare_mapV (h45.trans hl.symm)];exact M.bare) h2 h3 h4 h5 h6)
theorem loud_c (c:S25) {W0:World} {gs:Nat} {x:S25} {v:Value} (hP:Sch_c c gs W0) (hO:OutD W0 (fun _=>True) x v) (hVx:V x) (hv:V c) (hj:¬ JE x c):
  Calls Tryz.prog 28 #[.pointer (some ⟨gs,0,none⟩),v] W0 fun e w'=>∃ u,e= .returned u∧(∃ gr,u= .iface 76 (.pointer (some ⟨gr,0,none⟩))∧Left ⟨#[49]⟩ 281 (fun _ _=>True) gr w')∧Below W0.heap.size W0 w':=by
 obtain ⟨A2,c2,gm,gpp,gpr,gds,gdr,gk,cv,h1,h2,h3,h4,h5,h6,h7,h8,h9⟩:=hP
 have hE:∀ W,Below W0.heap.size W0 W→EqC (JE x c) v cv W:=fun W hb=>equals_ok hO hVx hv W hb (h9.grow hb)
 refine loud_any W0 gs v hO.one ⟨2020,⟨#[49]⟩,nP,nP,.pointer (some ⟨gk,0,none⟩),nP,.slice A2 0 c2,.map (some gpr),.map (some gpp),.map (some gm),.map (some gdr),.map (some gds),.nilIface⟩ h1 (fun W hb=>from_out hO W gs ⟨2020,⟨#[49]⟩,nP,nP,.pointer (some ⟨gk,0,none⟩),nP,.slice A2 0 c2,.map (some gpr),.map (some gpp),.map (some gm),.map (some gdr),.map (some gds),.nilIface⟩ (blk_below h1 hb)) 281 tk_281_185 (fun W l gv gc ad up H hgv=> ?_)
 exact val_c_no v hO.one _ (tcode_ne x.f0) W W0 l gv gs gc ad up ⟨#[49]⟩ _ _ _ _ _ _ gk cv h7 H hgv h1 (fun W=>type_out hO W) (by cases h8<;>rfl) (fun W hb=>(hE W hb).no hj)
theorem errors_c_none (w:World) (gn cS:Nat) (x:S25) (A4 A5:Option Addr) (c4 c5:Nat) (hx:Rep w x A4 c4 A5 c5) {c:S25} {B4 B5:Option Addr} {d4 d5 gq cq:Nat} (hq:w.heap[gq]? =some (row #[.int .i64 c.f0,.bool c.f1,.int .i64 c.f2,.string c.f3,.slice B4 c.f4.length d4,.slice B5 c.f5.length d5] 25)) (hxc:Rep w c B4 d4 B5 d5) (hv:V c) (hVx:V x) (hS:w.heap[gn]? =some (row (ndC gq cq) 45)) (hj:JE x c):
  Calls Tryz.prog 14 #[.slice (some ⟨gn,0,none⟩) 1 cS,.agg (jvc x A4 A5 c4 c5)] w (rb (.tuple #[.agg #[eS,eS,nilS,nilS,eS,nilS,nilS,nilS],.bool false]) w):=
 errors_none w gn cS x A4 A5 c4 c5 (fun W hb=>draft_none_d W gn cS x A4 A5 c4 c5 (Sch_c c) (fun _ _ _=>Sch_c.below _) (hx.below hb) hVx (fun W1 hb0=>comp_c W1 gn cS (blk_below hq (below_step hb hb0)) (hxc.below (below_step hb hb0)) hv (blk_below hS (below_step hb hb0))) (fun W0 gs v hP hO=>quiet_c _ hP hO hVx hv hj))
theorem errors_c_some (w:World) (gn cS:Nat) (x:S25) (A4 A5:Option Addr) (c4 c5:Nat) (hx:Rep w x A4 c4 A5 c5) {c:S25} {B4 B5:Option Addr} {d4 d5 gq cq:Nat} (hq:w.heap[gq]? =some (row #[.int .i64 c.f0,.bool c.f1,.int .i64 c.f2,.string c.f3,.slice B4 c.f4.length d4,.slice B5 c.f5.length d5] 25)) (hxc:Rep w c B4 d4 B5 d5) (hv:V c) (hVx:V x) (hS:w.heap[gn]? =some (row (ndC gq cq) 45)) (hj:¬ JE x c):
  Calls Tryz.prog 14 #[.slice (some ⟨gn,0,none⟩) 1 cS,.agg (jvc x A4 A5 c4 c5)] w fun e w'=>Told ⟨#[49]⟩ ⟨#[67,111,110,115,116]⟩ eS [⟨#[99,111,110,115,116]⟩] [] w e w':=
 errors_some w gn cS x A4 A5 c4 c5 _ _ _ _ _ (fun W hb=>draft_some_d W gn cS x A4 A5 c4 c5 _ _ _ _ _ (Sch_c c) (fun _ _ _=>Sch_c.below _) (hx.below hb) hVx (fun W1 hb0=>comp_c W1 gn cS (blk_below hq (below_step hb hb0)) (hxc.below (below_step hb hb0)) hv (blk_below hS (below_step hb hb0)))
  (Left ⟨#[49]⟩ 281 (fun _ _=>True)) (fun W0 gs v hP hO=>loud_c _ hP hO hVx hv hj)
  (fun W gr h=>by
   obtain ⟨gk2,adc,ge,gki,Ae,ce,h1,h2,h3,_⟩:=h
   exact root_ok W gr ge gk2 _ _ _ _ _ adc 1 h1 h2 (fun W1 hb=>leaf_const W1 ge gki _ Ae ce (blk_below h3 hb))))
theorem set_p {A:Option Addr} {names:List ByteArray} {c:Nat} (w w0:World) (l:List Blk) (gs:Nat) (lv:Value) (own d:Int) (hown:0≤own) (H:At w0 (.b gs (row (Sc.cells ⟨0,⟨#[]⟩,nP,nP,nP,nP,nilS,nM,nM,nM,nM,nM,.nilIface⟩) 119)::l) w) (hgs:w0.heap.size≤gs)
  (hr:Kd.C Kd.string w0 A names.length names) (hc:names.length≤c) (hlen:names.length < 8796093022208):
  Calls Tryz.prog 49 #[lv,.pointer (some ⟨gs,0,none⟩),.agg (ndP true A names c),.int .i64 own,.int .i64 d] w fun e w'=>e= .returned (.tuple #[])∧∃ A2 c2 gm gpp gpr gds gdr gt A3 c3,At w0 (.b gm (.map #[] 0):: .b gs (row (Sc.cells ⟨d,⟨#[]⟩,nP,nP,nP,nP,(.slice A2 0 c2),(.map (some gpr)),(.map (some gpp)),(.map (some gm)),(.map (some gdr)),(.map (some gds)),(.iface 167 (.pointer (some ⟨gt,0,none⟩)))⟩) 119):: .b gpp (.map #[] 0):: .b gpr (.map #[] 0):: .b gds (.map #[] 0):: .b gdr (.map #[] 0):: .b gt (row (#[.slice A3 names.length c3]) 169):: .f (Fact.strs (.slice A3 names.length c3) names)::l) w':=by
 refine (set_any false nilS none 0 0 true (.slice A names.length c) false nilS w w0 l gs lv own d hown H hgs (fun v3 b=>v3=nP∧b=l) (fun v3 v4 b=>v4=nP∧v3=nP∧b=l) (fun v3 v4 v12 b=>∃ gt A3 c3,v12= .iface 167 (.pointer (some ⟨gt,0,none⟩))∧v4=nP∧v3=nP∧b= .b gt (row (#[.slice A3 names.length c3]) 169):: .f (Fact.strs (.slice A3 names.length c3) names)::l) (fun v3 v4 v5 v12 b=>v5=nP∧∃ gt A3 c3,v12= .iface 167 (.pointer (some ⟨gt,0,none⟩))∧v4=nP∧v3=nP∧b= .b gt (row (#[.slice A3 names.length c3]) 169):: .f (Fact.strs (.slice A3 names.length c3) names)::l) (Or.inl ⟨rfl,rfl,rfl⟩) (fun v3 b h=>Or.inl ⟨rfl,rfl,h⟩) (fun v3 v4 b h=>Or.inr ⟨rfl,_,_,_,rfl,hr,hc,hlen,fun gt A3 c3=>⟨gt,A3,c3,rfl,h.1,h.2.1,by rw [h.2.2]⟩⟩) (fun v3 v4 v12 b h=>Or.inl ⟨rfl,rfl,h⟩)).mono ?_
 rintro e w' ⟨rfl,A2,c2,gm,gpp,gpr,gds,gdr,v3,v4,v5,v12,cs,⟨rfl,gt,A3,c3,rfl,rfl,rfl,rfl⟩,hA⟩
 exact ⟨rfl,A2,c2,gm,gpp,gpr,gds,gdr,gt,A3,c3,hA⟩
def Comp_p (names:List ByteArray) (w:World) (e:Ending) (w':World):Prop:=∃ gs A2 c2 gm gpp gpr gds gdr gt A3 c3,e= .returned (.pointer (some ⟨gs,0,none⟩))∧w'.heap[gs]? =some (row (Sc.cells ⟨2020,⟨#[49]⟩,nP,nP,nP,nP,(.slice A2 0 c2),(.map (some gpr)),(.map (some gpp)),(.map (some gm)),(.map (some gdr)),(.map (some gds)),(.iface 167 (.pointer (some ⟨gt,0,none⟩)))⟩) 119)∧w'.heap[gpr]? =some (.map #[] 0)∧w'.heap[gpp]? =some (.map #[] 0)∧w'.heap[gm]? =some (.map #[] 0)∧w'.heap[gds]? =some (.map #[] 0)∧w'.heap[gdr]? =some (.map #[] 0)∧w'.heap[gt]? =some (row (#[.slice A3 names.length c3]) 169)∧(Fact.strs (.slice A3 names.length c3) names).P w'∧Below w.heap.size w w'
theorem compiled_p {A:Option Addr} {names:List ByteArray} {c:Nat} (w:World) (gn cS:Nat) (hr:Kd.C Kd.string w A names.length names) (hc:names.length≤c) (hlen:names.length < 8796093022208) (hn1:(ndP true A names c).all (·.oneCell')=true) (hS:w.heap[gn]? =some (row (ndP true A names c) 45)):
  Calls Tryz.prog 27 #[.slice (some ⟨gn,0,none⟩) 1 cS,.int .i64 2020] w (Comp_p names w):=by
 refine (compiled_any false nilS none 0 0 true (.slice A names.length c) false nilS w gn cS hn1 hS (fun v3 v4 v5 v12 rest=>∃ gt A3 c3,v3=nP∧v4=nP∧v5=nP∧v12= .iface 167 (.pointer (some ⟨gt,0,none⟩))∧rest=[.b gt (row (#[.slice A3 names.length c3]) 169),.f (Fact.strs (.slice A3 names.length c3) names)]) (fun W l gs lv own hown H hgs=>(set_p W w l gs lv own 2020 hown H hgs hr hc hlen).mono ?_)).mono ?_
 ·rintro e w' ⟨rfl,A2,c2,gm,gpp,gpr,gds,gdr,gt,A3,c3,hA⟩
  exact ⟨rfl,A2,c2,gm,gpp,gpr,gds,gdr,_,_,_,_,_,⟨gt,A3,c3,rfl,rfl,rfl,rfl,rfl⟩,At.behind [_,_] (B:=[]) (by rw [List.append_nil];exact hA)⟩
 ·rintro e w' ⟨gs,A2,c2,gm,gpp,gpr,gds,gdr,v3,v4,v5,v12,rest,rfl,⟨gt,A3,c3,rfl,rfl,rfl,rfl,rfl⟩,h1,h2,h3,h4,h5,h6,hk,hb⟩
  exact ⟨gs,A2,c2,gm,gpp,gpr,gds,gdr,gt,A3,c3,rfl,h1,h2,h3,h4,h5,h6,hk.1,hk.2.1,hb⟩
end Go.Proofs.YtkphbhncpdcbeaaGreatDoor.J
namespace Go.Proofs.YtkphbhncpdcbeaaGreatDoor.J
open Go.RowKit YtkphbhncpdcbeaaGreatDoorW.PrintWords YtkphbhncpdcbeaaGreatDoorW.PrintLast YtkphbhncpdcbeaaGreatDoorW.PrintMore PJT
attribute [local go_sem] ta_null_4 ta_null_9 ta_null_117 ta_null_113 ta_bool_4 ta_bool_9 ta_bool_117 ta_bool_113 ta_text_4 ta_text_340 ta_text_343 ta_text_3 ta_text_344 ta_text_345 ta_text_21 ta_text_2 ta_text_232 ta_text_5 ta_text_346 ta_text_324 ta_text_326 ta_text_9 ta_text_117 ta_text_113 ta_array_4 ta_array_340 ta_array_343 ta_array_3 ta_array_344 ta_array_345 ta_array_21 ta_array_2 ta_array_232 ta_array_5 ta_array_346 ta_array_324 ta_array_326 ta_array_9 ta_array_117 ta_array_113 ta_object_4 ta_object_340 ta_object_343 ta_object_3 ta_object_344 ta_object_345 ta_object_21 ta_object_2 ta_object_232 ta_object_5 ta_object_346 ta_object_324 ta_object_326 ta_object_9 ta_object_117 ta_object_113
theorem val_p_null (w w0:World) (l:List Blk) (gv gs gc:Nat) (ad:Addr) (up:Value) (loc:ByteArray) (req props pats deps dreq dsch:Value) (gt:Nat) (H:At w0 (.b gv (row (vdc (.nilIface) ad (.pointer (some ⟨gs,0,none⟩)) (.pointer (some ⟨gc,0,none⟩)) up nilS) 182):: .b gc (row (#[.pointer (some ⟨gs,0,none⟩),eS,i0,nP]) 178)::l) w) (hgv:w0.heap.size≤gv) (hS:w0.heap[gs]? =some (row (Sc.cells ⟨2020,loc,nP,nP,nP,nP,req,props,pats,deps,dreq,dsch,.iface 167 (.pointer (some ⟨gt,0,none⟩))⟩) 119)):
  Calls Tryz.prog 99 #[.pointer (some ⟨gv,0,none⟩)] w fun e w'=>e= .returned (.tuple #[up,.nilIface])∧At w0 (.b gv (row (vdc (.nilIface) ad (.pointer (some ⟨gs,0,none⟩)) (.pointer (some ⟨gc,0,none⟩)) up nilS) 182):: .b gc (row (#[.pointer (some ⟨gs,0,none⟩),eS,i0,nP]) 178)::l) w':=by
 have HK:=asd_ H
 clear H
 replace Bc:=ce2_ HK 1 0;replace Bf:=fe1_ HK 0;have bgs:=cel_ (blk_below hS HK.out.b)
 have Ggv:=asd_ hgv
 clear hgv
 go_enter Tryz.func99,Tryz.ntmps99
 go_wp2_with (first|((first|((with_reducible refine gd_ 55 ?_);refine cl_ #[.pointer (some ⟨gc,0,none⟩)] (nP) Tryz.func137 (cycle_none _ gc gs (HK.out.k.2.1)) ?_)|((with_reducible refine gd_ 76 ?_);refine cl_ #[.nilIface] (.int .i64 2) Tryz.func139 (type_null _) ?_)|((with_reducible refine gd_ 311 ?_);refine cl_ #[.pointer (some ⟨gv,0,none⟩)] (.tuple #[]) Tryz.func150 (cond_quiet_g _ gv gs (.nilIface) ad (.pointer (some ⟨gc,0,none⟩)) up nilS ⟨2020,loc,nP,nP,nP,nP,req,props,pats,deps,dreq,dsch,.iface 167 (.pointer (some ⟨gt,0,none⟩))⟩ (HK.out.k.1) (blk_below hS HK.out.b)) ?_)|((with_reducible refine gd_ 318 ?_);refine cl_ #[.pointer (some ⟨gv,0,none⟩)] (.tuple #[]) Tryz.func151 (uneval_null_g _ gv gs ad (.pointer (some ⟨gc,0,none⟩)) up nilS ⟨2020,loc,nP,nP,nP,nP,req,props,pats,deps,dreq,dsch,.iface 167 (.pointer (some ⟨gt,0,none⟩))⟩ (HK.out.k.1) (blk_below hS HK.out.b)) ?_));intro wc55 HK1;replace HK:=asd_ HK1;clear HK1;clear bgs;replace Bc:=ce2_ HK 1 0;replace Bf:=fe1_ HK 0;have bgs:=cel_ (blk_below hS HK.out.b)))
 go_ret2
 exact ⟨rfl,HK.out⟩
theorem val_p_bool (b:Bool) (w w0:World) (l:List Blk) (gv gs gc:Nat) (ad:Addr) (up:Value) (loc:ByteArray) (req props pats deps dreq dsch:Value) (gt:Nat) (H:At w0 (.b gv (row (vdc (.iface 4 (.bool b)) ad (.pointer (some ⟨gs,0,none⟩)) (.pointer (some ⟨gc,0,none⟩)) up nilS) 182):: .b gc (row (#[.pointer (some ⟨gs,0,none⟩),eS,i0,nP]) 178)::l) w) (hgv:w0.heap.size≤gv) (hS:w0.heap[gs]? =some (row (Sc.cells ⟨2020,loc,nP,nP,nP,nP,req,props,pats,deps,dreq,dsch,.iface 167 (.pointer (some ⟨gt,0,none⟩))⟩) 119)):
  Calls Tryz.prog 99 #[.pointer (some ⟨gv,0,none⟩)] w fun e w'=>e= .returned (.tuple #[up,.nilIface])∧At w0 (.b gv (row (vdc (.iface 4 (.bool b)) ad (.pointer (some ⟨gs,0,none⟩)) (.pointer (some ⟨gc,0,none⟩)) up nilS) 182):: .b gc (row (#[.pointer (some ⟨gs,0,none⟩),eS,i0,nP]) 178)::l) w':=by
 have HK:=asd_ H
 clear H
 replace Bc:=ce2_ HK 1 0;replace Bf:=fe1_ HK 0;have bgs:=cel_ (blk_below hS HK.out.b)
 have Ggv:=asd_ hgv
 clear hgv
 go_enter Tryz.func99,Tryz.ntmps99
 go_wp2_with (first|((first|((with_reducible refine gd_ 55 ?_);refine cl_ #[.pointer (some ⟨gc,0,none⟩)] (nP) Tryz.func137 (cycle_none _ gc gs (HK.out.k.2.1)) ?_)|((with_reducible refine gd_ 76 ?_);refine cl_ #[.iface 4 (.bool b)] (.int .i64 4) Tryz.func139 (type_bool _ b) ?_)|((with_reducible refine gd_ 311 ?_);refine cl_ #[.pointer (some ⟨gv,0,none⟩)] (.tuple #[]) Tryz.func150 (cond_quiet_g _ gv gs (.iface 4 (.bool b)) ad (.pointer (some ⟨gc,0,none⟩)) up nilS ⟨2020,loc,nP,nP,nP,nP,req,props,pats,deps,dreq,dsch,.iface 167 (.pointer (some ⟨gt,0,none⟩))⟩ (HK.out.k.1) (blk_below hS HK.out.b)) ?_)|((with_reducible refine gd_ 318 ?_);refine cl_ #[.pointer (some ⟨gv,0,none⟩)] (.tuple #[]) Tryz.func151 (uneval_bool_g _ gv gs b ad (.pointer (some ⟨gc,0,none⟩)) up nilS ⟨2020,loc,nP,nP,nP,nP,req,props,pats,deps,dreq,dsch,.iface 167 (.pointer (some ⟨gt,0,none⟩))⟩ (HK.out.k.1) (blk_below hS HK.out.b)) ?_));intro wc55 HK1;replace HK:=asd_ HK1;clear HK1;clear bgs;replace Bc:=ce2_ HK 1 0;replace Bf:=fe1_ HK 0;have bgs:=cel_ (blk_below hS HK.out.b)))
 go_ret2
 exact ⟨rfl,HK.out⟩
theorem val_p_text (t:ByteArray) (w w0:World) (l:List Blk) (gv gs gc:Nat) (ad:Addr) (up:Value) (loc:ByteArray) (req props pats deps dreq dsch:Value) (gt:Nat) (H:At w0 (.b gv (row (vdc (.iface 9 (.string t)) ad (.pointer (some ⟨gs,0,none⟩)) (.pointer (some ⟨gc,0,none⟩)) up nilS) 182):: .b gc (row (#[.pointer (some ⟨gs,0,none⟩),eS,i0,nP]) 178)::l) w) (hgv:w0.heap.size≤gv) (hS:w0.heap[gs]? =some (row (Sc.cells ⟨2020,loc,nP,nP,nP,nP,req,props,pats,deps,dreq,dsch,.iface 167 (.pointer (some ⟨gt,0,none⟩))⟩) 119)) (hM:∀ W l,At w0 (.b gv (row (vdc (.iface 9 (.string t)) ad (.pointer (some ⟨gs,0,none⟩)) (.pointer (some ⟨gc,0,none⟩)) up nilS) 182)::l) W→Calls Tryz.prog 149 #[.pointer (some ⟨gv,0,none⟩),.string t] W fun e w'=>e= .returned (.tuple #[])∧At w0 (.b gv (row (vdc (.iface 9 (.string t)) ad (.pointer (some ⟨gs,0,none⟩)) (.pointer (some ⟨gc,0,none⟩)) up nilS) 182)::l) w'):
  Calls Tryz.prog 99 #[.pointer (some ⟨gv,0,none⟩)] w fun e w'=>e= .returned (.tuple #[up,.nilIface])∧At w0 (.b gv (row (vdc (.iface 9 (.string t)) ad (.pointer (some ⟨gs,0,none⟩)) (.pointer (some ⟨gc,0,none⟩)) up nilS) 182):: .b gc (row (#[.pointer (some ⟨gs,0,none⟩),eS,i0,nP]) 178)::l) w':=by
 have HM:=asd_ hM
 clear hM
 have HK:=asd_ H
 clear H
 replace Bc:=ce2_ HK 1 0;replace Bf:=fe1_ HK 0;have bgs:=cel_ (blk_below hS HK.out.b)
 have Ggv:=asd_ hgv
 clear hgv
 go_enter Tryz.func99,Tryz.ntmps99
 go_wp2_with (first|((first|((with_reducible refine gd_ 55 ?_);refine cl_ #[.pointer (some ⟨gc,0,none⟩)] (nP) Tryz.func137 (cycle_none _ gc gs (HK.out.k.2.1)) ?_)|((with_reducible refine gd_ 76 ?_);refine cl_ #[.iface 9 (.string t)] (.int .i64 32) Tryz.func139 (type_text _ t) ?_)|((with_reducible refine gd_ 296 ?_);refine call_to #[.pointer (some ⟨gv,0,none⟩),.string t] (.tuple #[]) _ rfl Tryz.func149 kr_ rfl rfl ar_ (HM.out _ _ HK.out) ?_)|((with_reducible refine gd_ 311 ?_);refine cl_ #[.pointer (some ⟨gv,0,none⟩)] (.tuple #[]) Tryz.func150 (cond_quiet_g _ gv gs (.iface 9 (.string t)) ad (.pointer (some ⟨gc,0,none⟩)) up nilS ⟨2020,loc,nP,nP,nP,nP,req,props,pats,deps,dreq,dsch,.iface 167 (.pointer (some ⟨gt,0,none⟩))⟩ (HK.out.k.1) (blk_below hS HK.out.b)) ?_)|((with_reducible refine gd_ 318 ?_);refine cl_ #[.pointer (some ⟨gv,0,none⟩)] (.tuple #[]) Tryz.func151 (uneval_text_g _ gv gs t ad (.pointer (some ⟨gc,0,none⟩)) up nilS ⟨2020,loc,nP,nP,nP,nP,req,props,pats,deps,dreq,dsch,.iface 167 (.pointer (some ⟨gt,0,none⟩))⟩ (HK.out.k.1) (blk_below hS HK.out.b)) ?_));intro wc55 HK1;replace HK:=asd_ HK1;clear HK1;clear bgs;replace Bc:=ce2_ HK 1 0;replace Bf:=fe1_ HK 0;have bgs:=cel_ (blk_below hS HK.out.b)))
 go_ret2
 exact ⟨rfl,HK.out⟩
theorem val_p_array (A:Option Addr) (n c:Nat) (w w0:World) (l:List Blk) (gv gs gc:Nat) (ad:Addr) (up:Value) (loc:ByteArray) (req props pats deps dreq dsch:Value) (gt:Nat) (H:At w0 (.b gv (row (vdc (.iface 117 (.slice A n c)) ad (.pointer (some ⟨gs,0,none⟩)) (.pointer (some ⟨gc,0,none⟩)) up nilS) 182):: .b gc (row (#[.pointer (some ⟨gs,0,none⟩),eS,i0,nP]) 178)::l) w) (hgv:w0.heap.size≤gv) (hS:w0.heap[gs]? =some (row (Sc.cells ⟨2020,loc,nP,nP,nP,nP,req,props,pats,deps,dreq,dsch,.iface 167 (.pointer (some ⟨gt,0,none⟩))⟩) 119)):
  Calls Tryz.prog 99 #[.pointer (some ⟨gv,0,none⟩)] w fun e w'=>e= .returned (.tuple #[up,.nilIface])∧At w0 (.b gv (row (vdc (.iface 117 (.slice A n c)) ad (.pointer (some ⟨gs,0,none⟩)) (.pointer (some ⟨gc,0,none⟩)) up nilS) 182):: .b gc (row (#[.pointer (some ⟨gs,0,none⟩),eS,i0,nP]) 178)::l) w':=by
 have HK:=asd_ H
 clear H
 replace Bc:=ce2_ HK 1 0;replace Bf:=fe1_ HK 0;have bgs:=cel_ (blk_below hS HK.out.b)
 have Ggv:=asd_ hgv
 clear hgv
 go_enter Tryz.func99,Tryz.ntmps99
 go_wp2_with (first|((first|((with_reducible refine gd_ 55 ?_);refine cl_ #[.pointer (some ⟨gc,0,none⟩)] (nP) Tryz.func137 (cycle_none _ gc gs (HK.out.k.2.1)) ?_)|((with_reducible refine gd_ 76 ?_);refine cl_ #[.iface 117 (.slice A n c)] (.int .i64 64) Tryz.func139 (type_array _ A n c) ?_)|((with_reducible refine gd_ 290 ?_);refine cl_ #[.pointer (some ⟨gv,0,none⟩),.slice A n c] (.tuple #[]) Tryz.func148 (arr_quiet_g _ gv gs (.iface 117 (.slice A n c)) ad (.pointer (some ⟨gc,0,none⟩)) up nilS ⟨2020,loc,nP,nP,nP,nP,req,props,pats,deps,dreq,dsch,.iface 167 (.pointer (some ⟨gt,0,none⟩))⟩ (HK.out.k.1) (blk_below hS HK.out.b) A n c) ?_)|((with_reducible refine gd_ 311 ?_);refine cl_ #[.pointer (some ⟨gv,0,none⟩)] (.tuple #[]) Tryz.func150 (cond_quiet_g _ gv gs (.iface 117 (.slice A n c)) ad (.pointer (some ⟨gc,0,none⟩)) up nilS ⟨2020,loc,nP,nP,nP,nP,req,props,pats,deps,dreq,dsch,.iface 167 (.pointer (some ⟨gt,0,none⟩))⟩ (HK.out.k.1) (blk_below hS HK.out.b)) ?_)|((with_reducible refine gd_ 318 ?_);refine cl_ #[.pointer (some ⟨gv,0,none⟩)] (.tuple #[]) Tryz.func151 (uneval_array_g _ gv gs A n c ad (.pointer (some ⟨gc,0,none⟩)) up nilS ⟨2020,loc,nP,nP,nP,nP,req,props,pats,deps,dreq,dsch,.iface 167 (.pointer (some ⟨gt,0,none⟩))⟩ (HK.out.k.1) (blk_below hS HK.out.b)) ?_));intro wc55 HK1;replace HK:=asd_ HK1;clear HK1;clear bgs;replace Bc:=ce2_ HK 1 0;replace Bf:=fe1_ HK 0;have bgs:=cel_ (blk_below hS HK.out.b)))
 go_ret2
 exact ⟨rfl,HK.out⟩
theorem val_p_object (g:Nat) (w w0:World) (l:List Blk) (gv gs gc:Nat) (ad:Addr) (up:Value) (loc:ByteArray) (req props pats deps dreq dsch:Value) (gt:Nat) (H:At w0 (.b gv (row (vdc (.iface 113 (.map (some g))) ad (.pointer (some ⟨gs,0,none⟩)) (.pointer (some ⟨gc,0,none⟩)) up nilS) 182):: .b gc (row (#[.pointer (some ⟨gs,0,none⟩),eS,i0,nP]) 178)::l) w) (hgv:w0.heap.size≤gv) (hS:w0.heap[gs]? =some (row (Sc.cells ⟨2020,loc,nP,nP,nP,nP,req,props,pats,deps,dreq,dsch,.iface 167 (.pointer (some ⟨gt,0,none⟩))⟩) 119)) (hO:∀ W l,At w0 (.b gv (row (vdc (.iface 113 (.map (some g))) ad (.pointer (some ⟨gs,0,none⟩)) (.pointer (some ⟨gc,0,none⟩)) up nilS) 182)::l) W→Calls Tryz.prog 147 #[.pointer (some ⟨gv,0,none⟩),.map (some g)] W fun e w'=>e= .returned (.tuple #[])∧At w0 (.b gv (row (vdc (.iface 113 (.map (some g))) ad (.pointer (some ⟨gs,0,none⟩)) (.pointer (some ⟨gc,0,none⟩)) up nilS) 182)::l) w'):
  Calls Tryz.prog 99 #[.pointer (some ⟨gv,0,none⟩)] w fun e w'=>e= .returned (.tuple #[up,.nilIface])∧At w0 (.b gv (row (vdc (.iface 113 (.map (some g))) ad (.pointer (some ⟨gs,0,none⟩)) (.pointer (some ⟨gc,0,none⟩)) up nilS) 182):: .b gc (row (#[.pointer (some ⟨gs,0,none⟩),eS,i0,nP]) 178)::l) w':=by
 have HO:=asd_ hO
 clear hO
 have HK:=asd_ H
 clear H
 replace Bc:=ce2_ HK 1 0;replace Bf:=fe1_ HK 0;have bgs:=cel_ (blk_below hS HK.out.b)
 have Ggv:=asd_ hgv
 clear hgv
 go_enter Tryz.func99,Tryz.ntmps99
 go_wp2_with (first|((first|((with_reducible refine gd_ 55 ?_);refine cl_ #[.pointer (some ⟨gc,0,none⟩)] (nP) Tryz.func137 (cycle_none _ gc gs (HK.out.k.2.1)) ?_)|((with_reducible refine gd_ 76 ?_);refine cl_ #[.iface 113 (.map (some g))] (.int .i64 128) Tryz.func139 (type_object _ g) ?_)|((with_reducible refine gd_ 284 ?_);refine call_to #[.pointer (some ⟨gv,0,none⟩),.map (some g)] (.tuple #[]) _ rfl Tryz.func147 kr_ rfl rfl ar_ (HO.out _ _ HK.out) ?_)|((with_reducible refine gd_ 311 ?_);refine cl_ #[.pointer (some ⟨gv,0,none⟩)] (.tuple #[]) Tryz.func150 (cond_quiet_g _ gv gs (.iface 113 (.map (some g))) ad (.pointer (some ⟨gc,0,none⟩)) up nilS ⟨2020,loc,nP,nP,nP,nP,req,props,pats,deps,dreq,dsch,.iface 167 (.pointer (some ⟨gt,0,none⟩))⟩ (HK.out.k.1) (blk_below hS HK.out.b)) ?_)|((with_reducible refine gd_ 318 ?_);refine cl_ #[.pointer (some ⟨gv,0,none⟩)] (.tuple #[]) Tryz.func151 (uneval_object_g _ gv gs g ad (.pointer (some ⟨gc,0,none⟩)) up nilS ⟨2020,loc,nP,nP,nP,nP,req,props,pats,deps,dreq,dsch,.iface 167 (.pointer (some ⟨gt,0,none⟩))⟩ (HK.out.k.1) (blk_below hS HK.out.b)) ?_));intro wc55 HK1;replace HK:=asd_ HK1;clear HK1;clear bgs;replace Bc:=ce2_ HK 1 0;replace Bf:=fe1_ HK 0;have bgs:=cel_ (blk_below hS HK.out.b)))
 go_ret2
 exact ⟨rfl,HK.out⟩
end Go.Proofs.YtkphbhncpdcbeaaGreatDoor.J
namespace Go.Proofs.YtkphbhncpdcbeaaGreatDoor.J
open Go.RowKit YtkphbhncpdcbeaaGreatDoorW.PrintWords YtkphbhncpdcbeaaGreatDoorW.PrintLast YtkphbhncpdcbeaaGreatDoorW.PrintMore PJT
theorem mk_match (v:Value) (W:World):(method 513 167 v "MatchString").run Tryz.prog W= .ok (133,v) W:=by kernel_rfl
theorem mk_string (v:Value) (W:World):(method 513 167 v "String").run Tryz.prog W= .ok (239,v) W:=by kernel_rfl
attribute [local go_sem] mk_match mk_string
theorem str_true (t:ByteArray) (w w0:World) (l:List Blk) (gv gs gc:Nat) (ad:Addr) (up:Value) (loc:ByteArray) (req props pats deps dreq dsch:Value) (gt:Nat) (H:At w0 (.b gv (row (vdc (.iface 9 (.string t)) ad (.pointer (some ⟨gs,0,none⟩)) (.pointer (some ⟨gc,0,none⟩)) up nilS) 182)::l) w) (hgv:w0.heap.size≤gv) (hS:w0.heap[gs]? =some (row (Sc.cells ⟨2020,loc,nP,nP,nP,nP,req,props,pats,deps,dreq,dsch,.iface 167 (.pointer (some ⟨gt,0,none⟩))⟩) 119)) (A:Option Addr) (names:List ByteArray) (c:Nat) (hgt:w0.heap[gt]? =some (row #[.slice A names.length c] 169)) (hr:Kd.C Kd.string w0 A names.length names) (hc:names.length≤c) (hn:names.length≤LM) (hin:t∈names):
  Calls Tryz.prog 149 #[.pointer (some ⟨gv,0,none⟩),.string t] w fun e w'=>e= .returned (.tuple #[])∧At w0 (.b gv (row (vdc (.iface 9 (.string t)) ad (.pointer (some ⟨gs,0,none⟩)) (.pointer (some ⟨gc,0,none⟩)) up nilS) 182)::l) w':=by
 have Ggv:=asd_ hgv
 clear hgv
 have Hr:=asd_ hr
 have Hc:=asd_ hc
 have Hn:=asd_ hn
 have Hgt:=asd_ hgt
 clear hr hc hn hgt
 have HK:=asd_ H
 clear H
 replace Bc:=ce1_ HK 0;replace Bf:=fe1_ HK 0;have bgs:=cel_ (blk_below hS HK.out.b)
 go_enter Tryz.func149,Tryz.ntmps149
 go_wp2_with (first|(go_at_call 133;refine (match_ok _ gt A names c t (Kd.C_below Hr.out HK.out.b) Hc.out Hn.out (blk_below Hgt.out HK.out.b)).mono ?_;rintro e wp85 ⟨rb,rfl,hr2,hb⟩;have HK1:=At.step at_ hb;have hr3:rb=true:=hr2.2 hin;subst hr3;clear hr2 hb;replace HK:=asd_ HK1;clear HK1;clear bgs;replace Bc:=ce1_ HK 0;replace Bf:=fe1_ HK 0;have bgs:=cel_ (blk_below hS HK.out.b)))
 go_end0
 exact ⟨rfl,HK.out⟩
theorem string_none (w:World) (gt:Nat):Calls Tryz.prog 239 #[.pointer (some ⟨gt,0,none⟩)] w (rb (.string ⟨#[]⟩) w):=by
 have HK:=st0_ w
 go_enter Tryz.func239,Tryz.ntmps239
 go_wp2_with fail
 go_ret
 exact ⟨rfl,be_⟩
theorem str_false (t:ByteArray) (w w0:World) (l:List Blk) (gv gs gc:Nat) (ad:Addr) (up:Value) (loc:ByteArray) (req props pats deps dreq dsch:Value) (gt:Nat) (H:At w0 (.b gv (row (vdc (.iface 9 (.string t)) ad (.pointer (some ⟨gs,0,none⟩)) (.pointer (some ⟨gc,0,none⟩)) up nilS) 182)::l) w) (hgv:w0.heap.size≤gv) (hS:w0.heap[gs]? =some (row (Sc.cells ⟨2020,loc,nP,nP,nP,nP,req,props,pats,deps,dreq,dsch,.iface 167 (.pointer (some ⟨gt,0,none⟩))⟩) 119)) (A:Option Addr) (names:List ByteArray) (c:Nat) (hgt:w0.heap[gt]? =some (row #[.slice A names.length c] 169)) (hr:Kd.C Kd.string w0 A names.length names) (hc:names.length≤c) (hn:names.length≤LM) (hin:t∉names):
  Calls Tryz.prog 149 #[.pointer (some ⟨gv,0,none⟩),.string t] w fun e w'=>e= .returned (.tuple #[])∧∃ A13 c13 ge Ae ce gki,At w0 (.f (Fact.rows kPtr 76 w0.heap.size E76 (.slice A13 1 c13) [some ⟨ge,0,none⟩]):: .b ge (row (vec loc Ae ce (.iface 315 (.pointer (some ⟨gki,0,none⟩))) nilS) 129):: .b gv (row (vdc (.iface 9 (.string t)) ad (.pointer (some ⟨gs,0,none⟩)) (.pointer (some ⟨gc,0,none⟩)) up (.slice A13 1 c13)) 182):: .b gki (row (#[.string t,.string ⟨#[]⟩]) 362)::l) w':=by
 have Ggv:=asd_ hgv
 clear hgv
 have Hr:=asd_ hr
 have Hc:=asd_ hc
 have Hn:=asd_ hn
 have Hgt:=asd_ hgt
 clear hr hc hn hgt
 have HK:=asd_ H
 clear H
 replace Bc:=ce1_ HK 0;replace Bf:=fe1_ HK 0;have bgs:=cel_ (blk_below hS HK.out.b)
 go_enter Tryz.func149,Tryz.ntmps149
 go_wp2_with (first|(go_at_call 133;refine (match_ok _ gt A names c t (Kd.C_below Hr.out HK.out.b) Hc.out Hn.out (blk_below Hgt.out HK.out.b)).mono ?_;rintro e wp85 ⟨rb,rfl,hr2,hb⟩;have HK1:=At.step at_ hb;have hr3:rb=false:=(by cases rb with|false=>rfl|true=>exact absurd (hr2.1 rfl) hin);subst hr3;clear hr2 hb;replace HK:=asd_ HK1;clear HK1;clear bgs;replace Bc:=ce1_ HK 0;replace Bf:=fe1_ HK 0;have bgs:=cel_ (blk_below hS HK.out.b))|(go_at_call 239;refine (string_none _ gt).mono ?_;rintro e ws93 ⟨rfl,hb⟩;have HK1:=At.step at_ hb;clear hb;replace HK:=asd_ HK1;clear HK1;clear bgs;replace Bc:=ce1_ HK 0;replace Bf:=fe1_ HK 0;have bgs:=cel_ (blk_below hS HK.out.b))|((with_reducible refine gd_ 95 ?_);refine bx_ (#[.string t,.string ⟨#[]⟩]) 362 ?_;clear HK bgs;intro gki wb95 HK Ggki;replace Bc:=ce2_ HK 1 0;replace Bf:=fe1_ HK 1;have bgs:=cel_ (blk_below hS HK.out.b))|((with_reducible refine gd_ 97 ?_);refine call_to #[.pointer (some ⟨gv,0,none⟩),.iface 315 (.pointer (some ⟨gki,0,none⟩))] (.tuple #[]) _ rfl Tryz.func178 kr_ rfl rfl ar_ (adderr_ok _ w0 _ gv gs gki 315 (.iface 9 (.string t)) ad (.pointer (some ⟨gc,0,none⟩)) up ⟨2020,loc,nP,nP,nP,nP,req,props,pats,deps,dreq,dsch,.iface 167 (.pointer (some ⟨gt,0,none⟩))⟩ (At.front 1 HK.out rfl) Ggv.out hS) ?_;rintro wc97 ⟨A13,c13,ge,Ae,ce,HK1⟩;replace HK:=asd_ HK1;clear HK1;skip;clear bgs;replace Bc:=ce2_ HK 3 2;replace Bf:=fe1_ HK 2;have bgs:=cel_ (blk_below hS HK.out.b)))
 go_end0
 exact ⟨rfl,A13,c13,ge,Ae,ce,gki,HK.out⟩
end Go.Proofs.YtkphbhncpdcbeaaGreatDoor.J
namespace Go.Proofs.YtkphbhncpdcbeaaGreatDoor.J
open Go.RowKit YtkphbhncpdcbeaaGreatDoorW.PrintWords YtkphbhncpdcbeaaGreatDoorW.PrintLast YtkphbhncpdcbeaaGreatDoorW.PrintMore PJT
attribute [local go_sem] ta_null_4 ta_null_9 ta_null_117 ta_null_113 ta_bool_4 ta_bool_9 ta_bool_117 ta_bool_113 ta_text_4 ta_text_340 ta_text_343 ta_text_3 ta_text_344 ta_text_345 ta_text_21 ta_text_2 ta_text_232 ta_text_5 ta_text_346 ta_text_324 ta_text_326 ta_text_9 ta_text_117 ta_text_113 ta_array_4 ta_array_340 ta_array_343 ta_array_3 ta_array_344 ta_array_345 ta_array_21 ta_array_2 ta_array_232 ta_array_5 ta_array_346 ta_array_324 ta_array_326 ta_array_9 ta_array_117 ta_array_113 ta_object_4 ta_object_340 ta_object_343 ta_object_3 ta_object_344 ta_object_345 ta_object_21 ta_object_2 ta_object_232 ta_object_5 ta_object_346 ta_object_324 ta_object_326 ta_object_9 ta_object_117 ta_object_113
theorem val_p_no (t:ByteArray) (w w0:World) (l:List Blk) (gv gs gc:Nat) (ad:Addr) (up:Value) (loc:ByteArray) (req props pats deps dreq dsch:Value) (gt:Nat) (H:At w0 (.b gv (row (vdc (.iface 9 (.string t)) ad (.pointer (some ⟨gs,0,none⟩)) (.pointer (some ⟨gc,0,none⟩)) up nilS) 182):: .b gc (row (#[.pointer (some ⟨gs,0,none⟩),eS,i0,nP]) 178)::l) w) (hgv:w0.heap.size≤gv) (hS:w0.heap[gs]? =some (row (Sc.cells ⟨2020,loc,nP,nP,nP,nP,req,props,pats,deps,dreq,dsch,.iface 167 (.pointer (some ⟨gt,0,none⟩))⟩) 119)) (A:Option Addr) (names:List ByteArray) (c:Nat) (hgt:w0.heap[gt]? =some (row #[.slice A names.length c] 169)) (hr:Kd.C Kd.string w0 A names.length names) (hc:names.length≤c) (hn:names.length≤LM) (hin:t∉names):
  Calls Tryz.prog 99 #[.pointer (some ⟨gv,0,none⟩)] w fun e w'=>∃ ge gki Ae ce Y,e= .returned (.tuple #[nP,.iface 76 (.pointer (some ⟨ge,0,none⟩))])∧At w0 (.b ge (row (vec loc Ae ce (.iface 315 (.pointer (some ⟨gki,0,none⟩))) nilS) 129)::Y) w':=by
 have Hr:=asd_ hr
 have Hc:=asd_ hc
 have Hn:=asd_ hn
 have Hgt:=asd_ hgt
 clear hr hc hn hgt
 have Hin:=asd_ hin
 clear hin
 have HK:=asd_ H
 clear H
 replace Bc:=ce2_ HK 1 0;replace Bf:=fe1_ HK 0;have bgs:=cel_ (blk_below hS HK.out.b)
 have Ggv:=asd_ hgv
 clear hgv
 go_enter Tryz.func99,Tryz.ntmps99
 go_wp2_with (first|((with_reducible refine gd_ 296 ?_);refine call_to #[.pointer (some ⟨gv,0,none⟩),.string t] (.tuple #[]) _ rfl Tryz.func149 kr_ rfl rfl ar_ (str_false t _ w0 _ gv gs gc ad up loc req props pats deps dreq dsch gt HK.out Ggv.out hS A names c Hgt.out Hr.out Hc.out Hn.out Hin.out) ?_;rintro wc296 ⟨A13,cx,ge,Ae,ce,gki,HK1⟩;obtain ⟨adx,e1,hcx⟩:=ptr_cell HK1.k.1;subst e1;have Hcx:=asd_ hcx;clear hcx;have WX:=asd_ (World.block_lt_of_cell? _ _ Hcx.out);replace HK:=asd_ HK1;clear HK1;clear bgs;replace Bc:=ce2_ HK 4 2;replace Bf:=fe1_ HK 2;have bgs:=cel_ (blk_below hS HK.out.b))|((first|((with_reducible refine gd_ 55 ?_);refine cl_ #[.pointer (some ⟨gc,0,none⟩)] (nP) Tryz.func137 (cycle_none _ gc gs (HK.out.k.2.1)) ?_)|((with_reducible refine gd_ 76 ?_);refine cl_ #[.iface 9 (.string t)] (.int .i64 32) Tryz.func139 (type_text _ t) ?_));intro wc55 HK1;replace HK:=asd_ HK1;clear HK1;clear bgs;replace Bc:=ce2_ HK 1 0;replace Bf:=fe1_ HK 0;have bgs:=cel_ (blk_below hS HK.out.b))|((first|((with_reducible refine gd_ 311 ?_);refine cl_ #[.pointer (some ⟨gv,0,none⟩)] (.tuple #[]) Tryz.func150 (cond_quiet_g _ gv gs (.iface 9 (.string t)) ad (.pointer (some ⟨gc,0,none⟩)) up (.slice (some adx) 1 cx) ⟨2020,loc,nP,nP,nP,nP,req,props,pats,deps,dreq,dsch,.iface 167 (.pointer (some ⟨gt,0,none⟩))⟩ (HK.out.k.2.2.1) (blk_below hS HK.out.b)) ?_)|((with_reducible refine gd_ 318 ?_);refine cl_ #[.pointer (some ⟨gv,0,none⟩)] (.tuple #[]) Tryz.func151 (uneval_text_g _ gv gs t ad (.pointer (some ⟨gc,0,none⟩)) up (.slice (some adx) 1 cx) ⟨2020,loc,nP,nP,nP,nP,req,props,pats,deps,dreq,dsch,.iface 167 (.pointer (some ⟨gt,0,none⟩))⟩ (HK.out.k.2.2.1) (blk_below hS HK.out.b)) ?_));intro wc311 HK1;replace HK:=asd_ HK1;clear HK1;clear bgs;replace Bc:=ce2_ HK 4 2;replace Bf:=fe1_ HK 2;have bgs:=cel_ (blk_below hS HK.out.b)))
 obtain ⟨adx2,e2,hcx2⟩:=ptr_cell HK.out.k.1
 cases e2
 refine st_ 9 (fun w'=>At w0 (.f (Fact.rows kPtr 76 w0.heap.size E76 (.slice (some adx) 1 cx) [some ⟨ge,0,none⟩]):: .b ge (row (vec loc Ae ce (.iface 315 (.pointer (some ⟨gki,0,none⟩))) nilS) 129):: .b gv (row (vdc (.iface 9 (.string t)) ad (.pointer (some ⟨gs,0,none⟩)) (.pointer (some ⟨gc,0,none⟩)) up (.slice (some adx) 1 cx)) 182):: .b gki (row #[.string t,.string ⟨#[]⟩] 362):: .b gc (row (#[.pointer (some ⟨gs,0,none⟩),eS,i0,nP]) 178)::l) w'∧(∀ j,w'.cell? ⟨gc,j,none⟩=(#[.pointer (some ⟨gs,0,none⟩),eS,i0,nP]:Array Value)[j]?)∧(∀ j,w'.cell? ⟨gv,j,none⟩=(vdc (.iface 9 (.string t)) ad (.pointer (some ⟨gs,0,none⟩)) (.pointer (some ⟨gc,0,none⟩)) up (.slice (some adx) 1 cx):Array Value)[j]?)∧(∀ j,w'.cell? ⟨gs,j,none⟩=(Sc.cells ⟨2020,loc,nP,nP,nP,nP,req,props,pats,deps,dreq,dsch,.iface 167 (.pointer (some ⟨gt,0,none⟩))⟩:Array Value)[j]?)∧w'.cell? adx=some (.pointer (some ⟨ge,0,none⟩))) [] (fun A=>⟨A,(cA_ A 4),(cA_ A 2),(cel_ (blk_below hS A.b)),(by obtain ⟨_,e2,hcx2⟩:=ptr_cell A.k.1;cases e2;exact hcx2)⟩) (fun hHeld=> ?_)
 refine pu_ 0 346 1 ?_
 refine pu_ 1 347 3 ?_
 refine pu_ 2 348 7 ?_
 refine pu_ 7 2 135 ?_
 refine ta5_ 3 349 143 hHeld ?_
 refine pu_ 4 350 159 ?_
 refine ta5_ 5 351 191 hHeld ?_
 refine pu_ 6 352 255 ?_
 refine pu_ 8 3 511 ?_
 refine done_ kr_ ?_
 clear HK;have HK:=asd_ hHeld.1
 clear hHeld
 clear bgs
 replace Bc:=ce2_ HK 4 2
 replace Bf:=fe1_ HK 2
 have bgs:=cel_ (blk_below hS HK.out.b)
 go_wp2_with fail
 go_ret2
 exact ⟨ge,gki,Ae,ce,_,rfl,HK.out.drop⟩
end Go.Proofs.YtkphbhncpdcbeaaGreatDoor.J
