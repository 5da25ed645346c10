/- Part. -/
import Derived.Deep.CutRange
import Derived.Test.YtkphbhncpdcbeaaGreatDoorQBK
set_option linter.unusedVariables false
set_option linter.unusedSimpArgs false
set_option maxHeartbeats 80000000
set_option maxRecDepth 100000
namespace Go.Proofs.YtkphbhncpdcbeaaGreatDoor.J
open Go.RowKit YtkphbhncpdcbeaaGreatDoorW.PrintWords YtkphbhncpdcbeaaGreatDoorW.PrintLast YtkphbhncpdcbeaaGreatDoorW.PrintMore PJT
theorem set_any (he:Bool) (en:Value) (Aco:Option Addr) (lco cco:Nat) (pi:Bool) (pt:Value) (fi:Bool) (ft:Value) (w w0:World) (l:List Blk) (gs:Nat) (lv:Value) (own d:Int) (hown:0≤own) (H:At w0 (.b gs (row (Sc.cells ⟨0,⟨#[]⟩,nP,nP,nP,nP,nilS,nM,nM,nM,nM,nM,.nilIface⟩) 119)::l) w) (hgs:w0.heap.size≤gs)
  (RE:Value→List Blk→Prop) (RC:Value→Value→List Blk→Prop) (RP:Value→Value→Value→List Blk→Prop) (RF:Value→Value→Value→Value→List Blk→Prop)
  (hE:(he=false∧RE nP l)∨(he=true∧∃ (AE:Option Addr) (l0:List S25) (cE:Nat),en= .slice AE l0.length cE∧Kd.C k25 w0 AE l0.length l0∧l0.length≤LM∧(∀ x∈l0,V x)∧∀ ge A2e c2e ms,(∀ W',Keeps ms W'→RowD W' w0.heap.size l0 (.slice A2e l0.length c2e))→RE (.pointer (some ⟨ge,0,none⟩)) (.b ge (row (#[.slice A2e l0.length c2e,.int .i64 (kinds l0).v]) 285)::(l ++ ms))))
  (hC:∀ v3 b1,RE v3 b1→((lco=0∧RC v3 nP b1)∨(lco=1∧∃ (c:S25) (B4 B5:Option Addr) (d4 d5 gq:Nat),Aco=some ⟨gq,0,none⟩∧w0.heap[gq]? =some (row #[.int .i64 c.f0,.bool c.f1,.int .i64 c.f2,.string c.f3,.slice B4 c.f4.length d4,.slice B5 c.f5.length d5] 25)∧Rep w0 c B4 d4 B5 d5∧V c∧∀ gk v140 ms,Coded v140→(∀ W',Keeps ms W'→OutD W' (fun k=>w0.heap.size≤k) c v140)→RC v3 (.pointer (some ⟨gk,0,none⟩)) (.b gk (row (#[v140]) 20)::(b1 ++ ms)))))
  (hP:∀ v3 v4 b2,RC v3 v4 b2→((pi=false∧RP v3 v4 .nilIface b2)∨(pi=true∧∃ (A:Option Addr) (names:List ByteArray) (c:Nat),pt= .slice A names.length c∧Kd.C Kd.string w0 A names.length names∧names.length≤c∧names.length < 8796093022208∧∀ gt A3 c3,RP v3 v4 (.iface 167 (.pointer (some ⟨gt,0,none⟩))) (.b gt (row (#[.slice A3 names.length c3]) 169):: .f (Fact.strs (.slice A3 names.length c3) names)::b2))))
  (hF:∀ v3 v4 v12 b3,RP v3 v4 v12 b3→((fi=false∧RF v3 v4 nP v12 b3)∨(fi=true∧∃ (A:Option Addr) (names:List ByteArray) (c:Nat),ft= .slice A names.length c∧Kd.C Kd.string w0 A names.length names∧names.length≤c∧names.length < 8796093022208∧∀ gf gv gt A3 c3,RF v3 v4 (.pointer (some ⟨gf,0,none⟩)) v12 (.b gf (row (#[eS,.func (.func 132) #[] #[.pointer (some ⟨gv,0,none⟩)]]) 258):: .b gv (row (#[.pointer (some ⟨gt,0,none⟩)]) 167):: .b gt (row (#[.slice A3 names.length c3]) 169):: .f (Fact.strs (.slice A3 names.length c3) names)::b3)))):
  Calls Tryz.prog 49 #[lv,.pointer (some ⟨gs,0,none⟩),.agg (ndA he en Aco lco cco pi pt fi ft),.int .i64 own,.int .i64 d] w fun e w'=>e= .returned (.tuple #[])∧∃ A2 c2 gm gpp gpr gds gdr v3 v4 v5 v12 cs,RF v3 v4 v5 v12 cs∧At w0 (.b gm (.map #[] 0):: .b gs (row (Sc.cells ⟨d,⟨#[]⟩,nP,v3,v4,v5,(.slice A2 0 c2),(.map (some gpr)),(.map (some gpp)),(.map (some gm)),(.map (some gdr)),(.map (some gds)),v12⟩) 119):: .b gpp (.map #[] 0):: .b gpr (.map #[] 0):: .b gds (.map #[] 0):: .b gdr (.map #[] 0)::cs) w':=by
 have hmm:= @run_makeMap Tryz.prog
 have Ggs:=asd_ hgs
 have HK:=asd_ H
 clear H
 replace Bc:=ce1_ HK 0;replace Bf:=fe1_ HK 0
 have HE:=asd_ hE
 have HC:=asd_ hC
 have HP:=asd_ hP
 have HF0:=asd_ hF
 clear hE hC hP hF
 go_enter Tryz.func49,Tryz.ntmps49
 go_wp2_with (first|refine wp_loop_once ?_|((with_reducible refine gd_ 7 ?_);refine bx_ (ndA he en Aco lco cco pi pt fi ft) 45 ?_;clear HK;intro g7 wb7 HK Gg7;replace Bc:=ce2_ HK 1 0;replace Bf:=fe1_ HK 1)|((first|((with_reducible refine gate_ (.store 3 (.tmp 22) (.tmp 20)) rfl ?_);refine store_at (t:=3) (p:=22) (g:=gs) (i:=3) (v:= .int .i64 d) 1 (Sc.cells ⟨d,⟨#[]⟩,nP,nP,nP,nP,nilS,nM,nM,nM,nM,nM,.nilIface⟩) rfl at_ rfl Ggs.out rfl rfl rfl rfl gs_ ?_)|((with_reducible refine gd_ 42 ?_);refine cl_ #[lv,i0,.int .i64 own] (nP) Tryz.func52 (at_zero _ _ _ hown) ?_)|((with_reducible refine gate_ (.store 74 (.tmp 44) (.tmp 42)) rfl ?_);refine store_at (t:=74) (p:=44) (g:=gs) (i:=7) (v:=nP) 1 (Sc.cells ⟨d,⟨#[]⟩,nP,nP,nP,nP,nilS,nM,nM,nM,nM,nM,.nilIface⟩) rfl at_ rfl Ggs.out rfl rfl rfl rfl gs_ ?_));intro ws1 HK1;replace HK:=asd_ HK1;clear HK1;replace Bc:=ce2_ HK 1 0;replace Bf:=fe1_ HK 1))
 refine su2_ 27 HK 1 0 [20,23,26] (fun HS hHeld=> ?_)
 refine pu_ 0 45 1 ?_
 refine pu_ 1 46 3 ?_
 refine pu_ 2 47 7 ?_
 refine pu_ 3 48 15 ?_
 refine pu_ 4 49 31 ?_
 refine pu_ 6 51 95 ?_
 refine pu_ 8 53 351 ?_
 refine pu_ 9 54 863 ?_
 refine pu_ 11 56 2911 ?_
 refine pu_ 13 58 11103 ?_
 refine pu_ 14 59 27487 ?_
 refine pu_ 16 61 93023 ?_
 refine ta3_ 5 50 93055 hHeld ?_
 refine ta3_ 10 55 94079 hHeld ?_
 refine ta3_ 15 60 126847 hHeld ?_
 refine oc_ 7 52 126975 Tryz.func89 #[lv,nilS,.int .i64 own] HS hHeld.1 (all_nil _ _ _) (fun hHeld=> ?_)
 refine oc_ 12 57 131071 Tryz.func89 #[lv,nilS,.int .i64 own] HS hHeld.1 (all_nil _ _ _) (fun hHeld=> ?_)
 refine oc_ 17 62 262143 Tryz.func89 #[lv,nilS,.int .i64 own] HS hHeld.1 (all_nil _ _ _) (fun hHeld=> ?_)
 refine pu_ 18 63 524287 ?_
 refine pu_ 19 64 1048575 ?_
 refine lz_ 20 2097151 (fun K hK=> ?_)
 have HKs:=asd_ (hHeld.1)
 have fgs_:=fE_ HKs 1
 have cgs_:=cE_ HKs 1
 refine sk_ ?_
 have HKt:=asd_ (At.store_to (i:=13) (v:=nilS) 1 (Sc.cells ⟨d,⟨#[]⟩,nP,nP,nP,nP,nilS,nM,nM,nM,nM,nM,.nilIface⟩) HKs.out rfl Ggs.out rfl rfl)
 clear HKs;have HKs:=HKt;clear HKt
 clear fgs_ cgs_
 refine hK.out _ _ ?_
 clear hK K
 refine pu_ 21 65 4194303 ?_
 refine pu_ 22 66 8388607 ?_
 refine lz_ 23 16777215 (fun K hK=> ?_)
 have fgs_:=fE_ HKs 1
 have cgs_:=cE_ HKs 1
 refine sk_ ?_
 have HKt:=asd_ (At.store_to (i:=14) (v:=nilS) 1 (Sc.cells ⟨d,⟨#[]⟩,nP,nP,nP,nP,nilS,nM,nM,nM,nM,nM,.nilIface⟩) HKs.out rfl Ggs.out rfl rfl)
 clear HKs;have HKs:=HKt;clear HKt
 clear fgs_ cgs_
 refine hK.out _ _ ?_
 clear hK K
 refine pu_ 24 67 33554431 ?_
 refine pu_ 25 68 67108863 ?_
 refine lz_ 26 134217727 (fun K hK=> ?_)
 have fgs_:=fE_ HKs 1
 have cgs_:=cE_ HKs 1
 refine sk_ ?_
 have HKt:=asd_ (At.store_to (i:=15) (v:=nilS) 1 (Sc.cells ⟨d,⟨#[]⟩,nP,nP,nP,nP,nilS,nM,nM,nM,nM,nM,.nilIface⟩) HKs.out rfl Ggs.out rfl rfl)
 clear HKs;have HKs:=HKt;clear HKt
 clear fgs_ cgs_
 refine hK.out _ _ ?_
 clear hK K
 refine done_ kr_ ?_
 clear HK;have HK:=HKs;clear HKs
 clear hHeld
 replace Bc:=ce2_ HK 1 0
 replace Bf:=fe1_ HK 1
 go_wp2_with fail
 refine su2_ 36 HK 1 0 [26,29,32,35] (fun HS hHeld=> ?_)
 refine pu_ 0 69 1 ?_
 refine pu_ 1 70 3 ?_
 refine pu_ 2 71 7 ?_
 refine pu_ 3 72 15 ?_
 refine pu_ 4 73 31 ?_
 refine pu_ 5 74 63 ?_
 refine pu_ 7 76 191 ?_
 refine pu_ 9 78 703 ?_
 refine pu_ 10 79 1727 ?_
 refine pu_ 12 81 5823 ?_
 refine pu_ 14 83 22207 ?_
 refine pu_ 15 84 54975 ?_
 refine pu_ 17 86 186047 ?_
 refine pu_ 19 88 710335 ?_
 refine pu_ 20 89 1758911 ?_
 refine pu_ 22 91 5953215 ?_
 refine ta3_ 6 75 5953279 hHeld ?_
 refine ta3_ 11 80 5955327 hHeld ?_
 refine ta3_ 16 85 6020863 hHeld ?_
 refine ta3_ 21 90 8118015 hHeld ?_
 refine oc_ 8 77 8118271 Tryz.func52 #[lv,i0,.int .i64 own] HS hHeld.1 (at_zero _ _ _ hown) (fun hHeld=> ?_)
 refine oc_ 13 82 8126463 Tryz.func52 #[lv,i0,.int .i64 own] HS hHeld.1 (at_zero _ _ _ hown) (fun hHeld=> ?_)
 refine oc_ 18 87 8388607 Tryz.func52 #[lv,i0,.int .i64 own] HS hHeld.1 (at_zero _ _ _ hown) (fun hHeld=> ?_)
 refine oc_ 23 92 16777215 Tryz.func52 #[lv,i0,.int .i64 own] HS hHeld.1 (at_zero _ _ _ hown) (fun hHeld=> ?_)
 refine pu_ 24 93 33554431 ?_
 refine pu_ 25 94 67108863 ?_
 refine lz_ 26 134217727 (fun K hK=> ?_)
 have HKs:=asd_ (hHeld.1)
 have fgs_:=fE_ HKs 1
 have cgs_:=cE_ HKs 1
 refine sk_ ?_
 have HKt:=asd_ (At.store_to (i:=12) (v:=nP) 1 (Sc.cells ⟨d,⟨#[]⟩,nP,nP,nP,nP,nilS,nM,nM,nM,nM,nM,.nilIface⟩) HKs.out rfl Ggs.out rfl rfl)
 clear HKs;have HKs:=HKt;clear HKt
 clear fgs_ cgs_
 refine hK.out _ _ ?_
 clear hK K
 refine pu_ 27 95 268435455 ?_
 refine pu_ 28 96 536870911 ?_
 refine lz_ 29 1073741823 (fun K hK=> ?_)
 have fgs_:=fE_ HKs 1
 have cgs_:=cE_ HKs 1
 refine sk_ ?_
 have HKt:=asd_ (At.store_to (i:=16) (v:=nP) 1 (Sc.cells ⟨d,⟨#[]⟩,nP,nP,nP,nP,nilS,nM,nM,nM,nM,nM,.nilIface⟩) HKs.out rfl Ggs.out rfl rfl)
 clear HKs;have HKs:=HKt;clear HKt
 clear fgs_ cgs_
 refine hK.out _ _ ?_
 clear hK K
 refine pu_ 30 97 2147483647 ?_
 refine pu_ 31 98 4294967295 ?_
 refine lz_ 32 8589934591 (fun K hK=> ?_)
 have fgs_:=fE_ HKs 1
 have cgs_:=cE_ HKs 1
 refine sk_ ?_
 have HKt:=asd_ (At.store_to (i:=17) (v:=nP) 1 (Sc.cells ⟨d,⟨#[]⟩,nP,nP,nP,nP,nilS,nM,nM,nM,nM,nM,.nilIface⟩) HKs.out rfl Ggs.out rfl rfl)
 clear HKs;have HKs:=HKt;clear HKt
 clear fgs_ cgs_
 refine hK.out _ _ ?_
 clear hK K
 refine pu_ 33 99 17179869183 ?_
 refine pu_ 34 100 34359738367 ?_
 refine lz_ 35 68719476735 (fun K hK=> ?_)
 have fgs_:=fE_ HKs 1
 have cgs_:=cE_ HKs 1
 refine sk_ ?_
 have HKt:=asd_ (At.store_to (i:=18) (v:=nP) 1 (Sc.cells ⟨d,⟨#[]⟩,nP,nP,nP,nP,nilS,nM,nM,nM,nM,nM,.nilIface⟩) HKs.out rfl Ggs.out rfl rfl)
 clear HKs;have HKs:=HKt;clear HKt
 clear fgs_ cgs_
 refine hK.out _ _ ?_
 clear hK K
 refine done_ kr_ ?_
 clear HK;have HK:=HKs;clear HKs
 clear hHeld
 replace Bc:=ce2_ HK 1 0
 replace Bf:=fe1_ HK 1
 go_upto_if 124 with (first|refine wp_loop_once ?_)
 go_cut [] from 123 to 131 (fun wc=>∃ v3 b1,Aside0 (RE v3 b1)∧Aside0 (At w0 (.b g7 (row (ndA he en Aco lco cco pi pt fi ft) 45):: .b gs (row (Sc.cells ⟨d,⟨#[]⟩,nP,v3,nP,nP,nilS,nM,nM,nM,nM,nM,.nilIface⟩) 119)::b1) wc))
 case first=>
  rcases HE.out with ⟨rfl,r⟩|⟨rfl,AE,l0,cE,rfl,hC,hn,hv,r⟩
  ·have Hr:=asd_ r;clear r
   go_wp2_with fail
   go_meet
   case rel=>exact ⟨_,_,⟨Hr.out⟩,HK⟩
  ·have He:=asd_ hC;have Hn:=asd_ hn;have Hv:=asd_ hv;have Hr:=asd_ r;clear hC hn hv r
   go_wp2_with (first|((with_reducible refine gd_ 128 ?_);refine cw_ #[.slice AE l0.length cE] Tryz.func54 (values_deep _ AE cE l0 (Kd.C_below He.out HK.out.b) Hn.out (fun y hy=>value_deep (Hv.out y hy) _)) ?_;intro v128 wc128 HK1 hF hB;obtain ⟨A2e,c2e,rfl⟩:=hF.slice;obtain ⟨ms,HK2,hms⟩:=At.snap at_ hB;have HMS:=asd_ (fun W' hk=>RowD.low ((hF).stays (W':=W') (hms W' hk)) HK.out.b.size);clear hF hB hms HK1;have HK1:=HK2;clear HK2;replace HK:=asd_ HK1;clear HK1;replace Bc:=ce2_ HK 1 0;replace Bf:=fe1_ HK 1)|((with_reducible refine gd_ 129 ?_);refine cw_ #[.slice A2e l0.length c2e] Tryz.func91 (NewEnum_row _ _ l0 A2e c2e (HMS.out _ (Keeps.right HK.out.k.2.2)) Hn.out Hv.out) ?_;rintro v129 wc129 HK0 ⟨ge,rfl,hge,hfe⟩ hB;have HK1:=At.came HK.out hB hge hfe;have Gge:=asd_ (Nat.le_trans HK.out.b.size hfe);clear HK0 hge hfe hB;replace HK:=asd_ HK1;clear HK1;replace Bc:=ce2_ HK 2 1;replace Bf:=fe1_ HK 2)|((with_reducible refine gate_ (.store 107 (.tmp 131) (.tmp 129)) rfl ?_);refine store_at (t:=107) (p:=131) (g:=gs) (i:=10) (v:= .pointer (some ⟨ge,0,none⟩)) 2 (Sc.cells ⟨d,⟨#[]⟩,nP,(.pointer (some ⟨ge,0,none⟩)),nP,nP,nilS,nM,nM,nM,nM,nM,.nilIface⟩) rfl at_ rfl Ggs.out rfl rfl rfl rfl gs_ ?_;intro ws10 HK1;replace HK:=asd_ HK1;clear HK1;replace Bc:=ce2_ HK 2 1;replace Bf:=fe1_ HK 2))
   go_meet
   case rel=>exact ⟨_,_,⟨Hr.out _ _ _ _ HMS.out⟩,⟨At.front 2 (At.front 2 HK.out rfl) rfl⟩⟩
 case rest=>
  obtain ⟨v3,b1,HR1,HK⟩:=hcut
  replace Bc:=ce2_ HK 1 0
  replace Bf:=fe1_ HK 1
  go_upto_if 135 with (fail)
  go_cut [] from 132 to 143 (fun wc=>∃ v4 b2,Aside0 (RC v3 v4 b2)∧Aside0 (At w0 (.b g7 (row (ndA he en Aco lco cco pi pt fi ft) 45):: .b gs (row (Sc.cells ⟨d,⟨#[]⟩,nP,v3,v4,nP,nilS,nM,nM,nM,nM,nM,.nilIface⟩) 119)::b2) wc))
  case first=>
   rcases HC.out _ _ HR1.out with ⟨rfl,r⟩|⟨rfl,c,B4,B5,d4,d5,gq,rfl,hq,hx,hv,r⟩
   ·have Hr:=asd_ r;clear r
    go_wp2_with fail
    go_meet
    case rel=>exact ⟨_,_,⟨Hr.out⟩,HK⟩
   ·have bgq:=cel_ (blk_below hq HK.out.b)
    have Hx:=asd_ hx;have Hv:=asd_ hv;have Hr:=asd_ r;clear hx hv r
    go_wp2_with (first|((with_reducible refine gd_ 140 ?_);refine cw_ #[.agg (jvc c B4 B5 d4 d5)] Tryz.func29 (value_deep Hv.out w0 _ B4 B5 d4 d5 HK.out.b (Hx.out.below HK.out.b)) ?_;intro v140 wc140 HK1 hF hB;obtain ⟨ms,HK2,hms⟩:=At.snap at_ hB;have hone:=hF.coded;have HMS:=asd_ (fun W' hk=>OutD.mono ((hF).stays (W':=W') (hms W' hk)) (ok':=fun k=>w0.heap.size≤k) (fun k hk _=>Nat.le_trans HK.out.b.size hk));have Hone:=asd_ hone;clear hF hB hms HK1 hone;have HK1:=HK2;clear HK2;replace HK:=asd_ HK1;clear HK1;clear bgq;replace Bc:=ce2_ HK 1 0;replace Bf:=fe1_ HK 1;have bgq:=cel_ (blk_below hq HK.out.b))|((with_reducible refine gd_ 13 ?_);refine bxp_at at_ rfl (N:=13) rfl (z:= .nilIface) (t:=20) gs_ ?_;intro gk wb13 hP hgk;have HP:=asd_ hP;have Ggk:=asd_ hgk;clear hgk hP HK bgq;have bgk:=cel_ HP.out.cell;have fgk:=fro_ HP.out.cell)|((with_reducible refine gate_ (.store 20 (.tmp 13) (.tmp 140)) rfl ?_);refine storep_at (g:=gk) (v:=v140) HP.out rfl rfl rfl (by have q:=Hone.out;clear Hone HMS HP;cases q<;>first|(go_simp;done)|(go_simp;rfl)) ?_;intro ws10 HK1;have HK:=asd_ HK1;clear HK1 HP;clear fgk;replace Bc:=ce3_ HK 2 1 0;replace Bf:=fe1_ HK 2;have bgq:=cel_ (blk_below hq HK.out.b))|((with_reducible refine gate_ (.store 108 (.tmp 143) (.tmp 13)) rfl ?_);refine store_at (t:=108) (p:=143) (g:=gs) (i:=11) (v:= .pointer (some ⟨gk,0,none⟩)) 2 (Sc.cells ⟨d,⟨#[]⟩,nP,v3,(.pointer (some ⟨gk,0,none⟩)),nP,nilS,nM,nM,nM,nM,nM,.nilIface⟩) rfl at_ rfl Ggs.out rfl rfl rfl rfl gs_ ?_;intro ws11 HK1;replace HK:=asd_ HK1;clear HK1;clear bgq;replace Bc:=ce3_ HK 2 1 0;replace Bf:=fe1_ HK 2;have bgq:=cel_ (blk_below hq HK.out.b)))
    go_meet
    case rel=>exact ⟨_,_,⟨Hr.out _ _ _ Hone.out HMS.out⟩,⟨At.front 2 (At.front 2 HK.out rfl) rfl⟩⟩
  case rest=>
   obtain ⟨v4,b2,HR2,HK⟩:=hcut
   replace Bc:=ce2_ HK 1 0
   replace Bf:=fe1_ HK 1
   go_wp2_with fail
   refine su2_ 14 HK 1 0 [10,13] (fun HS hHeld=> ?_)
   refine pu_ 0 144 1 ?_
   refine pu_ 1 145 3 ?_
   refine pu_ 2 146 7 ?_
   refine pu_ 5 149 39 ?_
   refine ta3_ 3 147 47 hHeld ?_
   refine ta3_ 6 150 111 hHeld ?_
   refine oc_ 4 148 127 Tryz.func92 #[.agg #[bF,i0]] HS hHeld.1 (limit_none _ _) (fun hHeld=> ?_)
   refine oc_ 7 151 255 Tryz.func92 #[.agg #[bF,i0]] HS hHeld.1 (limit_none _ _) (fun hHeld=> ?_)
   refine pu_ 8 152 511 ?_
   refine pu_ 9 153 1023 ?_
   refine lz_ 10 2047 (fun K hK=> ?_)
   have HKs:=asd_ (hHeld.1)
   have fgs_:=fE_ HKs 1
   have cgs_:=cE_ HKs 1
   refine sk_ ?_
   have HKt:=asd_ (At.store_to (i:=42) (v:=nP) 1 (Sc.cells ⟨d,⟨#[]⟩,nP,v3,v4,nP,nilS,nM,nM,nM,nM,nM,.nilIface⟩) HKs.out rfl Ggs.out rfl rfl)
   clear HKs;have HKs:=HKt;clear HKt
   clear fgs_ cgs_
   refine hK.out _ _ ?_
   clear hK K
   refine pu_ 11 154 4095 ?_
   refine pu_ 12 155 8191 ?_
   refine lz_ 13 16383 (fun K hK=> ?_)
   have fgs_:=fE_ HKs 1
   have cgs_:=cE_ HKs 1
   refine sk_ ?_
   have HKt:=asd_ (At.store_to (i:=43) (v:=nP) 1 (Sc.cells ⟨d,⟨#[]⟩,nP,v3,v4,nP,nilS,nM,nM,nM,nM,nM,.nilIface⟩) HKs.out rfl Ggs.out rfl rfl)
   clear HKs;have HKs:=HKt;clear HKt
   clear fgs_ cgs_
   refine hK.out _ _ ?_
   clear hK K
   refine done_ kr_ ?_
   clear HK;have HK:=HKs;clear HKs
   clear hHeld
   replace Bc:=ce2_ HK 1 0
   replace Bf:=fe1_ HK 1
   go_upto_if 158 with (fail)
   go_cut [] from 156 to 168 (fun wc=>∃ v12 b3,Aside0 (RP v3 v4 v12 b3)∧Aside0 (At w0 (.b g7 (row (ndA he en Aco lco cco pi pt fi ft) 45):: .b gs (row (Sc.cells ⟨d,⟨#[]⟩,nP,v3,v4,nP,nilS,nM,nM,nM,nM,nM,v12⟩) 119)::b3) wc))
   case first=>
    rcases HP.out _ _ _ HR2.out with ⟨rfl,r⟩|⟨rfl,A,names,c,rfl,hr,hc,hlen,r⟩
    ·have Hrr:=asd_ r;clear r
     go_wp2_with fail
     go_meet
     case rel=>exact ⟨_,_,⟨Hrr.out⟩,HK⟩
    ·have Hr:=asd_ hr;have Hc:=asd_ hc;have Hlen:=asd_ hlen;have Hrr:=asd_ r;clear hr hc hlen r
     go_wp2_with (first|((with_reducible refine gd_ 163 ?_);refine cw_ #[.slice A names.length c] Tryz.func55 (copied_of (Kd.C_below Hr.out HK.out.b) Hc.out Hlen.out) ?_;rintro v163 wc163 HK0 ⟨A3,c3,rfl,hF⟩ hB;have HK1:=At.fact (Fact.strs (.slice A3 names.length c3) names) HK0 hF;clear HK0 hF hB;replace HK:=asd_ HK1;clear HK1;replace Bc:=ce2_ HK 2 1;replace Bf:=fe1_ HK 2)|((with_reducible refine gd_ 165 ?_);refine bx_ #[.slice A3 names.length c3] 169 ?_;clear HK;intro gt wb165 HK Ggt;replace Bc:=ce3_ HK 3 2 0;replace Bf:=fe1_ HK 3)|((with_reducible refine gate_ (.store 116 (.tmp 168) (.tmp 166)) rfl ?_);refine store_at (t:=116) (p:=168) (g:=gs) (i:=44) (v:= .iface 167 (.pointer (some ⟨gt,0,none⟩))) 3 (Sc.cells ⟨d,⟨#[]⟩,nP,v3,v4,nP,nilS,nM,nM,nM,nM,nM,(.iface 167 (.pointer (some ⟨gt,0,none⟩)))⟩) rfl at_ rfl Ggs.out rfl rfl rfl rfl gs_ ?_;intro ws12 HK1;replace HK:=asd_ HK1;clear HK1;replace Bc:=ce3_ HK 3 2 0;replace Bf:=fe1_ HK 3))
     go_meet
     case rel=>exact ⟨_,_,⟨Hrr.out _ _ _⟩,⟨At.front 3 (At.front 3 HK.out rfl) rfl⟩⟩
   case rest=>
    obtain ⟨v12,b3,HR3,HK⟩:=hcut
    replace Bc:=ce2_ HK 1 0
    replace Bf:=fe1_ HK 1
    go_upto_if 171 with (fail)
    go_cut [] from 169 to 178 (fun wc=>∃ v5 cs,Aside0 (RF v3 v4 v5 v12 cs)∧Aside0 (At w0 (.b g7 (row (ndA he en Aco lco cco pi pt fi ft) 45):: .b gs (row (Sc.cells ⟨d,⟨#[]⟩,nP,v3,v4,v5,nilS,nM,nM,nM,nM,nM,v12⟩) 119)::cs) wc))
    case first=>
     rcases HF0.out _ _ _ _ HR3.out with ⟨rfl,r⟩|⟨rfl,A,names,c,rfl,hr,hc,hlen,r⟩
     ·have Hrr:=asd_ r;clear r
      go_wp2_with fail
      go_meet
      case rel=>exact ⟨_,_,⟨Hrr.out⟩,HK⟩
     ·have Hr:=asd_ hr;have Hc:=asd_ hc;have Hlen:=asd_ hlen;have Hrr:=asd_ r;clear hr hc hlen r
      go_wp2_with (first|((with_reducible refine gd_ 176 ?_);refine cw_ #[.slice A names.length c] Tryz.func93 (format_of _ (Kd.C_below Hr.out HK.out.b) Hc.out Hlen.out) ?_;rintro v176 wc176 HK0 ⟨gf,gv,gt,A3,c3,rfl,hgs3,hB3⟩ hB;have HK1:=At.both HK.out hB3 hgs3;clear HK0 hgs3 hB3 hB;replace HK:=asd_ HK1;clear HK1;replace Bc:=ce2_ HK 5 4;replace Bf:=fe1_ HK 5)|((with_reducible refine gate_ (.store 109 (.tmp 178) (.tmp 176)) rfl ?_);refine store_at (t:=109) (p:=178) (g:=gs) (i:=19) (v:= .pointer (some ⟨gf,0,none⟩)) 5 (Sc.cells ⟨d,⟨#[]⟩,nP,v3,v4,(.pointer (some ⟨gf,0,none⟩)),nilS,nM,nM,nM,nM,nM,v12⟩) rfl at_ rfl Ggs.out rfl rfl rfl rfl gs_ ?_;intro ws12 HK1;replace HK:=asd_ HK1;clear HK1;replace Bc:=ce2_ HK 5 4;replace Bf:=fe1_ HK 5))
      go_meet
      case rel=>exact ⟨_,_,⟨Hrr.out _ _ _ _ _⟩,⟨At.front 5 (At.front 5 HK.out rfl) rfl⟩⟩
    case rest=>
     obtain ⟨v5,cs,HR,HK⟩:=hcut
     replace Bc:=ce2_ HK 1 0
     replace Bf:=fe1_ HK 1
     go_wp2_with (first|refine wp_loop_once ?_)
     refine su2_ 28 HK 1 0 [18,21,24,27] (fun HS hHeld=> ?_)
     refine pu_ 0 179 1 ?_
     refine pu_ 1 180 3 ?_
     refine pu_ 2 181 7 ?_
     refine pu_ 3 182 15 ?_
     refine pu_ 4 183 31 ?_
     refine pu_ 7 186 159 ?_
     refine pu_ 10 189 1183 ?_
     refine pu_ 13 192 9375 ?_
     refine ta3_ 5 184 9407 hHeld ?_
     refine ta3_ 8 187 9663 hHeld ?_
     refine ta3_ 11 190 11711 hHeld ?_
     refine ta3_ 14 193 28095 hHeld ?_
     refine oc_ 6 185 28159 Tryz.func92 #[.agg #[bF,i0]] HS hHeld.1 (limit_none _ _) (fun hHeld=> ?_)
     refine oc_ 9 188 28671 Tryz.func92 #[.agg #[bF,i0]] HS hHeld.1 (limit_none _ _) (fun hHeld=> ?_)
     refine oc_ 12 191 32767 Tryz.func92 #[.agg #[bF,i0]] HS hHeld.1 (limit_none _ _) (fun hHeld=> ?_)
     refine oc_ 15 194 65535 Tryz.func92 #[.agg #[bF,i0]] HS hHeld.1 (limit_none _ _) (fun hHeld=> ?_)
     refine pu_ 16 195 131071 ?_
     refine pu_ 17 196 262143 ?_
     refine lz_ 18 524287 (fun K hK=> ?_)
     have HKs:=asd_ (hHeld.1)
     have fgs_:=fE_ HKs 1
     have cgs_:=cE_ HKs 1
     refine sk_ ?_
     have HKt:=asd_ (At.store_to (i:=31) (v:=nP) 1 (Sc.cells ⟨d,⟨#[]⟩,nP,v3,v4,v5,nilS,nM,nM,nM,nM,nM,v12⟩) HKs.out rfl Ggs.out rfl rfl)
     clear HKs;have HKs:=HKt;clear HKt
     clear fgs_ cgs_
     refine hK.out _ _ ?_
     clear hK K
     refine pu_ 19 197 1048575 ?_
     refine pu_ 20 198 2097151 ?_
     refine lz_ 21 4194303 (fun K hK=> ?_)
     have fgs_:=fE_ HKs 1
     have cgs_:=cE_ HKs 1
     refine sk_ ?_
     have HKt:=asd_ (At.store_to (i:=32) (v:=nP) 1 (Sc.cells ⟨d,⟨#[]⟩,nP,v3,v4,v5,nilS,nM,nM,nM,nM,nM,v12⟩) HKs.out rfl Ggs.out rfl rfl)
     clear HKs;have HKs:=HKt;clear HKt
     clear fgs_ cgs_
     refine hK.out _ _ ?_
     clear hK K
     refine pu_ 22 199 8388607 ?_
     refine pu_ 23 200 16777215 ?_
     refine lz_ 24 33554431 (fun K hK=> ?_)
     have fgs_:=fE_ HKs 1
     have cgs_:=cE_ HKs 1
     refine sk_ ?_
     have HKt:=asd_ (At.store_to (i:=35) (v:=nP) 1 (Sc.cells ⟨d,⟨#[]⟩,nP,v3,v4,v5,nilS,nM,nM,nM,nM,nM,v12⟩) HKs.out rfl Ggs.out rfl rfl)
     clear HKs;have HKs:=HKt;clear HKt
     clear fgs_ cgs_
     refine hK.out _ _ ?_
     clear hK K
     refine pu_ 25 201 67108863 ?_
     refine pu_ 26 202 134217727 ?_
     refine lz_ 27 268435455 (fun K hK=> ?_)
     have fgs_:=fE_ HKs 1
     have cgs_:=cE_ HKs 1
     refine sk_ ?_
     have HKt:=asd_ (At.store_to (i:=36) (v:=nP) 1 (Sc.cells ⟨d,⟨#[]⟩,nP,v3,v4,v5,nilS,nM,nM,nM,nM,nM,v12⟩) HKs.out rfl Ggs.out rfl rfl)
     clear HKs;have HKs:=HKt;clear HKt
     clear fgs_ cgs_
     refine hK.out _ _ ?_
     clear hK K
     refine done_ kr_ ?_
     clear HK;have HK:Aside0 (At w0 (.b g7 (row (ndA he en Aco lco cco pi pt fi ft) 45):: .b gs (row (Sc.cells ⟨d,⟨#[]⟩,nP,v3,v4,v5,nilS,nM,nM,nM,nM,nM,v12⟩) 119)::cs) _):=HKs;clear HKs
     clear hHeld
     replace Bc:=ce2_ HK 1 0
     replace Bf:=fe1_ HK 1
     go_wp2_with (first|refine wp_loop_once ?_|((first|((with_reducible refine gate_ (.store 4 (.tmp 207) (.tmp 205)) rfl ?_);refine store_at (t:=4) (p:=207) (g:=gs) (i:=33) (v:=bF) 1 (Sc.cells ⟨d,⟨#[]⟩,nP,v3,v4,v5,nilS,nM,nM,nM,nM,nM,v12⟩) rfl at_ rfl Ggs.out rfl rfl rfl rfl gs_ ?_)|((with_reducible refine gd_ 212 ?_);refine cl_ #[lv,nilS,i0] (nilS) Tryz.func89 (all_nil _ _ _) ?_)|((with_reducible refine gate_ (.store 103 (.tmp 214) (.tmp 212)) rfl ?_);refine store_at (t:=103) (p:=214) (g:=gs) (i:=39) (v:=nilS) 1 (Sc.cells ⟨d,⟨#[]⟩,nP,v3,v4,v5,nilS,nM,nM,nM,nM,nM,v12⟩) rfl at_ rfl Ggs.out rfl rfl rfl rfl gs_ ?_));intro ws16 HK1;replace HK:=asd_ HK1;clear HK1;replace Bc:=ce2_ HK 1 0;replace Bf:=fe1_ HK 1))
     refine su2_ 24 HK 1 0 [17,20,23] (fun HS hHeld=> ?_)
     refine pu_ 0 215 1 ?_
     refine pu_ 1 216 3 ?_
     refine pu_ 2 217 7 ?_
     refine pu_ 3 218 15 ?_
     refine pu_ 4 219 31 ?_
     refine pu_ 7 222 159 ?_
     refine pu_ 8 223 415 ?_
     refine pu_ 11 226 2463 ?_
     refine pu_ 12 227 6559 ?_
     refine ta3_ 5 220 6591 hHeld ?_
     refine ta3_ 9 224 7103 hHeld ?_
     refine ta3_ 13 228 15295 hHeld ?_
     refine oc_ 6 221 15359 Tryz.func52 #[lv,i0,.int .i64 0] HS hHeld.1 (at_zero _ _ _ (Int.le_refl 0)) (fun hHeld=> ?_)
     refine oc_ 10 225 16383 Tryz.func52 #[lv,i0,.int .i64 0] HS hHeld.1 (at_zero _ _ _ (Int.le_refl 0)) (fun hHeld=> ?_)
     refine oc_ 14 229 32767 Tryz.func52 #[lv,i0,.int .i64 0] HS hHeld.1 (at_zero _ _ _ (Int.le_refl 0)) (fun hHeld=> ?_)
     refine pu_ 15 230 65535 ?_
     refine pu_ 16 231 131071 ?_
     refine lz_ 17 262143 (fun K hK=> ?_)
     have HKs:=asd_ (hHeld.1)
     have fgs_:=fE_ HKs 1
     have cgs_:=cE_ HKs 1
     refine sk_ ?_
     have HKt:=asd_ (At.store_to (i:=40) (v:=nP) 1 (Sc.cells ⟨d,⟨#[]⟩,nP,v3,v4,v5,nilS,nM,nM,nM,nM,nM,v12⟩) HKs.out rfl Ggs.out rfl rfl)
     clear HKs;have HKs:=HKt;clear HKt
     clear fgs_ cgs_
     refine hK.out _ _ ?_
     clear hK K
     refine pu_ 18 232 524287 ?_
     refine pu_ 19 233 1048575 ?_
     refine lz_ 20 2097151 (fun K hK=> ?_)
     have fgs_:=fE_ HKs 1
     have cgs_:=cE_ HKs 1
     refine sk_ ?_
     have HKt:=asd_ (At.store_to (i:=34) (v:=nP) 1 (Sc.cells ⟨d,⟨#[]⟩,nP,v3,v4,v5,nilS,nM,nM,nM,nM,nM,v12⟩) HKs.out rfl Ggs.out rfl rfl)
     clear HKs;have HKs:=HKt;clear HKt
     clear fgs_ cgs_
     refine hK.out _ _ ?_
     clear hK K
     refine pu_ 21 234 4194303 ?_
     refine pu_ 22 235 8388607 ?_
     refine lz_ 23 16777215 (fun K hK=> ?_)
     have fgs_:=fE_ HKs 1
     have cgs_:=cE_ HKs 1
     refine sk_ ?_
     have HKt:=asd_ (At.store_to (i:=41) (v:=nP) 1 (Sc.cells ⟨d,⟨#[]⟩,nP,v3,v4,v5,nilS,nM,nM,nM,nM,nM,v12⟩) HKs.out rfl Ggs.out rfl rfl)
     clear HKs;have HKs:=HKt;clear HKt
     clear fgs_ cgs_
     refine hK.out _ _ ?_
     clear hK K
     refine done_ kr_ ?_
     clear HK;have HK:Aside0 (At w0 (.b g7 (row (ndA he en Aco lco cco pi pt fi ft) 45):: .b gs (row (Sc.cells ⟨d,⟨#[]⟩,nP,v3,v4,v5,nilS,nM,nM,nM,nM,nM,v12⟩) 119)::cs) _):=HKs;clear HKs
     clear hHeld
     replace Bc:=ce2_ HK 1 0
     replace Bf:=fe1_ HK 1
     go_wp2_with fail
     refine su2_ 14 HK 1 0 [10,13] (fun HS hHeld=> ?_)
     refine pu_ 0 236 1 ?_
     refine pu_ 1 237 3 ?_
     refine pu_ 2 238 7 ?_
     refine pu_ 5 241 39 ?_
     refine ta3_ 3 239 47 hHeld ?_
     refine ta3_ 6 242 111 hHeld ?_
     refine oc_ 4 240 127 Tryz.func92 #[.agg #[bF,i0]] HS hHeld.1 (limit_none _ _) (fun hHeld=> ?_)
     refine oc_ 7 243 255 Tryz.func92 #[.agg #[bF,i0]] HS hHeld.1 (limit_none _ _) (fun hHeld=> ?_)
     refine pu_ 8 244 511 ?_
     refine pu_ 9 245 1023 ?_
     refine lz_ 10 2047 (fun K hK=> ?_)
     have HKs:=asd_ (hHeld.1)
     have fgs_:=fE_ HKs 1
     have cgs_:=cE_ HKs 1
     refine sk_ ?_
     have HKt:=asd_ (At.store_to (i:=21) (v:=nP) 1 (Sc.cells ⟨d,⟨#[]⟩,nP,v3,v4,v5,nilS,nM,nM,nM,nM,nM,v12⟩) HKs.out rfl Ggs.out rfl rfl)
     clear HKs;have HKs:=HKt;clear HKt
     clear fgs_ cgs_
     refine hK.out _ _ ?_
     clear hK K
     refine pu_ 11 246 4095 ?_
     refine pu_ 12 247 8191 ?_
     refine lz_ 13 16383 (fun K hK=> ?_)
     have fgs_:=fE_ HKs 1
     have cgs_:=cE_ HKs 1
     refine sk_ ?_
     have HKt:=asd_ (At.store_to (i:=20) (v:=nP) 1 (Sc.cells ⟨d,⟨#[]⟩,nP,v3,v4,v5,nilS,nM,nM,nM,nM,nM,v12⟩) HKs.out rfl Ggs.out rfl rfl)
     clear HKs;have HKs:=HKt;clear HKt
     clear fgs_ cgs_
     refine hK.out _ _ ?_
     clear hK K
     refine done_ kr_ ?_
     clear HK;have HK:Aside0 (At w0 (.b g7 (row (ndA he en Aco lco cco pi pt fi ft) 45):: .b gs (row (Sc.cells ⟨d,⟨#[]⟩,nP,v3,v4,v5,nilS,nM,nM,nM,nM,nM,v12⟩) 119)::cs) _):=HKs;clear HKs
     clear hHeld
     replace Bc:=ce2_ HK 1 0
     replace Bf:=fe1_ HK 1
     go_wp2_with (first|refine wp_loop_once ?_|((with_reducible refine gd_ 251 ?_);refine cw_ #[nilS] Tryz.func55 (copied_nil _ none 0) ?_;rintro v251 wc251 HK1 ⟨A2,c2,rfl,hF⟩ hB;clear hF hB;replace HK:=asd_ HK1;clear HK1;replace Bc:=ce2_ HK 1 0;replace Bf:=fe1_ HK 1)|((with_reducible refine gd_ 255 ?_);refine nw_ (.map #[] 0) (fun b=> .map (some b)) ?_;clear HK;intro gdr wb255 HK Ggdr;replace Bc:=ce2_ HK 2 1;replace Bf:=fe1_ HK 2)|((with_reducible refine gd_ 280 ?_);refine cw_ #[lv,nilS,.int .i64 own] Tryz.func94 (props_nil _ _ _) ?_;rintro v280 wc280 HK0 ⟨gds,rfl,hsgds,hhgds⟩ hB;have HK1:=(At.came HK.out hB hhgds hsgds);have hgg:w0.heap.size≤gds:=Nat.le_trans HK.out.b.size hsgds;have Ggds:=asd_ hgg;clear HK0 hB hsgds hhgds hgg;replace HK:=asd_ HK1;clear HK1;replace Bc:=ce2_ HK 3 2;replace Bf:=fe1_ HK 3)|((with_reducible refine gd_ 287 ?_);refine cw_ #[lv,nilS,.int .i64 0] Tryz.func94 (props_nil _ _ _) ?_;rintro v287 wc287 HK0 ⟨gpr,rfl,hsgpr,hhgpr⟩ hB;have HK1:=(At.came HK.out hB hhgpr hsgpr);have hgg:w0.heap.size≤gpr:=Nat.le_trans HK.out.b.size hsgpr;have Ggpr:=asd_ hgg;clear HK0 hB hsgpr hhgpr hgg;replace HK:=asd_ HK1;clear HK1;replace Bc:=ce2_ HK 4 3;replace Bf:=fe1_ HK 4)|((with_reducible refine gd_ 291 ?_);refine nw_ (.map #[] 0) (fun b=> .map (some b)) ?_;clear HK;intro gpp wb291 HK Ggpp;replace Bc:=ce2_ HK 5 4;replace Bf:=fe1_ HK 5)|((with_reducible refine gate_ (.store 22 (.tmp 253) (.tmp 251)) rfl ?_);refine store_at (t:=22) (p:=253) (g:=gs) (i:=22) (v:= .slice A2 0 c2) 1 (Sc.cells ⟨d,⟨#[]⟩,nP,v3,v4,v5,(.slice A2 0 c2),nM,nM,nM,nM,nM,v12⟩) rfl at_ rfl Ggs.out rfl rfl rfl rfl gs_ ?_;intro ws23 HK1;replace HK:=asd_ HK1;clear HK1;replace Bc:=ce2_ HK 1 0;replace Bf:=fe1_ HK 1)|((with_reducible refine gate_ (.store 114 (.tmp 257) (.tmp 255)) rfl ?_);refine store_at (t:=114) (p:=257) (g:=gs) (i:=28) (v:= .map (some gdr)) 2 (Sc.cells ⟨d,⟨#[]⟩,nP,v3,v4,v5,(.slice A2 0 c2),nM,nM,nM,(.map (some gdr)),nM,v12⟩) rfl at_ rfl Ggs.out rfl rfl rfl rfl gs_ ?_;intro ws24 HK1;replace HK:=asd_ HK1;clear HK1;replace Bc:=ce2_ HK 2 1;replace Bf:=fe1_ HK 2)|((with_reducible refine gate_ (.store 111 (.tmp 282) (.tmp 280)) rfl ?_);refine store_at (t:=111) (p:=282) (g:=gs) (i:=29) (v:= .map (some gds)) 3 (Sc.cells ⟨d,⟨#[]⟩,nP,v3,v4,v5,(.slice A2 0 c2),nM,nM,nM,(.map (some gdr)),(.map (some gds)),v12⟩) rfl at_ rfl Ggs.out rfl rfl rfl rfl gs_ ?_;intro ws25 HK1;replace HK:=asd_ HK1;clear HK1;replace Bc:=ce2_ HK 3 2;replace Bf:=fe1_ HK 3)|((with_reducible refine gate_ (.store 111 (.tmp 289) (.tmp 287)) rfl ?_);refine store_at (t:=111) (p:=289) (g:=gs) (i:=24) (v:= .map (some gpr)) 4 (Sc.cells ⟨d,⟨#[]⟩,nP,v3,v4,v5,(.slice A2 0 c2),(.map (some gpr)),nM,nM,(.map (some gdr)),(.map (some gds)),v12⟩) rfl at_ rfl Ggs.out rfl rfl rfl rfl gs_ ?_;intro ws26 HK1;replace HK:=asd_ HK1;clear HK1;replace Bc:=ce2_ HK 4 3;replace Bf:=fe1_ HK 4)|((with_reducible refine gate_ (.store 112 (.tmp 293) (.tmp 291)) rfl ?_);refine store_at (t:=112) (p:=293) (g:=gs) (i:=25) (v:= .map (some gpp)) 5 (Sc.cells ⟨d,⟨#[]⟩,nP,v3,v4,v5,(.slice A2 0 c2),(.map (some gpr)),(.map (some gpp)),nM,(.map (some gdr)),(.map (some gds)),v12⟩) rfl at_ rfl Ggs.out rfl rfl rfl rfl gs_ ?_;intro ws27 HK1;replace HK:=asd_ HK1;clear HK1;replace Bc:=ce2_ HK 5 4;replace Bf:=fe1_ HK 5))
     refine su2_ 16 HK 5 4 [12,15] (fun HS hHeld=> ?_)
     refine pu_ 0 319 1 ?_
     refine pu_ 1 320 3 ?_
     refine pu_ 2 321 7 ?_
     refine pu_ 3 322 15 ?_
     refine pu_ 6 325 79 ?_
     refine pu_ 7 326 207 ?_
     refine ta3_ 4 323 223 hHeld ?_
     refine ta3_ 8 327 479 hHeld ?_
     refine oc_ 5 324 511 Tryz.func52 #[lv,i0,.int .i64 0] HS hHeld.1 (at_zero _ _ _ (Int.le_refl 0)) (fun hHeld=> ?_)
     refine oc_ 9 328 1023 Tryz.func52 #[lv,i0,.int .i64 0] HS hHeld.1 (at_zero _ _ _ (Int.le_refl 0)) (fun hHeld=> ?_)
     refine pu_ 10 329 2047 ?_
     refine pu_ 11 330 4095 ?_
     refine lz_ 12 8191 (fun K hK=> ?_)
     have HKs:=asd_ (hHeld.1)
     have fgs_:=fE_ HKs 5
     have cgs_:=cE_ HKs 5
     refine sk_ ?_
     have HKt:=asd_ (At.store_to (i:=23) (v:=nP) 5 (Sc.cells ⟨d,⟨#[]⟩,nP,v3,v4,v5,(.slice A2 0 c2),(.map (some gpr)),(.map (some gpp)),nM,(.map (some gdr)),(.map (some gds)),v12⟩) HKs.out rfl Ggs.out rfl rfl)
     clear HKs;have HKs:=HKt;clear HKt
     clear fgs_ cgs_
     refine hK.out _ _ ?_
     clear hK K
     refine pu_ 13 331 16383 ?_
     refine pu_ 14 332 32767 ?_
     refine lz_ 15 65535 (fun K hK=> ?_)
     have fgs_:=fE_ HKs 5
     have cgs_:=cE_ HKs 5
     refine sk_ ?_
     have HKt:=asd_ (At.store_to (i:=30) (v:=nP) 5 (Sc.cells ⟨d,⟨#[]⟩,nP,v3,v4,v5,(.slice A2 0 c2),(.map (some gpr)),(.map (some gpp)),nM,(.map (some gdr)),(.map (some gds)),v12⟩) HKs.out rfl Ggs.out rfl rfl)
     clear HKs;have HKs:=HKt;clear HKt
     clear fgs_ cgs_
     refine hK.out _ _ ?_
     clear hK K
     refine done_ kr_ ?_
     clear HK;have HK:Aside0 (At w0 (.b gpp (.map #[] 0):: .b gpr (.map #[] 0):: .b gds (.map #[] 0):: .b gdr (.map #[] 0):: .b g7 (row (ndA he en Aco lco cco pi pt fi ft) 45):: .b gs (row (Sc.cells ⟨d,⟨#[]⟩,nP,v3,v4,v5,(.slice A2 0 c2),(.map (some gpr)),(.map (some gpp)),nM,(.map (some gdr)),(.map (some gds)),v12⟩) 119)::cs) _):=HKs;clear HKs
     clear hHeld
     replace Bc:=ce2_ HK 5 4
     replace Bf:=fe1_ HK 5
     go_wp2_with (first|((with_reducible refine gd_ 342 ?_);refine lo_ 45 7 g7 (ndA he en Aco lco cco pi pt fi ft) HK.out.k.2.2.2.2.1 Tryz.underlying45 ?_)|((with_reducible refine gd_ 344 ?_);refine call_to #[lv,.pointer (some ⟨gs,0,none⟩),.agg (ndA he en Aco lco cco pi pt fi ft),.int .i64 own] (.tuple #[]) _ rfl Tryz.func96 kr_ rfl rfl ar_ (older_none _ w0 _ gs lv own _ ⟨d,⟨#[]⟩,nP,v3,v4,v5,(.slice A2 0 c2),(.map (some gpr)),(.map (some gpp)),nM,(.map (some gdr)),(.map (some gds)),v12⟩ (At.front 5 HK.out rfl) Ggs.out) ?_;rintro wc344 ⟨gm,Ggm0,HK1⟩;replace HK:=asd_ HK1;clear HK1;have Ggm:=asd_ Ggm0;clear Ggm0;replace Bc:=ce2_ HK 6 1;replace Bf:=fe1_ HK 1)|((first|((with_reducible refine gd_ 337 ?_);refine cl_ #[lv,.agg #[i0,i0]] (.nilIface) Tryz.func95 (lmore_none _ _) ?_)|((with_reducible refine gate_ (.store 20 (.tmp 339) (.tmp 337)) rfl ?_);refine store_at (t:=20) (p:=339) (g:=gs) (i:=26) (v:= .nilIface) 5 (Sc.cells ⟨d,⟨#[]⟩,nP,v3,v4,v5,(.slice A2 0 c2),(.map (some gpr)),(.map (some gpp)),nM,(.map (some gdr)),(.map (some gds)),v12⟩) rfl at_ rfl Ggs.out rfl rfl rfl rfl gs_ ?_));intro wc337 HK1;replace HK:=asd_ HK1;clear HK1;replace Bc:=ce2_ HK 5 4;replace Bf:=fe1_ HK 5))
     go_end0
     exact ⟨rfl,A2,c2,gm,gpp,gpr,gds,gdr,v3,v4,v5,v12,cs,HR.out,(At.front 6 HK.out rfl).drop⟩
theorem set_e {AE:Option Addr} {l0:List S25} {cE:Nat} (w w0:World) (l:List Blk) (gs:Nat) (lv:Value) (own d:Int) (hown:0≤own) (H:At w0 (.b gs (row (Sc.cells ⟨0,⟨#[]⟩,nP,nP,nP,nP,nilS,nM,nM,nM,nM,nM,.nilIface⟩) 119)::l) w) (hgs:w0.heap.size≤gs)
  (he:Kd.C k25 w0 AE l0.length l0) (hn:l0.length≤LM) (hv:∀ x∈l0,V x):
  Calls Tryz.prog 49 #[lv,.pointer (some ⟨gs,0,none⟩),.agg (ndE AE l0 cE),.int .i64 own,.int .i64 d] w fun e w'=>e= .returned (.tuple #[])∧∃ A2 c2 gm gpp gpr gds gdr ge A2e c2e ms,At w0 (.b gm (.map #[] 0):: .b gs (row (Sc.cells ⟨d,⟨#[]⟩,nP,(.pointer (some ⟨ge,0,none⟩)),nP,nP,(.slice A2 0 c2),(.map (some gpr)),(.map (some gpp)),(.map (some gm)),(.map (some gdr)),(.map (some gds)),.nilIface⟩) 119):: .b gpp (.map #[] 0):: .b gpr (.map #[] 0):: .b gds (.map #[] 0):: .b gdr (.map #[] 0):: .b ge (row (#[.slice A2e l0.length c2e,.int .i64 (kinds l0).v]) 285)::(l ++ ms)) w'∧∀ W',Keeps ms W'→RowD W' w0.heap.size l0 (.slice A2e l0.length c2e):=by
 refine (set_any true (.slice AE l0.length cE) none 0 0 false nilS false nilS w w0 l gs lv own d hown H hgs (fun v3 b=>∃ ge A2e c2e ms,v3= .pointer (some ⟨ge,0,none⟩)∧b= .b ge (row (#[.slice A2e l0.length c2e,.int .i64 (kinds l0).v]) 285)::(l ++ ms)∧∀ W',Keeps ms W'→RowD W' w0.heap.size l0 (.slice A2e l0.length c2e)) (fun v3 v4 b=>v4=nP∧∃ ge A2e c2e ms,v3= .pointer (some ⟨ge,0,none⟩)∧b= .b ge (row (#[.slice A2e l0.length c2e,.int .i64 (kinds l0).v]) 285)::(l ++ ms)∧∀ W',Keeps ms W'→RowD W' w0.heap.size l0 (.slice A2e l0.length c2e)) (fun v3 v4 v12 b=>v12= .nilIface∧v4=nP∧∃ ge A2e c2e ms,v3= .pointer (some ⟨ge,0,none⟩)∧b= .b ge (row (#[.slice A2e l0.length c2e,.int .i64 (kinds l0).v]) 285)::(l ++ ms)∧∀ W',Keeps ms W'→RowD W' w0.heap.size l0 (.slice A2e l0.length c2e)) (fun v3 v4 v5 v12 b=>v5=nP∧v12= .nilIface∧v4=nP∧∃ ge A2e c2e ms,v3= .pointer (some ⟨ge,0,none⟩)∧b= .b ge (row (#[.slice A2e l0.length c2e,.int .i64 (kinds l0).v]) 285)::(l ++ ms)∧∀ W',Keeps ms W'→RowD W' w0.heap.size l0 (.slice A2e l0.length c2e)) (Or.inr ⟨rfl,_,_,_,rfl,he,hn,hv,fun ge A2e c2e ms h=>⟨ge,A2e,c2e,ms,rfl,rfl,h⟩⟩) (fun v3 b h=>Or.inl ⟨rfl,rfl,h⟩) (fun v3 v4 b h=>Or.inl ⟨rfl,rfl,h⟩) (fun v3 v4 v12 b h=>Or.inl ⟨rfl,rfl,h⟩)).mono ?_
 rintro e w' ⟨rfl,A2,c2,gm,gpp,gpr,gds,gdr,v3,v4,v5,v12,cs,⟨rfl,rfl,rfl,ge,A2e,c2e,ms,rfl,rfl,h⟩,hA⟩
 exact ⟨rfl,A2,c2,gm,gpp,gpr,gds,gdr,ge,A2e,c2e,ms,hA,h⟩
def Comp_e (l0:List S25) (w:World) (e:Ending) (w':World):Prop:=∃ gs A2 c2 gm gpp gpr gds gdr ge A2e c2e,e= .returned (.pointer (some ⟨gs,0,none⟩))∧w'.heap[gs]? =some (row (Sc.cells ⟨2020,⟨#[49]⟩,nP,(.pointer (some ⟨ge,0,none⟩)),nP,nP,(.slice A2 0 c2),(.map (some gpr)),(.map (some gpp)),(.map (some gm)),(.map (some gdr)),(.map (some gds)),.nilIface⟩) 119)∧w'.heap[gpr]? =some (.map #[] 0)∧w'.heap[gpp]? =some (.map #[] 0)∧w'.heap[gm]? =some (.map #[] 0)∧w'.heap[gds]? =some (.map #[] 0)∧w'.heap[gdr]? =some (.map #[] 0)∧w'.heap[ge]? =some (row (#[.slice A2e l0.length c2e,.int .i64 (kinds l0).v]) 285)∧RowD w' w.heap.size l0 (.slice A2e l0.length c2e)∧Below w.heap.size w w'
theorem compiled_e {AE:Option Addr} {l0:List S25} {cE:Nat} (w:World) (gn cS:Nat) (he:Kd.C k25 w AE l0.length l0) (hn:l0.length≤LM) (hv:∀ x∈l0,V x) (hn1:(ndE AE l0 cE).all (·.oneCell')=true) (hS:w.heap[gn]? =some (row (ndE AE l0 cE) 45)):
  Calls Tryz.prog 27 #[.slice (some ⟨gn,0,none⟩) 1 cS,.int .i64 2020] w (Comp_e l0 w):=by
 refine (compiled_any true (.slice AE l0.length cE) none 0 0 false nilS false nilS w gn cS hn1 hS (fun v3 v4 v5 v12 rest=>∃ ge A2e c2e ms,v3= .pointer (some ⟨ge,0,none⟩)∧v4=nP∧v5=nP∧v12= .nilIface∧rest=(.b ge (row (#[.slice A2e l0.length c2e,.int .i64 (kinds l0).v]) 285)::ms)∧∀ W',Keeps ms W'→RowD W' w.heap.size l0 (.slice A2e l0.length c2e)) (fun W l gs lv own hown H hgs=>(set_e W w l gs lv own 2020 hown H hgs he hn hv).mono ?_)).mono ?_
 ·rintro e w' ⟨rfl,A2,c2,gm,gpp,gpr,gds,gdr,ge,A2e,c2e,ms,hA,h⟩
  exact ⟨rfl,A2,c2,gm,gpp,gpr,gds,gdr,_,_,_,_,_,⟨ge,A2e,c2e,ms,rfl,rfl,rfl,rfl,rfl,h⟩,At.behind [_] hA⟩
 ·rintro e w' ⟨gs,A2,c2,gm,gpp,gpr,gds,gdr,v3,v4,v5,v12,rest,rfl,⟨ge,A2e,c2e,ms,rfl,rfl,rfl,rfl,rfl,h⟩,h1,h2,h3,h4,h5,h6,hk,hb⟩
  exact ⟨gs,A2,c2,gm,gpp,gpr,gds,gdr,ge,A2e,c2e,rfl,h1,h2,h3,h4,h5,h6,hk.1,h _ hk.2,hb⟩
end Go.Proofs.YtkphbhncpdcbeaaGreatDoor.J
