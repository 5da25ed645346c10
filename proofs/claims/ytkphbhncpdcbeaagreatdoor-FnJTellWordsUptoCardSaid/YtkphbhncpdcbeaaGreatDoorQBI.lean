/- Part. -/
import Derived.Test.YtkphbhncpdcbeaaGreatDoorQBH
set_option linter.unusedVariables false
set_option linter.unusedSimpArgs false
set_option maxHeartbeats 8000000
set_option maxRecDepth 100000
namespace Go.Proofs.YtkphbhncpdcbeaaGreatDoor.J
open Go.RowKit YtkphbhncpdcbeaaGreatDoorW.PrintWords YtkphbhncpdcbeaaGreatDoorW.PrintLast YtkphbhncpdcbeaaGreatDoorW.PrintMore PJT
theorem strs_at {W:World} {A:Option Addr} {n c:Nat} {xs:List ByteArray} (h:(Fact.strs (.slice A n c) xs).P W) (hp:0 < xs.length):∃ ad,A=some ad∧∀ j s,xs[j]? =some s→W.cell? (ad.add j)=some (.string s):=by
 obtain ⟨h1,h2,h3⟩:=strs_D h
 obtain ⟨ad,e,hc⟩:=h3 hp
 refine ⟨ad,e,fun j s hj=> ?_⟩
 obtain ⟨c,hl,hR,hcell⟩:=hc j s hj
 have hR':c=[.string s]:=hR
 subst hR'
 have:=hcell 0 _ rfl
 rwa [show Kd.string.sz=1 from rfl,Nat.mul_one,Nat.add_zero] at this
end Go.Proofs.YtkphbhncpdcbeaaGreatDoor.J
namespace Go.Proofs.YtkphbhncpdcbeaaGreatDoor.J
open Go.RowKit YtkphbhncpdcbeaaGreatDoorW.PrintWords YtkphbhncpdcbeaaGreatDoorW.PrintLast YtkphbhncpdcbeaaGreatDoorW.PrintMore PJT
attribute [local go_sem] tv_76t tv_nilt
theorem deep_out (w:World) (x:S25) (A4 A5:Option Addr) (c4 c5:Nat) (hx:Rep w x A4 c4 A5 c5) (hV:V x):
  Calls Tryz.prog 29 #[.agg (jvc x A4 A5 c4 c5)] w fun e w'=>∃ v,e= .returned v∧OutD w' (fun _=>True) x v∧Below w.heap.size w w':=by
 refine (value_deep hV w w A4 A5 c4 c5 (Below.refl _ _) hx).mono ?_
 rintro e w' ⟨v,rfl,h,hb⟩
 exact ⟨v,rfl,h.mono (fun _ _ _=>trivial),hb⟩
theorem draft_none_d (w:World) (gn cS:Nat) (x:S25) (A4 A5:Option Addr) (c4 c5:Nat) (PC:Nat→World→Prop) (hst:∀ gs W W1,PC gs W→Below W.heap.size W W1→PC gs W1) (hx:Rep w x A4 c4 A5 c5) (hVx:V x) (hC:∀ W,Below w.heap.size w W→Calls Tryz.prog 27 #[.slice (some ⟨gn,0,none⟩) 1 cS,.int .i64 2020] W fun e w'=>∃ v,e= .returned v∧(∃ gs,v= .pointer (some ⟨gs,0,none⟩)∧PC gs w')∧Below W.heap.size W w') (hV:∀ W gs v,PC gs W→OutD W (fun _=>True) x v→Calls Tryz.prog 28 #[.pointer (some ⟨gs,0,none⟩),v] W (rb .nilIface W)):
  Calls Tryz.prog 19 #[.int .i64 2020,.slice (some ⟨gn,0,none⟩) 1 cS,.agg (jvc x A4 A5 c4 c5)] w (rb (.tuple #[.agg #[eS,eS,nilS,nilS,eS,nilS,nilS,nilS],.bool false]) w):=by
 have Hx:=asd_ hx
 have HVx:=asd_ hVx
 have HC:=asd_ hC
 have HV:=asd_ hV
 clear hx hVx hC hV
 have HK:=st0_ w
 go_enter Tryz.func19,Tryz.ntmps19
 go_wp2_with (first|((with_reducible refine gd_ 5 ?_);refine bx_ (jvc x A4 A5 c4 c5) 25 ?_;clear HK;intro g5 wb5 HK Gg5;replace Bc:=ce1_ HK 0)|((with_reducible refine gd_ 6 ?_);refine bx_ #[eS,eS,nilS,nilS,eS,nilS,nilS,nilS] 54 ?_;clear HK;intro g6 wb6 HK Gg6;replace Bc:=ce2_ HK 1 0)|((with_reducible refine gd_ 13 ?_);refine cw_ #[.slice (some ⟨gn,0,none⟩) 1 cS,.int .i64 2020] Tryz.func27 (HC.out _ (by repeat (first|exact HK.out.b|exact Below.refl _ _|apply below_alloc|apply pw_below_drewN|apply below_drew1))) ?_;rintro v13 wc13 HK1 ⟨gs,rfl,hPC⟩ hB;have HPC:=asd_ hPC;clear hPC hB;replace HK:=asd_ HK1;clear HK1;replace Bc:=ce2_ HK 1 0)|((with_reducible refine gd_ 19 ?_);refine lo_ 25 5 g5 (jvc x A4 A5 c4 c5) HK.out.k.2.1 Tryz.underlying25 ?_)|((with_reducible refine gd_ 20 ?_);refine cw_ #[.agg (jvc x A4 A5 c4 c5)] Tryz.func29 (deep_out _ x A4 A5 c4 c5 (Hx.out.below (by repeat (first|exact HK.out.b|exact Below.refl _ _|apply below_alloc|apply pw_below_drewN|apply below_drew1))) HVx.out) ?_;rintro v20 wc20 HK1 hO hB;have HPC2:=asd_ (hst _ _ _ HPC.out hB);have HO:=asd_ hO;clear hO hB HPC;replace HK:=asd_ HK1;clear HK1;replace Bc:=ce2_ HK 1 0)|((with_reducible refine gd_ 21 ?_);refine cw_ #[.pointer (some ⟨gs,0,none⟩),v20] Tryz.func28 (none_form (HV.out _ _ _ HPC2.out HO.out)) ?_;rintro v21 wc21 HK1 hv21 hB;subst hv21;clear hB HPC2 HO;replace HK:=asd_ HK1;clear HK1;replace Bc:=ce2_ HK 1 0)|((with_reducible refine gate_ (.store 54 (.tmp 6) (.tmp 27)) rfl ?_);refine storerow_at (cs:=#[eS,eS,nilS,nilS,eS,nilS,nilS,nilS]) (g:=g6) 0 (#[eS,eS,nilS,nilS,eS,nilS,nilS,nilS]) at_ rfl Gg6.out rfl rfl rfl rfl rfl rfl kr_ rfl (by simp [Value.oneCell']) ?_;intro wr1 HK1;replace HK:=asd_ HK1;clear HK1;replace Bc:=ce2_ HK 1 0))
 ((try simp only [Exit.inBlock,Exit.then]);refine bodyPost_ret (results_ct rfl _ _ g6 54 (#[eS,eS,nilS,nilS,eS,nilS,nilS,nilS]) (0,0) _ rfl (HK.out.k.1) Tryz.underlying54 rfl kr_) rfl ?_)
 exact ⟨rfl,HK.out.b⟩
theorem draft_some_d (w:World) (gn cS:Nat) (x:S25) (A4 A5:Option Addr) (c4 c5:Nat) (loc kn:ByteArray) (T:Value) (path names:List ByteArray) (PC:Nat→World→Prop) (hst:∀ gs W W1,PC gs W→Below W.heap.size W W1→PC gs W1) (hx:Rep w x A4 c4 A5 c5) (hVx:V x) (hC:∀ W,Below w.heap.size w W→Calls Tryz.prog 27 #[.slice (some ⟨gn,0,none⟩) 1 cS,.int .i64 2020] W fun e w'=>∃ v,e= .returned v∧(∃ gs,v= .pointer (some ⟨gs,0,none⟩)∧PC gs w')∧Below W.heap.size W w') (PV:Nat→World→Prop) (hV:∀ W gs v,PC gs W→OutD W (fun _=>True) x v→Calls Tryz.prog 28 #[.pointer (some ⟨gs,0,none⟩),v] W fun e w'=>∃ v,e= .returned v∧(∃ gr,v= .iface 76 (.pointer (some ⟨gr,0,none⟩))∧PV gr w')∧Below W.heap.size W w') (hE:∀ W gr,PV gr W→Calls Tryz.prog 30 #[.pointer (some ⟨gr,0,none⟩)] W fun e w'=>Rooted loc kn T path names W e w'):
  Calls Tryz.prog 19 #[.int .i64 2020,.slice (some ⟨gn,0,none⟩) 1 cS,.agg (jvc x A4 A5 c4 c5)] w fun e w'=>Told loc kn T path names w e w':=by
 have Hx:=asd_ hx
 have HVx:=asd_ hVx
 have HC:=asd_ hC
 have HV:=asd_ hV
 have HE:=asd_ hE
 clear hE
 clear hx hVx hC hV
 have HK:=st0_ w
 go_enter Tryz.func19,Tryz.ntmps19
 go_wp2_with (first|((with_reducible refine gd_ 5 ?_);refine bx_ (jvc x A4 A5 c4 c5) 25 ?_;clear HK;intro g5 wb5 HK Gg5;replace Bc:=ce1_ HK 0)|((with_reducible refine gd_ 6 ?_);refine bx_ #[eS,eS,nilS,nilS,eS,nilS,nilS,nilS] 54 ?_;clear HK;intro g6 wb6 HK Gg6;replace Bc:=ce2_ HK 1 0)|((with_reducible refine gd_ 13 ?_);refine cw_ #[.slice (some ⟨gn,0,none⟩) 1 cS,.int .i64 2020] Tryz.func27 (HC.out _ (by repeat (first|exact HK.out.b|exact Below.refl _ _|apply below_alloc|apply pw_below_drewN|apply below_drew1))) ?_;rintro v13 wc13 HK1 ⟨gs,rfl,hPC⟩ hB;have HPC:=asd_ hPC;clear hPC hB;replace HK:=asd_ HK1;clear HK1;replace Bc:=ce2_ HK 1 0)|((with_reducible refine gd_ 19 ?_);refine lo_ 25 5 g5 (jvc x A4 A5 c4 c5) HK.out.k.2.1 Tryz.underlying25 ?_)|((with_reducible refine gd_ 20 ?_);refine cw_ #[.agg (jvc x A4 A5 c4 c5)] Tryz.func29 (deep_out _ x A4 A5 c4 c5 (Hx.out.below (by repeat (first|exact HK.out.b|exact Below.refl _ _|apply below_alloc|apply pw_below_drewN|apply below_drew1))) HVx.out) ?_;rintro v20 wc20 HK1 hO hB;have HPC2:=asd_ (hst _ _ _ HPC.out hB);have HO:=asd_ hO;clear hO hB HPC;replace HK:=asd_ HK1;clear HK1;replace Bc:=ce2_ HK 1 0)|((with_reducible refine gd_ 21 ?_);refine cw_ #[.pointer (some ⟨gs,0,none⟩),v20] Tryz.func28 (HV.out _ _ _ HPC2.out HO.out) ?_;rintro v21 wc21 HK1 ⟨gr,rfl,hPV⟩ hB;have HPV:=asd_ hPV;clear hB hPV HPC2 HO;replace HK:=asd_ HK1;clear HK1;replace Bc:=ce2_ HK 1 0)|((with_reducible refine gd_ 29 ?_);refine cw_ #[.pointer (some ⟨gr,0,none⟩)] Tryz.func30 (rooted_form (HE.out _ _ HPV.out)) ?_;rintro v29 wc29 HK0 ⟨Aq,cq,Aa,ca,gx,cx,curx,Ap,cp,Aa2,ca2,An,cn,rfl,hgx,hgxn,hcx,hcur,hFp,hFn⟩ hB;have HK1:=At.fact (Fact.strs (.slice Ap path.length cp) path) (At.fact (Fact.strs (.slice An names.length cn) names) (At.came at_ hB hgx hgxn) hFn) hFp;have Hcur:=asd_ (And.intro hcx hcur);have Hgx:=asd_ (Nat.le_trans (by first|exact HK.out.b.size|exact (At.b at_).size) hgxn);clear HK0 hB hgx hgxn hcx hcur hFp hFn HPV;replace HK:=asd_ HK1;clear HK1;replace Bc:=ce2_ HK 4 3)|((with_reducible refine gate_ (.store 54 (.tmp 6) (.tmp 29)) rfl ?_);refine storerow_at (cs:=#[eS,eS,nilS,nilS,eS,nilS,nilS,nilS]) (g:=g6) 3 (#[.string loc,.string ⟨#[83,99,104,101,109,97]⟩,.slice Aq 0 cq,.slice Aa 0 ca,eS,nilS,nilS,.slice (some ⟨gx,0,none⟩) 1 cx]) at_ rfl Gg6.out rfl rfl rfl rfl rfl rfl kr_ rfl (by simp [Value.oneCell']) ?_;intro wr1 HK1;replace HK:=asd_ HK1;clear HK1;replace Bc:=ce2_ HK 4 3))
 ((try simp only [Exit.inBlock,Exit.then]);refine bodyPost_ret (results_ct rfl _ _ g6 54 (#[.string loc,.string ⟨#[83,99,104,101,109,97]⟩,.slice Aq 0 cq,.slice Aa 0 ca,eS,nilS,nilS,.slice (some ⟨gx,0,none⟩) 1 cx]) (0,0) _ rfl (HK.out.k.2.2.2.1) Tryz.underlying54 rfl kr_) rfl ?_)
 exact ⟨Aq,cq,Aa,ca,gx,cx,curx,Ap,cp,Aa2,ca2,An,cn,rfl,HK.out.k.2.2.1,Hgx.out,Hcur.out.1,Hcur.out.2,HK.out.k.1,HK.out.k.2.1,HK.out.b⟩
end Go.Proofs.YtkphbhncpdcbeaaGreatDoor.J
namespace Go.Proofs.YtkphbhncpdcbeaaGreatDoor.J
open Go.RowKit YtkphbhncpdcbeaaGreatDoorW.PrintWords YtkphbhncpdcbeaaGreatDoorW.PrintLast YtkphbhncpdcbeaaGreatDoorW.PrintMore PJT
attribute [local go_sem] ta_null_4 ta_null_9 ta_null_117 ta_null_113 ta_bool_4 ta_bool_9 ta_bool_117 ta_bool_113 ta_text_4 ta_text_340 ta_text_343 ta_text_3 ta_text_344 ta_text_345 ta_text_21 ta_text_2 ta_text_232 ta_text_5 ta_text_346 ta_text_324 ta_text_326 ta_text_9 ta_text_117 ta_text_113 ta_array_4 ta_array_340 ta_array_343 ta_array_3 ta_array_344 ta_array_345 ta_array_21 ta_array_2 ta_array_232 ta_array_5 ta_array_346 ta_array_324 ta_array_326 ta_array_9 ta_array_117 ta_array_113 ta_object_4 ta_object_340 ta_object_343 ta_object_3 ta_object_344 ta_object_345 ta_object_21 ta_object_2 ta_object_232 ta_object_5 ta_object_346 ta_object_324 ta_object_326 ta_object_9 ta_object_117 ta_object_113
theorem arr_quiet_g (w:World) (gv gs:Nat) (vv:Value) (ad:Addr) (cp up er:Value) (s:Sc) (hv:w.heap[gv]? =some (row (vdc vv ad (.pointer (some ⟨gs,0,none⟩)) cp up er) 182)) (hS:w.heap[gs]? =some (row (Sc.cells ⟨2020,s.loc,s.bool,s.enum,s.const,s.format,s.req,s.props,s.pats,s.deps,s.dreq,s.dsch,s.pat⟩) 119)) (A:Option Addr) (n c:Nat):
  Calls Tryz.prog 148 #[.pointer (some ⟨gv,0,none⟩),.slice A n c] w (rb (.tuple #[]) w):=by
 have HK:=st0_ w
 have bgv:=cel_ (blk_below hv HK.out.b);have bgs:=cel_ (blk_below hS HK.out.b)
 go_enter Tryz.func148,Tryz.ntmps148
 go_wp2_with (first|((with_reducible refine gd_ 237 ?_);refine cl_ #[i0,.int .i64 (n:Int)] (i0) Tryz.func182 (min_zero _ n) ?_;intro wc237 HK1;replace HK:=asd_ HK1;clear HK1;clear bgv bgs;have bgv:=cel_ (blk_below hv HK.out.b);have bgs:=cel_ (blk_below hS HK.out.b)))
 refine wp_loop_once ?_
 go_wp2_with fail
 go_end0
 exact ⟨rfl,be_⟩
theorem cond_quiet_g (w:World) (gv gs:Nat) (vv:Value) (ad:Addr) (cp up er:Value) (s:Sc) (hv:w.heap[gv]? =some (row (vdc vv ad (.pointer (some ⟨gs,0,none⟩)) cp up er) 182)) (hS:w.heap[gs]? =some (row (Sc.cells ⟨2020,s.loc,s.bool,s.enum,s.const,s.format,s.req,s.props,s.pats,s.deps,s.dreq,s.dsch,s.pat⟩) 119)):
  Calls Tryz.prog 150 #[.pointer (some ⟨gv,0,none⟩)] w (rb (.tuple #[]) w):=by
 have HK:=st0_ w
 have bgv:=cel_ (blk_below hv HK.out.b);have bgs:=cel_ (blk_below hS HK.out.b)
 go_enter Tryz.func150,Tryz.ntmps150
 go_wp2_with fail
 go_end0
 exact ⟨rfl,be_⟩
theorem uneval_null_g (w:World) (gv gs:Nat) (ad:Addr) (cp up er:Value) (s:Sc) (hv:w.heap[gv]? =some (row (vdc (.nilIface) ad (.pointer (some ⟨gs,0,none⟩)) cp up er) 182)) (hS:w.heap[gs]? =some (row (Sc.cells ⟨2020,s.loc,s.bool,s.enum,s.const,s.format,s.req,s.props,s.pats,s.deps,s.dreq,s.dsch,s.pat⟩) 119)):
  Calls Tryz.prog 151 #[.pointer (some ⟨gv,0,none⟩)] w (rb (.tuple #[]) w):=by
 have HK:=st0_ w
 have bgv:=cel_ (blk_below hv HK.out.b);have bgs:=cel_ (blk_below hS HK.out.b)
 go_enter Tryz.func151,Tryz.ntmps151
 go_wp2_with fail
 go_end0
 exact ⟨rfl,be_⟩
theorem from_null_g (w:World) (gs:Nat) (s:Sc) (hS:w.heap[gs]? =some (row (Sc.cells ⟨2020,s.loc,s.bool,s.enum,s.const,s.format,s.req,s.props,s.pats,s.deps,s.dreq,s.dsch,s.pat⟩) 119)):
  Calls Tryz.prog 98 #[.nilIface,.pointer (some ⟨gs,0,none⟩),.bool false] w fun e w'=>∃ gu,e= .returned (.pointer (some ⟨gu,0,none⟩))∧w'.heap[gu]? =some (row #[nM,nM] 263)∧w.heap.size≤gu∧Below w.heap.size w w':=by
 have HK:=st0_ w
 have bgs:=cel_ (blk_below hS HK.out.b)
 go_enter Tryz.func98,Tryz.ntmps98
 go_wp2_with (first|((with_reducible refine gd_ 13 ?_);refine bx_ #[nM,nM] 263 ?_;clear HK bgs;intro gu wb13 HK Ggu;replace Bc:=ce1_ HK 0;have bgs:=cel_ (blk_below hS HK.out.b)))
 go_ret
 exact ⟨gu,rfl,HK.out.k.1,Ggu.out,be_⟩
theorem uneval_bool_g (w:World) (gv gs:Nat) (b:Bool) (ad:Addr) (cp up er:Value) (s:Sc) (hv:w.heap[gv]? =some (row (vdc (.iface 4 (.bool b)) ad (.pointer (some ⟨gs,0,none⟩)) cp up er) 182)) (hS:w.heap[gs]? =some (row (Sc.cells ⟨2020,s.loc,s.bool,s.enum,s.const,s.format,s.req,s.props,s.pats,s.deps,s.dreq,s.dsch,s.pat⟩) 119)):
  Calls Tryz.prog 151 #[.pointer (some ⟨gv,0,none⟩)] w (rb (.tuple #[]) w):=by
 have HK:=st0_ w
 have bgv:=cel_ (blk_below hv HK.out.b);have bgs:=cel_ (blk_below hS HK.out.b)
 go_enter Tryz.func151,Tryz.ntmps151
 go_wp2_with fail
 go_end0
 exact ⟨rfl,be_⟩
theorem from_bool_g (w:World) (gs:Nat) (b:Bool) (s:Sc) (hS:w.heap[gs]? =some (row (Sc.cells ⟨2020,s.loc,s.bool,s.enum,s.const,s.format,s.req,s.props,s.pats,s.deps,s.dreq,s.dsch,s.pat⟩) 119)):
  Calls Tryz.prog 98 #[.iface 4 (.bool b),.pointer (some ⟨gs,0,none⟩),.bool false] w fun e w'=>∃ gu,e= .returned (.pointer (some ⟨gu,0,none⟩))∧w'.heap[gu]? =some (row #[nM,nM] 263)∧w.heap.size≤gu∧Below w.heap.size w w':=by
 have HK:=st0_ w
 have bgs:=cel_ (blk_below hS HK.out.b)
 go_enter Tryz.func98,Tryz.ntmps98
 go_wp2_with (first|((with_reducible refine gd_ 13 ?_);refine bx_ #[nM,nM] 263 ?_;clear HK bgs;intro gu wb13 HK Ggu;replace Bc:=ce1_ HK 0;have bgs:=cel_ (blk_below hS HK.out.b)))
 go_ret
 exact ⟨gu,rfl,HK.out.k.1,Ggu.out,be_⟩
theorem uneval_text_g (w:World) (gv gs:Nat) (t:ByteArray) (ad:Addr) (cp up er:Value) (s:Sc) (hv:w.heap[gv]? =some (row (vdc (.iface 9 (.string t)) ad (.pointer (some ⟨gs,0,none⟩)) cp up er) 182)) (hS:w.heap[gs]? =some (row (Sc.cells ⟨2020,s.loc,s.bool,s.enum,s.const,s.format,s.req,s.props,s.pats,s.deps,s.dreq,s.dsch,s.pat⟩) 119)):
  Calls Tryz.prog 151 #[.pointer (some ⟨gv,0,none⟩)] w (rb (.tuple #[]) w):=by
 have HK:=st0_ w
 have bgv:=cel_ (blk_below hv HK.out.b);have bgs:=cel_ (blk_below hS HK.out.b)
 go_enter Tryz.func151,Tryz.ntmps151
 go_wp2_with fail
 go_end0
 exact ⟨rfl,be_⟩
theorem from_text_g (w:World) (gs:Nat) (t:ByteArray) (s:Sc) (hS:w.heap[gs]? =some (row (Sc.cells ⟨2020,s.loc,s.bool,s.enum,s.const,s.format,s.req,s.props,s.pats,s.deps,s.dreq,s.dsch,s.pat⟩) 119)):
  Calls Tryz.prog 98 #[.iface 9 (.string t),.pointer (some ⟨gs,0,none⟩),.bool false] w fun e w'=>∃ gu,e= .returned (.pointer (some ⟨gu,0,none⟩))∧w'.heap[gu]? =some (row #[nM,nM] 263)∧w.heap.size≤gu∧Below w.heap.size w w':=by
 have HK:=st0_ w
 have bgs:=cel_ (blk_below hS HK.out.b)
 go_enter Tryz.func98,Tryz.ntmps98
 go_wp2_with (first|((with_reducible refine gd_ 13 ?_);refine bx_ #[nM,nM] 263 ?_;clear HK bgs;intro gu wb13 HK Ggu;replace Bc:=ce1_ HK 0;have bgs:=cel_ (blk_below hS HK.out.b)))
 go_ret
 exact ⟨gu,rfl,HK.out.k.1,Ggu.out,be_⟩
theorem uneval_array_g (w:World) (gv gs:Nat) (A:Option Addr) (n c:Nat) (ad:Addr) (cp up er:Value) (s:Sc) (hv:w.heap[gv]? =some (row (vdc (.iface 117 (.slice A n c)) ad (.pointer (some ⟨gs,0,none⟩)) cp up er) 182)) (hS:w.heap[gs]? =some (row (Sc.cells ⟨2020,s.loc,s.bool,s.enum,s.const,s.format,s.req,s.props,s.pats,s.deps,s.dreq,s.dsch,s.pat⟩) 119)):
  Calls Tryz.prog 151 #[.pointer (some ⟨gv,0,none⟩)] w (rb (.tuple #[]) w):=by
 have HK:=st0_ w
 have bgv:=cel_ (blk_below hv HK.out.b);have bgs:=cel_ (blk_below hS HK.out.b)
 go_enter Tryz.func151,Tryz.ntmps151
 go_wp2_with fail
 go_end0
 exact ⟨rfl,be_⟩
theorem from_array_g (w:World) (gs:Nat) (A:Option Addr) (n c:Nat) (s:Sc) (hS:w.heap[gs]? =some (row (Sc.cells ⟨2020,s.loc,s.bool,s.enum,s.const,s.format,s.req,s.props,s.pats,s.deps,s.dreq,s.dsch,s.pat⟩) 119)):
  Calls Tryz.prog 98 #[.iface 117 (.slice A n c),.pointer (some ⟨gs,0,none⟩),.bool false] w fun e w'=>∃ gu,e= .returned (.pointer (some ⟨gu,0,none⟩))∧w'.heap[gu]? =some (row #[nM,nM] 263)∧w.heap.size≤gu∧Below w.heap.size w w':=by
 have HK:=st0_ w
 have bgs:=cel_ (blk_below hS HK.out.b)
 go_enter Tryz.func98,Tryz.ntmps98
 go_wp2_with (first|((with_reducible refine gd_ 13 ?_);refine bx_ #[nM,nM] 263 ?_;clear HK bgs;intro gu wb13 HK Ggu;replace Bc:=ce1_ HK 0;have bgs:=cel_ (blk_below hS HK.out.b)))
 go_ret
 exact ⟨gu,rfl,HK.out.k.1,Ggu.out,be_⟩
theorem uneval_object_g (w:World) (gv gs:Nat) (g:Nat) (ad:Addr) (cp up er:Value) (s:Sc) (hv:w.heap[gv]? =some (row (vdc (.iface 113 (.map (some g))) ad (.pointer (some ⟨gs,0,none⟩)) cp up er) 182)) (hS:w.heap[gs]? =some (row (Sc.cells ⟨2020,s.loc,s.bool,s.enum,s.const,s.format,s.req,s.props,s.pats,s.deps,s.dreq,s.dsch,s.pat⟩) 119)):
  Calls Tryz.prog 151 #[.pointer (some ⟨gv,0,none⟩)] w (rb (.tuple #[]) w):=by
 have HK:=st0_ w
 have bgv:=cel_ (blk_below hv HK.out.b);have bgs:=cel_ (blk_below hS HK.out.b)
 go_enter Tryz.func151,Tryz.ntmps151
 go_wp2_with fail
 go_end0
 exact ⟨rfl,be_⟩
theorem from_object_g (w:World) (gs:Nat) (g:Nat) (s:Sc) (hS:w.heap[gs]? =some (row (Sc.cells ⟨2020,s.loc,s.bool,s.enum,s.const,s.format,s.req,s.props,s.pats,s.deps,s.dreq,s.dsch,s.pat⟩) 119)):
  Calls Tryz.prog 98 #[.iface 113 (.map (some g)),.pointer (some ⟨gs,0,none⟩),.bool false] w fun e w'=>∃ gu,e= .returned (.pointer (some ⟨gu,0,none⟩))∧w'.heap[gu]? =some (row #[nM,nM] 263)∧w.heap.size≤gu∧Below w.heap.size w w':=by
 have HK:=st0_ w
 have bgs:=cel_ (blk_below hS HK.out.b)
 go_enter Tryz.func98,Tryz.ntmps98
 go_wp2_with (first|((with_reducible refine gd_ 13 ?_);refine bx_ #[nM,nM] 263 ?_;clear HK bgs;intro gu wb13 HK Ggu;replace Bc:=ce1_ HK 0;have bgs:=cel_ (blk_below hS HK.out.b)))
 go_ret
 exact ⟨gu,rfl,HK.out.k.1,Ggu.out,be_⟩
end Go.Proofs.YtkphbhncpdcbeaaGreatDoor.J
namespace Go.Proofs.YtkphbhncpdcbeaaGreatDoor.J
open Go.RowKit YtkphbhncpdcbeaaGreatDoorW.PrintWords YtkphbhncpdcbeaaGreatDoorW.PrintLast YtkphbhncpdcbeaaGreatDoorW.PrintMore PJT
open Go.ChangeMaps Go.MapKept Go.WideShapes
open Go.Maps (Keyed IsMap)
def tcode (k:Int):Int:=if k=0 then 2 else if k=1 then 4 else if k=3 then 32 else if k=4 then 64 else 128
theorem type_out {W0:World} {ok:Nat→Prop} {x:S25} {v:Value} (h:OutD W0 ok x v) (w:World):Calls Tryz.prog 139 #[v] w (rb (.int .i64 (tcode x.f0)) w):=by
 cases h with
 |null k=>rw [k];exact type_null w
 |bool k=>rw [k];exact type_bool w _
 |text k=>rw [k];exact type_text w _
 |empty k=>rw [k];exact type_array w _ _ _
 |array k=>rw [k];exact type_array w _ _ _
 |object k=>rw [k];exact type_object w _
structure Ks where
 n:Bool
 b:Bool
 t:Bool
 a:Bool
 o:Bool
def Ks.v (s:Ks):Int:=(if s.n then 2 else 0) + (if s.b then 4 else 0) + (if s.t then 32 else 0) + (if s.a then 64 else 0) + (if s.o then 128 else 0)
def Ks.add (s:Ks) (k:Int):Ks:=if k=0 then {s with n:=true} else if k=1 then {s with b:=true} else if k=3 then {s with t:=true} else if k=4 then {s with a:=true} else {s with o:=true}
def Ks.has (s:Ks) (k:Int):Bool:=if k=0 then s.n else if k=1 then s.b else if k=3 then s.t else if k=4 then s.a else s.o
abbrev Kind (k:Int):Prop:=k=0∨k=1∨k=3∨k=4∨k=5
theorem Ks.or_v (s:Ks) {k:Int} (hk:Kind k):Go.bits BinOp.or IntKind.i64 s.v (tcode k)=(s.add k).v:=by
 obtain ⟨n,b,t,a,o⟩:=s
 rcases hk with rfl|rfl|rfl|rfl|rfl<;>cases n<;>cases b<;>cases t<;>cases a<;>cases o<;>rfl
theorem Ks.and_v (s:Ks) {k:Int} (hk:Kind k):(Go.bits BinOp.and IntKind.i64 s.v (tcode k) != 0)=s.has k:=by
 obtain ⟨n,b,t,a,o⟩:=s
 rcases hk with rfl|rfl|rfl|rfl|rfl<;>cases n<;>cases b<;>cases t<;>cases a<;>cases o<;>rfl
theorem Ks.add_has (s:Ks) {k j:Int} (hk:Kind k) (hj:Kind j):(s.add k).has j=(decide (k=j)||s.has j):=by
 obtain ⟨n,b,t,a,o⟩:=s
 rcases hk with rfl|rfl|rfl|rfl|rfl<;>rcases hj with rfl|rfl|rfl|rfl|rfl<;>rfl
def kinds (l:List S25):Ks:=l.foldl (fun s x=>s.add x.f0) ⟨false,false,false,false,false⟩
theorem kinds_snoc (l:List S25) (x:S25):kinds (l ++ [x])=(kinds l).add x.f0:=by simp [kinds,List.foldl_append]
theorem V.kind {x:S25} (h:V x):Kind x.f0:=by cases h;unfold Kind;omega
theorem kinds_has {l:List S25} (hl:∀ x∈l,V x) {k:Int} (hk:Kind k):(kinds l).has k=true↔∃ x∈l,x.f0=k:=by
 revert hl
 refine snoc_ind (P:=fun l=>(∀ x∈l,V x)→((kinds l).has k=true↔∃ x∈l,x.f0=k)) ?_ ?_ l
 ·intro _
  rcases hk with rfl|rfl|rfl|rfl|rfl<;>simp [kinds,Ks.has]
 ·intro l x ih h
  rw [kinds_snoc,Ks.add_has _ (h x (by simp)).kind hk,Bool.or_eq_true,ih (fun y hy=>h y (List.mem_append_left _ hy)),decide_eq_true_eq]
  constructor
  ·rintro (e|⟨y,hy,e⟩)
   ·exact ⟨x,by simp,e⟩
   ·exact ⟨y,List.mem_append_left _ hy,e⟩
  ·rintro ⟨y,hy,e⟩
   rcases List.mem_append.1 hy with hy|hy
   ·exact Or.inr ⟨y,hy,e⟩
   ·rw [List.mem_singleton.1 hy] at e;exact Or.inl e
theorem add_ok (w w0:World) (l:List Blk) (g:Nat) (s:Ks) (k:Int) (hk:Kind k) (H:At w0 (.b g (row #[.int .i64 s.v] 163)::l) w) (hg:w0.heap.size≤g):
  Calls Tryz.prog 129 #[.pointer (some ⟨g,0,none⟩),.int .i64 (tcode k)] w fun e w'=>e= .returned (.tuple #[])∧At w0 (.b g (row #[.int .i64 (s.add k).v] 163)::l) w':=by
 have hor:=Ks.or_v s hk
 have Gg:=asd_ hg
 clear hg
 have HK:=asd_ H
 clear H
 replace Bc:=ce1_ HK 0;replace Bf:=fe1_ HK 0
 go_enter Tryz.func129,Tryz.ntmps129
 go_wp2_with (first|((with_reducible refine gate_ (.store 163 (.tmp 10) (.tmp 9)) rfl ?_);refine store_at (t:=163) (p:=10) (g:=g) (i:=0) (v:= .int .i64 (s.add k).v) 0 (#[.int .i64 (s.add k).v]) rfl at_ rfl Gg.out rfl rfl rfl rfl gs_ ?_;intro ws1 HK1;replace HK:=asd_ HK1;clear HK1;replace Bc:=ce1_ HK 0;replace Bf:=fe1_ HK 0))
 go_end0
 exact ⟨rfl,HK.out⟩
theorem contains_ok (w:World) (s:Ks) (k:Int) (hk:Kind k):Calls Tryz.prog 141 #[.int .i64 s.v,.int .i64 (tcode k)] w (rb (.bool (s.has k)) w):=by
 have hand:=Ks.and_v s hk
 have HK:=st0_ w
 go_enter Tryz.func141,Tryz.ntmps141
 go_wp2_with fail
 go_ret
 exact ⟨rfl,be_⟩
theorem newenum_ok (w:World) (A:Option Addr) (c:Nat) (l:List S25) (vs:List Value) (hn:l.length≤LM) (h1:∀ i,i < l.length→∃ ad,A=some ad∧w.cell? (ad.add i)=some (vs.getD i .nilIface)) (hT:∀ i,i < l.length→∀ W,Calls Tryz.prog 139 #[vs.getD i .nilIface] W (rb (.int .i64 (tcode (l.getD i z25).f0)) W)) (hk:∀ x∈l,V x):
  Calls Tryz.prog 131 #[.slice A l.length c] w fun e w'=>∃ g,e= .returned (.pointer (some ⟨g,0,none⟩))∧w'.heap[g]? =some (row #[.slice A l.length c,.int .i64 (kinds l).v] 285)∧w.heap.size≤g∧Below w.heap.size w w':=by
 have H1:=asd_ h1
 have HT:=asd_ hT
 have Hn:=asd_ hn
 have Hk:=asd_ hk
 clear h1 hT hn hk
 have HK:=st0_ w
 go_enter Tryz.func131,Tryz.ntmps131
 go_wp2_with (first|((with_reducible refine gd_ 3 ?_);refine bx_ #[i0] 163 ?_;clear HK;intro g3 wb3 HK Gg3;replace Bc:=ce1_ HK 0))
 go_loopg [8] l.length (fun kq v8 w'=>∃ i:Int,v8= .int .i64 i∧0≤i∧i + kq=l.length∧Aside0 (At w [.b g3 (row (#[.int .i64 (kinds (l.take i.toNat)).v]) 163)] w'))
 case atStart=>exact ⟨0,rfl,by omega,by omega,⟨at_⟩⟩
 case round=>
  clear HK
  obtain ⟨i,rfl,hi0,hik,HK⟩:=hrel
  replace Bc:=ce1_ HK 0;replace Bf:=fe1_ HK 0
  cases gk with
  |zero=>
   have ht:decide (i < (l.length:Int))=false:=decide_eq_false (by omega)
   have htk:l.take i.toNat=l:=List.take_of_length_le (by omega)
   go_wp2_with (first|((with_reducible refine gd_ 19 ?_);refine bx_ #[.slice A l.length c,.int .i64 (kinds (l.take i.toNat)).v] 285 ?_;clear HK;intro g19 wb19 HK Gg19;replace Bc:=ce2_ HK 1 0;replace Bf:=fe1_ HK 1))
   go_ret
   have h1:=HK.out.k.1;rw [htk] at h1
   exact ⟨g19,rfl,h1,Gg19.out,be_⟩
  |succ kk=>
   have ht:decide (i < (l.length:Int))=true:=decide_eq_true (by omega)
   have hil:i < (l.length:Int):=by omega
   have hin:i.toNat < l.length:=by omega
   obtain ⟨ad,e1,hc1⟩:=H1.out i.toNat hin
   subst e1
   have q1:=(HK.out.b.cell (World.block_lt_of_cell? w _ hc1)).trans hc1
   have hkd:=(Hk.out _ (getD_mem hin)).kind
   have Hkd:=asd_ hkd;have Hik:=asd_ hik;have Hi0:=asd_ hi0;have Hil:=asd_ hil;have Hin:=asd_ hin;have Hc1:=asd_ hc1
   have p1:=eq_true hi0;have p2:=eq_true hil
   clear hik hi0 hil hin hc1 hkd
   go_wp2_with (first|((with_reducible refine gd_ 14 ?_);refine call_to #[.pointer (some ⟨g3,0,none⟩),.int .i64 (tcode (l.getD i.toNat z25).f0)] (.tuple #[]) _ rfl Tryz.func129 kr_ rfl rfl ar_ (add_ok _ w _ g3 (kinds (l.take i.toNat)) (l.getD i.toNat z25).f0 Hkd.out (At.front 0 HK.out rfl) Gg3.out) ?_;rintro wc14 HK1;replace HK:=asd_ HK1;clear HK1;skip;replace Bc:=ce1_ HK 0;replace Bf:=fe1_ HK 0)|((with_reducible refine gd_ 13 ?_);refine cl_ #[vs.getD i.toNat .nilIface] (.int .i64 (tcode (l.getD i.toNat z25).f0)) Tryz.func139 (HT.out i.toNat Hin.out _) ?_;intro wc13 HK1;replace HK:=asd_ HK1;clear HK1;replace Bc:=ce1_ HK 0;replace Bf:=fe1_ HK 0))
   go_roundg kk
   case measure=>exact Nat.lt_succ_self _
   case rel=>
    have e1:wrap64 (i + 1)=i + 1:=wup Hi0.out Hil.out Hn.out
    have e2:l.take (i + 1).toNat=l.take i.toNat ++ [l.getD i.toNat z25]:=by
     have h0:=Hi0.out;have h1:=Hin.out
     rw [show (i + 1).toNat=i.toNat + 1 by omega,List.take_add_one,List.getElem?_eq_getElem h1,getD_lt h1];rfl
    refine ⟨wrap64 (i + 1),rfl,by have:=Hi0.out;rw [e1];omega,by have:=Hik.out;rw [e1];omega,⟨?_⟩⟩
    rw [e1,e2,kinds_snoc]
    exact HK.out
theorem ptr_form {f:FuncId} {args:Array Value} {W:World} {F:Nat→World→Prop} (h:Calls Tryz.prog f args W fun e w'=>∃ g,e= .returned (.pointer (some ⟨g,0,none⟩))∧F g w'∧W.heap.size≤g∧Below W.heap.size W w'):Calls Tryz.prog f args W fun e w'=>∃ v,e= .returned v∧(∃ g,v= .pointer (some ⟨g,0,none⟩)∧F g w'∧W.heap.size≤g)∧Below W.heap.size W w':=by
 refine h.mono ?_
 rintro e w' ⟨g,rfl,h1,h2,hb⟩
 exact ⟨_,rfl,⟨g,rfl,h1,h2⟩,hb⟩
theorem NewEnum_ok (w:World) (A:Option Addr) (c:Nat) (l:List S25) (vs:List Value) (hn:l.length≤LM) (h1:∀ i,i < l.length→∃ ad,A=some ad∧w.cell? (ad.add i)=some (vs.getD i .nilIface)) (hT:∀ i,i < l.length→∀ W,Calls Tryz.prog 139 #[vs.getD i .nilIface] W (rb (.int .i64 (tcode (l.getD i z25).f0)) W)) (hk:∀ x∈l,V x):
  Calls Tryz.prog 91 #[.slice A l.length c] w fun e w'=>∃ g,e= .returned (.pointer (some ⟨g,0,none⟩))∧w'.heap[g]? =some (row #[.slice A l.length c,.int .i64 (kinds l).v] 285)∧w.heap.size≤g∧Below w.heap.size w w':=by
 have HK:=st0_ w
 go_enter Tryz.func91,Tryz.ntmps91
 go_wp2_with (first|((with_reducible refine gd_ 4 ?_);refine cw_ #[.slice A l.length c] Tryz.func131 (ptr_form (newenum_ok _ A c l vs hn (fun i hi=>let ⟨ad,e,h⟩:=h1 i hi;⟨ad,e,(HK.out.b.cell (World.block_lt_of_cell? w _ h)).trans h⟩) hT hk)) ?_;intro v4 wc4 HK1 hF hB;have HG:=asd_ hF;clear hF hB;replace HK:=asd_ HK1;clear HK1;skip;skip))
 go_ret
 obtain ⟨g,rfl,h2,h3⟩:=HG.out
 exact ⟨g,rfl,h2,h3,be_⟩
end Go.Proofs.YtkphbhncpdcbeaaGreatDoor.J
