/- Part. -/
import Derived.Test.YtkphbhncpdcbeaaGreatDoorQBA
import Derived.Test.YtkphbhncpdcbeaaGreatDoorQAZ
set_option linter.unusedVariables false
set_option linter.unusedSimpArgs false
set_option maxHeartbeats 8000000
set_option maxRecDepth 100000
namespace Go.Proofs.YtkphbhncpdcbeaaGreatDoor.J
open YtkphbhncpdcbeaaGreatDoorW Go.RowKit YtkphbhncpdcbeaaGreatDoorW.PrintWords YtkphbhncpdcbeaaGreatDoorW.PrintLast YtkphbhncpdcbeaaGreatDoorW.PrintMore PJT
attribute [local go_sem] tk_false_190 tk_false_193 tk_false_196 tk_false_199 tk_false_201 tk_false_205 tk_false_208 tk_false_211 tk_false_215 tk_false_219 tk_false_222 tk_false_225 tk_false_298 tk_false_301 tk_false_303 tk_false_305 tk_false_307 tk_false_309 tk_false_275 tk_false_187 tk_false_185 tk_false_311 tk_false_312 tk_false_313 tk_false_267 tk_schema_190 tk_schema_193 tk_schema_196 tk_schema_199 tk_schema_201 tk_schema_205 tk_schema_208 tk_schema_211 tk_schema_215 tk_schema_219 tk_schema_222 tk_schema_225 tk_schema_298 tk_schema_301 tk_schema_303 tk_schema_305 tk_schema_307 tk_schema_309 tk_schema_275 tk_schema_187 tv_76 tv_76t tv_nilt
attribute [local go_sem] mk_req mk_dep mk_false mk_schema
def Rooted (loc K:ByteArray) (T:Value) (path names:List ByteArray) (w:World) (e:Ending) (w':World):Prop:=
 ∃ Aq cq Aa ca gx cx curx Ap cp Aa2 ca2 An cn,e= .returned (.agg #[.string loc,.string ⟨#[83,99,104,101,109,97]⟩,.slice Aq 0 cq,.slice Aa 0 ca,eS,nilS,nilS,.slice (some ⟨gx,0,none⟩) 1 cx])∧w'.heap[gx]? =some (row curx 54)∧w.heap.size≤gx∧1≤cx∧curx.toList.take 8=[.string loc,.string K,.slice Ap path.length cp,.slice Aa2 0 ca2,T,.slice An names.length cn,nilS,nilS]∧(Fact.strs (.slice Ap path.length cp) path).P w'∧(Fact.strs (.slice An names.length cn) names).P w'∧Below w.heap.size w w'
theorem info54:(Tryz.prog.info? 54).map (fun i=>(i.zero,i.size,i.bytes))=some (some (.agg #[eS,eS,nilS,nilS,eS,nilS,nilS,nilS]),8,168):=by kernel_rfl
theorem litrow_run {o:Oper} {a:Act} {W:World} {kc:Array Value} {x:Operand} {z:Value} {bytes:Nat} {t e:TypeId} (hu:Tryz.prog.underlying t=some (.slice e)) (hinfo:(Tryz.prog.info? e).map (fun i=>(i.zero,i.size,i.bytes))=some (some z,8,bytes)) (hz:z.cells.size=8)
  (ho:o.op= .buildSlice t 1 #[(0,x)]) (hx:a.eval x= .agg kc) (hk:kc.size=8):(execOp a.eval o).run Tryz.prog W= .ok (.value (.slice (some ⟨W.heap.size,0,none⟩) 1 1)) (W.alloc (.cells kc e)):=by
 obtain ⟨i0,hi,hzz⟩:=Option.map_eq_some_iff.1 hinfo
 simp only [Prod.mk.injEq] at hzz
 obtain ⟨hz0,hz1,hz2⟩:=hzz
 have hr:=run_buildSlice (P:=Tryz.prog) W t e 1 #[(0,.agg kc)] kc i0 z hu hi hz0 (by rw [hz1];decide) (by rw [hz1];decide) (by
  rw [hz1]
  obtain ⟨l⟩:=kc
  match l,hk with
  |[a0,a1,a2,a3,a4,a5,a6,a7],_=>
   have hr1:Array.range 8=#[0,1,2,3,4,5,6,7]:=by decide
   simp [Instr.fill,Value.cells,hr1])
 unfold execOp
 simp [ho,hx,hr,Result.andThen]
theorem root_ok (w:World) (ge gl gk:Nat) (loc kn tx:ByteArray) (path names:List ByteArray) (adc:Addr) (cc:Nat) (hge:w.heap[ge]? =some (row (#[.string loc,nilS,.iface 187 (.pointer (some ⟨gk,0,none⟩)),.slice (some adc) 1 cc]) 129)) (hcc:w.cell? adc=some (.pointer (some ⟨gl,0,none⟩)))
  (hL:∀ W,Below w.heap.size w W→Calls Tryz.prog 30 #[.pointer (some ⟨gl,0,none⟩)] W fun e w'=>Leafed loc kn (.string tx) path names W e w'):
  Calls Tryz.prog 30 #[.pointer (some ⟨ge,0,none⟩)] w fun e w'=>Rooted loc kn (.string tx) path names w e w':=by
 have HL:=asd_ hL
 have Hcc:=asd_ hcc
 clear hL hcc
 have HK:=st0_ w
 have bge:=cel_ (blk_below hge HK.out.b)
 go_enter Tryz.func30,Tryz.ntmps30
 go_wp2_with (first|((with_reducible refine gd_ 2 ?_);refine bx_ #[eS,eS,nilS,nilS,eS,nilS,nilS,nilS] 54 ?_;clear HK bge;intro g2 wb2 HK Gg2;replace Bc:=ce1_ HK 0;have bge:=cel_ (blk_below hge HK.out.b)))
 refine st_ 12 (fun w'=>At w [.b g2 (row (#[eS,eS,nilS,nilS,eS,nilS,nilS,nilS]) 54)] w'∧(∀ j,w'.cell? ⟨g2,j,none⟩=(#[eS,eS,nilS,nilS,eS,nilS,nilS,nilS]:Array Value)[j]?)∧(∀ j,w'.cell? ⟨ge,j,none⟩=(#[.string loc,nilS,.iface 187 (.pointer (some ⟨gk,0,none⟩)),.slice (some adc) 1 cc]:Array Value)[j]?)) [11] (fun A=>⟨A,(cA_ A 0),(cel_ (blk_below hge A.b))⟩) (fun hHeld=> ?_)
 refine pu_ 0 6 1 ?_
 refine pu_ 1 7 3 ?_
 refine pu_ 2 8 7 ?_
 refine pu_ 4 10 23 ?_
 refine pu_ 5 11 55 ?_
 refine pu_ 6 12 119 ?_
 refine ta3_ 3 9 127 hHeld ?_
 refine ta3_ 7 13 255 hHeld ?_
 refine jo_ (σ:=Option Addr×Nat×Nat) 1 2047 (fun s=>[(14,.slice s.1 0 s.2.1),(15,.agg #[.string loc,eS,nilS,.slice s.1 0 s.2.1,eS,nilS,nilS,nilS]),(3,.pointer (some ⟨s.2.2,0,none⟩))]) (fun s w'=>At w (.b s.2.2 (row (#[eS,eS,nilS,nilS,eS,nilS,nilS,nilS]) 54)::[.b g2 (row (#[eS,eS,nilS,nilS,eS,nilS,nilS,nilS]) 54)]) w'∧w.heap.size≤s.2.2) (fun hCont=> ?_) ?_
 refine tw_ 8 10 14 3 511 1279 (fun K hK=> ?_) (fun K hK=> ?_)
 ·skip
  have HE:=asd_ hHeld.1
  refine ge_ Tryz.func55 #[nilS] ?_
  with_reducible refine (copied_nil _ none 0).mono ?_
  rintro e w3 ⟨v,rfl,⟨Aa,ca,rfl,hFa⟩,hb⟩
  refine ⟨_,rfl,?_⟩
  replace HE:=asd_ (At.step HE.out hb)
  refine hK.out _ _ ⟨HE.out,(cE_ HE 0),(cel_ (blk_below hge HE.out.b))⟩ (fun hHeld=> ?_)
  clear hK K
  refine nq_ 14 ?_
  refine pu_ 9 15 1023 ?_
  refine on_ 10 3 2047 (fun K hK=> ?_)
  refine ne_ 3 (row (#[eS,eS,nilS,nilS,eS,nilS,nilS,nilS]) 54) (fun b=> .pointer (some ⟨b,0,none⟩)) ?_
  intro g3 w3 HE0 hg3
  replace HE:=asd_ HE0;clear HE0
  refine hK.out _ _ ⟨HE.out.drop,(cel_ HE.out.drop.k.1),(cel_ (blk_below hge HE.out.drop.b))⟩ (fun hHeld=> ?_)
  clear hK K
  refine nq_ 3 ?_
  exact nx_ (hCont (Aa,ca,g3) _ ⟨HE.out,hg3⟩)
 ·skip
  have HE:=asd_ hHeld.1
  refine ne_ 3 (row (#[eS,eS,nilS,nilS,eS,nilS,nilS,nilS]) 54) (fun b=> .pointer (some ⟨b,0,none⟩)) ?_
  intro g3 w3 HE0 hg3
  replace HE:=asd_ HE0;clear HE0
  refine hK.out _ _ ⟨HE.out.drop,(cel_ HE.out.drop.k.1),(cel_ (blk_below hge HE.out.drop.b))⟩ (fun hHeld=> ?_)
  clear hK K
  refine nq_ 3 ?_
  refine on_ 8 14 1535 (fun K hK=> ?_)
  refine ge_ Tryz.func55 #[nilS] ?_
  with_reducible refine (copied_nil _ none 0).mono ?_
  rintro e w3 ⟨v,rfl,⟨Aa,ca,rfl,hFa⟩,hb⟩
  refine ⟨_,rfl,?_⟩
  replace HE:=asd_ (At.step HE.out hb)
  have hFa':=hFa
  refine hK.out _ _ ⟨HE.out.drop,(cel_ HE.out.drop.k.1),(cel_ (blk_below hge HE.out.drop.b))⟩ (fun hHeld=> ?_)
  clear hK K
  refine nq_ 14 ?_
  refine pu_ 9 15 2047 ?_
  exact nx_ (hCont (Aa,ca,g3) _ ⟨HE.out,hg3⟩)
 rintro ⟨Aa,ca,g3⟩ w' ⟨HE0,hg3⟩
 have HE:=asd_ HE0
 clear HE0
 have Gg3:=asd_ hg3
 clear hg3
 have hHeld:=(show At w [.b g2 (row (#[eS,eS,nilS,nilS,eS,nilS,nilS,nilS]) 54)] w'∧(∀ j,w'.cell? ⟨g2,j,none⟩=(#[eS,eS,nilS,nilS,eS,nilS,nilS,nilS]:Array Value)[j]?)∧(∀ j,w'.cell? ⟨ge,j,none⟩=(#[.string loc,nilS,.iface 187 (.pointer (some ⟨gk,0,none⟩)),.slice (some adc) 1 cc]:Array Value)[j]?) from ⟨HE.out.drop,(cel_ HE.out.drop.k.1),(cel_ (blk_below hge HE.out.drop.b))⟩)
 refine np_ ?_
 refine lz_ 11 4095 (fun K hK=> ?_)
 refine storerow_ (cs:=#[eS,eS,nilS,nilS,eS,nilS,nilS,nilS]) (g:=g3) 0 (#[.string loc,eS,nilS,.slice Aa 0 ca,eS,nilS,nilS,nilS]) HE.out rfl Gg3.out rfl (by rfl) rfl rfl rfl rfl kr_ rfl (by simp [Value.oneCell']) ?_
 intro w3 HE0
 replace HE:=asd_ HE0;clear HE0
 refine hK.out _ _ ?_
 clear hK K
 refine done_ kr_ ?_
 clear HK;have HK:=HE;clear HE
 clear hHeld
 clear bge
 replace Bc:=ce2_ HK 1 0
 replace Bf:=fe1_ HK 0
 have bge:=cel_ (blk_below hge HK.out.b)
 go_wp2_with (first|(go_at_call 241;refine (path_schema _ gk).mono ?_;rintro e wp ⟨Aw,cw,rfl,hcp,hP,hb⟩;have HK1:=At.step at_ hb;clear hcp hP hb;replace HK:=asd_ HK1;clear HK1;clear bge;replace Bc:=ce2_ HK 1 0;replace Bf:=fe1_ HK 0;have bge:=cel_ (blk_below hge HK.out.b))|((with_reducible refine gd_ 26 ?_);refine cw_ #[.slice Aw 0 cw] Tryz.func55 (copied_nil _ Aw cw) ?_;rintro v26 wc26 HK1 ⟨Aq,cq,rfl,hF⟩ hB;clear hF hB;replace HK:=asd_ HK1;clear HK1;clear bge;replace Bc:=ce2_ HK 1 0;replace Bf:=fe1_ HK 0;have bge:=cel_ (blk_below hge HK.out.b))|((first|((with_reducible refine gate_ (.store 22 (.tmp 27) (.tmp 26)) rfl ?_);refine store_at (t:=22) (p:=27) (g:=g3) (i:=2) (v:= .slice Aq 0 cq) 0 (#[.string loc,eS,.slice Aq 0 cq,.slice Aa 0 ca,eS,nilS,nilS,nilS]) rfl at_ rfl Gg3.out rfl rfl rfl rfl gs_ ?_)|((with_reducible refine gd_ 33 ?_);refine cl_ #[.iface 187 (.pointer (some ⟨gk,0,none⟩))] (.tuple #[.string ⟨#[83,99,104,101,109,97]⟩,eS,nilS,nilS]) Tryz.func56 (kind_schema _ gk) ?_)|((with_reducible refine gate_ (.store 9 (.tmp 38) (.tmp 34)) rfl ?_);refine store_at (t:=9) (p:=38) (g:=g3) (i:=1) (v:= .string ⟨#[83,99,104,101,109,97]⟩) 0 (#[.string loc,.string ⟨#[83,99,104,101,109,97]⟩,.slice Aq 0 cq,.slice Aa 0 ca,eS,nilS,nilS,nilS]) rfl at_ rfl Gg3.out rfl rfl rfl rfl gs_ ?_)|((with_reducible refine gate_ (.store 9 (.tmp 39) (.tmp 35)) rfl ?_);refine store_at (t:=9) (p:=39) (g:=g3) (i:=4) (v:=eS) 0 (#[.string loc,.string ⟨#[83,99,104,101,109,97]⟩,.slice Aq 0 cq,.slice Aa 0 ca,eS,nilS,nilS,nilS]) rfl at_ rfl Gg3.out rfl rfl rfl rfl gs_ ?_)|((with_reducible refine gate_ (.store 22 (.tmp 40) (.tmp 36)) rfl ?_);refine store_at (t:=22) (p:=40) (g:=g3) (i:=5) (v:=nilS) 0 (#[.string loc,.string ⟨#[83,99,104,101,109,97]⟩,.slice Aq 0 cq,.slice Aa 0 ca,eS,nilS,nilS,nilS]) rfl at_ rfl Gg3.out rfl rfl rfl rfl gs_ ?_)|((with_reducible refine gate_ (.store 33 (.tmp 41) (.tmp 37)) rfl ?_);refine store_at (t:=33) (p:=41) (g:=g3) (i:=6) (v:=nilS) 0 (#[.string loc,.string ⟨#[83,99,104,101,109,97]⟩,.slice Aq 0 cq,.slice Aa 0 ca,eS,nilS,nilS,nilS]) rfl at_ rfl Gg3.out rfl rfl rfl rfl gs_ ?_));intro ws1 HK1;replace HK:=asd_ HK1;clear HK1;clear bge;replace Bc:=ce2_ HK 1 0;replace Bf:=fe1_ HK 0;have bge:=cel_ (blk_below hge HK.out.b)))
 refine wp_loop_two ?_
 have hcx:∀ {W:World},Below w.heap.size w W→W.cell? adc=some (.pointer (some ⟨gl,0,none⟩)):=fun hb=>(hb.cell (World.block_lt_of_cell? _ _ Hcc.out)).trans Hcc.out
 have hc1:=hcx (by repeat (first|exact HK.out.b|exact Below.refl _ _|apply below_alloc|apply pw_below_drewN|apply below_drew1))
 have Hcx:=asd_ @hcx;clear hcx
 go_wp2_with fail
 refine st_ 8 (fun w'=>At w [.b g3 (row (#[.string loc,.string ⟨#[83,99,104,101,109,97]⟩,.slice Aq 0 cq,.slice Aa 0 ca,eS,nilS,nilS,nilS]) 54),.b g2 (row (#[eS,eS,nilS,nilS,eS,nilS,nilS,nilS]) 54)] w'∧(∀ j,w'.cell? ⟨g2,j,none⟩=(#[eS,eS,nilS,nilS,eS,nilS,nilS,nilS]:Array Value)[j]?)∧(∀ j,w'.cell? ⟨g3,j,none⟩=(#[.string loc,.string ⟨#[83,99,104,101,109,97]⟩,.slice Aq 0 cq,.slice Aa 0 ca,eS,nilS,nilS,nilS]:Array Value)[j]?)∧(∀ j,w'.cell? ⟨ge,j,none⟩=(#[.string loc,nilS,.iface 187 (.pointer (some ⟨gk,0,none⟩)),.slice (some adc) 1 cc]:Array Value)[j]?)) [7] (fun A=>⟨A,(cA_ A 1),(cA_ A 0),(cel_ (blk_below hge A.b))⟩) (fun hHeld=> ?_)
 refine pu_ 0 51 1 ?_
 refine pu_ 2 53 5 ?_
 refine ta4_ 1 52 7 hHeld ?_
 refine on_ 3 54 15 (fun K hK=> ?_)
 have HE:=asd_ (hHeld.1)
 refine ge_ Tryz.func30 #[.pointer (some ⟨gl,0,none⟩)] ?_
 with_reducible refine (HL.out _ HE.out.b).mono ?_
 rintro e w3 ⟨Ap,cp,Aa2,ca2,An,cn,rfl,hFp,hFn,hb⟩
 refine ⟨_,rfl,?_⟩
 have HE0:=At.step HE.out hb
 have HE1:=asd_ (At.fact (Fact.strs (.slice Ap path.length cp) path) (At.fact (Fact.strs (.slice An names.length cn) names) HE0 hFn) hFp)
 clear hFp hFn
 clear HE0
 clear HE;have HE:=HE1;clear HE1
 refine hK.out _ _ ⟨HE.out.drop.drop,(cel_ HE.out.drop.drop.k.2.1),(cel_ HE.out.drop.drop.k.1),(cel_ (blk_below hge HE.out.drop.drop.b))⟩ (fun hHeld=> ?_)
 clear hK K
 refine nq_ 54 ?_
 refine on_ 4 55 31 (fun K hK=> ?_)
 refine new_ HE.out (by rfl) (N:=55) (by rfl) (ob:=row (#[.string loc,.string kn,.slice Ap path.length cp,.slice Aa2 0 ca2,.string tx,.slice An names.length cn,nilS,nilS]) 54) (v:=(fun b=> .slice (some ⟨b,0,none⟩) 1 1)) (by exact litrow_run Tryz.underlying52 info54 rfl rfl rfl rfl) ?_
 intro g55 w3 HE0 hgg55
 have Gg55:=asd_ hgg55
 clear hgg55
 replace HE:=asd_ HE0;clear HE0
 refine hK.out _ _ ⟨HE.out.drop.drop.drop,(cel_ HE.out.drop.drop.drop.k.2.1),(cel_ HE.out.drop.drop.drop.k.1),(cel_ (blk_below hge HE.out.drop.drop.drop.b))⟩ (fun hHeld=> ?_)
 clear hK K
 refine nq_ 55 ?_
 refine on_ 5 56 63 (fun K hK=> ?_)
 refine appendrow_ (kc:=#[.string loc,.string kn,.slice Ap path.length cp,.slice Aa2 0 ca2,.string tx,.slice An names.length cn,nilS,nilS]) (g:=g55) (t:=52) (s:= .tmp 52) (x:= .tmp 55) (by simp [Value.oneCell']) (At.front 0 HE.out rfl) (by rfl) rfl Tryz.underlying52 info54 rfl (by simp) (by decide) rfl rfl (by decide) ?_
 intro gx cx curx w3 HE0 hg1 hc1 hcur
 have Ggx:=asd_ hg1
 have Hc1:=asd_ hc1
 have hcur:=asd_ hcur
 clear hg1 hc1
 replace HE:=asd_ HE0;clear HE0
 refine hK.out _ _ ⟨HE.out.drop.drop.drop,(cel_ HE.out.drop.drop.drop.k.2.1),(cel_ HE.out.drop.drop.drop.k.1),(cel_ (blk_below hge HE.out.drop.drop.drop.b))⟩ (fun hHeld=> ?_)
 clear hK K
 refine nq_ 56 ?_
 refine pu_ 6 57 127 ?_
 refine lz_ 7 255 (fun K hK=> ?_)
 have fg3_:=fE_ HE 3
 have cg3_:=cE_ HE 3
 refine sk_ ?_
 replace HE:=asd_ (At.store_to (i:=7) (v:= .slice (some ⟨gx,0,none⟩) 1 cx) 3 (#[.string loc,.string ⟨#[83,99,104,101,109,97]⟩,.slice Aq 0 cq,.slice Aa 0 ca,eS,nilS,nilS,.slice (some ⟨gx,0,none⟩) 1 cx]) HE.out rfl Gg3.out rfl rfl)
 clear fg3_ cg3_
 refine hK.out _ _ ?_
 clear hK K
 refine done_ kr_ ?_
 clear HK;have HK:=HE;clear HE
 clear hHeld
 clear bge
 replace Bc:=ce2_ HK 4 3
 replace Bf:=fe1_ HK 3
 have bge:=cel_ (blk_below hge HK.out.b)
 go_wp2_with (first|((with_reducible refine gd_ 62 ?_);refine lo_ 54 3 g3 (#[.string loc,.string ⟨#[83,99,104,101,109,97]⟩,.slice Aq 0 cq,.slice Aa 0 ca,eS,nilS,nilS,.slice (some ⟨gx,0,none⟩) 1 cx]) HK.out.k.2.2.2.1 Tryz.underlying54 ?_)|((first|((with_reducible refine gd_ 61 ?_);refine cl_ #[.slice (some ⟨gx,0,none⟩) 1 cx,.func (.func 58) #[] #[]] (.tuple #[]) Tryz.func57 (sort_1 _ (some ⟨gx,0,none⟩) cx _) ?_)|((with_reducible refine gate_ (.store 54 (.tmp 2) (.tmp 62)) rfl ?_);refine storerow_at (cs:=#[eS,eS,nilS,nilS,eS,nilS,nilS,nilS]) (g:=g2) 4 (#[.string loc,.string ⟨#[83,99,104,101,109,97]⟩,.slice Aq 0 cq,.slice Aa 0 ca,eS,nilS,nilS,.slice (some ⟨gx,0,none⟩) 1 cx]) at_ rfl Gg2.out rfl rfl rfl rfl rfl rfl kr_ rfl (by simp [Value.oneCell']) ?_));intro wc61 HK1;replace HK:=asd_ HK1;clear HK1;clear bge;replace Bc:=ce2_ HK 4 3;replace Bf:=fe1_ HK 3;have bge:=cel_ (blk_below hge HK.out.b)))
 ((try simp only [Exit.inBlock,Exit.then]);refine bodyPost_ret (results_cell_row rfl _ _ g2 54 (#[.string loc,.string ⟨#[83,99,104,101,109,97]⟩,.slice Aq 0 cq,.slice Aa 0 ca,eS,nilS,nilS,.slice (some ⟨gx,0,none⟩) 1 cx]) (0,0) _ rfl (HK.out.k.2.2.2.2.1) Tryz.underlying54 rfl kr_) rfl ?_)
 exact ⟨Aq,cq,Aa,ca,gx,cx,curx,Ap,cp,Aa2,ca2,An,cn,rfl,HK.out.k.1,Ggx.out,Hc1.out,hcur.out,HK.out.k.2.1,HK.out.k.2.2.1,HK.out.b⟩
end Go.Proofs.YtkphbhncpdcbeaaGreatDoor.J
namespace Go.Proofs.YtkphbhncpdcbeaaGreatDoor.J
open Go.RowKit YtkphbhncpdcbeaaGreatDoorW.PrintWords YtkphbhncpdcbeaaGreatDoorW.PrintLast YtkphbhncpdcbeaaGreatDoorW.PrintMore PJT
attribute [local go_sem] tv_76t tv_nilt
def Told (loc kn:ByteArray) (T:Value) (path names:List ByteArray) (w:World) (e:Ending) (w':World):Prop:=
 ∃ Aq cq Aa ca gx cx curx Ap cp Aa2 ca2 An cn,e= .returned (.tuple #[.agg #[.string loc,.string ⟨#[83,99,104,101,109,97]⟩,.slice Aq 0 cq,.slice Aa 0 ca,eS,nilS,nilS,.slice (some ⟨gx,0,none⟩) 1 cx],.bool true])∧w'.heap[gx]? =some (row curx 54)∧w.heap.size≤gx∧1≤cx∧curx.toList.take 8=[.string loc,.string kn,.slice Ap path.length cp,.slice Aa2 0 ca2,T,.slice An names.length cn,nilS,nilS]∧(Fact.strs (.slice Ap path.length cp) path).P w'∧(Fact.strs (.slice An names.length cn) names).P w'∧Below w.heap.size w w'
theorem none_form {f:FuncId} {args:Array Value} {W:World} {v0:Value} (h:Calls Tryz.prog f args W (rb v0 W)):
  Calls Tryz.prog f args W fun e w'=>∃ v,e= .returned v∧v=v0∧Below W.heap.size W w':=by
 refine h.mono ?_
 rintro e w' ⟨rfl,hb⟩
 exact ⟨_,rfl,rfl,hb⟩
theorem rooted_form {args:Array Value} {W:World} {loc kn:ByteArray} {T:Value} {path names:List ByteArray} (h:Calls Tryz.prog 30 args W fun e w'=>Rooted loc kn T path names W e w'):
  Calls Tryz.prog 30 args W fun e w'=>∃ v,e= .returned v∧(∃ Aq cq Aa ca gx cx curx Ap cp Aa2 ca2 An cn,v= .agg #[.string loc,.string ⟨#[83,99,104,101,109,97]⟩,.slice Aq 0 cq,.slice Aa 0 ca,eS,nilS,nilS,.slice (some ⟨gx,0,none⟩) 1 cx]∧w'.heap[gx]? =some (row curx 54)∧W.heap.size≤gx∧1≤cx∧curx.toList.take 8=[.string loc,.string kn,.slice Ap path.length cp,.slice Aa2 0 ca2,T,.slice An names.length cn,nilS,nilS]∧(Fact.strs (.slice Ap path.length cp) path).P w'∧(Fact.strs (.slice An names.length cn) names).P w')∧Below W.heap.size W w':=by
 refine h.mono ?_
 rintro e w' ⟨Aq,cq,Aa,ca,gx,cx,curx,Ap,cp,Aa2,ca2,An,cn,rfl,h1,h2,h3,h4,h5,h6,hb⟩
 exact ⟨_,rfl,⟨Aq,cq,Aa,ca,gx,cx,curx,Ap,cp,Aa2,ca2,An,cn,rfl,h1,h2,h3,h4,h5,h6⟩,hb⟩
theorem draft_none (w:World) (gn cS:Nat) (x:S25) (A4 A5:Option Addr) (c4 c5:Nat) (PC:Nat→World→Prop) (hst:∀ gs W W1,PC gs W→Below W.heap.size W W1→PC gs W1) (hx:Rep w x A4 c4 A5 c5) (hVx:V x) (hC:∀ W,Below w.heap.size w W→Calls Tryz.prog 27 #[.slice (some ⟨gn,0,none⟩) 1 cS,.int .i64 2020] W fun e w'=>∃ v,e= .returned v∧(∃ gs,v= .pointer (some ⟨gs,0,none⟩)∧PC gs w')∧Below W.heap.size W w') (hV:∀ W gs v,PC gs W→Out x v W→Calls Tryz.prog 28 #[.pointer (some ⟨gs,0,none⟩),v] W (rb .nilIface W)):
  Calls Tryz.prog 19 #[.int .i64 2020,.slice (some ⟨gn,0,none⟩) 1 cS,.agg (jvc x A4 A5 c4 c5)] w (rb (.tuple #[.agg #[eS,eS,nilS,nilS,eS,nilS,nilS,nilS],.bool false]) w):=by
 have Hx:=asd_ hx
 have HVx:=asd_ hVx
 have HC:=asd_ hC
 have HV:=asd_ hV
 clear hx hVx hC hV
 have HK:=st0_ w
 go_enter Tryz.func19,Tryz.ntmps19
 go_wp2_with (first|((with_reducible refine gd_ 5 ?_);refine bx_ (jvc x A4 A5 c4 c5) 25 ?_;clear HK;intro g5 wb5 HK Gg5;replace Bc:=ce1_ HK 0)|((with_reducible refine gd_ 6 ?_);refine bx_ #[eS,eS,nilS,nilS,eS,nilS,nilS,nilS] 54 ?_;clear HK;intro g6 wb6 HK Gg6;replace Bc:=ce2_ HK 1 0)|((with_reducible refine gd_ 13 ?_);refine cw_ #[.slice (some ⟨gn,0,none⟩) 1 cS,.int .i64 2020] Tryz.func27 (HC.out _ (by repeat (first|exact HK.out.b|exact Below.refl _ _|apply below_alloc|apply pw_below_drewN|apply below_drew1))) ?_;rintro v13 wc13 HK1 ⟨gs,rfl,hPC⟩ hB;have HPC:=asd_ hPC;clear hPC hB;replace HK:=asd_ HK1;clear HK1;replace Bc:=ce2_ HK 1 0)|((with_reducible refine gd_ 19 ?_);refine lo_ 25 5 g5 (jvc x A4 A5 c4 c5) HK.out.k.2.1 Tryz.underlying25 ?_)|((with_reducible refine gd_ 20 ?_);refine cw_ #[.agg (jvc x A4 A5 c4 c5)] Tryz.func29 (value_out _ x A4 A5 c4 c5 (Hx.out.below (by repeat (first|exact HK.out.b|exact Below.refl _ _|apply below_alloc|apply pw_below_drewN|apply below_drew1))) HVx.out) ?_;rintro v20 wc20 HK1 hO hB;have HPC2:=asd_ (hst _ _ _ HPC.out hB);have HO:=asd_ hO;clear hO hB HPC;replace HK:=asd_ HK1;clear HK1;replace Bc:=ce2_ HK 1 0)|((with_reducible refine gd_ 21 ?_);refine cw_ #[.pointer (some ⟨gs,0,none⟩),v20] Tryz.func28 (none_form (HV.out _ _ _ HPC2.out HO.out)) ?_;rintro v21 wc21 HK1 hv21 hB;subst hv21;clear hB HPC2 HO;replace HK:=asd_ HK1;clear HK1;replace Bc:=ce2_ HK 1 0)|((with_reducible refine gate_ (.store 54 (.tmp 6) (.tmp 27)) rfl ?_);refine storerow_at (cs:=#[eS,eS,nilS,nilS,eS,nilS,nilS,nilS]) (g:=g6) 0 (#[eS,eS,nilS,nilS,eS,nilS,nilS,nilS]) at_ rfl Gg6.out rfl rfl rfl rfl rfl rfl kr_ rfl (by simp [Value.oneCell']) ?_;intro wr1 HK1;replace HK:=asd_ HK1;clear HK1;replace Bc:=ce2_ HK 1 0))
 ((try simp only [Exit.inBlock,Exit.then]);refine bodyPost_ret (results_ct rfl _ _ g6 54 (#[eS,eS,nilS,nilS,eS,nilS,nilS,nilS]) (0,0) _ rfl (HK.out.k.1) Tryz.underlying54 rfl kr_) rfl ?_)
 exact ⟨rfl,HK.out.b⟩
theorem draft_some (w:World) (gn cS:Nat) (x:S25) (A4 A5:Option Addr) (c4 c5:Nat) (loc kn:ByteArray) (T:Value) (path names:List ByteArray) (PC:Nat→World→Prop) (hst:∀ gs W W1,PC gs W→Below W.heap.size W W1→PC gs W1) (hx:Rep w x A4 c4 A5 c5) (hVx:V x) (hC:∀ W,Below w.heap.size w W→Calls Tryz.prog 27 #[.slice (some ⟨gn,0,none⟩) 1 cS,.int .i64 2020] W fun e w'=>∃ v,e= .returned v∧(∃ gs,v= .pointer (some ⟨gs,0,none⟩)∧PC gs w')∧Below W.heap.size W w') (PV:Nat→World→Prop) (hV:∀ W gs v,PC gs W→Out x v W→Calls Tryz.prog 28 #[.pointer (some ⟨gs,0,none⟩),v] W fun e w'=>∃ v,e= .returned v∧(∃ gr,v= .iface 76 (.pointer (some ⟨gr,0,none⟩))∧PV gr w')∧Below W.heap.size W w') (hE:∀ W gr,PV gr W→Calls Tryz.prog 30 #[.pointer (some ⟨gr,0,none⟩)] W fun e w'=>Rooted loc kn T path names W e w'):
  Calls Tryz.prog 19 #[.int .i64 2020,.slice (some ⟨gn,0,none⟩) 1 cS,.agg (jvc x A4 A5 c4 c5)] w fun e w'=>Told loc kn T path names w e w':=by
 have Hx:=asd_ hx
 have HVx:=asd_ hVx
 have HC:=asd_ hC
 have HV:=asd_ hV
 have HE:=asd_ hE
 clear hE
 clear hx hVx hC hV
 have HK:=st0_ w
 go_enter Tryz.func19,Tryz.ntmps19
 go_wp2_with (first|((with_reducible refine gd_ 5 ?_);refine bx_ (jvc x A4 A5 c4 c5) 25 ?_;clear HK;intro g5 wb5 HK Gg5;replace Bc:=ce1_ HK 0)|((with_reducible refine gd_ 6 ?_);refine bx_ #[eS,eS,nilS,nilS,eS,nilS,nilS,nilS] 54 ?_;clear HK;intro g6 wb6 HK Gg6;replace Bc:=ce2_ HK 1 0)|((with_reducible refine gd_ 13 ?_);refine cw_ #[.slice (some ⟨gn,0,none⟩) 1 cS,.int .i64 2020] Tryz.func27 (HC.out _ (by repeat (first|exact HK.out.b|exact Below.refl _ _|apply below_alloc|apply pw_below_drewN|apply below_drew1))) ?_;rintro v13 wc13 HK1 ⟨gs,rfl,hPC⟩ hB;have HPC:=asd_ hPC;clear hPC hB;replace HK:=asd_ HK1;clear HK1;replace Bc:=ce2_ HK 1 0)|((with_reducible refine gd_ 19 ?_);refine lo_ 25 5 g5 (jvc x A4 A5 c4 c5) HK.out.k.2.1 Tryz.underlying25 ?_)|((with_reducible refine gd_ 20 ?_);refine cw_ #[.agg (jvc x A4 A5 c4 c5)] Tryz.func29 (value_out _ x A4 A5 c4 c5 (Hx.out.below (by repeat (first|exact HK.out.b|exact Below.refl _ _|apply below_alloc|apply pw_below_drewN|apply below_drew1))) HVx.out) ?_;rintro v20 wc20 HK1 hO hB;have HPC2:=asd_ (hst _ _ _ HPC.out hB);have HO:=asd_ hO;clear hO hB HPC;replace HK:=asd_ HK1;clear HK1;replace Bc:=ce2_ HK 1 0)|((with_reducible refine gd_ 21 ?_);refine cw_ #[.pointer (some ⟨gs,0,none⟩),v20] Tryz.func28 (HV.out _ _ _ HPC2.out HO.out) ?_;rintro v21 wc21 HK1 ⟨gr,rfl,hPV⟩ hB;have HPV:=asd_ hPV;clear hB hPV HPC2 HO;replace HK:=asd_ HK1;clear HK1;replace Bc:=ce2_ HK 1 0)|((with_reducible refine gd_ 29 ?_);refine cw_ #[.pointer (some ⟨gr,0,none⟩)] Tryz.func30 (rooted_form (HE.out _ _ HPV.out)) ?_;rintro v29 wc29 HK0 ⟨Aq,cq,Aa,ca,gx,cx,curx,Ap,cp,Aa2,ca2,An,cn,rfl,hgx,hgxn,hcx,hcur,hFp,hFn⟩ hB;have HK1:=At.fact (Fact.strs (.slice Ap path.length cp) path) (At.fact (Fact.strs (.slice An names.length cn) names) (At.came at_ hB hgx hgxn) hFn) hFp;have Hcur:=asd_ (And.intro hcx hcur);have Hgx:=asd_ (Nat.le_trans (by first|exact HK.out.b.size|exact (At.b at_).size) hgxn);clear HK0 hB hgx hgxn hcx hcur hFp hFn HPV;replace HK:=asd_ HK1;clear HK1;replace Bc:=ce2_ HK 4 3)|((with_reducible refine gate_ (.store 54 (.tmp 6) (.tmp 29)) rfl ?_);refine storerow_at (cs:=#[eS,eS,nilS,nilS,eS,nilS,nilS,nilS]) (g:=g6) 3 (#[.string loc,.string ⟨#[83,99,104,101,109,97]⟩,.slice Aq 0 cq,.slice Aa 0 ca,eS,nilS,nilS,.slice (some ⟨gx,0,none⟩) 1 cx]) at_ rfl Gg6.out rfl rfl rfl rfl rfl rfl kr_ rfl (by simp [Value.oneCell']) ?_;intro wr1 HK1;replace HK:=asd_ HK1;clear HK1;replace Bc:=ce2_ HK 4 3))
 ((try simp only [Exit.inBlock,Exit.then]);refine bodyPost_ret (results_ct rfl _ _ g6 54 (#[.string loc,.string ⟨#[83,99,104,101,109,97]⟩,.slice Aq 0 cq,.slice Aa 0 ca,eS,nilS,nilS,.slice (some ⟨gx,0,none⟩) 1 cx]) (0,0) _ rfl (HK.out.k.2.2.2.1) Tryz.underlying54 rfl kr_) rfl ?_)
 exact ⟨Aq,cq,Aa,ca,gx,cx,curx,Ap,cp,Aa2,ca2,An,cn,rfl,HK.out.k.2.2.1,Hgx.out,Hcur.out.1,Hcur.out.2,HK.out.k.1,HK.out.k.2.1,HK.out.b⟩
theorem validate_same (w:World) (gs:Nat) (vv:Value) (F:Value→World→Prop) (hC:Calls Tryz.prog 53 #[.pointer (some ⟨gs,0,none⟩),vv] w fun e w'=>∃ v,e= .returned v∧F v w'):
  Calls Tryz.prog 28 #[.pointer (some ⟨gs,0,none⟩),vv] w fun e w'=>∃ v,e= .returned v∧F v w':=by
 have HC:=asd_ hC
 clear hC
 have HK:=st0_ w
 go_enter Tryz.func28,Tryz.ntmps28
 go_wp2_with (first|((with_reducible refine gd_ 7 ?_);refine goesL_ _ rfl rfl Tryz.func53 kr_ rfl #[.pointer (some ⟨gs,0,none⟩),vv] rfl ar_ (HC.out.mono ?_);rintro e w7 ⟨v7,rfl,hF⟩;refine ⟨_,rfl,?_⟩))
 go_ret
 exact ⟨v7,rfl,hF⟩
end Go.Proofs.YtkphbhncpdcbeaaGreatDoor.J
namespace Go.Proofs.YtkphbhncpdcbeaaGreatDoor.J
open Go.RowKit YtkphbhncpdcbeaaGreatDoorW.PrintWords YtkphbhncpdcbeaaGreatDoorW.PrintLast YtkphbhncpdcbeaaGreatDoorW.PrintMore PJT
theorem cell_of_take {curx:Array Value} {l:List Value} (h:curx.toList.take 8=l) {i:Nat} {v:Value} (hv:l[i]? =some v):curx[i]? =some v:=by
 have h8:i < 8:=by
  have:=List.length_take_le 8 curx.toList
  rw [h] at this
  have:=(List.getElem?_eq_some_iff.1 hv).1
  omega
 rw [← h,List.getElem?_take_of_lt h8] at hv
 simpa using hv
theorem cell_below {w W:World} {a:Addr} {v:Value} (hb:Below w.heap.size w W) (h:w.cell? a=some v):W.cell? a=some v:=
 (hb.cell (World.block_lt_of_cell? w _ h)).trans h
theorem right16 (w:World) (tx kn:ByteArray) (Aq Aa Ap Aa2 An A2:Option Addr) (cq ca gx cx np cp ca2 nn cn n2 c2:Nat)
  (hC:∀ (i:Nat) (v:Value),(#[.string ⟨#[49]⟩,.string kn,.slice Ap np cp,.slice Aa2 0 ca2,.string tx,.slice An nn cn,nilS,nilS]:Array Value)[i]? =some v→w.cell? ⟨gx,i,none⟩=some v)
  (hA1:∀ W,Below w.heap.size w W→Calls Tryz.prog 21 #[.string kn,.slice A2 n2 c2] W (rb (.bool true) W))
  (hA0:∀ W,Below w.heap.size w W→Calls Tryz.prog 21 #[.string ⟨#[83,99,104,101,109,97]⟩,.slice A2 n2 c2] W (rb (.bool false) W)):
  Calls Tryz.prog 16 #[.agg #[.string ⟨#[49]⟩,.string ⟨#[83,99,104,101,109,97]⟩,.slice Aq 0 cq,.slice Aa 0 ca,.string ⟨#[]⟩,.slice none 0 0,nilS,.slice (some ⟨gx,0,none⟩) 1 cx],.string ⟨#[49]⟩,.slice A2 n2 c2] w (rb (.int .i64 1) w):=
 kinds_root w ⟨#[]⟩ Aq Aa none cq ca 0 0 A2 n2 c2 gx cx ⟨#[49]⟩ kn tx Ap Aa2 An np cp ca2 nn cn hA0 hC
   (fun W2 h2=>kinds_leaf W2 tx kn Ap Aa2 An np cp ca2 nn cn A2 n2 c2 (fun W3 h3=>hA1 W3 (below_step h2 h3)))
theorem right17 (w:World) (gn cS:Nat) (x:S25) (A4 A5:Option Addr) (c4 c5:Nat) (tx kn:ByteArray) (Aq Aa Ap Aa2 An:Option Addr) (cq ca gx cx np cp ca2 nn cn:Nat)
  (hC:∀ (i:Nat) (v:Value),(#[.string ⟨#[49]⟩,.string kn,.slice Ap np cp,.slice Aa2 0 ca2,.string tx,.slice An nn cn,nilS,nilS]:Array Value)[i]? =some v→w.cell? ⟨gx,i,none⟩=some v)
  (hT:∀ W,Below w.heap.size w W→Calls Tryz.prog 20 #[.int .i64 2020,.agg #[.slice (some ⟨gn,0,none⟩) 1 cS,nilS],.int .i64 1,.agg (jvc x A4 A5 c4 c5)] W fun e w'=>∃ v,e= .returned (.tuple #[.bool false,v])∧Below W.heap.size W w')
  (hP:∀ W,Below w.heap.size w W→Calls Tryz.prog 41 #[.agg #[.string ⟨#[49]⟩,.string kn,.slice Ap np cp,.slice Aa2 0 ca2,.string tx,.slice An nn cn,nilS,nilS]] W (rb (.bool true) W))
  (hR0:∀ W,Below w.heap.size w W→Calls Tryz.prog 43 #[.int .i64 2020,.agg #[.slice (some ⟨gn,0,none⟩) 1 cS,nilS],.int .i64 1,.agg (jvc x A4 A5 c4 c5),.agg #[.string ⟨#[49]⟩,.string ⟨#[83,99,104,101,109,97]⟩,.slice Aq 0 cq,.slice Aa 0 ca,.string ⟨#[]⟩,.slice none 0 0,nilS,.slice (some ⟨gx,0,none⟩) 1 cx]] W (rb (.bool true) W))
  (hR1:∀ W,Below w.heap.size w W→Calls Tryz.prog 43 #[.int .i64 2020,.agg #[.slice (some ⟨gn,0,none⟩) 1 cS,nilS],.int .i64 1,.agg (jvc x A4 A5 c4 c5),.agg #[.string ⟨#[49]⟩,.string kn,.slice Ap np cp,.slice Aa2 0 ca2,.string tx,.slice An nn cn,nilS,nilS]] W (rb (.bool true) W)):
  Calls Tryz.prog 17 #[.int .i64 2020,.slice (some ⟨gn,0,none⟩) 1 cS,.agg (jvc x A4 A5 c4 c5),.agg #[.string ⟨#[49]⟩,.string ⟨#[83,99,104,101,109,97]⟩,.slice Aq 0 cq,.slice Aa 0 ca,.string ⟨#[]⟩,.slice none 0 0,nilS,.slice (some ⟨gx,0,none⟩) 1 cx]] w (rb (.bool true) w):=by
 refine er17 w (some ⟨gn,0,none⟩) cS x A4 A5 c4 c5 _ _ _ Aq Aa none (some ⟨gx,0,none⟩) 0 cq 0 ca 0 0 1 cx (fun W2 gc hb2 hg=> ?_)
 refine er_root W2 (.slice (some ⟨gn,0,none⟩) 1 cS) gc x A4 A5 c4 c5 ⟨#[]⟩ Aq Aa none cq ca 0 0 gx cx ⟨#[49]⟩ kn tx Ap Aa2 An np cp ca2 nn cn (fun W h=>pathright_schema W _ ⟨#[]⟩ Aq Aa none (some ⟨gx,0,none⟩) cq ca 0 1 cx []) (fun W h=>nodes_one W gc _ cS (blk_below hg h))
   (fun W h=>takes_any W (.slice (some ⟨gn,0,none⟩) 1 cS) nilS false x A4 A5 c4 c5 (fun W' h'=>hT W' (below_step hb2 (below_step h h')))) (fun W h=>hR0 W (below_step hb2 h)) (fun i v h=>cell_below hb2 (hC i v h)) (fun W3 h3=> ?_)
 exact er_leaf W3 (.slice (some ⟨gn,0,none⟩) 1 cS) gc x A4 A5 c4 c5 tx kn Ap Aa2 An np cp ca2 nn cn (fun W h=>hP W (below_step hb2 (below_step h3 h))) (fun W h=>nodes_one W gc _ cS (blk_below hg (below_step h3 h)))
   (fun W h=>takes_any W (.slice (some ⟨gn,0,none⟩) 1 cS) nilS false x A4 A5 c4 c5 (fun W' h'=>hT W' (below_step hb2 (below_step h3 (below_step h h'))))) (fun W h=>hR1 W (below_step hb2 (below_step h3 h)))
theorem tells_of (w:World) (gn cS:Nat) (x:S25) (A4 A5:Option Addr) (c4 c5:Nat) (tx kn:ByteArray) (path names:List ByteArray) (A2:Option Addr) (n2 c2:Nat)
  (h14:∀ W,Below w.heap.size w W→Calls Tryz.prog 14 #[.slice (some ⟨gn,0,none⟩) 1 cS,.agg (jvc x A4 A5 c4 c5)] W fun e w'=>Told ⟨#[49]⟩ kn (.string tx) path names W e w')
  (hT:∀ W,Below w.heap.size w W→Calls Tryz.prog 20 #[.int .i64 2020,.agg #[.slice (some ⟨gn,0,none⟩) 1 cS,nilS],.int .i64 1,.agg (jvc x A4 A5 c4 c5)] W fun e w'=>∃ v,e= .returned (.tuple #[.bool false,v])∧Below W.heap.size W w')
  (hP:∀ W Ap cp Aa2 ca2 An cn,Below w.heap.size w W→(Fact.strs (.slice Ap path.length cp) path).P W→Calls Tryz.prog 41 #[.agg #[.string ⟨#[49]⟩,.string kn,.slice Ap path.length cp,.slice Aa2 0 ca2,.string tx,.slice An names.length cn,nilS,nilS]] W (rb (.bool true) W))
  (hR0:∀ W Aq cq Aa ca gx cx,Below w.heap.size w W→Calls Tryz.prog 43 #[.int .i64 2020,.agg #[.slice (some ⟨gn,0,none⟩) 1 cS,nilS],.int .i64 1,.agg (jvc x A4 A5 c4 c5),.agg #[.string ⟨#[49]⟩,.string ⟨#[83,99,104,101,109,97]⟩,.slice Aq 0 cq,.slice Aa 0 ca,.string ⟨#[]⟩,.slice none 0 0,nilS,.slice (some ⟨gx,0,none⟩) 1 cx]] W (rb (.bool true) W))
  (hR1:∀ W Ap cp Aa2 ca2 An cn,Below w.heap.size w W→(Fact.strs (.slice An names.length cn) names).P W→Calls Tryz.prog 43 #[.int .i64 2020,.agg #[.slice (some ⟨gn,0,none⟩) 1 cS,nilS],.int .i64 1,.agg (jvc x A4 A5 c4 c5),.agg #[.string ⟨#[49]⟩,.string kn,.slice Ap path.length cp,.slice Aa2 0 ca2,.string tx,.slice An names.length cn,nilS,nilS]] W (rb (.bool true) W))
  (hA1:∀ W,Below w.heap.size w W→Calls Tryz.prog 21 #[.string kn,.slice A2 n2 c2] W (rb (.bool true) W))
  (hA0:∀ W,Below w.heap.size w W→Calls Tryz.prog 21 #[.string ⟨#[83,99,104,101,109,97]⟩,.slice A2 n2 c2] W (rb (.bool false) W)):
  Calls Tryz.prog 8 #[.slice (some ⟨gn,0,none⟩) 1 cS,.agg (jvc x A4 A5 c4 c5),.slice A2 n2 c2] w (rb (.bool true) w):=by
 refine tells_err w _ cS x A4 A5 c4 c5 A2 n2 c2 (fun W hb=>(h14 W hb).mono ?_)
 rintro e w' ⟨Aq,cq,Aa,ca,gx,cx,curx,Ap,cp,Aa2,ca2,An,cn,rfl,hg,_,_,hcur,hs1,hs2,hb'⟩
 have hw:=below_step hb hb'
 have hC:∀ (i:Nat) (v:Value),(#[.string ⟨#[49]⟩,.string kn,.slice Ap path.length cp,.slice Aa2 0 ca2,.string tx,.slice An names.length cn,nilS,nilS]:Array Value)[i]? =some v→w'.cell? ⟨gx,i,none⟩=some v:=fun i v h=>(blk_cell hg i).trans (cell_of_take hcur (by simpa using h))
 have h16:=fun W (h:Below w'.heap.size w' W)=>right16 W tx kn Aq Aa Ap Aa2 An A2 cq ca gx cx path.length cp ca2 names.length cn n2 c2 (fun i v hv=>cell_below h (hC i v hv)) (fun W1 h1=>hA1 W1 (below_step hw (below_step h h1))) (fun W1 h1=>hA0 W1 (below_step hw (below_step h h1)))
 have h17:=fun W (h:Below w'.heap.size w' W)=>right17 W gn cS x A4 A5 c4 c5 tx kn Aq Aa Ap Aa2 An cq ca gx cx path.length cp ca2 names.length cn (fun i v hv=>cell_below h (hC i v hv))
  (fun W1 h1=>hT W1 (below_step hw (below_step h h1))) (fun W1 h1=>hP W1 Ap cp Aa2 ca2 An cn (below_step hw (below_step h h1)) ((Fact.strs _ path).below hs1 (below_step h h1))) (fun W1 h1=>hR0 W1 Aq cq Aa ca gx cx (below_step hw (below_step h h1))) (fun W1 h1=>hR1 W1 Ap cp Aa2 ca2 An cn (below_step hw (below_step h h1)) ((Fact.strs _ names).below hs2 (below_step h h1)))
 exact ⟨_,_,_,Aq,Aa,none,some ⟨gx,0,none⟩,0,cq,0,ca,0,0,1,cx,rfl,h16,h17,hb'⟩
theorem kr_schema_false (w:World) (gn cS:Nat) (x:S25) (A4 A5:Option Addr) (c4 c5:Nat) (hS:w.heap[gn]? =some (row (Nd.cells ⟨2,false,nilS,nilS,false,nilS,false,nilS,nilS,nilS⟩) 45)) (loc tx:ByteArray) (Ap Aa An Ak:Option Addr) (np cp ca cn ck:Nat) (names:List ByteArray):Calls Tryz.prog 43 #[.int .i64 2020,.agg #[.slice (some ⟨gn,0,none⟩) 1 cS,nilS],.int .i64 1,.agg (jvc x A4 A5 c4 c5),.agg #[.string loc,.string ⟨#[83,99,104,101,109,97]⟩,.slice Ap np cp,.slice Aa 0 ca,.string tx,.slice An names.length cn,nilS,.slice Ak 1 ck]] w (rb (.bool true) w):=by
 have hn1:(Nd.cells ⟨2,false,nilS,nilS,false,nilS,false,nilS,nilS,nilS⟩).all (·.oneCell')=true:=by first|kernel_rfl|simp [Nd.cells,Value.oneCell']
 have HK:Aside0 (At w [.b gn (row (Nd.cells ⟨2,false,nilS,nilS,false,nilS,false,nilS,nilS,nilS⟩) 45)] w):=asd_ (At.hold (At.start w) hS (by simp [nums]))
 replace Bc:=ce1_ HK 0
 go_enter Tryz.func43,Tryz.ntmps43
 go_wp2_with (first|((with_reducible refine gd_ 6 ?_);refine bx_ #[.slice (some ⟨gn,0,none⟩) 1 cS,nilS] 68 ?_;clear HK;intro g6 wb6 HK Gg6;replace Bc:=ce2_ HK 1 0)|((with_reducible refine gd_ 8 ?_);refine bx_ (jvc x A4 A5 c4 c5) 25 ?_;clear HK;intro g8 wb8 HK Gg8;replace Bc:=ce3_ HK 2 1 0)|((with_reducible refine gd_ 9 ?_);refine bx_ (#[.string loc,.string ⟨#[83,99,104,101,109,97]⟩,.slice Ap np cp,.slice Aa 0 ca,.string tx,.slice An names.length cn,nilS,.slice Ak 1 ck]) 54 ?_;clear HK;intro g9 wb9 HK Gg9;replace Bc:=ce4_ HK 3 2 1 0)|((with_reducible refine gd_ 17 ?_);refine lo_ 45 16 gn (Nd.cells ⟨2,false,nilS,nilS,false,nilS,false,nilS,nilS,nilS⟩) HK.out.k.2.2.2.1 Tryz.underlying45 ?_)|((with_reducible refine gd_ 11 ?_);refine bx_ (ndZ nilS nilS) 45 ?_;clear HK;intro g11 wb11 HK Gg11;replace Bc:=ce5_ HK 4 3 2 1 0)|((with_reducible refine gate_ (.store 45 (.tmp 11) (.tmp 17)) rfl ?_);refine storerow_at (cs:=ndZ nilS nilS) (g:=g11) 0 (Nd.cells ⟨2,false,nilS,nilS,false,nilS,false,nilS,nilS,nilS⟩) at_ rfl Gg11.out rfl rfl rfl rfl rfl rfl kr_ rfl (hn1) ?_;intro wsr HK1;replace HK:=asd_ HK1;clear HK1;replace Bc:=ce5_ HK 4 3 2 1 0))
 go_ret
 exact ⟨by first|rfl|simp,be_⟩
theorem kr_false (w:World) (gn cS:Nat) (x:S25) (A4 A5:Option Addr) (c4 c5:Nat) (hS:w.heap[gn]? =some (row (Nd.cells ⟨2,false,nilS,nilS,false,nilS,false,nilS,nilS,nilS⟩) 45)) (loc tx:ByteArray) (Ap Aa An Ak:Option Addr) (np cp ca cn ck:Nat) (names:List ByteArray):Calls Tryz.prog 43 #[.int .i64 2020,.agg #[.slice (some ⟨gn,0,none⟩) 1 cS,nilS],.int .i64 1,.agg (jvc x A4 A5 c4 c5),.agg #[.string loc,.string ⟨#[70,97,108,115,101,83,99,104,101,109,97]⟩,.slice Ap np cp,.slice Aa 0 ca,.string tx,.slice An names.length cn,nilS,nilS]] w (rb (.bool true) w):=by
 have hn1:(Nd.cells ⟨2,false,nilS,nilS,false,nilS,false,nilS,nilS,nilS⟩).all (·.oneCell')=true:=by first|kernel_rfl|simp [Nd.cells,Value.oneCell']
 have HK:Aside0 (At w [.b gn (row (Nd.cells ⟨2,false,nilS,nilS,false,nilS,false,nilS,nilS,nilS⟩) 45)] w):=asd_ (At.hold (At.start w) hS (by simp [nums]))
 replace Bc:=ce1_ HK 0
 go_enter Tryz.func43,Tryz.ntmps43
 go_wp2_with (first|((with_reducible refine gd_ 6 ?_);refine bx_ #[.slice (some ⟨gn,0,none⟩) 1 cS,nilS] 68 ?_;clear HK;intro g6 wb6 HK Gg6;replace Bc:=ce2_ HK 1 0)|((with_reducible refine gd_ 8 ?_);refine bx_ (jvc x A4 A5 c4 c5) 25 ?_;clear HK;intro g8 wb8 HK Gg8;replace Bc:=ce3_ HK 2 1 0)|((with_reducible refine gd_ 9 ?_);refine bx_ (#[.string loc,.string ⟨#[70,97,108,115,101,83,99,104,101,109,97]⟩,.slice Ap np cp,.slice Aa 0 ca,.string tx,.slice An names.length cn,nilS,nilS]) 54 ?_;clear HK;intro g9 wb9 HK Gg9;replace Bc:=ce4_ HK 3 2 1 0)|((with_reducible refine gd_ 17 ?_);refine lo_ 45 16 gn (Nd.cells ⟨2,false,nilS,nilS,false,nilS,false,nilS,nilS,nilS⟩) HK.out.k.2.2.2.1 Tryz.underlying45 ?_)|((with_reducible refine gd_ 11 ?_);refine bx_ (ndZ nilS nilS) 45 ?_;clear HK;intro g11 wb11 HK Gg11;replace Bc:=ce5_ HK 4 3 2 1 0)|((with_reducible refine gate_ (.store 45 (.tmp 11) (.tmp 17)) rfl ?_);refine storerow_at (cs:=ndZ nilS nilS) (g:=g11) 0 (Nd.cells ⟨2,false,nilS,nilS,false,nilS,false,nilS,nilS,nilS⟩) at_ rfl Gg11.out rfl rfl rfl rfl rfl rfl kr_ rfl (hn1) ?_;intro wsr HK1;replace HK:=asd_ HK1;clear HK1;replace Bc:=ce5_ HK 4 3 2 1 0))
 go_ret
 exact ⟨by first|rfl|simp,be_⟩
end Go.Proofs.YtkphbhncpdcbeaaGreatDoor.J
namespace Go.Proofs.YtkphbhncpdcbeaaGreatDoor.J
open Go.RowKit YtkphbhncpdcbeaaGreatDoorW.PrintWords YtkphbhncpdcbeaaGreatDoorW.PrintLast YtkphbhncpdcbeaaGreatDoorW.PrintMore PJT
attribute [local go_sem] ta_null_4 ta_null_9 ta_null_117 ta_null_113 ta_bool_4 ta_bool_9 ta_bool_117 ta_bool_113 ta_text_4 ta_text_340 ta_text_343 ta_text_3 ta_text_344 ta_text_345 ta_text_21 ta_text_2 ta_text_232 ta_text_5 ta_text_346 ta_text_324 ta_text_326 ta_text_9 ta_text_117 ta_text_113 ta_array_4 ta_array_340 ta_array_343 ta_array_3 ta_array_344 ta_array_345 ta_array_21 ta_array_2 ta_array_232 ta_array_5 ta_array_346 ta_array_324 ta_array_326 ta_array_9 ta_array_117 ta_array_113 ta_object_4 ta_object_340 ta_object_343 ta_object_3 ta_object_344 ta_object_345 ta_object_21 ta_object_2 ta_object_232 ta_object_5 ta_object_346 ta_object_324 ta_object_326 ta_object_9 ta_object_117 ta_object_113
theorem min_zero (w:World) (n:Nat):Calls Tryz.prog 182 #[i0,.int .i64 (n:Int)] w (rb i0 w):=by
 have HK:=st0_ w
 go_enter Tryz.func182,Tryz.ntmps182
 have hd:decide (0≤(n:Int))=true:=decide_eq_true (by omega)
 rcases Nat.eq_zero_or_pos n with h0|h0
 ·subst h0
  go_wp2_with fail
  go_ret
  exact ⟨rfl,be_⟩
 ·have hd2:decide (0 < (n:Int))=true:=decide_eq_true (by omega)
  go_wp2_with fail
  go_ret
  exact ⟨rfl,be_⟩
theorem str_quiet (w:World) (gv gs:Nat) (vv:Value) (ad:Addr) (cp up er:Value) (s:Sc) (hv:w.heap[gv]? =some (row (vdc vv ad (.pointer (some ⟨gs,0,none⟩)) cp up er) 182)) (hS:w.heap[gs]? =some (row (Sc.cells ⟨2020,s.loc,s.bool,s.enum,s.const,s.format,s.req,s.props,s.pats,s.deps,s.dreq,s.dsch,.nilIface⟩) 119)) (t:ByteArray):
  Calls Tryz.prog 149 #[.pointer (some ⟨gv,0,none⟩),.string t] w (rb (.tuple #[]) w):=by
 have HK:=st0_ w
 have bgv:=cel_ (blk_below hv HK.out.b);have bgs:=cel_ (blk_below hS HK.out.b)
 go_enter Tryz.func149,Tryz.ntmps149
 go_wp2_with fail
 go_end0
 exact ⟨rfl,be_⟩
theorem cycle_none (w:World) (gc gs:Nat) (hc:w.heap[gc]? =some (row (#[.pointer (some ⟨gs,0,none⟩),eS,i0,nP]) 178)):
  Calls Tryz.prog 137 #[.pointer (some ⟨gc,0,none⟩)] w (rb nP w):=by
 have HK:=st0_ w
 have bgc:=cel_ (blk_below hc HK.out.b)
 go_enter Tryz.func137,Tryz.ntmps137
 go_wp2_with fail
 refine wp_loop_once ?_
 go_wp2_with fail
 go_ret
 exact ⟨rfl,be_⟩
theorem type_null (w:World):
  Calls Tryz.prog 139 #[.nilIface] w (rb (.int .i64 2) w):=by
 have HK:=st0_ w
 go_enter Tryz.func139,Tryz.ntmps139
 go_wp2_with fail
 go_ret
 exact ⟨rfl,be_⟩
theorem type_bool (w:World) (b:Bool):
  Calls Tryz.prog 139 #[.iface 4 (.bool b)] w (rb (.int .i64 4) w):=by
 have HK:=st0_ w
 go_enter Tryz.func139,Tryz.ntmps139
 go_wp2_with fail
 go_ret
 exact ⟨rfl,be_⟩
theorem type_text (w:World) (t:ByteArray):
  Calls Tryz.prog 139 #[.iface 9 (.string t)] w (rb (.int .i64 32) w):=by
 have HK:=st0_ w
 go_enter Tryz.func139,Tryz.ntmps139
 go_wp2_with fail
 go_ret
 exact ⟨rfl,be_⟩
theorem type_array (w:World) (A:Option Addr) (n c:Nat):
  Calls Tryz.prog 139 #[.iface 117 (.slice A n c)] w (rb (.int .i64 64) w):=by
 have HK:=st0_ w
 go_enter Tryz.func139,Tryz.ntmps139
 go_wp2_with fail
 go_ret
 exact ⟨rfl,be_⟩
theorem type_object (w:World) (g:Nat):
  Calls Tryz.prog 139 #[.iface 113 (.map (some g))] w (rb (.int .i64 128) w):=by
 have HK:=st0_ w
 go_enter Tryz.func139,Tryz.ntmps139
 go_wp2_with fail
 go_ret
 exact ⟨rfl,be_⟩
theorem from_null (w:World) (gs:Nat) (s:Sc) (hS:w.heap[gs]? =some (row (Sc.cells ⟨2020,s.loc,s.bool,s.enum,s.const,s.format,s.req,s.props,s.pats,s.deps,s.dreq,s.dsch,.nilIface⟩) 119)):
  Calls Tryz.prog 98 #[.nilIface,.pointer (some ⟨gs,0,none⟩),.bool false] w fun e w'=>∃ gu,e= .returned (.pointer (some ⟨gu,0,none⟩))∧w'.heap[gu]? =some (row #[nM,nM] 263)∧w.heap.size≤gu∧Below w.heap.size w w':=by
 have HK:=st0_ w
 have bgs:=cel_ (blk_below hS HK.out.b)
 go_enter Tryz.func98,Tryz.ntmps98
 go_wp2_with (first|((with_reducible refine gd_ 13 ?_);refine bx_ #[nM,nM] 263 ?_;clear HK bgs;intro gu wb13 HK Ggu;replace Bc:=ce1_ HK 0;have bgs:=cel_ (blk_below hS HK.out.b)))
 go_ret
 exact ⟨gu,rfl,HK.out.k.1,Ggu.out,be_⟩
theorem from_bool (w:World) (gs:Nat) (b:Bool) (s:Sc) (hS:w.heap[gs]? =some (row (Sc.cells ⟨2020,s.loc,s.bool,s.enum,s.const,s.format,s.req,s.props,s.pats,s.deps,s.dreq,s.dsch,.nilIface⟩) 119)):
  Calls Tryz.prog 98 #[.iface 4 (.bool b),.pointer (some ⟨gs,0,none⟩),.bool false] w fun e w'=>∃ gu,e= .returned (.pointer (some ⟨gu,0,none⟩))∧w'.heap[gu]? =some (row #[nM,nM] 263)∧w.heap.size≤gu∧Below w.heap.size w w':=by
 have HK:=st0_ w
 have bgs:=cel_ (blk_below hS HK.out.b)
 go_enter Tryz.func98,Tryz.ntmps98
 go_wp2_with (first|((with_reducible refine gd_ 13 ?_);refine bx_ #[nM,nM] 263 ?_;clear HK bgs;intro gu wb13 HK Ggu;replace Bc:=ce1_ HK 0;have bgs:=cel_ (blk_below hS HK.out.b)))
 go_ret
 exact ⟨gu,rfl,HK.out.k.1,Ggu.out,be_⟩
theorem from_text (w:World) (gs:Nat) (t:ByteArray) (s:Sc) (hS:w.heap[gs]? =some (row (Sc.cells ⟨2020,s.loc,s.bool,s.enum,s.const,s.format,s.req,s.props,s.pats,s.deps,s.dreq,s.dsch,.nilIface⟩) 119)):
  Calls Tryz.prog 98 #[.iface 9 (.string t),.pointer (some ⟨gs,0,none⟩),.bool false] w fun e w'=>∃ gu,e= .returned (.pointer (some ⟨gu,0,none⟩))∧w'.heap[gu]? =some (row #[nM,nM] 263)∧w.heap.size≤gu∧Below w.heap.size w w':=by
 have HK:=st0_ w
 have bgs:=cel_ (blk_below hS HK.out.b)
 go_enter Tryz.func98,Tryz.ntmps98
 go_wp2_with (first|((with_reducible refine gd_ 13 ?_);refine bx_ #[nM,nM] 263 ?_;clear HK bgs;intro gu wb13 HK Ggu;replace Bc:=ce1_ HK 0;have bgs:=cel_ (blk_below hS HK.out.b)))
 go_ret
 exact ⟨gu,rfl,HK.out.k.1,Ggu.out,be_⟩
theorem from_array (w:World) (gs:Nat) (A:Option Addr) (n c:Nat) (s:Sc) (hS:w.heap[gs]? =some (row (Sc.cells ⟨2020,s.loc,s.bool,s.enum,s.const,s.format,s.req,s.props,s.pats,s.deps,s.dreq,s.dsch,.nilIface⟩) 119)):
  Calls Tryz.prog 98 #[.iface 117 (.slice A n c),.pointer (some ⟨gs,0,none⟩),.bool false] w fun e w'=>∃ gu,e= .returned (.pointer (some ⟨gu,0,none⟩))∧w'.heap[gu]? =some (row #[nM,nM] 263)∧w.heap.size≤gu∧Below w.heap.size w w':=by
 have HK:=st0_ w
 have bgs:=cel_ (blk_below hS HK.out.b)
 go_enter Tryz.func98,Tryz.ntmps98
 go_wp2_with (first|((with_reducible refine gd_ 13 ?_);refine bx_ #[nM,nM] 263 ?_;clear HK bgs;intro gu wb13 HK Ggu;replace Bc:=ce1_ HK 0;have bgs:=cel_ (blk_below hS HK.out.b)))
 go_ret
 exact ⟨gu,rfl,HK.out.k.1,Ggu.out,be_⟩
theorem from_object (w:World) (gs:Nat) (g:Nat) (s:Sc) (hS:w.heap[gs]? =some (row (Sc.cells ⟨2020,s.loc,s.bool,s.enum,s.const,s.format,s.req,s.props,s.pats,s.deps,s.dreq,s.dsch,.nilIface⟩) 119)):
  Calls Tryz.prog 98 #[.iface 113 (.map (some g)),.pointer (some ⟨gs,0,none⟩),.bool false] w fun e w'=>∃ gu,e= .returned (.pointer (some ⟨gu,0,none⟩))∧w'.heap[gu]? =some (row #[nM,nM] 263)∧w.heap.size≤gu∧Below w.heap.size w w':=by
 have HK:=st0_ w
 have bgs:=cel_ (blk_below hS HK.out.b)
 go_enter Tryz.func98,Tryz.ntmps98
 go_wp2_with (first|((with_reducible refine gd_ 13 ?_);refine bx_ #[nM,nM] 263 ?_;clear HK bgs;intro gu wb13 HK Ggu;replace Bc:=ce1_ HK 0;have bgs:=cel_ (blk_below hS HK.out.b)))
 go_ret
 exact ⟨gu,rfl,HK.out.k.1,Ggu.out,be_⟩
theorem uneval_null (w:World) (gv gs:Nat) (ad:Addr) (cp up er:Value) (s:Sc) (hv:w.heap[gv]? =some (row (vdc (.nilIface) ad (.pointer (some ⟨gs,0,none⟩)) cp up er) 182)) (hS:w.heap[gs]? =some (row (Sc.cells ⟨2020,s.loc,s.bool,s.enum,s.const,s.format,s.req,s.props,s.pats,s.deps,s.dreq,s.dsch,.nilIface⟩) 119)):
  Calls Tryz.prog 151 #[.pointer (some ⟨gv,0,none⟩)] w (rb (.tuple #[]) w):=by
 have HK:=st0_ w
 have bgv:=cel_ (blk_below hv HK.out.b);have bgs:=cel_ (blk_below hS HK.out.b)
 go_enter Tryz.func151,Tryz.ntmps151
 go_wp2_with fail
 go_end0
 exact ⟨rfl,be_⟩
theorem uneval_bool (w:World) (gv gs:Nat) (b:Bool) (ad:Addr) (cp up er:Value) (s:Sc) (hv:w.heap[gv]? =some (row (vdc (.iface 4 (.bool b)) ad (.pointer (some ⟨gs,0,none⟩)) cp up er) 182)) (hS:w.heap[gs]? =some (row (Sc.cells ⟨2020,s.loc,s.bool,s.enum,s.const,s.format,s.req,s.props,s.pats,s.deps,s.dreq,s.dsch,.nilIface⟩) 119)):
  Calls Tryz.prog 151 #[.pointer (some ⟨gv,0,none⟩)] w (rb (.tuple #[]) w):=by
 have HK:=st0_ w
 have bgv:=cel_ (blk_below hv HK.out.b);have bgs:=cel_ (blk_below hS HK.out.b)
 go_enter Tryz.func151,Tryz.ntmps151
 go_wp2_with fail
 go_end0
 exact ⟨rfl,be_⟩
theorem uneval_text (w:World) (gv gs:Nat) (t:ByteArray) (ad:Addr) (cp up er:Value) (s:Sc) (hv:w.heap[gv]? =some (row (vdc (.iface 9 (.string t)) ad (.pointer (some ⟨gs,0,none⟩)) cp up er) 182)) (hS:w.heap[gs]? =some (row (Sc.cells ⟨2020,s.loc,s.bool,s.enum,s.const,s.format,s.req,s.props,s.pats,s.deps,s.dreq,s.dsch,.nilIface⟩) 119)):
  Calls Tryz.prog 151 #[.pointer (some ⟨gv,0,none⟩)] w (rb (.tuple #[]) w):=by
 have HK:=st0_ w
 have bgv:=cel_ (blk_below hv HK.out.b);have bgs:=cel_ (blk_below hS HK.out.b)
 go_enter Tryz.func151,Tryz.ntmps151
 go_wp2_with fail
 go_end0
 exact ⟨rfl,be_⟩
theorem uneval_array (w:World) (gv gs:Nat) (A:Option Addr) (n c:Nat) (ad:Addr) (cp up er:Value) (s:Sc) (hv:w.heap[gv]? =some (row (vdc (.iface 117 (.slice A n c)) ad (.pointer (some ⟨gs,0,none⟩)) cp up er) 182)) (hS:w.heap[gs]? =some (row (Sc.cells ⟨2020,s.loc,s.bool,s.enum,s.const,s.format,s.req,s.props,s.pats,s.deps,s.dreq,s.dsch,.nilIface⟩) 119)):
  Calls Tryz.prog 151 #[.pointer (some ⟨gv,0,none⟩)] w (rb (.tuple #[]) w):=by
 have HK:=st0_ w
 have bgv:=cel_ (blk_below hv HK.out.b);have bgs:=cel_ (blk_below hS HK.out.b)
 go_enter Tryz.func151,Tryz.ntmps151
 go_wp2_with fail
 go_end0
 exact ⟨rfl,be_⟩
theorem uneval_object (w:World) (gv gs:Nat) (g:Nat) (ad:Addr) (cp up er:Value) (s:Sc) (hv:w.heap[gv]? =some (row (vdc (.iface 113 (.map (some g))) ad (.pointer (some ⟨gs,0,none⟩)) cp up er) 182)) (hS:w.heap[gs]? =some (row (Sc.cells ⟨2020,s.loc,s.bool,s.enum,s.const,s.format,s.req,s.props,s.pats,s.deps,s.dreq,s.dsch,.nilIface⟩) 119)):
  Calls Tryz.prog 151 #[.pointer (some ⟨gv,0,none⟩)] w (rb (.tuple #[]) w):=by
 have HK:=st0_ w
 have bgv:=cel_ (blk_below hv HK.out.b);have bgs:=cel_ (blk_below hS HK.out.b)
 go_enter Tryz.func151,Tryz.ntmps151
 go_wp2_with fail
 go_end0
 exact ⟨rfl,be_⟩
end Go.Proofs.YtkphbhncpdcbeaaGreatDoor.J
namespace Go.Proofs.YtkphbhncpdcbeaaGreatDoor.J
open Go.RowKit YtkphbhncpdcbeaaGreatDoorW.PrintWords YtkphbhncpdcbeaaGreatDoorW.PrintLast YtkphbhncpdcbeaaGreatDoorW.PrintMore PJT
theorem arr_quiet (w:World) (gv gs:Nat) (vv:Value) (ad:Addr) (cp up er:Value) (s:Sc) (hv:w.heap[gv]? =some (row (vdc vv ad (.pointer (some ⟨gs,0,none⟩)) cp up er) 182)) (hS:w.heap[gs]? =some (row (Sc.cells ⟨2020,s.loc,s.bool,s.enum,s.const,s.format,s.req,s.props,s.pats,s.deps,s.dreq,s.dsch,.nilIface⟩) 119)) (A:Option Addr) (n c:Nat):
  Calls Tryz.prog 148 #[.pointer (some ⟨gv,0,none⟩),.slice A n c] w (rb (.tuple #[]) w):=by
 have HK:=st0_ w
 have bgv:=cel_ (blk_below hv HK.out.b);have bgs:=cel_ (blk_below hS HK.out.b)
 go_enter Tryz.func148,Tryz.ntmps148
 go_wp2_with (first|((with_reducible refine gd_ 237 ?_);refine cl_ #[i0,.int .i64 (n:Int)] (i0) Tryz.func182 (min_zero _ n) ?_;intro wc237 HK1;replace HK:=asd_ HK1;clear HK1;clear bgv bgs;have bgv:=cel_ (blk_below hv HK.out.b);have bgs:=cel_ (blk_below hS HK.out.b)))
 refine wp_loop_once ?_
 go_wp2_with fail
 go_end0
 exact ⟨rfl,be_⟩
theorem cond_quiet (w:World) (gv gs:Nat) (vv:Value) (ad:Addr) (cp up er:Value) (s:Sc) (hv:w.heap[gv]? =some (row (vdc vv ad (.pointer (some ⟨gs,0,none⟩)) cp up er) 182)) (hS:w.heap[gs]? =some (row (Sc.cells ⟨2020,s.loc,s.bool,s.enum,s.const,s.format,s.req,s.props,s.pats,s.deps,s.dreq,s.dsch,.nilIface⟩) 119)):
  Calls Tryz.prog 150 #[.pointer (some ⟨gv,0,none⟩)] w (rb (.tuple #[]) w):=by
 have HK:=st0_ w
 have bgv:=cel_ (blk_below hv HK.out.b);have bgs:=cel_ (blk_below hS HK.out.b)
 go_enter Tryz.func150,Tryz.ntmps150
 go_wp2_with fail
 go_end0
 exact ⟨rfl,be_⟩
theorem adderr_ok (w w0:World) (l:List Blk) (gv gs gk:Nat) (tk:TypeId) (vv:Value) (ad:Addr) (cp up:Value) (s:Sc) (H:At w0 (.b gv (row (vdc vv ad (.pointer (some ⟨gs,0,none⟩)) cp up nilS) 182)::l) w) (hgv:w0.heap.size≤gv) (hS:w0.heap[gs]? =some (row s.cells 119)):
  Calls Tryz.prog 178 #[.pointer (some ⟨gv,0,none⟩),.iface tk (.pointer (some ⟨gk,0,none⟩))] w fun e w'=>e= .returned (.tuple #[])∧∃ A c ge Ae ce,At w0 (.f (Fact.rows kPtr 76 w0.heap.size E76 (.slice A 1 c) [some ⟨ge,0,none⟩]):: .b ge (row (vec s.loc Ae ce (.iface tk (.pointer (some ⟨gk,0,none⟩))) nilS) 129):: .b gv (row (vdc vv ad (.pointer (some ⟨gs,0,none⟩)) cp up (.slice A 1 c)) 182)::l) w':=by
 have HK:=asd_ H
 clear H
 replace Bc:=ce1_ HK 0;replace Bf:=fe1_ HK 0;have bgs:=cel_ (blk_below hS HK.out.b)
 have Ggv:=asd_ hgv
 clear hgv
 go_enter Tryz.func178,Tryz.ntmps178
 refine st_ 13 (fun w'=>At w0 (.b gv (row (vdc vv ad (.pointer (some ⟨gs,0,none⟩)) cp up nilS) 182)::l) w'∧(∀ j,w'.cell? ⟨gv,j,none⟩=(vdc vv ad (.pointer (some ⟨gs,0,none⟩)) cp up nilS:Array Value)[j]?)∧(∀ j,w'.cell? ⟨gs,j,none⟩=(s.cells:Array Value)[j]?)) [12] (fun A=>⟨A,(cA_ A 0),(cel_ (blk_below hS A.b))⟩) (fun hHeld=> ?_)
 refine pu_ 0 4 1 ?_
 refine pu_ 1 5 3 ?_
 refine pu_ 2 6 7 ?_
 refine pu_ 3 7 15 ?_
 refine pu_ 5 9 47 ?_
 refine pu_ 6 10 111 ?_
 refine ta3_ 4 8 127 hHeld ?_
 refine on_ 7 11 255 (fun K hK=> ?_)
 have HE:=asd_ (hHeld.1)
 refine ge_ Tryz.func136 #[.pointer (some ⟨gv,0,none⟩),.iface tk (.pointer (some ⟨gk,0,none⟩))] ?_
 with_reducible refine (error_ok _ gv gs gk tk vv ad cp up s HE.out.top (blk_below hS HE.out.b)).mono ?_
 rintro e w3 ⟨ge,Ae,ce,rfl,hge,hgn,hb⟩
 refine ⟨_,rfl,?_⟩
 have HE0:=At.step HE.out hb
 have HE1:=asd_ (At.came HE.out hb hge hgn)
 clear hge hgn
 clear HE0
 clear HE;have HE:=HE1;clear HE1
 refine hK.out _ _ ⟨HE.out.drop,(cel_ HE.out.drop.k.1),(cel_ (blk_below hS HE.out.drop.b))⟩ (fun hHeld=> ?_)
 clear hK K
 refine nq_ 11 ?_
 refine on_ 8 12 511 (fun K hK=> ?_)
 refine new_ HE.out (by rfl) (N:=12) (by rfl) (ob:=row #[.pointer (some ⟨ge,0,none⟩)] 76) (v:=(fun b=> .slice (some ⟨b,0,none⟩) 1 1)) (by exact lit1_run Tryz.underlying127 info76 rfl rfl rfl rfl) ?_
 intro g12 w3 HE0 hgg12
 have Gg12:=asd_ hgg12
 clear hgg12
 replace HE:=asd_ HE0;clear HE0
 refine hK.out _ _ ⟨HE.out.drop.drop,(cel_ HE.out.drop.drop.k.1),(cel_ (blk_below hS HE.out.drop.drop.b))⟩ (fun hHeld=> ?_)
 clear hK K
 refine nq_ 12 ?_
 refine on_ 9 13 1023 (fun K hK=> ?_)
 refine append1n_ (hE:=E76) (p:=some ⟨ge,0,none⟩) (g:=g12) (t:=127) (s:= .tmp 8) (x:= .tmp 12) (At.front 0 HE.out rfl) (by rfl) rfl Tryz.underlying127 info76 rfl (by decide) rfl rfl (by decide) ?_
 intro A13 c13 w3 HE0
 replace HE:=asd_ HE0;clear HE0
 refine hK.out _ _ ⟨HE.out.drop.drop,(cel_ HE.out.drop.drop.k.1),(cel_ (blk_below hS HE.out.drop.drop.b))⟩ (fun hHeld=> ?_)
 clear hK K
 refine nq_ 13 ?_
 refine pu_ 10 14 2047 ?_
 refine pu_ 11 15 4095 ?_
 refine lz_ 12 8191 (fun K hK=> ?_)
 have fgv_:=fE_ HE 2
 have cgv_:=cE_ HE 2
 refine sk_ ?_
 replace HE:=asd_ (At.store_to (i:=5) (v:= .slice A13 1 c13) 2 (vdc vv ad (.pointer (some ⟨gs,0,none⟩)) cp up (.slice A13 1 c13)) HE.out rfl Ggv.out rfl rfl)
 clear fgv_ cgv_
 refine hK.out _ _ ?_
 clear hK K
 refine done_ kr_ ?_
 clear HK;have HK:=HE;clear HE
 clear hHeld
 clear bgs
 replace Bc:=ce1_ HK 2
 replace Bf:=fe1_ HK 2
 have bgs:=cel_ (blk_below hS HK.out.b)
 go_wp2_with fail
 go_end0
 exact ⟨rfl,A13,c13,ge,Ae,ce,HK.out⟩
end Go.Proofs.YtkphbhncpdcbeaaGreatDoor.J
