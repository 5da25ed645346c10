/- Part. -/
import Derived.Test.YtkphbhncpdcbeaaGreatDoorQBN
set_option linter.unusedVariables false
set_option linter.unusedSimpArgs false
set_option maxHeartbeats 8000000
set_option maxRecDepth 100000
namespace Go.Proofs.YtkphbhncpdcbeaaGreatDoor.J
open Go.RowKit YtkphbhncpdcbeaaGreatDoorW.PrintWords YtkphbhncpdcbeaaGreatDoorW.PrintLast YtkphbhncpdcbeaaGreatDoorW.PrintMore PJT
def Sch_p (names:List ByteArray) (gs:Nat) (W:World):Prop:=∃ A2 c2 gm gpp gpr gds gdr gt A3 c3,W.heap[gs]? =some (row (Sc.cells ⟨2020,⟨#[49]⟩,nP,nP,nP,nP,.slice A2 0 c2,.map (some gpr),.map (some gpp),.map (some gm),.map (some gdr),.map (some gds),.iface 167 (.pointer (some ⟨gt,0,none⟩))⟩) 119)∧W.heap[gpr]? =some (.map #[] 0)∧W.heap[gpp]? =some (.map #[] 0)∧W.heap[gm]? =some (.map #[] 0)∧W.heap[gds]? =some (.map #[] 0)∧W.heap[gdr]? =some (.map #[] 0)∧W.heap[gt]? =some (row #[.slice A3 names.length c3] 169)∧(Fact.strs (.slice A3 names.length c3) names).P W
theorem Sch_p.below (names:List ByteArray) {gs:Nat} {W W1:World} (h:Sch_p names gs W) (hb:Below W.heap.size W W1):Sch_p names gs W1:=by
 obtain ⟨A2,c2,gm,gpp,gpr,gds,gdr,gt,A3,c3,h1,h2,h3,h4,h5,h6,h7,h8⟩:=h
 exact ⟨A2,c2,gm,gpp,gpr,gds,gdr,gt,A3,c3,blk_below h1 hb,blk_below h2 hb,blk_below h3 hb,blk_below h4 hb,blk_below h5 hb,blk_below h6 hb,blk_below h7 hb,(Fact.strs _ _).below h8 hb⟩
theorem comp_p (w:World) (gn cS:Nat) {A:Option Addr} {names:List ByteArray} {c:Nat} (hr:Kd.C Kd.string w A names.length names) (hc:names.length≤c) (hlen:names.length < 8796093022208) (hS:w.heap[gn]? =some (row (ndP true A names c) 45)):Calls Tryz.prog 27 #[.slice (some ⟨gn,0,none⟩) 1 cS,.int .i64 2020] w fun e w'=>∃ v,e= .returned v∧(∃ gs,v= .pointer (some ⟨gs,0,none⟩)∧Sch_p names gs w')∧Below w.heap.size w w':=by
 refine (compiled_p w gn cS hr hc hlen (by simp [Nd.cells,Value.oneCell']) hS).mono ?_
 rintro e w' ⟨gs,A2,c2,gm,gpp,gpr,gds,gdr,gt,A3,c3,rfl,h1,h2,h3,h4,h5,h6,h7,h8,hb⟩
 exact ⟨_,rfl,⟨gs,rfl,A2,c2,gm,gpp,gpr,gds,gdr,gt,A3,c3,h1,h2,h3,h4,h5,h6,h7,h8⟩,hb⟩
theorem quiet_p (names:List ByteArray) {W0:World} {gs:Nat} {x:S25} {v:Value} (hP:Sch_p names gs W0) (hO:OutD W0 (fun _=>True) x v) (hn:names.length≤LM) (hj:x.f0=3→x.f3∈names):
  Calls Tryz.prog 28 #[.pointer (some ⟨gs,0,none⟩),v] W0 (rb .nilIface W0):=by
 obtain ⟨A2,c2,gm,gpp,gpr,gds,gdr,gt,A3,c3,h1,h2,h3,h4,h5,h6,h7,h8⟩:=hP
 obtain ⟨_,hcc,hC⟩:=strs_C h8
 refine val28_none (sch_none W0 gs v hO.one ⟨2020,⟨#[49]⟩,nP,nP,nP,nP,.slice A2 0 c2,.map (some gpr),.map (some gpp),.map (some gm),.map (some gdr),.map (some gds),.iface 167 (.pointer (some ⟨gt,0,none⟩))⟩ h1 (fun W hb=>from_out hO W gs ⟨2020,⟨#[49]⟩,nP,nP,nP,nP,.slice A2 0 c2,.map (some gpr),.map (some gpp),.map (some gm),.map (some gdr),.map (some gds),.iface 167 (.pointer (some ⟨gt,0,none⟩))⟩ (blk_below h1 hb)) (fun W l gv gc ad up H hgv=> ?_))
 cases hO with
 |null k=>exact val_p_null W W0 l gv gs gc ad up ⟨#[49]⟩ _ _ _ _ _ _ gt H hgv h1
 |bool k=>exact val_p_bool _ W W0 l gv gs gc ad up ⟨#[49]⟩ _ _ _ _ _ _ gt H hgv h1
 |text k=>exact val_p_text _ W W0 l gv gs gc ad up ⟨#[49]⟩ _ _ _ _ _ _ gt H hgv h1 (fun W l H=>str_true _ W W0 l gv gs gc ad up _ _ _ _ _ _ _ gt H hgv h1 A3 names c3 h7 hC hcc hn (hj k))
 |empty k c h0=>exact val_p_array _ _ _ W W0 l gv gs gc ad up ⟨#[49]⟩ _ _ _ _ _ _ gt H hgv h1
 |array k b c cur us hl hb h hc hs=>exact val_p_array _ _ _ W W0 l gv gs gc ad up ⟨#[49]⟩ _ _ _ _ _ _ gt H hgv h1
 |object k g es ck us hl h45 hg h M hs=>exact val_p_object _ W W0 l gv gs gc ad up ⟨#[49]⟩ _ _ _ _ _ _ gt H hgv h1 (fun W l H=>obj_quiet W W0 l gv gs g gpr gpp gm gdr gds _ ad _ up _ es ck _ x.f4 A2 c2 _ _ _ _ H hgv h1 h (by rw [← bare_mapV (h45.trans hl.symm)];exact M.bare) h2 h3 h4 h5 h6)
theorem loud_p (names:List ByteArray) {W0:World} {gs:Nat} {x:S25} {v:Value} (hP:Sch_p names gs W0) (hO:OutD W0 (fun _=>True) x v) (hn:names.length≤LM) (hk:x.f0=3) (hj:x.f3∉names):
  Calls Tryz.prog 28 #[.pointer (some ⟨gs,0,none⟩),v] W0 fun e w'=>∃ u,e= .returned u∧(∃ gr,u= .iface 76 (.pointer (some ⟨gr,0,none⟩))∧Left ⟨#[49]⟩ 315 (fun _ _=>True) gr w')∧Below W0.heap.size W0 w':=by
 obtain ⟨A2,c2,gm,gpp,gpr,gds,gdr,gt,A3,c3,h1,h2,h3,h4,h5,h6,h7,h8⟩:=hP
 obtain ⟨_,hcc,hC⟩:=strs_C h8
 refine loud_any W0 gs v hO.one ⟨2020,⟨#[49]⟩,nP,nP,nP,nP,.slice A2 0 c2,.map (some gpr),.map (some gpp),.map (some gm),.map (some gdr),.map (some gds),.iface 167 (.pointer (some ⟨gt,0,none⟩))⟩ h1 (fun W hb=>from_out hO W gs ⟨2020,⟨#[49]⟩,nP,nP,nP,nP,.slice A2 0 c2,.map (some gpr),.map (some gpp),.map (some gm),.map (some gdr),.map (some gds),.iface 167 (.pointer (some ⟨gt,0,none⟩))⟩ (blk_below h1 hb)) 315 tk_315_185 (fun W l gv gc ad up H hgv=> ?_)
 cases hO with
 |text k=>exact val_p_no _ W W0 l gv gs gc ad up ⟨#[49]⟩ _ _ _ _ _ _ gt H hgv h1 A3 names c3 h7 hC hcc hn hj
 |null k=>omega
 |bool k=>omega
 |empty k=>omega
 |array k=>omega
 |object k=>omega
theorem errors_p_none (w:World) (gn cS:Nat) (x:S25) (A4 A5:Option Addr) (c4 c5:Nat) (hx:Rep w x A4 c4 A5 c5) {A:Option Addr} {names:List ByteArray} {c:Nat} (hr:Kd.C Kd.string w A names.length names) (hc:names.length≤c) (hlen:names.length < 8796093022208) (hVx:V x) (hn:names.length≤LM) (hS:w.heap[gn]? =some (row (ndP true A names c) 45)) (hj:x.f0=3→x.f3∈names):
  Calls Tryz.prog 14 #[.slice (some ⟨gn,0,none⟩) 1 cS,.agg (jvc x A4 A5 c4 c5)] w (rb (.tuple #[.agg #[eS,eS,nilS,nilS,eS,nilS,nilS,nilS],.bool false]) w):=
 errors_none w gn cS x A4 A5 c4 c5 (fun W hb=>draft_none_d W gn cS x A4 A5 c4 c5 (Sch_p names) (fun _ _ _=>Sch_p.below _) (hx.below hb) hVx (fun W1 hb0=>comp_p W1 gn cS (Kd.C_below hr (below_step hb hb0)) hc hlen (blk_below hS (below_step hb hb0))) (fun W0 gs v hP hO=>quiet_p _ hP hO hn hj))
theorem errors_p_some (w:World) (gn cS:Nat) (x:S25) (A4 A5:Option Addr) (c4 c5:Nat) (hx:Rep w x A4 c4 A5 c5) {A:Option Addr} {names:List ByteArray} {c:Nat} (hr:Kd.C Kd.string w A names.length names) (hc:names.length≤c) (hlen:names.length < 8796093022208) (hVx:V x) (hn:names.length≤LM) (hS:w.heap[gn]? =some (row (ndP true A names c) 45)) (hk:x.f0=3) (hj:x.f3∉names):
  Calls Tryz.prog 14 #[.slice (some ⟨gn,0,none⟩) 1 cS,.agg (jvc x A4 A5 c4 c5)] w fun e w'=>Told ⟨#[49]⟩ ⟨#[80,97,116,116,101,114,110]⟩ eS [⟨#[112,97,116,116,101,114,110]⟩] [] w e w':=
 errors_some w gn cS x A4 A5 c4 c5 _ _ _ _ _ (fun W hb=>draft_some_d W gn cS x A4 A5 c4 c5 _ _ _ _ _ (Sch_p names) (fun _ _ _=>Sch_p.below _) (hx.below hb) hVx (fun W1 hb0=>comp_p W1 gn cS (Kd.C_below hr (below_step hb hb0)) hc hlen (blk_below hS (below_step hb hb0)))
  (Left ⟨#[49]⟩ 315 (fun _ _=>True)) (fun W0 gs v hP hO=>loud_p _ hP hO hn hk hj)
  (fun W gr h=>by
   obtain ⟨gk2,adc,ge,gki,Ae,ce,h1,h2,h3,_⟩:=h
   exact root_ok W gr ge gk2 _ _ _ _ _ adc 1 h1 h2 (fun W1 hb=>leaf_pattern W1 ge gki _ Ae ce (blk_below h3 hb))))
theorem set_f {A:Option Addr} {names:List ByteArray} {c:Nat} (w w0:World) (l:List Blk) (gs:Nat) (lv:Value) (own d:Int) (hown:0≤own) (H:At w0 (.b gs (row (Sc.cells ⟨0,⟨#[]⟩,nP,nP,nP,nP,nilS,nM,nM,nM,nM,nM,.nilIface⟩) 119)::l) w) (hgs:w0.heap.size≤gs)
  (hr:Kd.C Kd.string w0 A names.length names) (hc:names.length≤c) (hlen:names.length < 8796093022208):
  Calls Tryz.prog 49 #[lv,.pointer (some ⟨gs,0,none⟩),.agg (ndF true A names c),.int .i64 own,.int .i64 d] w fun e w'=>e= .returned (.tuple #[])∧∃ A2 c2 gm gpp gpr gds gdr gf gv gt A3 c3,At w0 (.b gm (.map #[] 0):: .b gs (row (Sc.cells ⟨d,⟨#[]⟩,nP,nP,nP,(.pointer (some ⟨gf,0,none⟩)),(.slice A2 0 c2),(.map (some gpr)),(.map (some gpp)),(.map (some gm)),(.map (some gdr)),(.map (some gds)),.nilIface⟩) 119):: .b gpp (.map #[] 0):: .b gpr (.map #[] 0):: .b gds (.map #[] 0):: .b gdr (.map #[] 0):: .b gf (row (#[eS,.func (.func 132) #[] #[.pointer (some ⟨gv,0,none⟩)]]) 258):: .b gv (row (#[.pointer (some ⟨gt,0,none⟩)]) 167):: .b gt (row (#[.slice A3 names.length c3]) 169):: .f (Fact.strs (.slice A3 names.length c3) names)::l) w':=by
 refine (set_any false nilS none 0 0 false nilS true (.slice A names.length c) w w0 l gs lv own d hown H hgs (fun v3 b=>v3=nP∧b=l) (fun v3 v4 b=>v4=nP∧v3=nP∧b=l) (fun v3 v4 v12 b=>v12= .nilIface∧v4=nP∧v3=nP∧b=l) (fun v3 v4 v5 v12 b=>∃ gf gv gt A3 c3,v5= .pointer (some ⟨gf,0,none⟩)∧v12= .nilIface∧v4=nP∧v3=nP∧b= .b gf (row (#[eS,.func (.func 132) #[] #[.pointer (some ⟨gv,0,none⟩)]]) 258):: .b gv (row (#[.pointer (some ⟨gt,0,none⟩)]) 167):: .b gt (row (#[.slice A3 names.length c3]) 169):: .f (Fact.strs (.slice A3 names.length c3) names)::l) (Or.inl ⟨rfl,rfl,rfl⟩) (fun v3 b h=>Or.inl ⟨rfl,rfl,h⟩) (fun v3 v4 b h=>Or.inl ⟨rfl,rfl,h⟩) (fun v3 v4 v12 b h=>Or.inr ⟨rfl,_,_,_,rfl,hr,hc,hlen,fun gf gv gt A3 c3=>⟨gf,gv,gt,A3,c3,rfl,h.1,h.2.1,h.2.2.1,by rw [h.2.2.2]⟩⟩)).mono ?_
 rintro e w' ⟨rfl,A2,c2,gm,gpp,gpr,gds,gdr,v3,v4,v5,v12,cs,⟨gf,gv,gt,A3,c3,rfl,rfl,rfl,rfl,rfl⟩,hA⟩
 exact ⟨rfl,A2,c2,gm,gpp,gpr,gds,gdr,gf,gv,gt,A3,c3,hA⟩
def Comp_f (names:List ByteArray) (w:World) (e:Ending) (w':World):Prop:=∃ gs A2 c2 gm gpp gpr gds gdr gf gv gt A3 c3,e= .returned (.pointer (some ⟨gs,0,none⟩))∧w'.heap[gs]? =some (row (Sc.cells ⟨2020,⟨#[49]⟩,nP,nP,nP,(.pointer (some ⟨gf,0,none⟩)),(.slice A2 0 c2),(.map (some gpr)),(.map (some gpp)),(.map (some gm)),(.map (some gdr)),(.map (some gds)),.nilIface⟩) 119)∧w'.heap[gpr]? =some (.map #[] 0)∧w'.heap[gpp]? =some (.map #[] 0)∧w'.heap[gm]? =some (.map #[] 0)∧w'.heap[gds]? =some (.map #[] 0)∧w'.heap[gdr]? =some (.map #[] 0)∧w'.heap[gf]? =some (row (#[eS,.func (.func 132) #[] #[.pointer (some ⟨gv,0,none⟩)]]) 258)∧w'.heap[gv]? =some (row (#[.pointer (some ⟨gt,0,none⟩)]) 167)∧w'.heap[gt]? =some (row (#[.slice A3 names.length c3]) 169)∧(Fact.strs (.slice A3 names.length c3) names).P w'∧Below w.heap.size w w'
theorem compiled_f {A:Option Addr} {names:List ByteArray} {c:Nat} (w:World) (gn cS:Nat) (hr:Kd.C Kd.string w A names.length names) (hc:names.length≤c) (hlen:names.length < 8796093022208) (hn1:(ndF true A names c).all (·.oneCell')=true) (hS:w.heap[gn]? =some (row (ndF true A names c) 45)):
  Calls Tryz.prog 27 #[.slice (some ⟨gn,0,none⟩) 1 cS,.int .i64 2020] w (Comp_f names w):=by
 refine (compiled_any false nilS none 0 0 false nilS true (.slice A names.length c) w gn cS hn1 hS (fun v3 v4 v5 v12 rest=>∃ gf gv gt A3 c3,v3=nP∧v4=nP∧v5= .pointer (some ⟨gf,0,none⟩)∧v12= .nilIface∧rest=[.b gf (row (#[eS,.func (.func 132) #[] #[.pointer (some ⟨gv,0,none⟩)]]) 258),.b gv (row (#[.pointer (some ⟨gt,0,none⟩)]) 167),.b gt (row (#[.slice A3 names.length c3]) 169),.f (Fact.strs (.slice A3 names.length c3) names)]) (fun W l gs lv own hown H hgs=>(set_f W w l gs lv own 2020 hown H hgs hr hc hlen).mono ?_)).mono ?_
 ·rintro e w' ⟨rfl,A2,c2,gm,gpp,gpr,gds,gdr,gf,gv,gt,A3,c3,hA⟩
  exact ⟨rfl,A2,c2,gm,gpp,gpr,gds,gdr,_,_,_,_,_,⟨gf,gv,gt,A3,c3,rfl,rfl,rfl,rfl,rfl⟩,At.behind [_,_,_,_] (B:=[]) (by rw [List.append_nil];exact hA)⟩
 ·rintro e w' ⟨gs,A2,c2,gm,gpp,gpr,gds,gdr,v3,v4,v5,v12,rest,rfl,⟨gf,gv,gt,A3,c3,rfl,rfl,rfl,rfl,rfl⟩,h1,h2,h3,h4,h5,h6,hk,hb⟩
  exact ⟨gs,A2,c2,gm,gpp,gpr,gds,gdr,gf,gv,gt,A3,c3,rfl,h1,h2,h3,h4,h5,h6,hk.1,hk.2.1,hk.2.2.1,hk.2.2.2.1,hb⟩
end Go.Proofs.YtkphbhncpdcbeaaGreatDoor.J
namespace Go.Proofs.YtkphbhncpdcbeaaGreatDoor.J
open Go.RowKit YtkphbhncpdcbeaaGreatDoorW.PrintWords YtkphbhncpdcbeaaGreatDoorW.PrintLast YtkphbhncpdcbeaaGreatDoorW.PrintMore PJT
attribute [local go_sem] ta_null_4 ta_null_9 ta_null_117 ta_null_113 ta_bool_4 ta_bool_9 ta_bool_117 ta_bool_113 ta_text_4 ta_text_340 ta_text_343 ta_text_3 ta_text_344 ta_text_345 ta_text_21 ta_text_2 ta_text_232 ta_text_5 ta_text_346 ta_text_324 ta_text_326 ta_text_9 ta_text_117 ta_text_113 ta_array_4 ta_array_340 ta_array_343 ta_array_3 ta_array_344 ta_array_345 ta_array_21 ta_array_2 ta_array_232 ta_array_5 ta_array_346 ta_array_324 ta_array_326 ta_array_9 ta_array_117 ta_array_113 ta_object_4 ta_object_340 ta_object_343 ta_object_3 ta_object_344 ta_object_345 ta_object_21 ta_object_2 ta_object_232 ta_object_5 ta_object_346 ta_object_324 ta_object_326 ta_object_9 ta_object_117 ta_object_113
theorem val_f_null (w w0:World) (l:List Blk) (gv gs gc:Nat) (ad:Addr) (up:Value) (loc:ByteArray) (req props pats deps dreq dsch:Value) (gf gfv:Nat) (hgf:w0.heap[gf]? =some (row #[eS,.func (.func 132) #[] #[.pointer (some ⟨gfv,0,none⟩)]] 258)) (H:At w0 (.b gv (row (vdc (.nilIface) ad (.pointer (some ⟨gs,0,none⟩)) (.pointer (some ⟨gc,0,none⟩)) up nilS) 182):: .b gc (row (#[.pointer (some ⟨gs,0,none⟩),eS,i0,nP]) 178)::l) w) (hgv:w0.heap.size≤gv) (hS:w0.heap[gs]? =some (row (Sc.cells ⟨2020,loc,nP,nP,nP,.pointer (some ⟨gf,0,none⟩),req,props,pats,deps,dreq,dsch,.nilIface⟩) 119)) (hF:∀ W,Below w0.heap.size w0 W→Calls Tryz.prog 132 #[.nilIface,.pointer (some ⟨gfv,0,none⟩)] W (rb (.nilIface) W)):
  Calls Tryz.prog 99 #[.pointer (some ⟨gv,0,none⟩)] w fun e w'=>e= .returned (.tuple #[up,.nilIface])∧At w0 (.b gv (row (vdc (.nilIface) ad (.pointer (some ⟨gs,0,none⟩)) (.pointer (some ⟨gc,0,none⟩)) up nilS) 182):: .b gc (row (#[.pointer (some ⟨gs,0,none⟩),eS,i0,nP]) 178)::l) w':=by
 have HF:=asd_ hF
 clear hF
 have HK:=asd_ H
 clear H
 replace Bc:=ce2_ HK 1 0;replace Bf:=fe1_ HK 0;have bgs:=cel_ (blk_below hS HK.out.b);have bgf:=cel_ (blk_below hgf HK.out.b)
 have Ggv:=asd_ hgv
 clear hgv
 go_enter Tryz.func99,Tryz.ntmps99
 go_wp2_with (first|(go_at_call 132;refine (HF.out _ HK.out.b).mono ?_;rintro e wf234 ⟨rfl,hb⟩;have HK1:=At.step at_ hb;clear hb;replace HK:=asd_ HK1;clear HK1;clear bgs bgf;replace Bc:=ce2_ HK 1 0;replace Bf:=fe1_ HK 0;have bgs:=cel_ (blk_below hS HK.out.b);have bgf:=cel_ (blk_below hgf HK.out.b))|((first|((with_reducible refine gd_ 55 ?_);refine cl_ #[.pointer (some ⟨gc,0,none⟩)] (nP) Tryz.func137 (cycle_none _ gc gs (HK.out.k.2.1)) ?_)|((with_reducible refine gd_ 76 ?_);refine cl_ #[.nilIface] (.int .i64 2) Tryz.func139 (type_null _) ?_)|((with_reducible refine gd_ 311 ?_);refine cl_ #[.pointer (some ⟨gv,0,none⟩)] (.tuple #[]) Tryz.func150 (cond_quiet_g _ gv gs (.nilIface) ad (.pointer (some ⟨gc,0,none⟩)) up nilS ⟨2020,loc,nP,nP,nP,.pointer (some ⟨gf,0,none⟩),req,props,pats,deps,dreq,dsch,.nilIface⟩ (HK.out.k.1) (blk_below hS HK.out.b)) ?_)|((with_reducible refine gd_ 318 ?_);refine cl_ #[.pointer (some ⟨gv,0,none⟩)] (.tuple #[]) Tryz.func151 (uneval_null_g _ gv gs ad (.pointer (some ⟨gc,0,none⟩)) up nilS ⟨2020,loc,nP,nP,nP,.pointer (some ⟨gf,0,none⟩),req,props,pats,deps,dreq,dsch,.nilIface⟩ (HK.out.k.1) (blk_below hS HK.out.b)) ?_));intro wc55 HK1;replace HK:=asd_ HK1;clear HK1;clear bgs bgf;replace Bc:=ce2_ HK 1 0;replace Bf:=fe1_ HK 0;have bgs:=cel_ (blk_below hS HK.out.b);have bgf:=cel_ (blk_below hgf HK.out.b)))
 go_ret2
 exact ⟨rfl,HK.out⟩
theorem val_f_bool (b:Bool) (w w0:World) (l:List Blk) (gv gs gc:Nat) (ad:Addr) (up:Value) (loc:ByteArray) (req props pats deps dreq dsch:Value) (gf gfv:Nat) (hgf:w0.heap[gf]? =some (row #[eS,.func (.func 132) #[] #[.pointer (some ⟨gfv,0,none⟩)]] 258)) (H:At w0 (.b gv (row (vdc (.iface 4 (.bool b)) ad (.pointer (some ⟨gs,0,none⟩)) (.pointer (some ⟨gc,0,none⟩)) up nilS) 182):: .b gc (row (#[.pointer (some ⟨gs,0,none⟩),eS,i0,nP]) 178)::l) w) (hgv:w0.heap.size≤gv) (hS:w0.heap[gs]? =some (row (Sc.cells ⟨2020,loc,nP,nP,nP,.pointer (some ⟨gf,0,none⟩),req,props,pats,deps,dreq,dsch,.nilIface⟩) 119)) (hF:∀ W,Below w0.heap.size w0 W→Calls Tryz.prog 132 #[.iface 4 (.bool b),.pointer (some ⟨gfv,0,none⟩)] W (rb (.nilIface) W)):
  Calls Tryz.prog 99 #[.pointer (some ⟨gv,0,none⟩)] w fun e w'=>e= .returned (.tuple #[up,.nilIface])∧At w0 (.b gv (row (vdc (.iface 4 (.bool b)) ad (.pointer (some ⟨gs,0,none⟩)) (.pointer (some ⟨gc,0,none⟩)) up nilS) 182):: .b gc (row (#[.pointer (some ⟨gs,0,none⟩),eS,i0,nP]) 178)::l) w':=by
 have HF:=asd_ hF
 clear hF
 have HK:=asd_ H
 clear H
 replace Bc:=ce2_ HK 1 0;replace Bf:=fe1_ HK 0;have bgs:=cel_ (blk_below hS HK.out.b);have bgf:=cel_ (blk_below hgf HK.out.b)
 have Ggv:=asd_ hgv
 clear hgv
 go_enter Tryz.func99,Tryz.ntmps99
 go_wp2_with (first|(go_at_call 132;refine (HF.out _ HK.out.b).mono ?_;rintro e wf234 ⟨rfl,hb⟩;have HK1:=At.step at_ hb;clear hb;replace HK:=asd_ HK1;clear HK1;clear bgs bgf;replace Bc:=ce2_ HK 1 0;replace Bf:=fe1_ HK 0;have bgs:=cel_ (blk_below hS HK.out.b);have bgf:=cel_ (blk_below hgf HK.out.b))|((first|((with_reducible refine gd_ 55 ?_);refine cl_ #[.pointer (some ⟨gc,0,none⟩)] (nP) Tryz.func137 (cycle_none _ gc gs (HK.out.k.2.1)) ?_)|((with_reducible refine gd_ 76 ?_);refine cl_ #[.iface 4 (.bool b)] (.int .i64 4) Tryz.func139 (type_bool _ b) ?_)|((with_reducible refine gd_ 311 ?_);refine cl_ #[.pointer (some ⟨gv,0,none⟩)] (.tuple #[]) Tryz.func150 (cond_quiet_g _ gv gs (.iface 4 (.bool b)) ad (.pointer (some ⟨gc,0,none⟩)) up nilS ⟨2020,loc,nP,nP,nP,.pointer (some ⟨gf,0,none⟩),req,props,pats,deps,dreq,dsch,.nilIface⟩ (HK.out.k.1) (blk_below hS HK.out.b)) ?_)|((with_reducible refine gd_ 318 ?_);refine cl_ #[.pointer (some ⟨gv,0,none⟩)] (.tuple #[]) Tryz.func151 (uneval_bool_g _ gv gs b ad (.pointer (some ⟨gc,0,none⟩)) up nilS ⟨2020,loc,nP,nP,nP,.pointer (some ⟨gf,0,none⟩),req,props,pats,deps,dreq,dsch,.nilIface⟩ (HK.out.k.1) (blk_below hS HK.out.b)) ?_));intro wc55 HK1;replace HK:=asd_ HK1;clear HK1;clear bgs bgf;replace Bc:=ce2_ HK 1 0;replace Bf:=fe1_ HK 0;have bgs:=cel_ (blk_below hS HK.out.b);have bgf:=cel_ (blk_below hgf HK.out.b)))
 go_ret2
 exact ⟨rfl,HK.out⟩
theorem val_f_text (t:ByteArray) (w w0:World) (l:List Blk) (gv gs gc:Nat) (ad:Addr) (up:Value) (loc:ByteArray) (req props pats deps dreq dsch:Value) (gf gfv:Nat) (hgf:w0.heap[gf]? =some (row #[eS,.func (.func 132) #[] #[.pointer (some ⟨gfv,0,none⟩)]] 258)) (H:At w0 (.b gv (row (vdc (.iface 9 (.string t)) ad (.pointer (some ⟨gs,0,none⟩)) (.pointer (some ⟨gc,0,none⟩)) up nilS) 182):: .b gc (row (#[.pointer (some ⟨gs,0,none⟩),eS,i0,nP]) 178)::l) w) (hgv:w0.heap.size≤gv) (hS:w0.heap[gs]? =some (row (Sc.cells ⟨2020,loc,nP,nP,nP,.pointer (some ⟨gf,0,none⟩),req,props,pats,deps,dreq,dsch,.nilIface⟩) 119)) (hF:∀ W,Below w0.heap.size w0 W→Calls Tryz.prog 132 #[.iface 9 (.string t),.pointer (some ⟨gfv,0,none⟩)] W (rb (.nilIface) W)):
  Calls Tryz.prog 99 #[.pointer (some ⟨gv,0,none⟩)] w fun e w'=>e= .returned (.tuple #[up,.nilIface])∧At w0 (.b gv (row (vdc (.iface 9 (.string t)) ad (.pointer (some ⟨gs,0,none⟩)) (.pointer (some ⟨gc,0,none⟩)) up nilS) 182):: .b gc (row (#[.pointer (some ⟨gs,0,none⟩),eS,i0,nP]) 178)::l) w':=by
 have HF:=asd_ hF
 clear hF
 have HK:=asd_ H
 clear H
 replace Bc:=ce2_ HK 1 0;replace Bf:=fe1_ HK 0;have bgs:=cel_ (blk_below hS HK.out.b);have bgf:=cel_ (blk_below hgf HK.out.b)
 have Ggv:=asd_ hgv
 clear hgv
 go_enter Tryz.func99,Tryz.ntmps99
 go_wp2_with (first|(go_at_call 132;refine (HF.out _ HK.out.b).mono ?_;rintro e wf234 ⟨rfl,hb⟩;have HK1:=At.step at_ hb;clear hb;replace HK:=asd_ HK1;clear HK1;clear bgs bgf;replace Bc:=ce2_ HK 1 0;replace Bf:=fe1_ HK 0;have bgs:=cel_ (blk_below hS HK.out.b);have bgf:=cel_ (blk_below hgf HK.out.b))|((first|((with_reducible refine gd_ 55 ?_);refine cl_ #[.pointer (some ⟨gc,0,none⟩)] (nP) Tryz.func137 (cycle_none _ gc gs (HK.out.k.2.1)) ?_)|((with_reducible refine gd_ 76 ?_);refine cl_ #[.iface 9 (.string t)] (.int .i64 32) Tryz.func139 (type_text _ t) ?_)|((with_reducible refine gd_ 296 ?_);refine cl_ #[.pointer (some ⟨gv,0,none⟩),.string t] (.tuple #[]) Tryz.func149 (str_quiet _ gv gs (.iface 9 (.string t)) ad (.pointer (some ⟨gc,0,none⟩)) up nilS ⟨2020,loc,nP,nP,nP,.pointer (some ⟨gf,0,none⟩),req,props,pats,deps,dreq,dsch,.nilIface⟩ (HK.out.k.1) (blk_below hS HK.out.b) t) ?_)|((with_reducible refine gd_ 311 ?_);refine cl_ #[.pointer (some ⟨gv,0,none⟩)] (.tuple #[]) Tryz.func150 (cond_quiet_g _ gv gs (.iface 9 (.string t)) ad (.pointer (some ⟨gc,0,none⟩)) up nilS ⟨2020,loc,nP,nP,nP,.pointer (some ⟨gf,0,none⟩),req,props,pats,deps,dreq,dsch,.nilIface⟩ (HK.out.k.1) (blk_below hS HK.out.b)) ?_)|((with_reducible refine gd_ 318 ?_);refine cl_ #[.pointer (some ⟨gv,0,none⟩)] (.tuple #[]) Tryz.func151 (uneval_text_g _ gv gs t ad (.pointer (some ⟨gc,0,none⟩)) up nilS ⟨2020,loc,nP,nP,nP,.pointer (some ⟨gf,0,none⟩),req,props,pats,deps,dreq,dsch,.nilIface⟩ (HK.out.k.1) (blk_below hS HK.out.b)) ?_));intro wc55 HK1;replace HK:=asd_ HK1;clear HK1;clear bgs bgf;replace Bc:=ce2_ HK 1 0;replace Bf:=fe1_ HK 0;have bgs:=cel_ (blk_below hS HK.out.b);have bgf:=cel_ (blk_below hgf HK.out.b)))
 go_ret2
 exact ⟨rfl,HK.out⟩
theorem val_f_array (A:Option Addr) (n c:Nat) (w w0:World) (l:List Blk) (gv gs gc:Nat) (ad:Addr) (up:Value) (loc:ByteArray) (req props pats deps dreq dsch:Value) (gf gfv:Nat) (hgf:w0.heap[gf]? =some (row #[eS,.func (.func 132) #[] #[.pointer (some ⟨gfv,0,none⟩)]] 258)) (H:At w0 (.b gv (row (vdc (.iface 117 (.slice A n c)) ad (.pointer (some ⟨gs,0,none⟩)) (.pointer (some ⟨gc,0,none⟩)) up nilS) 182):: .b gc (row (#[.pointer (some ⟨gs,0,none⟩),eS,i0,nP]) 178)::l) w) (hgv:w0.heap.size≤gv) (hS:w0.heap[gs]? =some (row (Sc.cells ⟨2020,loc,nP,nP,nP,.pointer (some ⟨gf,0,none⟩),req,props,pats,deps,dreq,dsch,.nilIface⟩) 119)) (hF:∀ W,Below w0.heap.size w0 W→Calls Tryz.prog 132 #[.iface 117 (.slice A n c),.pointer (some ⟨gfv,0,none⟩)] W (rb (.nilIface) W)):
  Calls Tryz.prog 99 #[.pointer (some ⟨gv,0,none⟩)] w fun e w'=>e= .returned (.tuple #[up,.nilIface])∧At w0 (.b gv (row (vdc (.iface 117 (.slice A n c)) ad (.pointer (some ⟨gs,0,none⟩)) (.pointer (some ⟨gc,0,none⟩)) up nilS) 182):: .b gc (row (#[.pointer (some ⟨gs,0,none⟩),eS,i0,nP]) 178)::l) w':=by
 have HF:=asd_ hF
 clear hF
 have HK:=asd_ H
 clear H
 replace Bc:=ce2_ HK 1 0;replace Bf:=fe1_ HK 0;have bgs:=cel_ (blk_below hS HK.out.b);have bgf:=cel_ (blk_below hgf HK.out.b)
 have Ggv:=asd_ hgv
 clear hgv
 go_enter Tryz.func99,Tryz.ntmps99
 go_wp2_with (first|(go_at_call 132;refine (HF.out _ HK.out.b).mono ?_;rintro e wf234 ⟨rfl,hb⟩;have HK1:=At.step at_ hb;clear hb;replace HK:=asd_ HK1;clear HK1;clear bgs bgf;replace Bc:=ce2_ HK 1 0;replace Bf:=fe1_ HK 0;have bgs:=cel_ (blk_below hS HK.out.b);have bgf:=cel_ (blk_below hgf HK.out.b))|((first|((with_reducible refine gd_ 55 ?_);refine cl_ #[.pointer (some ⟨gc,0,none⟩)] (nP) Tryz.func137 (cycle_none _ gc gs (HK.out.k.2.1)) ?_)|((with_reducible refine gd_ 76 ?_);refine cl_ #[.iface 117 (.slice A n c)] (.int .i64 64) Tryz.func139 (type_array _ A n c) ?_)|((with_reducible refine gd_ 290 ?_);refine cl_ #[.pointer (some ⟨gv,0,none⟩),.slice A n c] (.tuple #[]) Tryz.func148 (arr_quiet_g _ gv gs (.iface 117 (.slice A n c)) ad (.pointer (some ⟨gc,0,none⟩)) up nilS ⟨2020,loc,nP,nP,nP,.pointer (some ⟨gf,0,none⟩),req,props,pats,deps,dreq,dsch,.nilIface⟩ (HK.out.k.1) (blk_below hS HK.out.b) A n c) ?_)|((with_reducible refine gd_ 311 ?_);refine cl_ #[.pointer (some ⟨gv,0,none⟩)] (.tuple #[]) Tryz.func150 (cond_quiet_g _ gv gs (.iface 117 (.slice A n c)) ad (.pointer (some ⟨gc,0,none⟩)) up nilS ⟨2020,loc,nP,nP,nP,.pointer (some ⟨gf,0,none⟩),req,props,pats,deps,dreq,dsch,.nilIface⟩ (HK.out.k.1) (blk_below hS HK.out.b)) ?_)|((with_reducible refine gd_ 318 ?_);refine cl_ #[.pointer (some ⟨gv,0,none⟩)] (.tuple #[]) Tryz.func151 (uneval_array_g _ gv gs A n c ad (.pointer (some ⟨gc,0,none⟩)) up nilS ⟨2020,loc,nP,nP,nP,.pointer (some ⟨gf,0,none⟩),req,props,pats,deps,dreq,dsch,.nilIface⟩ (HK.out.k.1) (blk_below hS HK.out.b)) ?_));intro wc55 HK1;replace HK:=asd_ HK1;clear HK1;clear bgs bgf;replace Bc:=ce2_ HK 1 0;replace Bf:=fe1_ HK 0;have bgs:=cel_ (blk_below hS HK.out.b);have bgf:=cel_ (blk_below hgf HK.out.b)))
 go_ret2
 exact ⟨rfl,HK.out⟩
theorem val_f_object (g:Nat) (w w0:World) (l:List Blk) (gv gs gc:Nat) (ad:Addr) (up:Value) (loc:ByteArray) (req props pats deps dreq dsch:Value) (gf gfv:Nat) (hgf:w0.heap[gf]? =some (row #[eS,.func (.func 132) #[] #[.pointer (some ⟨gfv,0,none⟩)]] 258)) (H:At w0 (.b gv (row (vdc (.iface 113 (.map (some g))) ad (.pointer (some ⟨gs,0,none⟩)) (.pointer (some ⟨gc,0,none⟩)) up nilS) 182):: .b gc (row (#[.pointer (some ⟨gs,0,none⟩),eS,i0,nP]) 178)::l) w) (hgv:w0.heap.size≤gv) (hS:w0.heap[gs]? =some (row (Sc.cells ⟨2020,loc,nP,nP,nP,.pointer (some ⟨gf,0,none⟩),req,props,pats,deps,dreq,dsch,.nilIface⟩) 119)) (hF:∀ W,Below w0.heap.size w0 W→Calls Tryz.prog 132 #[.iface 113 (.map (some g)),.pointer (some ⟨gfv,0,none⟩)] W (rb (.nilIface) W)) (hO:∀ W l,At w0 (.b gv (row (vdc (.iface 113 (.map (some g))) ad (.pointer (some ⟨gs,0,none⟩)) (.pointer (some ⟨gc,0,none⟩)) up nilS) 182)::l) W→Calls Tryz.prog 147 #[.pointer (some ⟨gv,0,none⟩),.map (some g)] W fun e w'=>e= .returned (.tuple #[])∧At w0 (.b gv (row (vdc (.iface 113 (.map (some g))) ad (.pointer (some ⟨gs,0,none⟩)) (.pointer (some ⟨gc,0,none⟩)) up nilS) 182)::l) w'):
  Calls Tryz.prog 99 #[.pointer (some ⟨gv,0,none⟩)] w fun e w'=>e= .returned (.tuple #[up,.nilIface])∧At w0 (.b gv (row (vdc (.iface 113 (.map (some g))) ad (.pointer (some ⟨gs,0,none⟩)) (.pointer (some ⟨gc,0,none⟩)) up nilS) 182):: .b gc (row (#[.pointer (some ⟨gs,0,none⟩),eS,i0,nP]) 178)::l) w':=by
 have HF:=asd_ hF
 have HO:=asd_ hO
 clear hF hO
 have HK:=asd_ H
 clear H
 replace Bc:=ce2_ HK 1 0;replace Bf:=fe1_ HK 0;have bgs:=cel_ (blk_below hS HK.out.b);have bgf:=cel_ (blk_below hgf HK.out.b)
 have Ggv:=asd_ hgv
 clear hgv
 go_enter Tryz.func99,Tryz.ntmps99
 go_wp2_with (first|(go_at_call 132;refine (HF.out _ HK.out.b).mono ?_;rintro e wf234 ⟨rfl,hb⟩;have HK1:=At.step at_ hb;clear hb;replace HK:=asd_ HK1;clear HK1;clear bgs bgf;replace Bc:=ce2_ HK 1 0;replace Bf:=fe1_ HK 0;have bgs:=cel_ (blk_below hS HK.out.b);have bgf:=cel_ (blk_below hgf HK.out.b))|((first|((with_reducible refine gd_ 55 ?_);refine cl_ #[.pointer (some ⟨gc,0,none⟩)] (nP) Tryz.func137 (cycle_none _ gc gs (HK.out.k.2.1)) ?_)|((with_reducible refine gd_ 76 ?_);refine cl_ #[.iface 113 (.map (some g))] (.int .i64 128) Tryz.func139 (type_object _ g) ?_)|((with_reducible refine gd_ 284 ?_);refine call_to #[.pointer (some ⟨gv,0,none⟩),.map (some g)] (.tuple #[]) _ rfl Tryz.func147 kr_ rfl rfl ar_ (HO.out _ _ HK.out) ?_)|((with_reducible refine gd_ 311 ?_);refine cl_ #[.pointer (some ⟨gv,0,none⟩)] (.tuple #[]) Tryz.func150 (cond_quiet_g _ gv gs (.iface 113 (.map (some g))) ad (.pointer (some ⟨gc,0,none⟩)) up nilS ⟨2020,loc,nP,nP,nP,.pointer (some ⟨gf,0,none⟩),req,props,pats,deps,dreq,dsch,.nilIface⟩ (HK.out.k.1) (blk_below hS HK.out.b)) ?_)|((with_reducible refine gd_ 318 ?_);refine cl_ #[.pointer (some ⟨gv,0,none⟩)] (.tuple #[]) Tryz.func151 (uneval_object_g _ gv gs g ad (.pointer (some ⟨gc,0,none⟩)) up nilS ⟨2020,loc,nP,nP,nP,.pointer (some ⟨gf,0,none⟩),req,props,pats,deps,dreq,dsch,.nilIface⟩ (HK.out.k.1) (blk_below hS HK.out.b)) ?_));intro wc55 HK1;replace HK:=asd_ HK1;clear HK1;clear bgs bgf;replace Bc:=ce2_ HK 1 0;replace Bf:=fe1_ HK 0;have bgs:=cel_ (blk_below hS HK.out.b);have bgf:=cel_ (blk_below hgf HK.out.b)))
 go_ret2
 exact ⟨rfl,HK.out⟩
theorem val_f_no (vv:Value) (hvv:vv.oneCell'=true) (ty:Int) (hty:ty≠0) (w w0:World) (l:List Blk) (gv gs gc:Nat) (ad:Addr) (up:Value) (loc:ByteArray) (req props pats deps dreq dsch:Value) (gf gfv:Nat) (hgf:w0.heap[gf]? =some (row #[eS,.func (.func 132) #[] #[.pointer (some ⟨gfv,0,none⟩)]] 258)) (H:At w0 (.b gv (row (vdc (vv) ad (.pointer (some ⟨gs,0,none⟩)) (.pointer (some ⟨gc,0,none⟩)) up nilS) 182):: .b gc (row (#[.pointer (some ⟨gs,0,none⟩),eS,i0,nP]) 178)::l) w) (hgv:w0.heap.size≤gv) (hS:w0.heap[gs]? =some (row (Sc.cells ⟨2020,loc,nP,nP,nP,.pointer (some ⟨gf,0,none⟩),req,props,pats,deps,dreq,dsch,.nilIface⟩) 119)) (hT:∀ W:World,Calls Tryz.prog 139 #[vv] W (rb (.int .i64 ty) W)) (hF:∀ W,Below w0.heap.size w0 W→Calls Tryz.prog 132 #[vv,.pointer (some ⟨gfv,0,none⟩)] W fun e w'=>∃ g:Nat,e= .returned (.iface 332 (.pointer (some ⟨g,0,none⟩)))∧Below W.heap.size W w'):
  Calls Tryz.prog 99 #[.pointer (some ⟨gv,0,none⟩)] w fun e w'=>∃ ge gki Ae ce Y,e= .returned (.tuple #[nP,.iface 76 (.pointer (some ⟨ge,0,none⟩))])∧At w0 (.b ge (row (vec loc Ae ce (.iface 289 (.pointer (some ⟨gki,0,none⟩))) nilS) 129)::Y) w':=by
 have HT:=asd_ hT
 have HF:=asd_ hF
 clear hT hF
 have hd0:(ty == 0)=false:=by simpa using hty
 have hm:=cells_one hvv;unfold Value.cells at hm;have Hvv:=asd_ hvv;clear hvv
 have HK:=asd_ H
 clear H
 replace Bc:=ce2_ HK 1 0;replace Bf:=fe1_ HK 0;have bgs:=cel_ (blk_below hS HK.out.b);have bgf:=cel_ (blk_below hgf HK.out.b)
 have Ggv:=asd_ hgv
 clear hgv
 go_enter Tryz.func99,Tryz.ntmps99
 go_wp2_with (first|(go_at_call 132;refine (HF.out _ HK.out.b).mono ?_;rintro e wf234 ⟨gx,rfl,hb⟩;have HK1:=At.step at_ hb;clear hb;replace HK:=asd_ HK1;clear HK1;clear bgs bgf;replace Bc:=ce2_ HK 1 0;replace Bf:=fe1_ HK 0;have bgs:=cel_ (blk_below hS HK.out.b);have bgf:=cel_ (blk_below hgf HK.out.b))|((with_reducible refine gd_ 248 ?_);refine bx_ #[vv,eS,.iface 332 (.pointer (some ⟨gx,0,none⟩))] 291 ?_;clear HK bgs bgf;intro gki wb248 HK Ggki;replace Bc:=ce3_ HK 2 1 0;replace Bf:=fe1_ HK 1;have bgs:=cel_ (blk_below hS HK.out.b);have bgf:=cel_ (blk_below hgf HK.out.b))|((with_reducible refine gd_ 250 ?_);refine cw_ #[.pointer (some ⟨gv,0,none⟩),.iface 289 (.pointer (some ⟨gki,0,none⟩))] Tryz.func136 (error_form (error_ok _ gv gs gki 289 (vv) ad (.pointer (some ⟨gc,0,none⟩)) up ⟨2020,loc,nP,nP,nP,.pointer (some ⟨gf,0,none⟩),req,props,pats,deps,dreq,dsch,.nilIface⟩ (HK.out.k.2.1) (blk_below hS HK.out.b))) ?_;rintro v250 wc250 HK0 ⟨ge,Ae,ce,rfl,hge,hgn⟩ hB;have HK1:=At.came at_ hB hge hgn;clear HK0 hge hgn hB;replace HK:=asd_ HK1;clear HK1;clear bgs bgf;replace Bc:=ce3_ HK 3 2 1;replace Bf:=fe1_ HK 2;have bgs:=cel_ (blk_below hS HK.out.b);have bgf:=cel_ (blk_below hgf HK.out.b))|((first|((with_reducible refine gd_ 55 ?_);refine cl_ #[.pointer (some ⟨gc,0,none⟩)] (nP) Tryz.func137 (cycle_none _ gc gs (HK.out.k.2.1)) ?_)|((with_reducible refine gd_ 76 ?_);refine cl_ #[vv] (.int .i64 ty) Tryz.func139 (HT.out _) ?_));intro wc55 HK1;replace HK:=asd_ HK1;clear HK1;clear bgs bgf;replace Bc:=ce2_ HK 1 0;replace Bf:=fe1_ HK 0;have bgs:=cel_ (blk_below hS HK.out.b);have bgf:=cel_ (blk_below hgf HK.out.b)))
 go_ret2
 exact ⟨ge,rfl,gki,Ae,ce,_,HK.out⟩
end Go.Proofs.YtkphbhncpdcbeaaGreatDoor.J
namespace Go.Proofs.YtkphbhncpdcbeaaGreatDoor.J
open Go.RowKit YtkphbhncpdcbeaaGreatDoorW.PrintWords YtkphbhncpdcbeaaGreatDoorW.PrintLast YtkphbhncpdcbeaaGreatDoorW.PrintMore PJT
def Sch_f (names:List ByteArray) (gs:Nat) (W:World):Prop:=∃ A2 c2 gm gpp gpr gds gdr gf gv gt A3 c3,W.heap[gs]? =some (row (Sc.cells ⟨2020,⟨#[49]⟩,nP,nP,nP,.pointer (some ⟨gf,0,none⟩),.slice A2 0 c2,.map (some gpr),.map (some gpp),.map (some gm),.map (some gdr),.map (some gds),.nilIface⟩) 119)∧W.heap[gpr]? =some (.map #[] 0)∧W.heap[gpp]? =some (.map #[] 0)∧W.heap[gm]? =some (.map #[] 0)∧W.heap[gds]? =some (.map #[] 0)∧W.heap[gdr]? =some (.map #[] 0)∧W.heap[gf]? =some (row #[eS,.func (.func 132) #[] #[.pointer (some ⟨gv,0,none⟩)]] 258)∧W.heap[gv]? =some (row #[.pointer (some ⟨gt,0,none⟩)] 167)∧W.heap[gt]? =some (row #[.slice A3 names.length c3] 169)∧(Fact.strs (.slice A3 names.length c3) names).P W
theorem Sch_f.below (names:List ByteArray) {gs:Nat} {W W1:World} (h:Sch_f names gs W) (hb:Below W.heap.size W W1):Sch_f names gs W1:=by
 obtain ⟨A2,c2,gm,gpp,gpr,gds,gdr,gf,gv,gt,A3,c3,h1,h2,h3,h4,h5,h6,h7,h8,h9,h10⟩:=h
 exact ⟨A2,c2,gm,gpp,gpr,gds,gdr,gf,gv,gt,A3,c3,blk_below h1 hb,blk_below h2 hb,blk_below h3 hb,blk_below h4 hb,blk_below h5 hb,blk_below h6 hb,blk_below h7 hb,blk_below h8 hb,blk_below h9 hb,(Fact.strs _ _).below h10 hb⟩
theorem comp_f (w:World) (gn cS:Nat) {A:Option Addr} {names:List ByteArray} {c:Nat} (hr:Kd.C Kd.string w A names.length names) (hc:names.length≤c) (hlen:names.length < 8796093022208) (hS:w.heap[gn]? =some (row (ndF true A names c) 45)):Calls Tryz.prog 27 #[.slice (some ⟨gn,0,none⟩) 1 cS,.int .i64 2020] w fun e w'=>∃ v,e= .returned v∧(∃ gs,v= .pointer (some ⟨gs,0,none⟩)∧Sch_f names gs w')∧Below w.heap.size w w':=by
 refine (compiled_f w gn cS hr hc hlen (by simp [Nd.cells,Value.oneCell']) hS).mono ?_
 rintro e w' ⟨gs,A2,c2,gm,gpp,gpr,gds,gdr,gf,gv,gt,A3,c3,rfl,h1,h2,h3,h4,h5,h6,h7,h8,h9,h10,hb⟩
 exact ⟨_,rfl,⟨gs,rfl,A2,c2,gm,gpp,gpr,gds,gdr,gf,gv,gt,A3,c3,h1,h2,h3,h4,h5,h6,h7,h8,h9,h10⟩,hb⟩
theorem quiet_f (names:List ByteArray) {W0:World} {gs:Nat} {x:S25} {v:Value} (hP:Sch_f names gs W0) (hO:OutD W0 (fun _=>True) x v) (hn:names.length≤LM) (hj:x.f0=3→x.f3∈names):
  Calls Tryz.prog 28 #[.pointer (some ⟨gs,0,none⟩),v] W0 (rb .nilIface W0):=by
 obtain ⟨A2,c2,gm,gpp,gpr,gds,gdr,gf,gv0,gt,A3,c3,h1,h2,h3,h4,h5,h6,h7,h8,h9,h10⟩:=hP
 obtain ⟨_,hcc,hC⟩:=strs_C h10
 refine val28_none (sch_none W0 gs v hO.one ⟨2020,⟨#[49]⟩,nP,nP,nP,.pointer (some ⟨gf,0,none⟩),.slice A2 0 c2,.map (some gpr),.map (some gpp),.map (some gm),.map (some gdr),.map (some gds),.nilIface⟩ h1 (fun W hb=>from_out hO W gs ⟨2020,⟨#[49]⟩,nP,nP,nP,.pointer (some ⟨gf,0,none⟩),.slice A2 0 c2,.map (some gpr),.map (some gpp),.map (some gm),.map (some gdr),.map (some gds),.nilIface⟩ (blk_below h1 hb)) (fun W l gv gc ad up H hgv=> ?_))
 cases hO with
 |null k=>exact val_f_null W W0 l gv gs gc ad up ⟨#[49]⟩ _ _ _ _ _ _ gf gv0 h7 H hgv h1 (fun W hb=>format_null W gv0)
 |bool k=>exact val_f_bool _ W W0 l gv gs gc ad up ⟨#[49]⟩ _ _ _ _ _ _ gf gv0 h7 H hgv h1 (fun W hb=>format_bool W gv0 _)
 |text k=>exact val_f_text _ W W0 l gv gs gc ad up ⟨#[49]⟩ _ _ _ _ _ _ gf gv0 h7 H hgv h1 (fun W hb=>format_text_true W gv0 gt _ (Kd.C_below hC hb) hcc hn (blk_below h9 hb) (blk_below h8 hb) (hj k))
 |empty k c h0=>exact val_f_array _ _ _ W W0 l gv gs gc ad up ⟨#[49]⟩ _ _ _ _ _ _ gf gv0 h7 H hgv h1 (fun W hb=>format_array W gv0 _ _ _)
 |array k b c cur us hl hb h hc hs=>exact val_f_array _ _ _ W W0 l gv gs gc ad up ⟨#[49]⟩ _ _ _ _ _ _ gf gv0 h7 H hgv h1 (fun W hb=>format_array W gv0 _ _ _)
 |object k g es ck us hl h45 hg h M hs=>exact val_f_object _ W W0 l gv gs gc ad up ⟨#[49]⟩ _ _ _ _ _ _ gf gv0 h7 H hgv h1 (fun W hb=>format_object W gv0 _) (fun W l H=>obj_quiet W W0 l gv gs g gpr gpp gm gdr gds _ ad _ up _ es ck _ x.f4 A2 c2 _ _ _ _ H hgv h1 h (by rw [← bare_mapV (h45.trans hl.symm)];exact M.bare) h2 h3 h4 h5 h6)
theorem loud_f (names:List ByteArray) {W0:World} {gs:Nat} {x:S25} {v:Value} (hP:Sch_f names gs W0) (hO:OutD W0 (fun _=>True) x v) (hn:names.length≤LM) (hk:x.f0=3) (hj:x.f3∉names):
  Calls Tryz.prog 28 #[.pointer (some ⟨gs,0,none⟩),v] W0 fun e w'=>∃ u,e= .returned u∧(∃ gr,u= .iface 76 (.pointer (some ⟨gr,0,none⟩))∧Left ⟨#[49]⟩ 289 (fun _ _=>True) gr w')∧Below W0.heap.size W0 w':=by
 obtain ⟨A2,c2,gm,gpp,gpr,gds,gdr,gf,gv0,gt,A3,c3,h1,h2,h3,h4,h5,h6,h7,h8,h9,h10⟩:=hP
 obtain ⟨_,hcc,hC⟩:=strs_C h10
 refine loud_any W0 gs v hO.one ⟨2020,⟨#[49]⟩,nP,nP,nP,.pointer (some ⟨gf,0,none⟩),.slice A2 0 c2,.map (some gpr),.map (some gpp),.map (some gm),.map (some gdr),.map (some gds),.nilIface⟩ h1 (fun W hb=>from_out hO W gs ⟨2020,⟨#[49]⟩,nP,nP,nP,.pointer (some ⟨gf,0,none⟩),.slice A2 0 c2,.map (some gpr),.map (some gpp),.map (some gm),.map (some gdr),.map (some gds),.nilIface⟩ (blk_below h1 hb)) 289 tk_289_185 (fun W l gv gc ad up H hgv=> ?_)
 have hT:=fun W:World=>type_out hO W
 have hone:=hO.one
 cases hO with
 |text k=>exact val_f_no _ hone _ (tcode_ne x.f0) W W0 l gv gs gc ad up ⟨#[49]⟩ _ _ _ _ _ _ gf gv0 h7 H hgv h1 hT (fun W hb=>format_text_false W gv0 gt _ (Kd.C_below hC hb) hcc hn (blk_below h9 hb) (blk_below h8 hb) hj)
 |null k=>omega
 |bool k=>omega
 |empty k=>omega
 |array k=>omega
 |object k=>omega
theorem errors_f_none (w:World) (gn cS:Nat) (x:S25) (A4 A5:Option Addr) (c4 c5:Nat) (hx:Rep w x A4 c4 A5 c5) {A:Option Addr} {names:List ByteArray} {c:Nat} (hr:Kd.C Kd.string w A names.length names) (hc:names.length≤c) (hlen:names.length < 8796093022208) (hVx:V x) (hn:names.length≤LM) (hS:w.heap[gn]? =some (row (ndF true A names c) 45)) (hj:x.f0=3→x.f3∈names):
  Calls Tryz.prog 14 #[.slice (some ⟨gn,0,none⟩) 1 cS,.agg (jvc x A4 A5 c4 c5)] w (rb (.tuple #[.agg #[eS,eS,nilS,nilS,eS,nilS,nilS,nilS],.bool false]) w):=
 errors_none w gn cS x A4 A5 c4 c5 (fun W hb=>draft_none_d W gn cS x A4 A5 c4 c5 (Sch_f names) (fun _ _ _=>Sch_f.below _) (hx.below hb) hVx (fun W1 hb0=>comp_f W1 gn cS (Kd.C_below hr (below_step hb hb0)) hc hlen (blk_below hS (below_step hb hb0))) (fun W0 gs v hP hO=>quiet_f _ hP hO hn hj))
theorem errors_f_some (w:World) (gn cS:Nat) (x:S25) (A4 A5:Option Addr) (c4 c5:Nat) (hx:Rep w x A4 c4 A5 c5) {A:Option Addr} {names:List ByteArray} {c:Nat} (hr:Kd.C Kd.string w A names.length names) (hc:names.length≤c) (hlen:names.length < 8796093022208) (hVx:V x) (hn:names.length≤LM) (hS:w.heap[gn]? =some (row (ndF true A names c) 45)) (hk:x.f0=3) (hj:x.f3∉names):
  Calls Tryz.prog 14 #[.slice (some ⟨gn,0,none⟩) 1 cS,.agg (jvc x A4 A5 c4 c5)] w fun e w'=>Told ⟨#[49]⟩ ⟨#[70,111,114,109,97,116]⟩ eS [⟨#[102,111,114,109,97,116]⟩] [] w e w':=
 errors_some w gn cS x A4 A5 c4 c5 _ _ _ _ _ (fun W hb=>draft_some_d W gn cS x A4 A5 c4 c5 _ _ _ _ _ (Sch_f names) (fun _ _ _=>Sch_f.below _) (hx.below hb) hVx (fun W1 hb0=>comp_f W1 gn cS (Kd.C_below hr (below_step hb hb0)) hc hlen (blk_below hS (below_step hb hb0)))
  (Left ⟨#[49]⟩ 289 (fun _ _=>True)) (fun W0 gs v hP hO=>loud_f _ hP hO hn hk hj)
  (fun W gr h=>by
   obtain ⟨gk2,adc,ge,gki,Ae,ce,h1,h2,h3,_⟩:=h
   exact root_ok W gr ge gk2 _ _ _ _ _ adc 1 h1 h2 (fun W1 hb=>leaf_format W1 ge gki _ Ae ce (blk_below h3 hb))))
theorem ipr_enum (w:World) (s0:Value) (n:Nd) (x:S25) (A4 A5:Option Addr) (c4 c5:Nat) (loc tx:ByteArray) (Ap Aa An Ak:Option Addr) (np cp ca cn ck:Nat) (names:List ByteArray):Calls Tryz.prog 80 #[.int .i64 2020,.agg #[s0,nilS],.agg n.cells,.agg (jvc x A4 A5 c4 c5),.agg #[.string loc,.string ⟨#[69,110,117,109]⟩,.slice Ap np cp,.slice Aa 0 ca,.string tx,.slice An names.length cn,nilS,nilS]] w (rb (.bool false) w):=by
 have HK:=st0_ w
 go_enter Tryz.func80,Tryz.ntmps80
 go_wp2_with (first|((with_reducible refine gd_ 6 ?_);refine bx_ #[s0,nilS] 68 ?_;clear HK;intro g6 wb6 HK Gg6;replace Bc:=ce1_ HK 0)|((with_reducible refine gd_ 7 ?_);refine bx_ n.cells 45 ?_;clear HK;intro g7 wb7 HK Gg7;replace Bc:=ce2_ HK 1 0)|((with_reducible refine gd_ 8 ?_);refine bx_ (jvc x A4 A5 c4 c5) 25 ?_;clear HK;intro g8 wb8 HK Gg8;replace Bc:=ce3_ HK 2 1 0)|((with_reducible refine gd_ 9 ?_);refine bx_ (#[.string loc,.string ⟨#[69,110,117,109]⟩,.slice Ap np cp,.slice Aa 0 ca,.string tx,.slice An names.length cn,nilS,nilS]) 54 ?_;clear HK;intro g9 wb9 HK Gg9;replace Bc:=ce4_ HK 3 2 1 0))
 go_ret
 exact ⟨by first|rfl|simp,be_⟩
theorem ipr_const (w:World) (s0:Value) (n:Nd) (x:S25) (A4 A5:Option Addr) (c4 c5:Nat) (loc tx:ByteArray) (Ap Aa An Ak:Option Addr) (np cp ca cn ck:Nat) (names:List ByteArray):Calls Tryz.prog 80 #[.int .i64 2020,.agg #[s0,nilS],.agg n.cells,.agg (jvc x A4 A5 c4 c5),.agg #[.string loc,.string ⟨#[67,111,110,115,116]⟩,.slice Ap np cp,.slice Aa 0 ca,.string tx,.slice An names.length cn,nilS,nilS]] w (rb (.bool false) w):=by
 have HK:=st0_ w
 go_enter Tryz.func80,Tryz.ntmps80
 go_wp2_with (first|((with_reducible refine gd_ 6 ?_);refine bx_ #[s0,nilS] 68 ?_;clear HK;intro g6 wb6 HK Gg6;replace Bc:=ce1_ HK 0)|((with_reducible refine gd_ 7 ?_);refine bx_ n.cells 45 ?_;clear HK;intro g7 wb7 HK Gg7;replace Bc:=ce2_ HK 1 0)|((with_reducible refine gd_ 8 ?_);refine bx_ (jvc x A4 A5 c4 c5) 25 ?_;clear HK;intro g8 wb8 HK Gg8;replace Bc:=ce3_ HK 2 1 0)|((with_reducible refine gd_ 9 ?_);refine bx_ (#[.string loc,.string ⟨#[67,111,110,115,116]⟩,.slice Ap np cp,.slice Aa 0 ca,.string tx,.slice An names.length cn,nilS,nilS]) 54 ?_;clear HK;intro g9 wb9 HK Gg9;replace Bc:=ce4_ HK 3 2 1 0))
 go_ret
 exact ⟨by first|rfl|simp,be_⟩
theorem ipr_pattern (w:World) (s0:Value) (n:Nd) (x:S25) (A4 A5:Option Addr) (c4 c5:Nat) (loc tx:ByteArray) (Ap Aa An Ak:Option Addr) (np cp ca cn ck:Nat) (names:List ByteArray):Calls Tryz.prog 80 #[.int .i64 2020,.agg #[s0,nilS],.agg n.cells,.agg (jvc x A4 A5 c4 c5),.agg #[.string loc,.string ⟨#[80,97,116,116,101,114,110]⟩,.slice Ap np cp,.slice Aa 0 ca,.string tx,.slice An names.length cn,nilS,nilS]] w (rb (.bool false) w):=by
 have HK:=st0_ w
 go_enter Tryz.func80,Tryz.ntmps80
 go_wp2_with (first|((with_reducible refine gd_ 6 ?_);refine bx_ #[s0,nilS] 68 ?_;clear HK;intro g6 wb6 HK Gg6;replace Bc:=ce1_ HK 0)|((with_reducible refine gd_ 7 ?_);refine bx_ n.cells 45 ?_;clear HK;intro g7 wb7 HK Gg7;replace Bc:=ce2_ HK 1 0)|((with_reducible refine gd_ 8 ?_);refine bx_ (jvc x A4 A5 c4 c5) 25 ?_;clear HK;intro g8 wb8 HK Gg8;replace Bc:=ce3_ HK 2 1 0)|((with_reducible refine gd_ 9 ?_);refine bx_ (#[.string loc,.string ⟨#[80,97,116,116,101,114,110]⟩,.slice Ap np cp,.slice Aa 0 ca,.string tx,.slice An names.length cn,nilS,nilS]) 54 ?_;clear HK;intro g9 wb9 HK Gg9;replace Bc:=ce4_ HK 3 2 1 0))
 go_ret
 exact ⟨by first|rfl|simp,be_⟩
theorem ipr_format (w:World) (s0:Value) (n:Nd) (x:S25) (A4 A5:Option Addr) (c4 c5:Nat) (loc tx:ByteArray) (Ap Aa An Ak:Option Addr) (np cp ca cn ck:Nat) (names:List ByteArray):Calls Tryz.prog 80 #[.int .i64 2020,.agg #[s0,nilS],.agg n.cells,.agg (jvc x A4 A5 c4 c5),.agg #[.string loc,.string ⟨#[70,111,114,109,97,116]⟩,.slice Ap np cp,.slice Aa 0 ca,.string tx,.slice An names.length cn,nilS,nilS]] w (rb (.bool false) w):=by
 have HK:=st0_ w
 go_enter Tryz.func80,Tryz.ntmps80
 go_wp2_with (first|((with_reducible refine gd_ 6 ?_);refine bx_ #[s0,nilS] 68 ?_;clear HK;intro g6 wb6 HK Gg6;replace Bc:=ce1_ HK 0)|((with_reducible refine gd_ 7 ?_);refine bx_ n.cells 45 ?_;clear HK;intro g7 wb7 HK Gg7;replace Bc:=ce2_ HK 1 0)|((with_reducible refine gd_ 8 ?_);refine bx_ (jvc x A4 A5 c4 c5) 25 ?_;clear HK;intro g8 wb8 HK Gg8;replace Bc:=ce3_ HK 2 1 0)|((with_reducible refine gd_ 9 ?_);refine bx_ (#[.string loc,.string ⟨#[70,111,114,109,97,116]⟩,.slice Ap np cp,.slice Aa 0 ca,.string tx,.slice An names.length cn,nilS,nilS]) 54 ?_;clear HK;intro g9 wb9 HK Gg9;replace Bc:=ce4_ HK 3 2 1 0))
 go_ret
 exact ⟨by first|rfl|simp,be_⟩
theorem vr_enum (w:World) (AE:Option Addr) (l0:List S25) (cE:Nat) (x:S25) (A4 A5:Option Addr) (c4 c5:Nat) (loc tx:ByteArray) (Ap Aa An Ak:Option Addr) (np cp ca cn ck:Nat) (names:List ByteArray) (ru:Int) (hru:∀ W:World,Calls Tryz.prog 36 #[.string x.f3] W (rb (.int .i64 ru) W)) (hJ:∀ W,Below w.heap.size w W→Calls Tryz.prog 60 #[.agg (jvc x A4 A5 c4 c5),.slice AE l0.length cE] W (rb (.bool false) W)):Calls Tryz.prog 81 #[.agg (ndE AE l0 cE),.agg (jvc x A4 A5 c4 c5),.agg #[.string loc,.string ⟨#[69,110,117,109]⟩,.slice Ap np cp,.slice Aa 0 ca,.string tx,.slice An names.length cn,nilS,nilS]] w (rb (.bool true) w):=by
 have HJ:=asd_ hJ
 clear hJ
 have HK:=st0_ w
 go_enter Tryz.func81,Tryz.ntmps81
 go_wp2_with (first|((with_reducible refine gd_ 3 ?_);refine bx_ (ndE AE l0 cE) 45 ?_;clear HK;intro g3 wb3 HK Gg3;replace Bc:=ce1_ HK 0)|((with_reducible refine gd_ 4 ?_);refine bx_ (jvc x A4 A5 c4 c5) 25 ?_;clear HK;intro g4 wb4 HK Gg4;replace Bc:=ce2_ HK 1 0)|((with_reducible refine gd_ 5 ?_);refine bx_ (#[.string loc,.string ⟨#[69,110,117,109]⟩,.slice Ap np cp,.slice Aa 0 ca,.string tx,.slice An names.length cn,nilS,nilS]) 54 ?_;clear HK;intro g5 wb5 HK Gg5;replace Bc:=ce3_ HK 2 1 0)|((with_reducible refine gd_ 49 ?_);(try (refine gate_guard (by rfl) ?_;dsimp only));refine lo_ 25 4 g4 (jvc x A4 A5 c4 c5) HK.out.k.2.1 Tryz.underlying25 ?_)|((first|((with_reducible refine gd_ 14 ?_);refine cl_ #[.string x.f3] (.int .i64 ru) Tryz.func36 (hru _) ?_)|((with_reducible refine gd_ 52 ?_);(try (refine gate_guard (by rfl) ?_;dsimp only));refine cl_ #[.agg (jvc x A4 A5 c4 c5),.slice AE l0.length cE] (.bool false) Tryz.func60 (HJ.out _ HK.out.b) ?_));intro wc14 HK1;replace HK:=asd_ HK1;clear HK1;replace Bc:=ce3_ HK 2 1 0))
 go_ret
 exact ⟨by first|rfl|simp,be_⟩
theorem vr_const (w:World) (gq cq:Nat) (c:S25) (B4 B5:Option Addr) (d4 d5:Nat) (x:S25) (A4 A5:Option Addr) (c4 c5:Nat) (loc tx:ByteArray) (Ap Aa An Ak:Option Addr) (np cp ca cn ck:Nat) (names:List ByteArray) (ru:Int) (hru:∀ W:World,Calls Tryz.prog 36 #[.string x.f3] W (rb (.int .i64 ru) W)) (hq:w.heap[gq]? =some (row (jvc c B4 B5 d4 d5) 25)) (hJ:∀ W,Below w.heap.size w W→Calls Tryz.prog 61 #[.agg (jvc x A4 A5 c4 c5),.agg (jvc c B4 B5 d4 d5)] W (rb (.bool false) W)):Calls Tryz.prog 81 #[.agg (ndC gq cq),.agg (jvc x A4 A5 c4 c5),.agg #[.string loc,.string ⟨#[67,111,110,115,116]⟩,.slice Ap np cp,.slice Aa 0 ca,.string tx,.slice An names.length cn,nilS,nilS]] w (rb (.bool true) w):=by
 have HJ:=asd_ hJ
 clear hJ
 have HK:Aside0 (At w [.b gq (row (jvc c B4 B5 d4 d5) 25)] w):=asd_ (At.hold (At.start w) hq (by simp [nums]))
 replace Bc:=ce1_ HK 0
 go_enter Tryz.func81,Tryz.ntmps81
 go_wp2_with (first|((with_reducible refine gd_ 3 ?_);refine bx_ (ndC gq cq) 45 ?_;clear HK;intro g3 wb3 HK Gg3;replace Bc:=ce2_ HK 1 0)|((with_reducible refine gd_ 4 ?_);refine bx_ (jvc x A4 A5 c4 c5) 25 ?_;clear HK;intro g4 wb4 HK Gg4;replace Bc:=ce3_ HK 2 1 0)|((with_reducible refine gd_ 5 ?_);refine bx_ (#[.string loc,.string ⟨#[67,111,110,115,116]⟩,.slice Ap np cp,.slice Aa 0 ca,.string tx,.slice An names.length cn,nilS,nilS]) 54 ?_;clear HK;intro g5 wb5 HK Gg5;replace Bc:=ce4_ HK 3 2 1 0)|((with_reducible refine gd_ 14 ?_);refine cl_ #[.string x.f3] (.int .i64 ru) Tryz.func36 (hru _) ?_;intro wc14 HK1;replace HK:=asd_ HK1;clear HK1;replace Bc:=ce4_ HK 3 2 1 0))
 refine su4_ 14 HK 3 2 1 0 [] (fun HS hHeld=> ?_)
 refine pu_ 0 57 1 ?_
 refine ta5_ 1 58 3 hHeld ?_
 refine pu_ 2 59 7 ?_
 refine pu_ 3 60 15 ?_
 refine pu_ 4 61 31 ?_
 refine pu_ 6 63 95 ?_
 refine tq_ 5 62 127 rfl hHeld (by rintro w' ⟨s0,s1,s2,s3,s4⟩;exact rr_ 4 g4 (jvc x A4 A5 c4 c5) s0.k.2.1 Tryz.underlying25) ?_
 refine ta5_ 7 64 255 hHeld ?_
 refine pu_ 8 65 511 ?_
 refine tq_ 9 66 1023 rfl hHeld (by rintro w' ⟨s0,s1,s2,s3,s4⟩;exact rr_ 65 gq (jvc c B4 B5 d4 d5) s0.k.2.2.2.1 Tryz.underlying25) ?_
 refine on_ 10 67 2047 (fun K hK=> ?_)
 have HE:=asd_ (hHeld.1)
 refine ge_ Tryz.func61 #[.agg (jvc x A4 A5 c4 c5),.agg (jvc c B4 B5 d4 d5)] ?_
 with_reducible refine (HJ.out _ HE.out.b).mono ?_
 rintro e w3 ⟨rfl,hb⟩
 refine ⟨_,rfl,?_⟩
 replace HE:=asd_ (At.step HE.out hb)
 refine hK.out _ _ ⟨HE.out,(cE_ HE 3),(cE_ HE 2),(cE_ HE 1),(cE_ HE 0)⟩ (fun hHeld=> ?_)
 clear hK K
 refine nq_ 67 ?_
 refine pu_ 11 68 4095 ?_
 refine pu_ 12 69 8191 ?_
 refine pu_ 13 6 16383 ?_
 refine done_ kr_ ?_
 clear HK;have HK:=HE;clear HE
 clear hHeld
 replace Bc:=ce4_ HK 3 2 1 0
 go_wp2_with fail
 go_ret
 exact ⟨by first|rfl|simp,be_⟩
theorem vr_pattern (w:World) (A:Option Addr) (wanted:List ByteArray) (c:Nat) (x:S25) (A4 A5:Option Addr) (c4 c5:Nat) (loc tx:ByteArray) (Ap Aa An Ak:Option Addr) (np cp ca cn ck:Nat) (names:List ByteArray) (ru:Int) (hru:∀ W:World,Calls Tryz.prog 36 #[.string x.f3] W (rb (.int .i64 ru) W)) (k3:(x.f0 == 3)=true) (hJ:∀ W,Below w.heap.size w W→Calls Tryz.prog 37 #[.string x.f3,.agg #[.bool true,.slice A wanted.length c]] W (rb (.bool false) W)):Calls Tryz.prog 81 #[.agg (ndP true A wanted c),.agg (jvc x A4 A5 c4 c5),.agg #[.string loc,.string ⟨#[80,97,116,116,101,114,110]⟩,.slice Ap np cp,.slice Aa 0 ca,.string tx,.slice An names.length cn,nilS,nilS]] w (rb (.bool true) w):=by
 have HJ:=asd_ hJ
 clear hJ
 have HK:=st0_ w
 go_enter Tryz.func81,Tryz.ntmps81
 go_wp2_with (first|((with_reducible refine gd_ 3 ?_);refine bx_ (ndP true A wanted c) 45 ?_;clear HK;intro g3 wb3 HK Gg3;replace Bc:=ce1_ HK 0)|((with_reducible refine gd_ 4 ?_);refine bx_ (jvc x A4 A5 c4 c5) 25 ?_;clear HK;intro g4 wb4 HK Gg4;replace Bc:=ce2_ HK 1 0)|((with_reducible refine gd_ 5 ?_);refine bx_ (#[.string loc,.string ⟨#[80,97,116,116,101,114,110]⟩,.slice Ap np cp,.slice Aa 0 ca,.string tx,.slice An names.length cn,nilS,nilS]) 54 ?_;clear HK;intro g5 wb5 HK Gg5;replace Bc:=ce3_ HK 2 1 0)|((first|((with_reducible refine gd_ 14 ?_);refine cl_ #[.string x.f3] (.int .i64 ru) Tryz.func36 (hru _) ?_)|((with_reducible refine gd_ 93 ?_);(try (refine gate_guard (by rfl) ?_;dsimp only));refine cl_ #[.string x.f3,.agg #[.bool true,.slice A wanted.length c]] (.bool false) Tryz.func37 (HJ.out _ HK.out.b) ?_));intro wc14 HK1;replace HK:=asd_ HK1;clear HK1;replace Bc:=ce3_ HK 2 1 0))
 go_ret
 exact ⟨by first|rfl|simp,be_⟩
theorem vr_format (w:World) (A:Option Addr) (wanted:List ByteArray) (c:Nat) (x:S25) (A4 A5:Option Addr) (c4 c5:Nat) (loc tx:ByteArray) (Ap Aa An Ak:Option Addr) (np cp ca cn ck:Nat) (names:List ByteArray) (ru:Int) (hru:∀ W:World,Calls Tryz.prog 36 #[.string x.f3] W (rb (.int .i64 ru) W)) (k3:(x.f0 == 3)=true) (hJ:∀ W,Below w.heap.size w W→Calls Tryz.prog 37 #[.string x.f3,.agg #[.bool true,.slice A wanted.length c]] W (rb (.bool false) W)):Calls Tryz.prog 81 #[.agg (ndF true A wanted c),.agg (jvc x A4 A5 c4 c5),.agg #[.string loc,.string ⟨#[70,111,114,109,97,116]⟩,.slice Ap np cp,.slice Aa 0 ca,.string tx,.slice An names.length cn,nilS,nilS]] w (rb (.bool true) w):=by
 have HJ:=asd_ hJ
 clear hJ
 have HK:=st0_ w
 go_enter Tryz.func81,Tryz.ntmps81
 go_wp2_with (first|((with_reducible refine gd_ 3 ?_);refine bx_ (ndF true A wanted c) 45 ?_;clear HK;intro g3 wb3 HK Gg3;replace Bc:=ce1_ HK 0)|((with_reducible refine gd_ 4 ?_);refine bx_ (jvc x A4 A5 c4 c5) 25 ?_;clear HK;intro g4 wb4 HK Gg4;replace Bc:=ce2_ HK 1 0)|((with_reducible refine gd_ 5 ?_);refine bx_ (#[.string loc,.string ⟨#[70,111,114,109,97,116]⟩,.slice Ap np cp,.slice Aa 0 ca,.string tx,.slice An names.length cn,nilS,nilS]) 54 ?_;clear HK;intro g5 wb5 HK Gg5;replace Bc:=ce3_ HK 2 1 0)|((first|((with_reducible refine gd_ 14 ?_);refine cl_ #[.string x.f3] (.int .i64 ru) Tryz.func36 (hru _) ?_)|((with_reducible refine gd_ 80 ?_);(try (refine gate_guard (by rfl) ?_;dsimp only));refine cl_ #[.string x.f3,.agg #[.bool true,.slice A wanted.length c]] (.bool false) Tryz.func37 (HJ.out _ HK.out.b) ?_));intro wc14 HK1;replace HK:=asd_ HK1;clear HK1;replace Bc:=ce3_ HK 2 1 0))
 go_ret
 exact ⟨by first|rfl|simp,be_⟩
end Go.Proofs.YtkphbhncpdcbeaaGreatDoor.J
