/- Part. -/
import Derived.Test.YtlblbefbbibpaaaGreatDoorQAW
import Derived.Defers
import Derived.Recover
set_option linter.unusedVariables false
set_option linter.unusedSimpArgs false
set_option maxHeartbeats 8000000
set_option maxRecDepth 100000
namespace Go.Proofs.YtlblbefbbibpaaaGreatDoor.J
open Go.RowKit Zw Zw.PrintWords Zw.PrintLast Zw.PrintMore PAM
theorem catch_idle {a b:Value} (w:World):CallsD Tryz.prog 19 #[a,b] .returning w fun e u' w'=>e= .returned (.tuple #[])∧u'= .returning∧w'=w:=by
 refine callsD_of_wpS Tryz.func19 rfl fun c₀ cs hu=> ?_
 apply wpS_seq
 apply wpS_region
 simp [wpOpsS,go_sem,recoverD,hu,Tryz.ntmps19,Exit.thenS]
 refine wpS_cond (t:=false) (by simp [Act.eval,Array.replicate]) ?_
 simp only [Bool.false_eq_true,if_false]
 refine wpS_of_wp (wp_skip ?_)
 cases c₀
 simp_all [bodyPostS,results,Tryz.results19]
def AM (x:Dt) (w:World) (e:Ending) (w':World):Prop:=
 ∃ (u:Value) (sn:List Blk),e= .returned (.tuple #[.agg #[.int .i64 x.kind,.bool x.b,.int .i64 x.n,.int .u64 x.f,.string x.s,u],.bool true])∧DB sn u x∧Keeps sn w'∧(nums sn).Nodup∧(∀ g∈nums sn,w.heap.size≤g)∧Below w.heap.size w w'
theorem argsB_mono {sn sn':List Blk} (h:∀ x∈sn,x∈sn') {v:Value} {xs:List Kid} (hb:ArgsB sn v xs):ArgsB sn' v xs:=by
 obtain ⟨b,pr,ps,cs,hp,hs,hK⟩:=hb
 exact ⟨b,pr,ps,cs,hp,fun x hx=>h x (hs x hx),hK.lp,hK.lc,fun i g c x a b d=>(hK.kb i g c x a b d).mono h,fun i c x a b=>(hK.vb i c x a b).mono h⟩
theorem adefsB_mono {sn sn':List Blk} (h:∀ x∈sn,x∈sn') {v:Value} {xs:List ADef} (hb:AdefsB sn v xs):AdefsB sn' v xs:=by
 obtain ⟨b,pr,ps,hp,hs,hK⟩:=hb
 exact ⟨b,pr,ps,hp,fun x hx=>h x (hs x hx),hK.lp,fun i g x a b=>(hK.db i g x a b).mono h⟩
theorem argMap_ok {w:World} {x:Dt} {xs:List Kid} {defs:List ADef} {Aa Ad:Option Addr} {na nd ca cd0:Nat} (hW:True) (hCa:kKid.C w Aa na xs) (hCd:kAD.C w Ad nd defs) (hLa:na≤1048576) (hLd:nd≤1048576) (hsa:SmK xs) (hsd:SmA defs) (hfa:FitK xs) (hfd:∀ a∈defs,FitA a) (hgo:∀ (W:World),Below w.heap.size w W→∀ (sn:List Blk) (va vd:Value),Keeps sn W→ArgsB sn va xs→AdefsB sn vd defs→Calls Tryz.prog 42 #[vd,va,nM] W (VM x W)):
  Calls Tryz.prog 8 #[.slice Aa na ca,.slice Ad nd cd0] w (AM x w):=by
 obtain ⟨HW_,HCa_,HCd_,HLa_,HLd_,Hsa_,Hsd_,Hfa_,Hfd_,Hgo_⟩:=as10_ hW hCa hCd hLa hLd hsa hsd hfa hfd hgo;clear hW hCa hCd hLa hLd hsa hsd hfa hfd hgo
 have hmf:∀ (fn:Fn) (first cap:Array Value) (w:World),(Instr.makeFunc fn first cap).run Tryz.prog w= .ok (.func fn first cap) w:=fun _ _ _ _=>rfl
 have HK:=st0_ w
 go_enter_defers Tryz.func8,Tryz.ntmps8
 go_wp2_with (first|((with_reducible refine gd_ 4 ?_);refine bx_ #[i0,bF,i0,.int .u64 0,eS,nilS] 30 ?_;clear HK;intro g4 wb4 HK Gg4;replace Bc:=ce1_ HK 0;replace Bf:=fe1_ HK 0)|((with_reducible refine gd_ 5 ?_);refine bx_ #[bF] 4 ?_;clear HK;intro g5 wb5 HK Gg5;replace Bc:=ce2_ HK 1 0;replace Bf:=fe2_ HK 1 0))
 refine (newMaker_ok _).mono ?_;rintro _ wk ⟨gm,gs,rfl,HM0⟩
 have HK9:Aside0 (At w (.f (Fact.maker w.heap.size gm gs)::[.b g5 (row (#[bF]) 4),.b g4 (row (#[i0,bF,i0,.int .u64 0,eS,nilS]) 30)]) wk):=⟨At.fact _ (At.step (show At w [.b g5 (row (#[bF]) 4),.b g4 (row (#[i0,bF,i0,.int .u64 0,eS,nilS]) 30)] _ from at_) HM0.b) ⟨Nat.le_trans HK.out.b.size HM0.k.1.1,HM0.k.1.2⟩⟩;clear HK HM0;have HK:=HK9;clear HK9;skip
 have hcl:Clean [.b g5 (row (#[bF]) 4),.b g4 (row (#[i0,bF,i0,.int .u64 0,eS,nilS]) 30)]:=(Clean.nil.cons (by decide)).cons (by decide)
 go_wp2_with fail
 refine (args_ok HK.out hcl HCa_.out HLa_.out Hsa_.out Hfa_.out).mono ?_;rintro _ w17 ⟨va,sn1,rfl,haB,hc1,HK1⟩;have haB2:=haB;obtain ⟨_,_,_,_,hpa,_⟩:=haB2;obtain ⟨Ax,cx,rfl,_⟩:=hpa.slice;clear hpa;replace HK:=asd_ HK1;clear HK1;have hcl1:=hc1.app hcl;have HaB:=asd_ haB;clear haB
 go_wp2_with fail
 refine (argDefs_ok HK.out hcl1 HCd_.out HLd_.out Hsd_.out Hfd_.out).mono ?_;rintro _ w18 ⟨vd,sn2,rfl,hdB,hc2,HK1⟩;have hdB2:=hdB;obtain ⟨_,_,_,hpd,_⟩:=hdB2;obtain ⟨Ay,cy,rfl,_⟩:=hpd.slice;clear hpd;obtain ⟨hgm,ln,HK2⟩:=HK1.see (hc2.app hcl1).offF;clear HK HK1 hgm;have HdB:=asd_ hdB;clear hdB hcl hcl1 hc1 hc2
 have HK:Aside0 (At w (.b gm (row (mk3 gs ln) 79):: .b g5 (row (#[bF]) 4):: .b g4 (row (#[i0,bF,i0,.int .u64 0,eS,nilS]) 30)::(sn2 ++ sn1)) w18):=⟨HK2.perm (List.Perm.cons _ (by rw [← List.append_assoc];exact List.perm_append_comm (l₁:=sn2 ++ sn1) (l₂:=[Blk.b g5 (row (#[bF]) 4),Blk.b g4 (row (#[i0,bF,i0,.int .u64 0,eS,nilS]) 30)])))⟩;clear HK2
 replace Bc:=ce3_ HK 2 1 0;replace Bf:=fe2_ HK 2 1
 go_wp2_with (first|((with_reducible refine gd_ 16 ?_);refine bx_ (defC (.slice Ay defs.length cy)) 71 ?_;clear HK;intro gd wb16 HK Ggd;replace Bc:=ce4_ HK 3 2 1 0;replace Bf:=fe2_ HK 3 2)|((with_reducible refine gd_ 18 ?_);refine bx_ (fldC (.slice Ax xs.length cx) gd) 76 ?_;clear HK;intro gf wb18 HK Ggf;replace Bc:=ce5_ HK 4 3 2 1 0;replace Bf:=fe2_ HK 4 3))
 have hkt:Keeps (sn2 ++ sn1) _:=HK.out.k.2.2.2.2.2;have hgf:=HK.out.k.1;have hgd:=HK.out.k.2.1
 refine (argumentMap_ok hgf hgd (fun W hb=>Hgo_.out _ (below_step (show Below w.heap.size w _ from be_) hb) _ _ _ (hkt.below hb) (argsB_mono (fun b hb=>List.mem_append_right _ hb) HaB.out) (adefsB_mono (fun b hb=>List.mem_append_left _ hb) HdB.out))).mono ?_;clear hkt hgf hgd
 rintro _ w21 ⟨gmap,sn3,rfl,hab,hks,hnd,hge,hof,hb⟩
 have Hab:=asd_ hab;clear hab
 have HK9:Aside0 (At w (.b gf (row (fldC (.slice Ax xs.length cx) gd) 76):: .b gd (row (defC (.slice Ay defs.length cy)) 71):: .b gm (row (mk3 gs ln) 79):: .b g5 (row (#[bF]) 4):: .b g4 (row (#[i0,bF,i0,.int .u64 0,eS,nilS]) 30)::(sn3 ++ (sn2 ++ sn1))) w21):=⟨At.behind [.b gf (row (fldC (.slice Ax xs.length cx) gd) 76),.b gd (row (defC (.slice Ay defs.length cy)) 71),.b gm (row (mk3 gs ln) 79),.b g5 (row (#[bF]) 4),.b g4 (row (#[i0,bF,i0,.int .u64 0,eS,nilS]) 30)] (At.came_all (l:=(.b gf (row (fldC (.slice Ax xs.length cx) gd) 76):: .b gd (row (defC (.slice Ay defs.length cy)) 71):: .b gm (row (mk3 gs ln) 79):: .b g5 (row (#[bF]) 4):: .b g4 (row (#[i0,bF,i0,.int .u64 0,eS,nilS]) 30)::(sn2 ++ sn1))) at_ hb hks hnd hge)⟩;clear HK hks hnd hge hof hb;have HK:=HK9;clear HK9
 replace Bc:=ce5_ HK 4 3 2 1 0;replace Bf:=fe2_ HK 4 3
 go_wp2_with fail
 have hk3:Keeps sn3 _:=(Keeps.app.1 HK.out.k.2.2.2.2.2).1
 refine (do_all Hab.out _ hk3).mono ?_;clear hk3
 rintro _ w20 ⟨u,sn4,rfl,hdb,hks,hnd,hge,hof,hb⟩;obtain ⟨Bd,cd,e7⟩:=hdb.slice;subst e7;have Hdb:=asd_ hdb;clear hdb;have Hge4:Aside0 (∀ g∈nums sn4,w.heap.size≤g):=⟨fun g hg=>Nat.le_trans (show Below w.heap.size w _ from be_).size (hge g hg)⟩;have Hnd4:=asd_ hnd
 have HK9:Aside0 (At w (.b gf (row (fldC (.slice Ax xs.length cx) gd) 76):: .b gd (row (defC (.slice Ay defs.length cy)) 71):: .b gm (row (mk3 gs ln) 79):: .b g5 (row (#[bF]) 4):: .b g4 (row (#[i0,bF,i0,.int .u64 0,eS,nilS]) 30)::(sn4 ++ (sn3 ++ (sn2 ++ sn1)))) w20):=⟨At.behind [.b gf (row (fldC (.slice Ax xs.length cx) gd) 76),.b gd (row (defC (.slice Ay defs.length cy)) 71),.b gm (row (mk3 gs ln) 79),.b g5 (row (#[bF]) 4),.b g4 (row (#[i0,bF,i0,.int .u64 0,eS,nilS]) 30)] (At.came_all (l:=(.b gf (row (fldC (.slice Ax xs.length cx) gd) 76):: .b gd (row (defC (.slice Ay defs.length cy)) 71):: .b gm (row (mk3 gs ln) 79):: .b g5 (row (#[bF]) 4):: .b g4 (row (#[i0,bF,i0,.int .u64 0,eS,nilS]) 30)::(sn3 ++ (sn2 ++ sn1)))) at_ hb hks hnd hge)⟩;clear HK hks hnd hge hof hb;have HK:=HK9;clear HK9
 replace Bc:=ce5_ HK 4 3 2 1 0;replace Bf:=fe2_ HK 4 3
 go_wp2_with (first|((first|((with_reducible refine gate_ (.store 30 (.tmp 4) (.tmp 28)) rfl ?_);refine storerow_at (cs:=#[i0,bF,i0,.int .u64 0,eS,nilS]) (g:=g4) 4 (#[.int .i64 x.kind,.bool x.b,.int .i64 x.n,.int .u64 x.f,.string x.s,.slice Bd x.kids.length cd]) at_ rfl Gg4.out rfl rfl rfl rfl rfl rfl kr_ rfl (by simp [Value.oneCell']) ?_)|((with_reducible refine gate_ (.store 4 (.tmp 5) (.const (.bool true))) rfl ?_);refine store_at (t:=4) (p:=5) (g:=g5) (i:=0) (v:= .bool true) 3 (#[.bool true]) rfl at_ rfl Gg5.out rfl rfl rfl rfl gs_ ?_));intro wr1 HK1;replace HK:=asd_ HK1;clear HK1;replace Bc:=ce5_ HK 4 3 2 1 0;replace Bf:=fe2_ HK 4 3))
 refine leaves_cons (f:=19) (args:=#[ptr g4,ptr g5]) (by simp) (by simp [go_sem]) ?_
 refine (catch_idle _).mono ?_
 rintro e u' w'' ⟨rfl,rfl,rfl⟩
 have hk4:Keeps sn4 _:=(Keeps.app.1 HK.out.k.2.2.2.2.2).1;have Hk4:=asd_ hk4;clear hk4
 simp [Leaves,settle,results,Tryz.results8,go_sem,Bc]
 exact ⟨.slice Bd x.kids.length cd,sn4,rfl,Hdb.out,Hk4.out,Hnd4.out,Hge4.out,be_⟩
structure KR (w0:World) (kids:List Kid) (cs:List (List Value)):Prop where
 len:cs.length=kids.length
 at':∀ (i:Nat) (k:Kid) (c:List Value),kids[i]? =some k→cs[i]? =some c→∃ A c2,c=[.string k.1,.int .i64 k.2.kind,.string k.2.raw,.slice A k.2.kids.length c2]∧k.2.kids.length≤c2∧kKid.C w0 A k.2.kids.length k.2.kids
theorem KR.nil (w0:World):KR w0 [] []:=⟨rfl,fun _ _ _ h=>by simp at h⟩
theorem KR.next {w0:World} {kids:List Kid} {cs:List (List Value)} {k:Kid} {A:Option Addr} {c2:Nat} (h:KR w0 kids cs) (hl:k.2.kids.length≤c2) (hC:kKid.C w0 A k.2.kids.length k.2.kids):KR w0 (kids ++ [k]) (cs ++ [[.string k.1,.int .i64 k.2.kind,.string k.2.raw,.slice A k.2.kids.length c2]]):=by
 refine ⟨by simp [h.len],fun i y c h1 h2=> ?_⟩
 rcases snoc_get rfl h1 with ⟨_,h3⟩|⟨rfl,rfl⟩
 ·rcases snoc_get h.len h2 with ⟨_,h4⟩|⟨h4,_⟩
  ·exact h.at' i y c h3 h4
  ·omega
 ·rcases snoc_get h.len h2 with ⟨h4,_⟩|⟨_,rfl⟩
  ·omega
  ·exact ⟨A,c2,rfl,hl,hC⟩
theorem flat4 {cs:List (List Value)} (h:∀ c∈cs,c.length=4) {j:Nat} {c:List Value} (hc:cs[j]? =some c) (i:Nat) (hi:i < 4):cs.flatten[j * 4 + i]? =c[i]? :=by
 induction cs generalizing j with
 |nil=>simp at hc
 |cons d ds ih=>
  rw [List.flatten_cons]
  have hd:d.length=4:=h d List.mem_cons_self
  cases j with
  |zero=>
   obtain rfl:d=c:=by simpa using hc
   rw [List.getElem?_append_left (by omega),Nat.zero_mul,Nat.zero_add]
  |succ j=>
   rw [List.getElem?_append_right (by omega)]
   have e:(j + 1) * 4 + i - d.length=j * 4 + i:=by omega
   rw [e]
   exact ih (fun c hc=>h c (List.mem_cons_of_mem _ hc)) (by simpa using hc)
theorem KR.row {w0 W:World} {b:Nat} {kids:List Kid} {cs:List (List Value)} {pr:List Blk} {A:Option Addr} {n c:Nat} (h:KR w0 kids cs) (hB:Below w0.heap.size w0 W) (hp:PR b pr 52 4 (.slice A n c) n cs.flatten) (hn:kids.length=n) (hk:Keeps pr W) (hN:n≤1048576):kKid.C W A n kids:=by
 refine ⟨hn,by omega,fun h0=> ?_⟩
 obtain ⟨g,cap,e1,hcl⟩:=hp.cell hk (fun y hy=>hy) h0
 injection e1 with e1 _ e3
 subst e1
 refine ⟨_,rfl,fun j p hj=> ?_⟩
 have h4:∀ d∈cs,d.length=4:=fun d hd=>by
  obtain ⟨i,hi,ei⟩:=List.getElem_of_mem hd
  obtain ⟨k,hk⟩:∃ k,kids[i]? =some k:=⟨_,List.getElem?_eq_getElem (by have:=h.len;omega)⟩
  obtain ⟨_,_,e,_⟩:=h.at' i k d hk (by rw [List.getElem?_eq_getElem hi,ei])
  rw [e];rfl
 obtain ⟨d,hd⟩:∃ d,cs[j]? =some d:=⟨_,List.getElem?_eq_getElem (by have:=h.len;have:=(List.getElem?_eq_some_iff.1 hj).1;omega)⟩
 obtain ⟨A2,c2,e,hl,hC⟩:=h.at' j p d hj hd
 refine ⟨d,by rw [e];rfl,?_,fun i u hu=> ?_⟩
 ·subst e
  exact ⟨[.string p.1],[.int .i64 p.2.kind,.string p.2.raw,.slice A2 p.2.kids.length c2],rfl,rfl,kVl_mk W p.2 hl (Kd.C_below hC hB)⟩
 ·have hi:i < 4:=by have:=(List.getElem?_eq_some_iff.1 hu).1;rw [h4 d (List.mem_of_getElem? hd)] at this;exact this
  have:=hcl (j * 4 + i) u (by rw [flat4 h4 hd i hi];exact hu)
  have hsz:kKid.sz=4:=rfl
  show W.cell? (Addr.add ⟨g,0,none⟩ (j * kKid.sz + i))=some u
  have ea:Addr.add ⟨g,0,none⟩ (j * 4 + i)=⟨g,j * 4 + i,none⟩:=by
   unfold Addr.add
   split
   ·rename_i h9
    simp at h9
    rw [h9.1,h9.2]
   ·simp
  rw [hsz,ea]
  exact this
def LV (w0:World) (b:Nat) (pr:List Blk) (v:Value) (vs:List Vl):Prop:=
 (pr=[]∧∃ A c,v= .slice A vs.length c∧vs.length≤c∧kVl.C w0 A vs.length vs)∨∃ g y A2 c2,pr=[.b g (row #[.int .i64 y.kind,.string y.raw,.slice A2 y.kids.length c2] 48)]∧b≤g∧v= .slice (some ⟨g,0,none⟩) 1 1∧vs=[y]∧y.kids.length≤c2∧kKid.C w0 A2 y.kids.length y.kids
theorem LV.slice {w0:World} {b:Nat} {pr:List Blk} {v:Value} {vs:List Vl} (h:LV w0 b pr v vs):∃ A c,v= .slice A vs.length c∧vs.length≤c:=by
 rcases h with ⟨_,A,c,e,hl,_⟩|⟨g,y,A2,c2,_,_,e,rfl,_⟩
 ·exact ⟨A,c,e,hl⟩
 ·exact ⟨_,1,e,Nat.le_refl _⟩
theorem LV.offG {w0:World} {b:Nat} {pr:List Blk} {v:Value} {vs:List Vl} (h:LV w0 b pr v vs) (e:TypeId):offG e pr:=by
 rcases h with ⟨rfl,_⟩|⟨g,y,A2,c2,rfl,_⟩<;>trivial
theorem LV.at {w0 W:World} {b:Nat} {pr:List Blk} {A:Option Addr} {n c:Nat} {vs:List Vl} (h:LV w0 b pr (.slice A n c) vs) (hB:Below w0.heap.size w0 W) (hk:Keeps pr W) (j:Nat) (hj:j < n):
  ∃ (ad:Addr) (y:Vl) (A2:Option Addr) (c2:Nat),A=some ad∧vs[j]? =some y∧W.cell? (ad.add (j * 3))=some (.int .i64 y.kind)∧W.cell? ⟨(ad.add (j * 3)).block,(ad.add (j * 3)).off + 1,none⟩=some (.string y.raw)∧W.cell? ⟨(ad.add (j * 3)).block,(ad.add (j * 3)).off + 2,none⟩=some (.slice A2 y.kids.length c2)∧y.kids.length≤c2∧kKid.C w0 A2 y.kids.length y.kids:=by
 rcases h with ⟨_,A',c',e,hl,hC⟩|⟨g,y,A2,c2,rfl,hb,e,rfl,hl,hC⟩
 ·injection e with e1 e2 e3
  subst e1 e2 e3
  obtain ⟨ad,y,A2,c2,hA,hx,h0,h1,h2,h3,h4⟩:=at_Vl hC j hj
  exact ⟨ad,y,A2,c2,hA,hx,pw_cell_below hB h0,pw_cell_below hB h1,pw_cell_below hB h2,h3,h4⟩
 ·injection e with e1 e2 e3
  subst e1 e2 e3
  obtain rfl:j=0:=by omega
  have hg:=hk.1
  refine ⟨⟨g,0,none⟩,y,A2,c2,rfl,rfl,?_,?_,?_,hl,hC⟩<;>simp [Addr.add,World.cell?,hg,row]
theorem info52:(Tryz.prog.info? 52).map (fun i=>(i.zero,i.size,i.bytes))=some (some (.agg #[.string ⟨#[]⟩,.int .i64 0,.string ⟨#[]⟩,.slice none 0 0]),4,64):=by kernel_rfl
theorem argv_len {xs:List Kid} {d:ADef} (h:d.dflt.length≤1):(argv xs d).length≤1:=by
 unfold argv
 generalize hl:d.dflt=l at h
 clear hl
 induction xs generalizing l with
 |nil=>exact h
 |cons x xs ih=>
  rw [List.foldl_cons]
  split
  ·exact ih _ (Nat.le_refl _)
  ·exact ih _ h
theorem argv_mem {xs:List Kid} {nm:ByteArray} {l:List Vl} {v:Vl} (h:v∈xs.foldl (fun l a=>if a.1.toList=nm.toList then [a.2] else l) l):v∈l∨∃ x∈xs,v=x.2:=by
 induction xs generalizing l with
 |nil=>exact .inl h
 |cons x xs ih=>
  rw [List.foldl_cons] at h
  rcases ih h with h1|⟨y,hy,e⟩
  ·split at h1
   ·exact .inr ⟨x,List.mem_cons_self,List.mem_singleton.1 h1⟩
   ·exact .inl h1
  ·exact .inr ⟨y,List.mem_cons_of_mem _ hy,e⟩
theorem allKids_fit {xs:List Kid} {ds:List ADef} (hx:∀ k∈xs,Fit k.2∧Sm k.2) (hd:∀ d∈ds,d.name.size≤1048576∧d.dflt.length≤1∧∀ v∈d.dflt,Fit v∧Sm v):∀ k∈allKids xs ds,k.1.size≤1048576∧Fit k.2∧Sm k.2:=by
 intro k hk
 obtain ⟨d,hdm,hk⟩:=List.mem_flatMap.1 hk
 obtain ⟨v,hv,rfl⟩:=List.mem_map.1 hk
 obtain ⟨h1,_,h3⟩:=hd d hdm
 refine ⟨h1,?_⟩
 rcases argv_mem hv with h|⟨x,hxm,rfl⟩
 ·exact h3 v h
 ·exact hx x hxm
theorem allKids_len {xs:List Kid} {ds:List ADef} (hd:∀ d∈ds,d.dflt.length≤1):(allKids xs ds).length≤ds.length:=by
 induction ds with
 |nil=>exact Nat.le_refl _
 |cons d ds ih=>
  have h1:=ih (fun e he=>hd e (List.mem_cons_of_mem _ he))
  have h2:=argv_len (xs:=xs) (hd d List.mem_cons_self)
  unfold allKids at h1 ⊢
  rw [List.flatMap_cons,List.length_append,List.length_map,List.length_cons]
  omega
theorem allKids_vl {xs:List Kid} {ds:List ADef} (hx:∀ k∈xs,Fit k.2∧Sm k.2) (hd:∀ d∈ds,d.name.size≤1048576∧d.dflt.length≤1∧∀ v∈d.dflt,Fit v∧Sm v) (hL:ds.length≤1048576):Fit ⟨9,⟨#[]⟩,allKids xs ds⟩∧Sm ⟨9,⟨#[]⟩,allKids xs ds⟩:=by
 have h:=allKids_fit hx hd
 have hl:=allKids_len (xs:=xs) (fun d hd'=>(hd d hd').2.1)
 exact ⟨.mk (by show (1:Int)≤9;decide) (by show (9:Int)≤9;decide) (fun h=>by cases h) (fun k hk=>(h k hk).2.1),.mk (by show (⟨#[]⟩:ByteArray).size≤1048576;decide) (Nat.le_trans hl hL) (fun k hk=>(h k hk).1) (fun k hk=>(h k hk).2.2)⟩
theorem VDone.base {w0 W W':World} {v:Vl} {e:Ending} (hN:Nums w0) (hB:Below w0.heap.size w0 W) (hs:Sm v) (h:VDone W v W e W'):VDone w0 v W e W':=by
 obtain ⟨x,u,ok,sn,he,hv,hr⟩:=h
 exact ⟨x,u,ok,sn,he,fun h1=>(hv h1).down hN hB hs,hr⟩
theorem specArgMap_ok {w0 w:World} {xs:List Kid} {defs:List ADef} {Aa A:Option Addr} {na n ca c:Nat} (hN:Nums w0) (hW:Below w0.heap.size w0 w) (hCa:kKid.C w0 Aa na xs) (hC:kAD.C w0 A n defs) (hLa:na≤1048576) (hL:n≤1048576) (hfa:∀ k∈xs,Fit k.2∧Sm k.2) (hfd:∀ d∈defs,d.name.size≤1048576∧d.dflt.length≤1∧∀ v∈d.dflt,Fit v∧Sm v):
  Calls Tryz.prog 7 #[.slice Aa na ca,.slice A n c] w (VDone w0 ⟨9,⟨#[]⟩,allKids xs defs⟩ w):=by
 have hvl:=allKids_vl hfa hfd (by rw [hC.1];exact hL)
 obtain ⟨HN_,HW_,HCa_,HC_,HLa_,HL_,Hfa_,Hfd_,Hvl_⟩:=as9_ hN hW hCa hC hLa hL hfa hfd hvl;clear hN hW hCa hC hLa hL hfa hfd hvl
 have Hn:Aside0 (n=defs.length):=⟨HC_.out.1.symm⟩;have Hna:Aside0 (na=xs.length):=⟨HCa_.out.1.symm⟩
 have HK:=st0_ w
 go_enter Tryz.func7,Tryz.ntmps7
 go_wp2_with (first|((with_reducible refine gd_ 4 ?_);refine bx_ #[i0,bF,i0,.int .u64 0,eS,nilS] 30 ?_;clear HK;intro g4 wb4 HK Gg4;replace Bc:=ce1_ HK 0;replace Bf:=fe1_ HK 0)|((with_reducible refine gd_ 6 ?_);refine bx_ #[i0,eS,nilS] 48 ?_;clear HK;intro g6 wb6 HK Gg6;replace Bc:=ce2_ HK 1 0;replace Bf:=fe2_ HK 1 0)|((with_reducible refine gate_ (.store 48 (.tmp 6) (.tmp 14)) rfl ?_);refine storerow_at (cs:=#[i0,eS,nilS]) (g:=g6) 0 (#[.int .i64 9,eS,nilS]) at_ rfl Gg6.out rfl rfl rfl rfl rfl rfl kr_ rfl (by simp [Value.oneCell']) ?_;intro wr1 HK1;replace HK:=asd_ HK1;clear HK1;replace Bc:=ce2_ HK 1 0;replace Bf:=fe2_ HK 1 0))
 go_loopg [17] n (fun kq i w'=>∃ (k:Nat) (u:Value) (pr:List Blk) (cs:List (List Value)),Aside0 (k≤n)∧i= .int .i64 k∧Aside0 (kq=n - k)∧Aside0 (PR w.heap.size pr 52 4 u (allKids xs (defs.take k)).length cs.flatten)∧Aside0 (KR w0 (allKids xs (defs.take k)) cs)∧Aside0 ((allKids xs (defs.take k)).length≤k)∧Aside0 (At w (.b g6 (row (#[.int .i64 9,eS,u]) 48):: .b g4 (row (#[i0,bF,i0,.int .u64 0,eS,nilS]) 30)::pr) w'))
 case atStart=>exact ⟨0,nilS,[],[],⟨Nat.zero_le _⟩,rfl,⟨rfl⟩,⟨PR.none_ _ _ _⟩,⟨KR.nil _⟩,⟨Nat.le_refl _⟩,⟨(show At w [.b g6 (row (#[.int .i64 9,eS,nilS]) 48),.b g4 (row (#[i0,bF,i0,.int .u64 0,eS,nilS]) 30)] _ from at_)⟩⟩
 case round=>
  clear HK
  obtain ⟨k,u,pr,cs,Hk,rfl,Hkq,HP,HR,Hle,HK⟩:=hrel;obtain ⟨m,hm⟩:∃ m,(allKids xs (defs.take k)).length=m:=⟨_,rfl⟩;rw [hm] at HP Hle;have Hm:=asd_ hm;clear hm;obtain ⟨Au,cu,e8,hcu⟩:=HP.out.slice;subst e8;have Hcu:=asd_ hcu;clear hcu
  replace Bc:=ce2_ HK 1 0;replace Bf:=fe2_ HK 1 0
  by_cases hlt:k < n
  case neg=>
   have hd:decide (k < n)=false:=decide_eq_false hlt;have Hlt:=asd_ hlt;clear hlt
   have e8:defs.take k=defs:=List.take_of_length_le (by have:=Hlt.out;have:=Hn.out;omega);have h9:=Hm.out;have h8:=HR.out;rw [e8] at h9 h8;obtain ⟨Hm2,HR2⟩:=as2_ h9 h8;clear e8 h9 h8
   have Hv:Aside0 (∀ W,Below w.heap.size w W→Keeps pr W→Calls Tryz.prog 15 #[.agg #[.int .i64 9,eS,.slice Au m cu]] W (VDone w0 ⟨9,⟨#[]⟩,allKids xs defs⟩ W)):=⟨fun W hb hk=>by
    have hB:=below_step HW_.out hb
    have hc:=vd_all (HN_.out.up hB) Hvl_.out.1 Hvl_.out.2 (Below.refl _ _) (A:=Au) (c:=cu) (by have h1:=HR2.out.row hB HP.out Hm2.out hk (by have:=Hle.out;have:=Hk.out;have:=HL_.out;omega);have h2:=Hm2.out;subst h2;exact h1) (by have h1:=Hcu.out;have h2:=Hm2.out;subst h2;exact h1)
    have hc2:=hc.mono (fun e w' h=>VDone.base HN_.out hB Hvl_.out.2 h)
    have h2:=Hm2.out;subst h2;exact hc2⟩
   go_wp2_with (first|((with_reducible refine gd_ 55 ?_);refine lo_ 48 6 g6 (#[.int .i64 9,eS,.slice Au m cu]) HK.out.k.1 Tryz.underlying48 ?_))
   refine (Hv.out _ be_ (show Keeps pr _ from HK.out.k.2.2)).mono ?_
   rintro _ w9 ⟨d,td,okd,sn1,rfl,hvd,hdb,hks,hnd,hge,hof,hb⟩
   obtain ⟨Bd,cd,e7⟩:=hdb.slice;subst e7
   have HK9:Aside0 (At w (.b g6 (row (#[.int .i64 9,eS,.slice Au m cu]) 48):: .b g4 (row (#[i0,bF,i0,.int .u64 0,eS,nilS]) 30)::(sn1 ++ pr)) w9):=⟨At.behind [.b g6 (row (#[.int .i64 9,eS,.slice Au m cu]) 48),.b g4 (row (#[i0,bF,i0,.int .u64 0,eS,nilS]) 30)] (At.came_all (l:=(.b g6 (row (#[.int .i64 9,eS,.slice Au m cu]) 48):: .b g4 (row (#[i0,bF,i0,.int .u64 0,eS,nilS]) 30)::pr)) at_ hb hks hnd hge)⟩;have Hge:Aside0 (∀ g∈nums sn1,w.heap.size≤g):=⟨fun g hg=>Nat.le_trans (show Below w.heap.size w _ from be_).size (hge g hg)⟩;obtain ⟨Hvd,Hdb,Hof⟩:=as3_ hvd hdb hof;clear HK hvd hdb hks hnd hge hof hb;have HK:=HK9;clear HK9
   replace Bc:=ce2_ HK 1 0;replace Bf:=fe2_ HK 1 0
   go_wp2_with (first|((with_reducible refine gate_ (.store 30 (.tmp 4) (.tmp 57)) rfl ?_);refine storerow_at (cs:=#[i0,bF,i0,.int .u64 0,eS,nilS]) (g:=g4) 1 (#[.int .i64 d.kind,.bool d.b,.int .i64 d.n,.int .u64 d.f,.string d.s,.slice Bd d.kids.length cd]) at_ rfl Gg4.out rfl rfl rfl rfl rfl rfl kr_ rfl (by simp [Value.oneCell']) ?_;intro wr2 HK1;replace HK:=asd_ HK1;clear HK1;replace Bc:=ce2_ HK 1 0;replace Bf:=fe2_ HK 1 0))
   have HKz:Aside0 (At w (.b g6 (row (#[.int .i64 9,eS,.slice Au m cu]) 48):: .b g4 (row (#[.int .i64 d.kind,.bool d.b,.int .i64 d.n,.int .u64 d.f,.string d.s,.slice Bd d.kids.length cd]) 30)::(sn1 ++ pr)) _):=⟨at_⟩;have HKy:=HKz.out.sub (List.Sublist.cons _ (List.Sublist.cons _ (List.sublist_append_left sn1 pr)))
   exact bodyPost_ret (v:= .tuple #[.agg #[.int .i64 d.kind,.bool d.b,.int .i64 d.n,.int .u64 d.f,.string d.s,.slice Bd d.kids.length cd],.bool okd]) (by simp [results,Tryz.results7,go_sem,Bc]) rfl ⟨d,_,okd,sn1,rfl,Hvd.out,Hdb.out,HKy.k,HKy.d,Hge.out,Hof.out,HKy.b⟩
  case pos=>
   have hd:decide (k < n)=true:=decide_eq_true hlt;have Hlt:=asd_ hlt;clear hlt
   have hi0:(0:Int)≤(k:Int):=(by omega);have hi1:(k:Int) < (n:Int):=(by have:=Hlt.out;omega);have hs1:IntKind.i64.wrap ((k:Int) + 1)=(k:Int) + 1:=IntWalk.i64_in _ (by have:=Hlt.out;have:=HL_.out;omega)
   obtain ⟨ad,x,A1,A2,A3,c1,c2,c3,hA,hx,h0,h1,h2,h3,h4,h5,h6,⟨hl1,hC1⟩,⟨hl2,hC2⟩,hl3,hC3⟩:=at_AD HC_.out k Hlt.out
   subst hA;have hmem:=List.mem_of_getElem? hx;obtain ⟨Hx,Hmem,Hl1,HC1,Hl2,HC2,Hl3,HC3⟩:=as8_ hx hmem hl1 hC1 hl2 hC2 hl3 hC3;clear hmem hx hl1 hC1 hl2 hC2 hl3 hC3
   obtain ⟨C0,C1,C2,C3,C4,C5,C6⟩:=as7_ h0 h1 h2 h3 h4 h5 h6;clear h0 h1 h2 h3 h4 h5 h6
   replace Bc:=ce2_ HK 1 0;replace Bf:=fe2_ HK 1 0;replace Bx:=xc7_ (below_step HW_.out HK.out.b) C0 C1 C2 C3 C4 C5 C6
   go_wp2_with (first|((with_reducible refine gd_ 8 ?_);refine bx_ #[eS,eS,eS,nilS,bF,nilS,nilS] 45 ?_;clear HK;intro ge wb8 HK Gge;replace Bc:=ce3_ HK 2 1 0;replace Bf:=fe3_ HK 2 1 0;replace Bx:=xc7_ (below_step HW_.out HK.out.b) C0 C1 C2 C3 C4 C5 C6)|((with_reducible refine gate_ (.store 45 (.tmp 8) (.tmp 20)) rfl ?_);refine storerow_at (cs:=#[eS,eS,eS,nilS,bF,nilS,nilS]) (g:=ge) 0 (#[.string x.doc,.string x.name,.string x.t.f0,.slice A1 x.t.f1.length c1,.bool x.t.f2,.slice A2 x.dflt.length c2,.slice A3 x.dirs.length c3]) at_ rfl Gge.out rfl rfl rfl rfl rfl rfl kr_ rfl (by simp [Value.oneCell']) ?_;intro wr3 HK1;replace HK:=asd_ HK1;clear HK1;replace Bc:=ce3_ HK 2 1 0;replace Bf:=fe3_ HK 2 1 0;replace Bx:=xc7_ (below_step HW_.out HK.out.b) C0 C1 C2 C3 C4 C5 C6))
   clear hd hi0 hi1 hs1
   go_loopg [9,25] na (fun jq v i w'=>∃ (j:Nat) (prl:List Blk),Aside0 (j≤na)∧i= .int .i64 j∧Aside0 (jq=na - j)∧Aside0 (LV w0 w.heap.size prl v ((xs.take j).foldl (fun l a=>if a.1.toList=x.name.toList then [a.2] else l) x.dflt))∧Aside0 (At w (.b ge (row (#[.string x.doc,.string x.name,.string x.t.f0,.slice A1 x.t.f1.length c1,.bool x.t.f2,.slice A2 x.dflt.length c2,.slice A3 x.dirs.length c3]) 45):: .b g6 (row (#[.int .i64 9,eS,.slice Au m cu]) 48):: .b g4 (row (#[i0,bF,i0,.int .u64 0,eS,nilS]) 30)::(prl ++ pr)) w'))
   case atStart=>exact ⟨0,[],⟨Nat.zero_le _⟩,rfl,⟨rfl⟩,⟨.inl ⟨rfl,A2,c2,rfl,Hl2.out,HC2.out⟩⟩,⟨(show At w (.b ge (row (#[.string x.doc,.string x.name,.string x.t.f0,.slice A1 x.t.f1.length c1,.bool x.t.f2,.slice A2 x.dflt.length c2,.slice A3 x.dirs.length c3]) 45):: .b g6 (row (#[.int .i64 9,eS,.slice Au m cu]) 48):: .b g4 (row (#[i0,bF,i0,.int .u64 0,eS,nilS]) 30)::pr) _ from at_)⟩⟩
   case round=>
    clear HK
    obtain ⟨j,prl,Hj,rfl,Hjq,HLV,HK⟩:=hrel;obtain ⟨Al,cl,e8,hcl⟩:=HLV.out.slice;subst e8;clear hcl;have Hge:=Gge
    replace Bc:=ce3_ HK 2 1 0;replace Bf:=fe3_ HK 2 1 0
    by_cases hjt:j < na
    case neg=>
     have hd:decide (j < na)=false:=decide_eq_false hjt;have Hjt:=asd_ hjt;clear hjt
     have eav:(xs.take j).foldl (fun l a=>if a.1.toList=x.name.toList then [a.2] else l) x.dflt=argv xs x:=by rw [List.take_of_length_le (by have:=Hjt.out;have:=Hna.out;omega)];rfl
     rw [eav] at HLV ⊢;clear eav;obtain ⟨nv,hnv⟩:∃ nv,(argv xs x).length=nv:=⟨_,rfl⟩;have Hnv1:Aside0 (nv≤1):=⟨by rw [← hnv];exact argv_len (Hfd_.out x Hmem.out).2.1⟩;rw [hnv] at HLV ⊢;have Hnv:=asd_ hnv;clear hnv
     go_wp2_with fail
     clear hd
     go_loopg [40] nv (fun qq i w'=>∃ (q:Nat) (u:Value) (pr2:List Blk) (cs2:List (List Value)),Aside0 (q≤nv)∧i= .int .i64 q∧Aside0 (qq=nv - q)∧Aside0 (PR w.heap.size pr2 52 4 u (m + q) cs2.flatten)∧Aside0 (KR w0 (allKids xs (defs.take k) ++ ((argv xs x).take q).map (fun v=>(x.name,v))) cs2)∧Aside0 (At w (.b ge (row (#[.string x.doc,.string x.name,.string x.t.f0,.slice A1 x.t.f1.length c1,.bool x.t.f2,.slice A2 x.dflt.length c2,.slice A3 x.dirs.length c3]) 45):: .b g6 (row (#[.int .i64 9,eS,u]) 48):: .b g4 (row (#[i0,bF,i0,.int .u64 0,eS,nilS]) 30)::(prl ++ pr2)) w'))
     case atStart=>exact ⟨0,.slice Au m cu,pr,cs,⟨Nat.zero_le _⟩,rfl,⟨rfl⟩,HP,⟨by simpa using HR.out⟩,⟨(show At w (.b ge (row (#[.string x.doc,.string x.name,.string x.t.f0,.slice A1 x.t.f1.length c1,.bool x.t.f2,.slice A2 x.dflt.length c2,.slice A3 x.dirs.length c3]) 45):: .b g6 (row (#[.int .i64 9,eS,.slice Au m cu]) 48):: .b g4 (row (#[i0,bF,i0,.int .u64 0,eS,nilS]) 30)::(prl ++ pr)) _ from at_)⟩⟩
     case round=>
      clear HK
      obtain ⟨q,u,pr2,cs2,Hq,rfl,Hqq,HP2,HR2,HK⟩:=hrel;obtain ⟨mq,hmq⟩:∃ mq,m + q=mq:=⟨_,rfl⟩;rw [hmq] at HP2;have Hmq:=asd_ hmq;clear hmq;obtain ⟨Au2,cu2,e8,hcu⟩:=HP2.out.slice;subst e8;clear hcu
      replace Bc:=ce3_ HK 2 1 0;replace Bf:=fe3_ HK 2 1 0
      by_cases hqt:q < nv
      case neg=>
       have hd:decide (q < nv)=false:=decide_eq_false hqt;have Hqt:=asd_ hqt;clear hqt;have hs1:IntKind.i64.wrap ((k:Int) + 1)=(k:Int) + 1:=IntWalk.i64_in _ (by have:=Hlt.out;have:=HL_.out;omega)
       go_wp2_with fail
       have e71:(argv xs x).take q=argv xs x:=List.take_of_length_le (by have:=Hqt.out;have:=Hnv.out;omega)
       have e7:allKids xs (defs.take k) ++ ((argv xs x).take q).map (fun v=>(x.name,v))=allKids xs (defs.take (k + 1)):=by rw [e71];exact (allKids_snoc xs Hx.out).symm
       have e6:(allKids xs (defs.take (k + 1))).length=mq:=by rw [← e7,e71,List.length_append,List.length_map,Hm.out,Hnv.out];have a1:=Hmq.out;have a4:=Hqt.out;have a5:=Hq.out;omega
       have h9:=HR2.out;rw [e7] at h9;obtain ⟨HR3,E6⟩:=as2_ h9 e6;clear h9 e6 e7 e71
       go_roundg (n - (k + 1))
       case measure=>have:=Hkq.out;have:=Hlt.out;omega
       case rel=>exact ⟨k + 1,_,pr2,cs2,⟨Hlt.out⟩,by go_num,⟨rfl⟩,⟨by rw [E6.out];exact HP2.out⟩,HR3,⟨by rw [E6.out];have a1:=Hmq.out;have a2:=Hle.out;have a3:=Hnv1.out;have a4:=Hq.out;omega⟩,⟨At.off (L:=[.b g6 (row (#[.int .i64 9,eS,.slice Au2 mq cu2]) 48),.b g4 (row (#[i0,bF,i0,.int .u64 0,eS,nilS]) 30)]) prl (At.sub (show At w (.b ge (row (#[.string x.doc,.string x.name,.string x.t.f0,.slice A1 x.t.f1.length c1,.bool x.t.f2,.slice A2 x.dflt.length c2,.slice A3 x.dirs.length c3]) 45):: .b g6 (row (#[.int .i64 9,eS,.slice Au2 mq cu2]) 48):: .b g4 (row (#[i0,bF,i0,.int .u64 0,eS,nilS]) 30)::(prl ++ pr2)) _ from at_) (List.Sublist.cons _ (List.Sublist.refl _)))⟩⟩
      case pos=>
       have hd:decide (q < nv)=true:=decide_eq_true hqt;have Hqt:=asd_ hqt;clear hqt
       have hi0:(0:Int)≤(q:Int):=(by omega);have hi1:(q:Int) < (nv:Int):=(by have:=Hqt.out;omega);have hs1:IntKind.i64.wrap ((q:Int) + 1)=(q:Int) + 1:=IntWalk.i64_in _ (by have:=Hqt.out;have:=Hnv1.out;omega)
       have hkl:Keeps prl wr:=(Keeps.app.1 HK.out.k.2.2.2).1
       obtain ⟨adl,y,A5,c5,hA,hy,y0,y1,y2,hl5,hC5⟩:=HLV.out.at (below_step HW_.out HK.out.b) hkl q Hqt.out;subst hA;obtain ⟨Hy,Hl5,HC5⟩:=as3_ hy hl5 hC5;clear hkl hy hl5 hC5
       go_wp2_with (first|((with_reducible refine gd_ 13 ?_);refine bx_ #[i0,eS,nilS] 48 ?_;clear HK y0 y1 y2;intro gv wb13 HK Ggv;replace Bc:=ce4_ HK 3 2 1 0;replace Bf:=fe4_ HK 3 2 1 0)|((with_reducible refine gd_ 48 ?_);refine lo_ 48 13 gv (#[.int .i64 y.kind,.string y.raw,.slice A5 y.kids.length c5]) HK.out.k.1 Tryz.underlying48 ?_)|((with_reducible refine gd_ 50 ?_);refine nw_ (row (#[.string x.name,.int .i64 y.kind,.string y.raw,.slice A5 y.kids.length c5]) 52) (fun g=> .slice (some ⟨g,0,none⟩) 1 1) ?_;clear HK;intro gl wb50 HK Ggl;replace Bc:=ce4_ HK 4 3 2 1;replace Bf:=fe4_ HK 4 3 2 1)|((with_reducible refine gate_builtin (b:= .append) (xs:=#[.tmp 45,.tmp 50]) rfl ?_);at_builtin;refine appendpr_at (L:=(.b gv (row (#[.int .i64 y.kind,.string y.raw,.slice A5 y.kids.length c5]) 48):: .b ge (row (#[.string x.doc,.string x.name,.string x.t.f0,.slice A1 x.t.f1.length c1,.bool x.t.f2,.slice A2 x.dflt.length c2,.slice A3 x.dirs.length c3]) 45):: .b g6 (row (#[.int .i64 9,eS,.slice Au2 mq cu2]) 48):: .b g4 (row (#[i0,bF,i0,.int .u64 0,eS,nilS]) 30)::prl)) (pr:=pr2) (T:=[]) (kc:=#[.string x.name,.int .i64 y.kind,.string y.raw,.slice A5 y.kids.length c5]) (sz:=4) (e:=52) (by simpa using (At.front 0 HK.out rfl)) (by repeat (first|exact HLV.out.offG _|exact trivial|(apply offG_append))) HP2.out rfl rfl Tryz.underlying46 info52 rfl (by decide) rfl (by simp [Value.oneCell']) rfl rfl (by have a1:=Hmq.out;have a2:=Hle.out;have a3:=Hnv1.out;have a4:=Hqt.out;have a5:=Hlt.out;have a6:=HL_.out;omega) (by have a1:=Hmq.out;have a2:=Hle.out;have a3:=Hnv1.out;have a4:=Hqt.out;have a5:=Hlt.out;have a6:=HL_.out;omega) ?_;intro pr3 gA3 ca wa HP3 HE0;have HP3:=asd_ HP3;have HK9:Aside0 (At w (.b gv (row (#[.int .i64 y.kind,.string y.raw,.slice A5 y.kids.length c5]) 48):: .b ge (row (#[.string x.doc,.string x.name,.string x.t.f0,.slice A1 x.t.f1.length c1,.bool x.t.f2,.slice A2 x.dflt.length c2,.slice A3 x.dirs.length c3]) 45):: .b g6 (row (#[.int .i64 9,eS,.slice Au2 mq cu2]) 48):: .b g4 (row (#[i0,bF,i0,.int .u64 0,eS,nilS]) 30)::(prl ++ pr3)) wa):=asd_ (by simpa using HE0);clear HK HE0;have HK:=HK9;clear HK9;replace Bc:=ce4_ HK 3 2 1 0;replace Bf:=fe4_ HK 3 2 1 0)|((first|((with_reducible refine gate_ (.store 48 (.tmp 13) (.tmp 43)) rfl ?_);refine storerow_at (cs:=#[i0,eS,nilS]) (g:=gv) 0 (#[.int .i64 y.kind,.string y.raw,.slice A5 y.kids.length c5]) at_ rfl Ggv.out rfl rfl rfl rfl rfl rfl kr_ rfl (by simp [Value.oneCell']) ?_)|((with_reducible refine gate_ (.store 46 (.tmp 52) (.tmp 51)) rfl ?_);refine store_at (t:=46) (p:=52) (g:=g6) (i:=2) (v:= .slice (some ⟨gA3,0,none⟩) (mq + 1) ca) 2 (#[.int .i64 9,eS,.slice (some ⟨gA3,0,none⟩) (mq + 1) ca]) rfl at_ rfl Gg6.out rfl rfl rfl rfl gs_ ?_));intro wr4 HK1;replace HK:=asd_ HK1;clear HK1;replace Bc:=ce4_ HK 3 2 1 0;replace Bf:=fe4_ HK 3 2 1 0))
       have e7:allKids xs (defs.take k) ++ ((argv xs x).take (q + 1)).map (fun v=>(x.name,v))=(allKids xs (defs.take k) ++ ((argv xs x).take q).map (fun v=>(x.name,v))) ++ [(x.name,y)]:=by rw [take_succ_get Hy.out,List.map_append,List.append_assoc];rfl
       have E7:=asd_ e7;clear e7
       go_roundg (nv - (q + 1))
       case measure=>have:=Hqq.out;have:=Hqt.out;omega
       case rel=>exact ⟨q + 1,_,pr3,cs2 ++ [[.string x.name,.int .i64 y.kind,.string y.raw,.slice A5 y.kids.length c5]],⟨Hqt.out⟩,by go_num,⟨rfl⟩,⟨by have e5:m + (q + 1)=mq + 1:=(by have:=Hmq.out;omega);rw [e5,List.flatten_append,List.flatten_singleton];exact HP3.out⟩,⟨by rw [E7.out];exact HR2.out.next (k:=(x.name,y)) Hl5.out HC5.out⟩,⟨At.sub (show At w (.b gv (row (#[.int .i64 y.kind,.string y.raw,.slice A5 y.kids.length c5]) 48):: .b ge (row (#[.string x.doc,.string x.name,.string x.t.f0,.slice A1 x.t.f1.length c1,.bool x.t.f2,.slice A2 x.dflt.length c2,.slice A3 x.dirs.length c3]) 45):: .b g6 (row (#[.int .i64 9,eS,.slice (some ⟨gA3,0,none⟩) (mq + 1) ca]) 48):: .b g4 (row (#[i0,bF,i0,.int .u64 0,eS,nilS]) 30)::(prl ++ pr3)) _ from at_) (List.Sublist.cons _ (List.Sublist.refl _))⟩⟩
    case pos=>
     have hd:decide (j < na)=true:=decide_eq_true hjt;have Hjt:=asd_ hjt;clear hjt
     have hi0:(0:Int)≤(j:Int):=(by omega);have hi1:(j:Int) < (na:Int):=(by have:=Hjt.out;omega);have hs1:IntKind.i64.wrap ((j:Int) + 1)=(j:Int) + 1:=IntWalk.i64_in _ (by have:=Hjt.out;have:=HLa_.out;omega)
     obtain ⟨ada,nm,v,A4,c4,hA,hax,z0,z1,z2,z3,hl4,hC4⟩:=at_Kid HCa_.out j Hjt.out;subst hA;obtain ⟨Hax,Hl4,HC4,Z0,Z1,Z2,Z3⟩:=as7_ hax hl4 hC4 z0 z1 z2 z3;clear hax hl4 hC4
     replace Bc:=ce3_ HK 2 1 0;replace Bf:=fe3_ HK 2 1 0;replace Bx:=xc4_ (below_step HW_.out HK.out.b) Z0 Z1 Z2 Z3
     have e5:=take_succ_get Hax.out;have E5:=asd_ e5;clear e5
     by_cases he:nm.toList=x.name.toList
     case pos=>
      have f0:(nm.toList == x.name.toList)=true:=beq_iff_eq.2 he;have He:=asd_ he;clear he
      go_wp2_with (first|((with_reducible refine gd_ 11 ?_);refine bx_ #[eS,i0,eS,nilS] 50 ?_;clear HK;intro ga wb11 HK Gga;replace Bc:=ce4_ HK 3 2 1 0;replace Bf:=fe4_ HK 3 2 1 0;replace Bx:=xc4_ (below_step HW_.out HK.out.b) Z0 Z1 Z2 Z3)|((with_reducible refine gd_ 36 ?_);refine nw_ (row (#[.int .i64 v.kind,.string v.raw,.slice A4 v.kids.length c4]) 48) (fun g=> .slice (some ⟨g,0,none⟩) 1 1) ?_;clear HK;intro gn wb36 HK Ggn;replace Bc:=ce4_ HK 4 3 2 1;replace Bf:=fe4_ HK 4 3 2 1)|((with_reducible refine gate_ (.store 50 (.tmp 11) (.tmp 28)) rfl ?_);refine storerow_at (cs:=#[eS,i0,eS,nilS]) (g:=ga) 0 (#[.string nm,.int .i64 v.kind,.string v.raw,.slice A4 v.kids.length c4]) at_ rfl Gga.out rfl rfl rfl rfl rfl rfl kr_ rfl (by simp [Value.oneCell']) ?_;intro wr6 HK1;replace HK:=asd_ HK1;clear HK1;replace Bc:=ce4_ HK 3 2 1 0;replace Bf:=fe4_ HK 3 2 1 0;replace Bx:=xc4_ (below_step HW_.out HK.out.b) Z0 Z1 Z2 Z3))
      have HQ1:At w ((.b gn (row (#[.int .i64 v.kind,.string v.raw,.slice A4 v.kids.length c4]) 48):: .b ge (row (#[.string x.doc,.string x.name,.string x.t.f0,.slice A1 x.t.f1.length c1,.bool x.t.f2,.slice A2 x.dflt.length c2,.slice A3 x.dirs.length c3]) 45):: .b g6 (row (#[.int .i64 9,eS,.slice Au m cu]) 48):: .b g4 (row (#[i0,bF,i0,.int .u64 0,eS,nilS]) 30)::[]) ++ (prl ++ pr)) wb36:=At.sub (show At w (.b gn (row (#[.int .i64 v.kind,.string v.raw,.slice A4 v.kids.length c4]) 48):: .b ga (row (#[.string nm,.int .i64 v.kind,.string v.raw,.slice A4 v.kids.length c4]) 50):: .b ge (row (#[.string x.doc,.string x.name,.string x.t.f0,.slice A1 x.t.f1.length c1,.bool x.t.f2,.slice A2 x.dflt.length c2,.slice A3 x.dirs.length c3]) 45):: .b g6 (row (#[.int .i64 9,eS,.slice Au m cu]) 48):: .b g4 (row (#[i0,bF,i0,.int .u64 0,eS,nilS]) 30)::(prl ++ pr)) wb36 from at_) (List.Sublist.cons_cons _ (List.Sublist.cons _ (List.Sublist.refl _)))
      have HQ2:=At.off prl HQ1;clear HQ1
      go_roundg (na - (j + 1))
      case measure=>have:=Hjq.out;have:=Hjt.out;omega
      case rel=>exact ⟨j + 1,[.b gn (row (#[.int .i64 v.kind,.string v.raw,.slice A4 v.kids.length c4]) 48)],⟨Hjt.out⟩,by go_num,⟨rfl⟩,⟨.inr ⟨gn,v,A4,c4,rfl,Ggn.out,rfl,by rw [E5.out,List.foldl_append];exact if_pos He.out,Hl4.out,HC4.out⟩⟩,⟨At.behind (sn:=[.b gn (row (#[.int .i64 v.kind,.string v.raw,.slice A4 v.kids.length c4]) 48)]) (X:=pr) [.b ge (row (#[.string x.doc,.string x.name,.string x.t.f0,.slice A1 x.t.f1.length c1,.bool x.t.f2,.slice A2 x.dflt.length c2,.slice A3 x.dirs.length c3]) 45),.b g6 (row (#[.int .i64 9,eS,.slice Au m cu]) 48),.b g4 (row (#[i0,bF,i0,.int .u64 0,eS,nilS]) 30)] HQ2⟩⟩
     case neg=>
      have f0:(nm.toList == x.name.toList)=false:=beq_eq_false_iff_ne.2 he;have He:=asd_ he;clear he
      go_wp2_with (first|((with_reducible refine gd_ 11 ?_);refine bx_ #[eS,i0,eS,nilS] 50 ?_;clear HK;intro ga wb11 HK Gga;replace Bc:=ce4_ HK 3 2 1 0;replace Bf:=fe4_ HK 3 2 1 0;replace Bx:=xc4_ (below_step HW_.out HK.out.b) Z0 Z1 Z2 Z3)|((with_reducible refine gate_ (.store 50 (.tmp 11) (.tmp 28)) rfl ?_);refine storerow_at (cs:=#[eS,i0,eS,nilS]) (g:=ga) 0 (#[.string nm,.int .i64 v.kind,.string v.raw,.slice A4 v.kids.length c4]) at_ rfl Gga.out rfl rfl rfl rfl rfl rfl kr_ rfl (by simp [Value.oneCell']) ?_;intro wr6 HK1;replace HK:=asd_ HK1;clear HK1;replace Bc:=ce4_ HK 3 2 1 0;replace Bf:=fe4_ HK 3 2 1 0;replace Bx:=xc4_ (below_step HW_.out HK.out.b) Z0 Z1 Z2 Z3))
      go_roundg (na - (j + 1))
      case measure=>have:=Hjq.out;have:=Hjt.out;omega
      case rel=>exact ⟨j + 1,prl,⟨Hjt.out⟩,by go_num,⟨rfl⟩,⟨by rw [E5.out,List.foldl_append];have e4:[(nm,v)].foldl (fun l a=>if a.1.toList=x.name.toList then [a.2] else l) ((xs.take j).foldl (fun l a=>if a.1.toList=x.name.toList then [a.2] else l) x.dflt)=(xs.take j).foldl (fun l a=>if a.1.toList=x.name.toList then [a.2] else l) x.dflt:=if_neg He.out;rw [e4];exact HLV.out⟩,⟨At.sub (show At w (.b ga (row (#[.string nm,.int .i64 v.kind,.string v.raw,.slice A4 v.kids.length c4]) 50):: .b ge (row (#[.string x.doc,.string x.name,.string x.t.f0,.slice A1 x.t.f1.length c1,.bool x.t.f2,.slice A2 x.dflt.length c2,.slice A3 x.dirs.length c3]) 45):: .b g6 (row (#[.int .i64 9,eS,.slice Au m cu]) 48):: .b g4 (row (#[i0,bF,i0,.int .u64 0,eS,nilS]) 30)::(prl ++ pr)) _ from at_) (List.Sublist.cons _ (List.Sublist.refl _))⟩⟩
theorem fitsArgs_ok (w:World) (A:Option Addr) (n c:Nat) (xs:List Kid) (hC:kKid.C w A n xs) (hL:n≤1048576) (hs:SmK xs) (deep:Int) (hd1: -1≤deep) (hd2:deep≤100):
  Calls Tryz.prog 10 #[.slice A n c,.bool true,.int .i64 deep] w (Yes (FitK xs) w):=by
 obtain ⟨HC_,HL_,Hs_,Hd1_,Hd2_⟩:=as5_ hC hL hs hd1 hd2;clear hC hL hs hd1 hd2
 have HK:=st0_ w
 have Hn:Aside0 (n=xs.length):=⟨HC_.out.1.symm⟩
 go_enter Tryz.func10,Tryz.ntmps10
 go_wp2_with fail
 go_loopg [11] n (fun kq i w'=>∃ k:Nat,Aside0 (k≤n)∧i= .int .i64 k∧Aside0 (kq=n - k)∧Aside0 (∀ j x,j < k→xs[j]? =some x→Fit x.2)∧Aside0 (At w [] w'))
 case atStart=>exact ⟨0,⟨Nat.zero_le _⟩,rfl,⟨rfl⟩,⟨upto_zero⟩,⟨at_⟩⟩
 case round=>
  clear HK
  obtain ⟨k,Hk,rfl,Hkq,Hfit,HK⟩:=hrel
  by_cases hlt:k < n
  case neg=>
   have hd:decide (k < n)=false:=decide_eq_false hlt;have Hlt:=asd_ hlt;clear hlt
   go_wp2_with fail
   go_ret
   exact Yes.is be_ (upto_all Hfit.out Hn.out Hlt.out)
  case pos=>
   have hd:decide (k < n)=true:=decide_eq_true hlt;have Hlt:=asd_ hlt;clear hlt
   have hi0:(0:Int)≤(k:Int):=(by omega);have hi1:(k:Int) < (n:Int):=(by have:=Hlt.out;omega);have hs1:IntKind.i64.wrap ((k:Int) + 1)=(k:Int) + 1:=IntWalk.i64_in _ (by have:=Hlt.out;have:=HL_.out;omega)
   obtain ⟨ad,nm,v,A2,c2,hA,hx,h0,h1,h2,h3,hl2,hC2⟩:=at_Kid HC_.out k Hlt.out
   subst hA
   have hmem:=List.mem_of_getElem? hx;obtain ⟨Hx,Hmem,Hl2,HC2⟩:=as4_ hx hmem hl2 hC2;clear hmem hx hl2 hC2
   obtain ⟨C0,C1,C2,C3⟩:=as4_ h0 h1 h2 h3;clear h0 h1 h2 h3
   replace Bx:=xc4_ HK.out.b C0 C1 C2 C3
   obtain ⟨kk,rk,hrk,_⟩:=isName_some nm (by have h9:nm.size≤1048576:=(Hs_.out.2 _ Hmem.out).1;omega);have Hrk:=asd_ hrk;clear hrk
   cases rk
   case true=>
    go_wp2_with (first|((with_reducible refine gd_ 8 ?_);refine bx_ #[eS,i0,eS,nilS] 50 ?_;clear HK;intro ge wb8 HK Gge;replace Bc:=ce1_ HK 0;replace Bf:=fe1_ HK 0;replace Bx:=xc4_ HK.out.b C0 C1 C2 C3)|((first|((with_reducible refine gate_ (.store 50 (.tmp 8) (.tmp 14)) rfl ?_);refine storerow_at (cs:=#[eS,i0,eS,nilS]) (g:=ge) 0 (#[.string nm,.int .i64 v.kind,.string v.raw,.slice A2 v.kids.length c2]) at_ rfl Gge.out rfl rfl rfl rfl rfl rfl kr_ rfl (by simp [Value.oneCell']) ?_)|((with_reducible refine gd_ 17 ?_);refine cl_ #[.string nm] (.bool true) Tryz.func24 ((spec_IsName.calls kk nm true _ Hrk.out).mono (fun _ _ h=>⟨h.1,h.2.below⟩)) ?_));intro wr1 HK1;replace HK:=asd_ HK1;clear HK1;replace Bc:=ce1_ HK 0;replace Bf:=fe1_ HK 0;replace Bx:=xc4_ HK.out.b C0 C1 C2 C3))
    refine (fitsVal_ok v _ _ _ (Kd.C_below HC2.out be_) Hl2.out deep Hd1_.out Hd2_.out (Hs_.out.2 _ Hmem.out).2).mono ?_
    rintro _ wv ⟨bv,rfl,hp,hb⟩
    have Hpv:=asd_ hp;have HK9:=asd_ (At.step at_ hb);clear HK hp hb;have HK:=HK9;clear HK9
    replace Bc:=ce1_ HK 0;replace Bf:=fe1_ HK 0;replace Bx:=xc4_ HK.out.b C0 C1 C2 C3
    cases bv
    case true=>
     go_wp2_with fail
     go_roundg (n - (k + 1))
     case measure=>have:=Hkq.out;have:=Hlt.out;omega
     case rel=>exact ⟨k + 1,⟨Hlt.out⟩,by go_num,⟨rfl⟩,⟨upto_next Hfit.out Hx.out (Hpv.out (by first|trivial|rfl))⟩,⟨At.sub at_ (by simp)⟩⟩
    case false=>
     go_wp2_with fail
     go_ret
     exact Yes.no be_
   case false=>
    go_wp2_with (first|((with_reducible refine gd_ 8 ?_);refine bx_ #[eS,i0,eS,nilS] 50 ?_;clear HK;intro ge wb8 HK Gge;replace Bc:=ce1_ HK 0;replace Bf:=fe1_ HK 0;replace Bx:=xc4_ HK.out.b C0 C1 C2 C3)|((first|((with_reducible refine gate_ (.store 50 (.tmp 8) (.tmp 14)) rfl ?_);refine storerow_at (cs:=#[eS,i0,eS,nilS]) (g:=ge) 0 (#[.string nm,.int .i64 v.kind,.string v.raw,.slice A2 v.kids.length c2]) at_ rfl Gge.out rfl rfl rfl rfl rfl rfl kr_ rfl (by simp [Value.oneCell']) ?_)|((with_reducible refine gd_ 17 ?_);refine cl_ #[.string nm] (.bool false) Tryz.func24 ((spec_IsName.calls kk nm false _ Hrk.out).mono (fun _ _ h=>⟨h.1,h.2.below⟩)) ?_));intro wr1 HK1;replace HK:=asd_ HK1;clear HK1;replace Bc:=ce1_ HK 0;replace Bf:=fe1_ HK 0;replace Bx:=xc4_ HK.out.b C0 C1 C2 C3))
    go_ret
    exact Yes.no be_
theorem fitsDirs_ok (w:World) (A:Option Addr) (n c:Nat) (xs:List Dr) (hC:kDr.C w A n xs) (hL:n≤1048576) (hs:SmD xs) (deep:Int) (hd1: -1≤deep) (hd2:deep≤100):
  Calls Tryz.prog 30 #[.slice A n c,.bool true,.int .i64 deep] w (Yes (∀ d∈xs,FitK d.2) w):=by
 obtain ⟨HC_,HL_,Hs_,Hd1_,Hd2_⟩:=as5_ hC hL hs hd1 hd2;clear hC hL hs hd1 hd2
 have HK:=st0_ w
 have Hn:Aside0 (n=xs.length):=⟨HC_.out.1.symm⟩
 go_enter Tryz.func30,Tryz.ntmps30
 go_wp2_with fail
 go_loopg [11] n (fun kq i w'=>∃ k:Nat,Aside0 (k≤n)∧i= .int .i64 k∧Aside0 (kq=n - k)∧Aside0 (∀ j x,j < k→xs[j]? =some x→FitK x.2)∧Aside0 (At w [] w'))
 case atStart=>exact ⟨0,⟨Nat.zero_le _⟩,rfl,⟨rfl⟩,⟨upto_zero⟩,⟨at_⟩⟩
 case round=>
  clear HK
  obtain ⟨k,Hk,rfl,Hkq,Hfit,HK⟩:=hrel
  by_cases hlt:k < n
  case neg=>
   have hd:decide (k < n)=false:=decide_eq_false hlt;have Hlt:=asd_ hlt;clear hlt
   go_wp2_with fail
   go_ret
   exact Yes.is be_ (upto_all Hfit.out Hn.out Hlt.out)
  case pos=>
   have hd:decide (k < n)=true:=decide_eq_true hlt;have Hlt:=asd_ hlt;clear hlt
   have hi0:(0:Int)≤(k:Int):=(by omega);have hi1:(k:Int) < (n:Int):=(by have:=Hlt.out;omega);have hs1:IntKind.i64.wrap ((k:Int) + 1)=(k:Int) + 1:=IntWalk.i64_in _ (by have:=Hlt.out;have:=HL_.out;omega)
   obtain ⟨ad,nm,l,A2,c2,hA,hx,h0,h1,hl2,hC2⟩:=at_Dr HC_.out k Hlt.out
   subst hA
   have hmem:=List.mem_of_getElem? hx;obtain ⟨Hx,Hmem,Hl2,HC2⟩:=as4_ hx hmem hl2 hC2;clear hmem hx hl2 hC2
   obtain ⟨C0,C1⟩:=as2_ h0 h1;clear h0 h1
   replace Bx:=xc2_ HK.out.b C0 C1
   obtain ⟨kk,rk,hrk,_⟩:=isName_some nm (by have h9:nm.size≤1048576:=(Hs_.out.2 _ Hmem.out).1;omega);have Hrk:=asd_ hrk;clear hrk
   cases rk
   case true=>
    go_wp2_with (first|((with_reducible refine gd_ 8 ?_);refine bx_ #[eS,nilS] 122 ?_;clear HK;intro ge wb8 HK Gge;replace Bc:=ce1_ HK 0;replace Bf:=fe1_ HK 0;replace Bx:=xc2_ HK.out.b C0 C1)|((first|((with_reducible refine gate_ (.store 122 (.tmp 8) (.tmp 14)) rfl ?_);refine storerow_at (cs:=#[eS,nilS]) (g:=ge) 0 (#[.string nm,.slice A2 l.length c2]) at_ rfl Gge.out rfl rfl rfl rfl rfl rfl kr_ rfl (by simp [Value.oneCell']) ?_)|((with_reducible refine gd_ 17 ?_);refine cl_ #[.string nm] (.bool true) Tryz.func24 ((spec_IsName.calls kk nm true _ Hrk.out).mono (fun _ _ h=>⟨h.1,h.2.below⟩)) ?_));intro wr1 HK1;replace HK:=asd_ HK1;clear HK1;replace Bc:=ce1_ HK 0;replace Bf:=fe1_ HK 0;replace Bx:=xc2_ HK.out.b C0 C1))
    refine (fitsArgs_ok _ _ _ _ l (Kd.C_below HC2.out be_) (Hs_.out.2 _ Hmem.out).2.1 (Hs_.out.2 _ Hmem.out).2 deep Hd1_.out Hd2_.out).mono ?_
    rintro _ wv ⟨bv,rfl,hp,hb⟩
    have Hpv:=asd_ hp;have HK9:=asd_ (At.step at_ hb);clear HK hp hb;have HK:=HK9;clear HK9
    replace Bc:=ce1_ HK 0;replace Bf:=fe1_ HK 0;replace Bx:=xc2_ HK.out.b C0 C1
    cases bv
    case true=>
     go_wp2_with fail
     go_roundg (n - (k + 1))
     case measure=>have:=Hkq.out;have:=Hlt.out;omega
     case rel=>exact ⟨k + 1,⟨Hlt.out⟩,by go_num,⟨rfl⟩,⟨upto_next Hfit.out Hx.out (Hpv.out (by first|trivial|rfl))⟩,⟨At.sub at_ (by simp)⟩⟩
    case false=>
     go_wp2_with fail
     go_ret
     exact Yes.no be_
   case false=>
    go_wp2_with (first|((with_reducible refine gd_ 8 ?_);refine bx_ #[eS,nilS] 122 ?_;clear HK;intro ge wb8 HK Gge;replace Bc:=ce1_ HK 0;replace Bf:=fe1_ HK 0;replace Bx:=xc2_ HK.out.b C0 C1)|((first|((with_reducible refine gate_ (.store 122 (.tmp 8) (.tmp 14)) rfl ?_);refine storerow_at (cs:=#[eS,nilS]) (g:=ge) 0 (#[.string nm,.slice A2 l.length c2]) at_ rfl Gge.out rfl rfl rfl rfl rfl rfl kr_ rfl (by simp [Value.oneCell']) ?_)|((with_reducible refine gd_ 17 ?_);refine cl_ #[.string nm] (.bool false) Tryz.func24 ((spec_IsName.calls kk nm false _ Hrk.out).mono (fun _ _ h=>⟨h.1,h.2.below⟩)) ?_));intro wr1 HK1;replace HK:=asd_ HK1;clear HK1;replace Bc:=ce1_ HK 0;replace Bf:=fe1_ HK 0;replace Bx:=xc2_ HK.out.b C0 C1))
    go_ret
    exact Yes.no be_
theorem E9:∀ q,q∈9::Kd.string.E→datT q=true:=by
 intro q hq
 obtain rfl:q=9:=by simpa [Kd.string,Kd.scalar] using hq
 rfl
theorem take_map {α:Type} {xs:List (ByteArray×α)} {k:Nat} {y:ByteArray×α} (h:xs[k]? =some y):(xs.take (k + 1)).map Prod.fst=(xs.take k).map Prod.fst ++ [y.1]:=by
 obtain ⟨hl,rfl⟩:=List.getElem?_eq_some_iff.1 h
 rw [List.take_succ_eq_append_getElem hl,List.map_append];rfl
theorem take_mapA {xs:List ADef} {k:Nat} {y:ADef} (h:xs[k]? =some y):(xs.take (k + 1)).map ADef.name=(xs.take k).map ADef.name ++ [y.name]:=by
 obtain ⟨hl,rfl⟩:=List.getElem?_eq_some_iff.1 h
 rw [List.take_succ_eq_append_getElem hl,List.map_append];rfl
theorem fitsDef_ok (w:World) (A:Option Addr) (n c:Nat) (xs:List Vl) (hC:kVl.C w A n xs) (hL:n≤1048576) (hs:∀ v∈xs,Sm v) (deep:Int) (hd1: -1≤deep) (hd2:deep≤100):
  Calls Tryz.prog 29 #[.slice A n c,.int .i64 deep] w (Yes (xs.length≤1∧∀ v∈xs,Fit v) w):=by
 obtain ⟨HC_,HL_,Hs_,Hd1_,Hd2_⟩:=as5_ hC hL hs hd1 hd2;clear hC hL hs hd1 hd2
 have HK:=st0_ w
 have Hn:Aside0 (n=xs.length):=⟨HC_.out.1.symm⟩
 by_cases h0:n=0
 case pos=>
  have H0:=asd_ h0;have f0:((n:Int) == 0)=true:=beq_iff_eq.2 (by omega);clear h0
  go_enter Tryz.func29,Tryz.ntmps29
  go_wp2_with fail
  go_ret
  exact Yes.is be_ ⟨by have:=H0.out;have:=Hn.out;omega,fun v hv=>by have h1:=H0.out;have h2:=Hn.out;rw [List.eq_nil_of_length_eq_zero (by omega:xs.length=0)] at hv;cases hv⟩
 case neg=>
  have H0:=asd_ h0;have f0:((n:Int) == 0)=false:=beq_eq_false_iff_ne.2 (by omega);clear h0
  by_cases h1:n=1
  case neg=>
   have f1:((n:Int) == 1)=false:=beq_eq_false_iff_ne.2 (by omega);clear h1
   go_enter Tryz.func29,Tryz.ntmps29
   go_wp2_with fail
   go_ret
   exact Yes.no be_
  case pos=>
   have f1:((n:Int) == 1)=true:=beq_iff_eq.2 (by omega);have H1:=asd_ h1;have hi:(0:Int) < (n:Int):=(by omega);have hi2:0 < n:=(by omega)
   obtain ⟨ad,v,A2,c2,hA,hx,h2,h3,h4,hl2,hC2⟩:=at_Vl HC_.out 0 (by omega)
   clear h1;subst hA;have e0:ad.add (0 * 3)=ad:=(by simp [Addr.add]);rw [e0] at h2 h3 h4;clear e0;obtain ⟨Hx,Hl2,HC2⟩:=as3_ hx hl2 hC2;have Hmem:=asd_ (List.mem_of_getElem? hx);clear hx hl2 hC2
   go_enter Tryz.func29,Tryz.ntmps29
   go_wp2_with fail
   refine (fitsVal_ok v _ _ _ (Kd.C_below HC2.out be_) Hl2.out deep Hd1_.out Hd2_.out (Hs_.out _ Hmem.out)).mono ?_
   rintro _ wv ⟨bv,rfl,hp,hb⟩
   have Hpv:=asd_ hp;have HK9:=asd_ (At.step at_ hb);clear HK hp hb;have HK:=HK9;clear HK9
   go_wp2_with fail
   go_ret
   exact ⟨_,rfl,fun hb=>⟨by have:=H1.out;have:=Hn.out;omega,fun y hy=>by have h9:xs.length=1:=(by have:=H1.out;have:=Hn.out;omega);obtain ⟨z,rfl⟩:=List.length_eq_one_iff.1 h9;have h8:=Hx.out;simp at h8;rw [List.mem_singleton] at hy;subst hy;subst h8;exact Hpv.out hb⟩,be_⟩
theorem fitsArgDefs_ok (w:World) (A:Option Addr) (n c:Nat) (xs:List ADef) (hC:kAD.C w A n xs) (hL:n≤1048576) (hs:SmA xs) (deep:Int) (hd1:0≤deep) (hd2:deep≤100):
  Calls Tryz.prog 13 #[.slice A n c,.int .i64 deep] w (Yes (∀ a∈xs,FitA a) w):=by
 obtain ⟨HC_,HL_,Hs_,Hd1_,Hd2_⟩:=as5_ hC hL hs hd1 hd2;clear hC hL hs hd1 hd2
 have HK:=st0_ w
 have Hn:Aside0 (n=xs.length):=⟨HC_.out.1.symm⟩
 go_enter Tryz.func13,Tryz.ntmps13
 go_wp2_with fail
 go_loopg [9] n (fun kq i w'=>∃ k:Nat,Aside0 (k≤n)∧i= .int .i64 k∧Aside0 (kq=n - k)∧Aside0 (∀ j x,j < k→xs[j]? =some x→FitA x)∧Aside0 (At w [] w'))
 case atStart=>exact ⟨0,⟨Nat.zero_le _⟩,rfl,⟨rfl⟩,⟨upto_zero⟩,⟨at_⟩⟩
 case round=>
  clear HK
  obtain ⟨k,Hk,rfl,Hkq,Hfit,HK⟩:=hrel
  by_cases hlt:k < n
  case neg=>
   have hd:decide (k < n)=false:=decide_eq_false hlt;have Hlt:=asd_ hlt;clear hlt
   go_wp2_with fail
   go_ret
   exact Yes.is be_ (upto_all Hfit.out Hn.out Hlt.out)
  case pos=>
   have hd:decide (k < n)=true:=decide_eq_true hlt;have Hlt:=asd_ hlt;clear hlt
   have hi0:(0:Int)≤(k:Int):=(by omega);have hi1:(k:Int) < (n:Int):=(by have:=Hlt.out;omega);have hs1:IntKind.i64.wrap ((k:Int) + 1)=(k:Int) + 1:=IntWalk.i64_in _ (by have:=Hlt.out;have:=HL_.out;omega)
   obtain ⟨ad,x,A1,A2,A3,c1,c2,c3,hA,hx,h0,h1,h2,h3,h4,h5,h6,⟨hl1,hC1⟩,⟨hl2,hC2⟩,hl3,hC3⟩:=at_AD HC_.out k Hlt.out
   subst hA
   have hmem:=List.mem_of_getElem? hx;obtain ⟨Hx,Hmem,Hl1,HC1,Hl2,HC2,Hl3,HC3⟩:=as8_ hx hmem hl1 hC1 hl2 hC2 hl3 hC3;clear hmem hx hl1 hC1 hl2 hC2 hl3 hC3
   obtain ⟨C0,C1,C2,C3,C4,C5,C6⟩:=as7_ h0 h1 h2 h3 h4 h5 h6;clear h0 h1 h2 h3 h4 h5 h6
   replace Bx:=xc7_ HK.out.b C0 C1 C2 C3 C4 C5 C6
   have Hsz:=asd_ (Hs_.out.2 _ Hmem.out)
   obtain ⟨kk,rk,hrk,_⟩:=isName_some x.name (by have h9:x.name.size≤1048576:=Hsz.out.2.1;omega);have Hrk:=asd_ hrk;clear hrk
   obtain ⟨kd,rd_,hrd⟩:=fitsDoc_some x.doc (by have h9:=Hsz.out.1;omega);have Hrd:=asd_ hrd;clear hrd
   obtain ⟨kt,rt,hrt,hrt2⟩:=fitsTyp_some deep.toNat x.t Hsz.out.2.2.1 deep (by have:=Hd1_.out;omega) (by have:=Hd2_.out;omega) (Nat.le_refl _);obtain ⟨Hrt,Hrt2⟩:=as2_ hrt hrt2;clear hrt hrt2
   cases rd_
   case true=>
    cases rk
    case true=>
     cases rt
     case true=>
      go_wp2_with (first|((with_reducible refine gd_ 6 ?_);refine bx_ #[eS,eS,eS,nilS,bF,nilS,nilS] 45 ?_;clear HK;intro ge wb6 HK Gge;replace Bc:=ce1_ HK 0;replace Bf:=fe1_ HK 0;replace Bx:=xc7_ HK.out.b C0 C1 C2 C3 C4 C5 C6)|((first|((with_reducible refine gate_ (.store 45 (.tmp 6) (.tmp 12)) rfl ?_);refine storerow_at (cs:=#[eS,eS,eS,nilS,bF,nilS,nilS]) (g:=ge) 0 (#[.string x.doc,.string x.name,.string x.t.f0,.slice A1 x.t.f1.length c1,.bool x.t.f2,.slice A2 x.dflt.length c2,.slice A3 x.dirs.length c3]) at_ rfl Gge.out rfl rfl rfl rfl rfl rfl kr_ rfl (by simp [Value.oneCell']) ?_)|((with_reducible refine gd_ 15 ?_);refine cl_ #[.string x.doc] (.bool true) Tryz.func27 ((spec_fitsDoc.calls kd x.doc true _ Hrd.out).mono (fun _ _ h=>⟨h.1,h.2.below⟩)) ?_)|((with_reducible refine gd_ 20 ?_);(try (refine gate_guard (by rfl) ?_;dsimp only));refine cl_ #[.string x.name] (.bool true) Tryz.func24 ((spec_IsName.calls kk x.name true _ Hrk.out).mono (fun _ _ h=>⟨h.1,h.2.below⟩)) ?_)|((with_reducible refine gd_ 27 ?_);(try (refine gate_guard (by rfl) ?_;dsimp only));refine cl_ #[.agg #[.string x.t.f0,.slice A1 x.t.f1.length c1,.bool x.t.f2],.int .i64 deep] (.bool true) Tryz.func28 (spec_FitsTyp.calls kt x.t.f0 A1 c1 x.t.f1 x.t.f2 deep true _ (Kd.C_below HC1.out be_) Hl1.out Hrt.out) ?_));intro wr1 HK1;replace HK:=asd_ HK1;clear HK1;replace Bc:=ce1_ HK 0;replace Bf:=fe1_ HK 0;replace Bx:=xc7_ HK.out.b C0 C1 C2 C3 C4 C5 C6))
      refine (fitsDef_ok _ _ _ _ x.dflt (Kd.C_below HC2.out be_) (Hsz.out.2.2.2.1.1) Hsz.out.2.2.2.1.2 deep (by have:=Hd1_.out;omega) Hd2_.out).mono ?_
      rintro _ wd ⟨bd,rfl,hp,hb⟩
      have Hpd:=asd_ hp;have HK9:=asd_ (At.step at_ hb);clear HK hp hb;have HK:=HK9;clear HK9
      replace Bc:=ce1_ HK 0;replace Bf:=fe1_ HK 0;replace Bx:=xc7_ HK.out.b C0 C1 C2 C3 C4 C5 C6
      cases bd
      case true=>
       go_wp2_with fail
       refine (fitsDirs_ok _ _ _ _ x.dirs (Kd.C_below HC3.out be_) Hsz.out.2.2.2.2.1 Hsz.out.2.2.2.2 deep (by have:=Hd1_.out;omega) Hd2_.out).mono ?_
       rintro _ wr ⟨br,rfl,hp,hb⟩
       have Hpr:=asd_ hp;have HK9:=asd_ (At.step at_ hb);clear HK hp hb;have HK:=HK9;clear HK9
       replace Bc:=ce1_ HK 0;replace Bf:=fe1_ HK 0;replace Bx:=xc7_ HK.out.b C0 C1 C2 C3 C4 C5 C6
       cases br
       case true=>
        go_wp2_with fail
        go_roundg (n - (k + 1))
        case measure=>have:=Hkq.out;have:=Hlt.out;omega
        case rel=>exact ⟨k + 1,⟨Hlt.out⟩,by go_num,⟨rfl⟩,⟨upto_next Hfit.out Hx.out (⟨Hrt2.out (by first|trivial|rfl),(Hpd.out (by first|trivial|rfl)).1,(Hpd.out (by first|trivial|rfl)).2,Hpr.out (by first|trivial|rfl)⟩)⟩,⟨At.sub at_ (by simp)⟩⟩
       case false=>
        go_wp2_with fail
        go_ret
        exact Yes.no be_
      case false=>
       go_wp2_with fail
       go_ret
       exact Yes.no be_
     case false=>
      go_wp2_with (first|((with_reducible refine gd_ 6 ?_);refine bx_ #[eS,eS,eS,nilS,bF,nilS,nilS] 45 ?_;clear HK;intro ge wb6 HK Gge;replace Bc:=ce1_ HK 0;replace Bf:=fe1_ HK 0;replace Bx:=xc7_ HK.out.b C0 C1 C2 C3 C4 C5 C6)|((first|((with_reducible refine gate_ (.store 45 (.tmp 6) (.tmp 12)) rfl ?_);refine storerow_at (cs:=#[eS,eS,eS,nilS,bF,nilS,nilS]) (g:=ge) 0 (#[.string x.doc,.string x.name,.string x.t.f0,.slice A1 x.t.f1.length c1,.bool x.t.f2,.slice A2 x.dflt.length c2,.slice A3 x.dirs.length c3]) at_ rfl Gge.out rfl rfl rfl rfl rfl rfl kr_ rfl (by simp [Value.oneCell']) ?_)|((with_reducible refine gd_ 15 ?_);refine cl_ #[.string x.doc] (.bool true) Tryz.func27 ((spec_fitsDoc.calls kd x.doc true _ Hrd.out).mono (fun _ _ h=>⟨h.1,h.2.below⟩)) ?_)|((with_reducible refine gd_ 20 ?_);(try (refine gate_guard (by rfl) ?_;dsimp only));refine cl_ #[.string x.name] (.bool true) Tryz.func24 ((spec_IsName.calls kk x.name true _ Hrk.out).mono (fun _ _ h=>⟨h.1,h.2.below⟩)) ?_)|((with_reducible refine gd_ 27 ?_);(try (refine gate_guard (by rfl) ?_;dsimp only));refine cl_ #[.agg #[.string x.t.f0,.slice A1 x.t.f1.length c1,.bool x.t.f2],.int .i64 deep] (.bool false) Tryz.func28 (spec_FitsTyp.calls kt x.t.f0 A1 c1 x.t.f1 x.t.f2 deep false _ (Kd.C_below HC1.out be_) Hl1.out Hrt.out) ?_));intro wr1 HK1;replace HK:=asd_ HK1;clear HK1;replace Bc:=ce1_ HK 0;replace Bf:=fe1_ HK 0;replace Bx:=xc7_ HK.out.b C0 C1 C2 C3 C4 C5 C6))
      go_ret
      exact Yes.no be_
    case false=>
     go_wp2_with (first|((with_reducible refine gd_ 6 ?_);refine bx_ #[eS,eS,eS,nilS,bF,nilS,nilS] 45 ?_;clear HK;intro ge wb6 HK Gge;replace Bc:=ce1_ HK 0;replace Bf:=fe1_ HK 0;replace Bx:=xc7_ HK.out.b C0 C1 C2 C3 C4 C5 C6)|((first|((with_reducible refine gate_ (.store 45 (.tmp 6) (.tmp 12)) rfl ?_);refine storerow_at (cs:=#[eS,eS,eS,nilS,bF,nilS,nilS]) (g:=ge) 0 (#[.string x.doc,.string x.name,.string x.t.f0,.slice A1 x.t.f1.length c1,.bool x.t.f2,.slice A2 x.dflt.length c2,.slice A3 x.dirs.length c3]) at_ rfl Gge.out rfl rfl rfl rfl rfl rfl kr_ rfl (by simp [Value.oneCell']) ?_)|((with_reducible refine gd_ 15 ?_);refine cl_ #[.string x.doc] (.bool true) Tryz.func27 ((spec_fitsDoc.calls kd x.doc true _ Hrd.out).mono (fun _ _ h=>⟨h.1,h.2.below⟩)) ?_)|((with_reducible refine gd_ 20 ?_);(try (refine gate_guard (by rfl) ?_;dsimp only));refine cl_ #[.string x.name] (.bool false) Tryz.func24 ((spec_IsName.calls kk x.name false _ Hrk.out).mono (fun _ _ h=>⟨h.1,h.2.below⟩)) ?_));intro wr1 HK1;replace HK:=asd_ HK1;clear HK1;replace Bc:=ce1_ HK 0;replace Bf:=fe1_ HK 0;replace Bx:=xc7_ HK.out.b C0 C1 C2 C3 C4 C5 C6))
     go_ret
     exact Yes.no be_
   case false=>
    go_wp2_with (first|((with_reducible refine gd_ 6 ?_);refine bx_ #[eS,eS,eS,nilS,bF,nilS,nilS] 45 ?_;clear HK;intro ge wb6 HK Gge;replace Bc:=ce1_ HK 0;replace Bf:=fe1_ HK 0;replace Bx:=xc7_ HK.out.b C0 C1 C2 C3 C4 C5 C6)|((first|((with_reducible refine gate_ (.store 45 (.tmp 6) (.tmp 12)) rfl ?_);refine storerow_at (cs:=#[eS,eS,eS,nilS,bF,nilS,nilS]) (g:=ge) 0 (#[.string x.doc,.string x.name,.string x.t.f0,.slice A1 x.t.f1.length c1,.bool x.t.f2,.slice A2 x.dflt.length c2,.slice A3 x.dirs.length c3]) at_ rfl Gge.out rfl rfl rfl rfl rfl rfl kr_ rfl (by simp [Value.oneCell']) ?_)|((with_reducible refine gd_ 15 ?_);refine cl_ #[.string x.doc] (.bool false) Tryz.func27 ((spec_fitsDoc.calls kd x.doc false _ Hrd.out).mono (fun _ _ h=>⟨h.1,h.2.below⟩)) ?_));intro wr1 HK1;replace HK:=asd_ HK1;clear HK1;replace Bc:=ce1_ HK 0;replace Bf:=fe1_ HK 0;replace Bx:=xc7_ HK.out.b C0 C1 C2 C3 C4 C5 C6))
    go_ret
    exact Yes.no be_
end Go.Proofs.YtlblbefbbibpaaaGreatDoor.J
