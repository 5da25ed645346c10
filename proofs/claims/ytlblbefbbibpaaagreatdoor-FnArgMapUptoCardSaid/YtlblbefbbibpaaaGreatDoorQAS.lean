/- Part. -/
import Derived.Test.YtlblbefbbibpaaaGreatDoorQAR
set_option linter.unusedVariables false
set_option linter.unusedSimpArgs false
set_option maxHeartbeats 8000000
set_option maxRecDepth 100000
namespace Go.Proofs.YtlblbefbbibpaaaGreatDoor.J
open Go.RowKit Zw Zw.PrintWords Zw.PrintLast Zw.PrintMore PAM
section
variable {ops:Array Oper} {rest:List Oper} {o:Oper} {a:Act} {Q:Exit→Act→World→Prop} {Kc:Act→World→Prop} {w W:World} {l:List Blk}
theorem slice_run {t:TypeId} {x:Operand} {lo hi:Option Operand} {lo' hi':Option Value} {A:Option Addr} {n c:Nat} {v:Value} (ho:o.op= .slice 28 x lo hi none) (hx:a.eval x= .slice A n c) (h1:lo.map a.eval=lo') (h2:hi.map a.eval=hi') (h:∀ W,(Instr.slice 28 (.slice A n c) lo' hi' none).run Tryz.prog W= .ok v W):(execOp a.eval o).run Tryz.prog W= .ok (.value v) W:=by
 have hs:=(run_sliceAt_slice (P:=Tryz.prog) (w:=W) 28 (.slice A n c) lo' hi' none hu28).trans (h W)
 unfold execOp
 rw [ho]
 simp only [hx,h1,h2,Option.map_none,Sem.run_bind,hs,Result.andThen]
 rfl
end
theorem PR.rows {b:Nat} {pr:List Blk} {e:TypeId} {sz n cap:Nat} {A:Option Addr} {cells:List Value} {W:World} (h:PR b pr e sz (.slice A n cap) n cells) (hk:Keeps pr W):∀ ad,A=some ad→∀ j u,cells[j]? =some u→W.cell? (ad.add j)=some u:=by
 intro ad e1 j u hj
 have hn:0 < n:=by
  rcases h with ⟨_,h2,_,_⟩|⟨g,cap',cur,_,h2,_⟩
  ·injection h2 with h2;rw [h2] at e1;cases e1
  ·rcases Nat.eq_zero_or_pos n with h0|h0
   ·exfalso
    rename_i hh
    obtain ⟨_,_,_,_,_,hl⟩:=hh
    obtain rfl:=List.eq_nil_of_length_eq_zero (l:=cells) (by rw [hl,h0,Nat.zero_mul])
    simp at hj
   ·exact h0
 obtain ⟨g,cp,e2,hc⟩:=h.cell hk (fun y hy=>hy) hn
 injection e2 with e2
 rw [e1] at e2
 injection e2 with e2
 subst e2
 have e9:(⟨g,0,none⟩:Addr).add j=⟨g,j,none⟩:=by simp [Addr.add];exact fun h=>h.symm
 rw [e9]
 exact hc j u hj
theorem PR.nil_ {b:Nat} {pr:List Blk} {e:TypeId} {sz n cap:Nat} {A:Option Addr} {cells:List Value} (h:PR b pr e sz (.slice A n cap) n cells):A=none→n=0∧cap=0:=by
 intro e1
 rcases h with ⟨_,h2,h3,_⟩|⟨g,cap',cur,_,h2,_⟩
 ·injection h2 with _ _ h2;exact ⟨h3,h2⟩
 ·injection h2 with h2;rw [h2] at e1;cases e1
theorem PR.cells_ {b:Nat} {pr:List Blk} {e:TypeId} {sz n cap:Nat} {A:Option Addr} {cells:List Value} (h:PR b pr e sz (.slice A n cap) n cells) (hn:0 < n):∃ g,A=some ⟨g,0,none⟩∧∀ W,Keeps pr W→∀ j u,cells[j]? =some u→W.cell? ⟨g,j,none⟩=some u:=by
 obtain ⟨g,cp,cur,_,e2,_⟩:=h.some_ hn
 injection e2 with e2
 refine ⟨g,e2,fun W hk j u hj=> ?_⟩
 have:=h.rows hk _ e2 j u hj
 have e9:(⟨g,0,none⟩:Addr).add j=⟨g,j,none⟩:=by simp [Addr.add];exact fun h=>h.symm
 rwa [e9] at this
theorem rowOf_ins {L:List (ByteArray×Dt)} {us:List Value} (h:us.length=L.length) (p:Nat) (k:ByteArray×Dt) (t:Value):rowOf (L.take p ++ (k::L.drop p)) (us.take p ++ (t::us.drop p))=(rowOf L us).take (p * 7) ++ (kcells k t ++ (rowOf L us).drop (p * 7)):=by
 rw [rowOf_app (by simp [h]),rowOf_take h]
 have:rowOf (k::L.drop p) (t::us.drop p)=kcells k t ++ rowOf (L.drop p) (us.drop p):=rfl
 rw [this,rowOf_drop h]
theorem drop_pr (pr3 sn1 pr sn:List Blk):(pr3 ++ (sn1 ++ sn)).Sublist (pr3 ++ (sn1 ++ (pr ++ sn))):=(List.Sublist.refl pr3).append ((List.Sublist.refl sn1).append (List.sublist_append_right pr sn))
theorem drop_pr2 (pr3 pr5 sn1 pr sn:List Blk):(pr3 ++ (sn1 ++ sn)).Sublist (pr3 ++ (pr5 ++ (sn1 ++ (pr ++ sn)))):=(List.Sublist.refl pr3).append (((List.Sublist.refl sn1).append (List.sublist_append_right pr sn)).trans (List.sublist_append_right pr5 _))
theorem bl_next {L:List (ByteArray×Dt)} {nm nm1:ByteArray} {d1:Dt} {p:Nat} (h:∀ j h,j < p→L[j]? =some h→bl h.1 nm=true) (h1:L[p]? =some (nm1,d1)) (hb:bl nm1 nm=true):∀ j h,j < p + 1→L[j]? =some h→bl h.1 nm=true:=fun j x hj hx=>by
 rcases Nat.lt_or_ge j p with h9|h9
 ·exact h j x h9 hx
 ·obtain rfl:j=p:=by omega
  rw [h1] at hx
  cases hx
  exact hb
theorem drop_rows {X:List Value} {g:Nat} {W:World} (h:∀ j u,X[j]? =some u→W.cell? ⟨g,j,none⟩=some u) (n:Nat):∀ j u,(X.drop n)[j]? =some u→W.cell? (((⟨g,0,none⟩:Addr).add n).add j)=some u:=fun j u hj=>by
 rw [List.getElem?_drop] at hj
 have e9:(⟨g,0,none⟩:Addr).add (n + j)=⟨g,n + j,none⟩:=by simp [Addr.add];exact fun h1 h2=>(by omega)
 rw [Addr.add_add,e9]
 exact h _ _ hj
theorem rowOf_one {L:List (ByteArray×Dt)} {us:List Value} (hl:us.length=L.length) (h:∀ (i:Nat) (d:ByteArray×Dt) (t:Value),L[i]? =some d→us[i]? =some t→∃ A n c,t= .slice A n c):∀ u∈rowOf L us,u.oneCell'=true:=by
 induction L generalizing us with
 |nil=>intro u hu;simp [rowOf] at hu
 |cons k r ih=>
  cases us with
  |nil=>simp at hl
  |cons t us=>
   intro u hu
   have hu2:u∈kcells k t ++ rowOf r us:=hu
   rcases List.mem_append.1 hu2 with h1|h1
   ·obtain ⟨A,n,c,rfl⟩:=h 0 k t rfl rfl
    simp [kcells,Dt.cells] at h1
    rcases h1 with rfl|rfl|rfl|rfl|rfl|rfl|rfl<;>rfl
   ·exact ih (by simpa using hl) (fun i d t h2 h3=>h (i + 1) d t (by simpa using h2) (by simpa using h3)) u h1
theorem ObB.one {w0:World} {sn:List Blk} {ds L:List (ByteArray×Dt)} {us:List Value} {kids:List Kid} {k:Nat} (h:ObB w0 sn ds L us kids k) (n:Nat):∀ u∈(rowOf L us).drop n,u.oneCell'=true:=fun u hu=>rowOf_one h.lu (fun i d t h1 h2=>(h.db i d t h1 h2).slice.elim fun A h3=>h3.elim fun c h4=>⟨A,_,c,h4⟩) u (List.mem_of_mem_drop hu)
theorem app_one {X Y:List Value} (h1:∀ u∈X,u.oneCell'=true) (h2:∀ u∈Y,u.oneCell'=true):∀ u∈X ++ Y,u.oneCell'=true:=fun u hu=>(List.mem_append.1 hu).elim (h1 u) (h2 u)
theorem ObB.set_ {w0:World} {sn sn':List Blk} {ds L:List (ByteArray×Dt)} {us:List Value} {kids:List Kid} {k p:Nat} {x:Kid} {d:Dt} {t:Value} (h:ObB w0 sn ds L us kids k) (hs:∀ b∈sn,b∈sn') (hx:kids[k]? =some x) (hv:VD w0 x.2 d) (hd:DB sn' t d) (hp:p=pos L x.1) {e:ByteArray×Dt} (he:L[p]? =some e) (hn:e.1.toList=x.1.toList):ObB w0 sn' (ds ++ [(x.1,d)]) (L.set p (x.1,d)) (us.set p t) kids (k + 1):=by
 subst hp
 exact h.set hs hx hv hd he hn
theorem take_rows {X:List Value} {f:Addr→Nat→Value→Prop} {A:Option Addr} (n:Nat) (h:∀ ad,A=some ad→∀ j u,X[j]? =some u→f ad j u):∀ ad,A=some ad→∀ j u,(X.take n)[j]? =some u→f ad j u:=fun ad e j u hj=>h ad e j u (by
 rw [List.getElem?_take] at hj
 split at hj
 ·exact hj
 ·cases hj)
theorem object_ok {w0 w:World} (hW:Below w0.heap.size w0 w) {raw:ByteArray} {kids:List Kid} {A:Option Addr} {n c:Nat} (hC:kKid.C w0 A n kids) (hL:n≤1048576) (ih:∀ k∈kids,∀ {w:World},Below w0.heap.size w0 w→∀ {A:Option Addr} {c:Nat},kKid.C w0 A k.2.kids.length k.2.kids→k.2.kids.length≤c→Calls Tryz.prog 15 #[.agg #[.int .i64 k.2.kind,.string k.2.raw,.slice A k.2.kids.length c]] w (VDone w0 k.2 w)):
  Calls Tryz.prog 34 #[.agg #[.int .i64 9,.string raw,.slice A n c]] w (VDone w0 ⟨9,raw,kids⟩ w):=by
 obtain ⟨HW_,HC_,HL_,Ih_⟩:=as4_ hW hC hL ih;clear hW hC hL ih
 have Hn:Aside0 (n=kids.length):=⟨HC_.out.1.symm⟩
 have HK:=st0_ w
 go_enter Tryz.func34,Tryz.ntmps34
 go_wp2_with (first|((with_reducible refine gd_ 1 ?_);refine bx_ #[.int .i64 9,.string raw,.slice A n c] 48 ?_;clear HK;intro gv wb1 HK Ggv;replace Bc:=ce1_ HK 0)|((with_reducible refine gd_ 2 ?_);refine bx_ #[i0,bF,i0,.int .u64 0,eS,nilS] 30 ?_;clear HK;intro g2 wb2 HK Gg2;replace Bc:=ce2_ HK 1 0;replace Bf:=fe1_ HK 0)|((with_reducible refine gd_ 4 ?_);refine bx_ #[i0,bF,i0,.int .u64 0,eS,nilS] 30 ?_;clear HK;intro g4 wb4 HK Gg4;replace Bc:=ce3_ HK 2 1 0;replace Bf:=fe2_ HK 1 0)|((with_reducible refine gate_ (.store 30 (.tmp 4) (.tmp 12)) rfl ?_);refine storerow_at (cs:=#[i0,bF,i0,.int .u64 0,eS,nilS]) (g:=g4) 0 (#[.int .i64 6,bF,i0,.int .u64 0,eS,nilS]) at_ rfl Gg4.out rfl rfl rfl rfl rfl rfl kr_ rfl (by simp [Value.oneCell']) ?_;intro wr1 HK1;replace HK:=asd_ HK1;clear HK1;replace Bc:=ce3_ HK 2 1 0;replace Bf:=fe2_ HK 1 0))
 go_loopg [16] n (fun kq i w'=>∃ (k m:Nat) (u:Value) (pr sn:List Blk) (ds L:List (ByteArray×Dt)) (us:List Value),Aside0 (k≤n)∧i= .int .i64 k∧Aside0 (kq=n - k)∧Aside0 (PR w.heap.size pr 85 7 u m (rowOf L us))∧Aside0 (m=L.length)∧Aside0 (ObB w0 sn ds L us kids k)∧Aside0 (∀ g∈nums sn,w.heap.size≤g)∧Aside0 (∀ e,offG e sn)∧Aside0 (At w (.b g4 (row (#[.int .i64 6,bF,i0,.int .u64 0,eS,u]) 30):: .b g2 (row (#[i0,bF,i0,.int .u64 0,eS,nilS]) 30):: .b gv (row (#[.int .i64 9,.string raw,.slice A n c]) 48)::(pr ++ sn)) w'))
 case atStart=>exact ⟨0,0,nilS,[],[],[],[],[],⟨Nat.zero_le _⟩,rfl,⟨rfl⟩,⟨PR.none_ _ _ _⟩,⟨rfl⟩,⟨⟨rfl,rfl,Nat.le_refl _,rfl,fun _ _ _ _ h=>by simp at h,fun _ _ _ _ h=>by simp at h,fun _ _ _ h=>by simp at h⟩⟩,⟨fun _ h=>by cases h⟩,⟨fun _=>trivial⟩,⟨(show At w [.b g4 (row (#[.int .i64 6,bF,i0,.int .u64 0,eS,nilS]) 30),.b g2 (row (#[i0,bF,i0,.int .u64 0,eS,nilS]) 30),.b gv (row (#[.int .i64 9,.string raw,.slice A n c]) 48)] _ from at_)⟩⟩
 case round=>
  clear HK
  obtain ⟨k,m,u,pr,sn,ds,L,us,Hk,rfl,Hkq,HP,Hm,HD,Hgs,Hos,HK⟩:=hrel;obtain ⟨Au,cu,e8,hcu⟩:=HP.out.slice;subst e8;have Hcu:=asd_ hcu;clear hcu
  replace Bc:=ce3_ HK 2 1 0;replace Bf:=fe2_ HK 1 0
  by_cases hlt:k < n
  case neg=>
   have hd:decide (k < n)=false:=decide_eq_false hlt;have Hlt:=asd_ hlt;clear hlt
   go_wp2_with (first|((with_reducible refine gd_ 88 ?_);refine lo_ 30 4 g4 (#[.int .i64 6,bF,i0,.int .u64 0,eS,.slice Au m cu]) HK.out.k.1 Tryz.underlying30 ?_)|((with_reducible refine gate_ (.store 30 (.tmp 2) (.tmp 88)) rfl ?_);refine storerow_at (cs:=#[i0,bF,i0,.int .u64 0,eS,nilS]) (g:=g2) 1 (#[.int .i64 6,bF,i0,.int .u64 0,eS,.slice Au m cu]) at_ rfl Gg2.out rfl rfl rfl rfl rfl rfl kr_ rfl (by simp [Value.oneCell']) ?_;intro wr2 HK1;replace HK:=asd_ HK1;clear HK1;replace Bc:=ce3_ HK 2 1 0;replace Bf:=fe2_ HK 1 0))
   have e9:ds.length=kids.length:=(by have:=HD.out.ld;have:=Hlt.out;have:=Hk.out;have:=Hn.out;omega)
   have HKz:Aside0 (At w (.b g4 (row (#[.int .i64 6,bF,i0,.int .u64 0,eS,.slice Au m cu]) 30):: .b g2 (row (#[.int .i64 6,bF,i0,.int .u64 0,eS,.slice Au m cu]) 30):: .b gv (row (#[.int .i64 9,.string raw,.slice A n c]) 48)::(pr ++ sn)) _):=⟨at_⟩
   exact bodyPost_ret (v:= .tuple #[.agg #[.int .i64 6,bF,i0,.int .u64 0,eS,.slice Au m cu],.bool true]) (by simp [results,Tryz.results34,go_sem,Bc]) rfl (by obtain rfl:=Hm.out;exact VDone.made (x:=dObj L) (us:=us) (ok:=true) [_,_,_] rfl (fun _=>by rw [HD.out.eL];exact VD.obj (v:=⟨9,raw,kids⟩) rfl e9 HD.out.vd HD.out.nm) HP.out HD.out.lu HD.out.db Hgs.out Hos.out HKz.out)
  case pos=>
   have hd:decide (k < n)=true:=decide_eq_true hlt;have Hlt:=asd_ hlt;clear hlt
   have hi0:(0:Int)≤(k:Int):=(by omega);have hi1:(k:Int) < (n:Int):=(by have:=Hlt.out;omega);have hs1:IntKind.i64.wrap ((k:Int) + 1)=(k:Int) + 1:=IntWalk.i64_in _ (by have:=Hlt.out;have:=HL_.out;omega)
   obtain ⟨ad,nm,v,A2,c2,hA,hx,h0,h1,h2,h3,hl2,hC2⟩:=at_Kid HC_.out k Hlt.out
   subst hA;have hmem:=List.mem_of_getElem? hx;obtain ⟨Hx,Hmem,Hl2,HC2⟩:=as4_ hx hmem hl2 hC2;clear hmem hx hl2 hC2
   obtain ⟨C0,C1,C2,C3⟩:=as4_ h0 h1 h2 h3;clear h0 h1 h2 h3
   replace Bc:=ce3_ HK 2 1 0;replace Bf:=fe2_ HK 1 0;replace Bx:=xc4_ (below_step HW_.out HK.out.b) C0 C1 C2 C3
   have Hv:Aside0 (∀ {w:World},Below w0.heap.size w0 w→∀ {A:Option Addr} {c:Nat},kKid.C w0 A v.kids.length v.kids→v.kids.length≤c→Calls Tryz.prog 15 #[.agg #[.int .i64 v.kind,.string v.raw,.slice A v.kids.length c]] w (VDone w0 v w)):=⟨Ih_.out _ Hmem.out⟩
   go_wp2_with (first|((with_reducible refine gd_ 6 ?_);refine bx_ #[eS,i0,eS,nilS] 52 ?_;clear HK;intro ge wb6 HK Gge;replace Bc:=ce4_ HK 3 2 1 0;replace Bf:=fe3_ HK 2 1 0;replace Bx:=xc4_ (below_step HW_.out HK.out.b) C0 C1 C2 C3)|((with_reducible refine gate_ (.store 52 (.tmp 6) (.tmp 19)) rfl ?_);refine storerow_at (cs:=#[eS,i0,eS,nilS]) (g:=ge) 0 (#[.string nm,.int .i64 v.kind,.string v.raw,.slice A2 v.kids.length c2]) at_ rfl Gge.out rfl rfl rfl rfl rfl rfl kr_ rfl (by simp [Value.oneCell']) ?_;intro wr3 HK1;replace HK:=asd_ HK1;clear HK1;replace Bc:=ce4_ HK 3 2 1 0;replace Bf:=fe3_ HK 2 1 0;replace Bx:=xc4_ (below_step HW_.out HK.out.b) C0 C1 C2 C3))
   refine (Hv.out (below_step HW_.out be_) HC2.out Hl2.out).mono ?_
   rintro _ w9 ⟨d,td,okd,sn1,rfl,hvd,hdb,hks,hnd,hge,hof,hb⟩
   obtain ⟨Bd,cd,e7⟩:=hdb.slice;subst e7
   have HK9:Aside0 (At w (.b ge (row (#[.string nm,.int .i64 v.kind,.string v.raw,.slice A2 v.kids.length c2]) 52):: .b g4 (row (#[.int .i64 6,bF,i0,.int .u64 0,eS,.slice Au m cu]) 30):: .b g2 (row (#[i0,bF,i0,.int .u64 0,eS,nilS]) 30):: .b gv (row (#[.int .i64 9,.string raw,.slice (some ad) n c]) 48)::(sn1 ++ (pr ++ sn))) w9):=⟨At.behind [.b ge (row (#[.string nm,.int .i64 v.kind,.string v.raw,.slice A2 v.kids.length c2]) 52),.b g4 (row (#[.int .i64 6,bF,i0,.int .u64 0,eS,.slice Au m cu]) 30),.b g2 (row (#[i0,bF,i0,.int .u64 0,eS,nilS]) 30),.b gv (row (#[.int .i64 9,.string raw,.slice (some ad) n c]) 48)] (At.came_all (l:=(.b ge (row (#[.string nm,.int .i64 v.kind,.string v.raw,.slice A2 v.kids.length c2]) 52):: .b g4 (row (#[.int .i64 6,bF,i0,.int .u64 0,eS,.slice Au m cu]) 30):: .b g2 (row (#[i0,bF,i0,.int .u64 0,eS,nilS]) 30):: .b gv (row (#[.int .i64 9,.string raw,.slice (some ad) n c]) 48)::(pr ++ sn))) at_ hb hks hnd hge)⟩
   have Hge:Aside0 (∀ g∈nums sn1,w.heap.size≤g):=⟨fun g hg=>Nat.le_trans (show Below w.heap.size w _ from be_).size (hge g hg)⟩
   obtain ⟨Hvd,Hdb,Hof⟩:=as3_ hvd hdb hof;clear HK hvd hdb hks hnd hge hof hb;have HK:=HK9;clear HK9
   replace Bc:=ce4_ HK 3 2 1 0;replace Bf:=fe3_ HK 2 1 0
   cases okd
   case false=>
    go_wp2_with (first|((with_reducible refine gd_ 7 ?_);refine bx_ #[i0,bF,i0,.int .u64 0,eS,nilS] 30 ?_;clear HK;intro g7 wb7 HK Gg7;replace Bc:=ce5_ HK 4 3 2 1 0;replace Bf:=fe4_ HK 3 2 1 0)|((first|((with_reducible refine gate_ (.store 30 (.tmp 7) (.tmp 24)) rfl ?_);refine storerow_at (cs:=#[i0,bF,i0,.int .u64 0,eS,nilS]) (g:=g7) 0 (#[.int .i64 d.kind,.bool d.b,.int .i64 d.n,.int .u64 d.f,.string d.s,.slice Bd d.kids.length cd]) at_ rfl Gg7.out rfl rfl rfl rfl rfl rfl kr_ rfl (by simp [Value.oneCell']) ?_)|((with_reducible refine gate_ (.store 30 (.tmp 2) (.tmp 28)) rfl ?_);refine storerow_at (cs:=#[i0,bF,i0,.int .u64 0,eS,nilS]) (g:=g2) 3 (#[i0,bF,i0,.int .u64 0,eS,nilS]) at_ rfl Gg2.out rfl rfl rfl rfl rfl rfl kr_ rfl (by simp [Value.oneCell']) ?_));intro wr4 HK1;replace HK:=asd_ HK1;clear HK1;replace Bc:=ce5_ HK 4 3 2 1 0;replace Bf:=fe4_ HK 3 2 1 0))
    exact bodyPost_ret (v:= .tuple #[.agg #[i0,bF,i0,.int .u64 0,eS,nilS],.bool false]) (by simp [results,Tryz.results34,go_sem,Bc]) rfl (VDone.plain (x:=dNull) (ok:=false) rfl (fun h=>by cases h) be_ rfl)
   case true=>
    go_wp2_with (first|((with_reducible refine gd_ 7 ?_);refine bx_ #[i0,bF,i0,.int .u64 0,eS,nilS] 30 ?_;clear HK;intro g7 wb7 HK Gg7;replace Bc:=ce5_ HK 4 3 2 1 0;replace Bf:=fe4_ HK 3 2 1 0)|((with_reducible refine gate_ (.store 30 (.tmp 7) (.tmp 24)) rfl ?_);refine storerow_at (cs:=#[i0,bF,i0,.int .u64 0,eS,nilS]) (g:=g7) 0 (#[.int .i64 d.kind,.bool d.b,.int .i64 d.n,.int .u64 d.f,.string d.s,.slice Bd d.kids.length cd]) at_ rfl Gg7.out rfl rfl rfl rfl rfl rfl kr_ rfl (by simp [Value.oneCell']) ?_;intro wr6 HK1;replace HK:=asd_ HK1;clear HK1;replace Bc:=ce5_ HK 4 3 2 1 0;replace Bf:=fe4_ HK 3 2 1 0))
    go_loopg [9] m (fun kq i w'=>∃ p:Nat,Aside0 (p≤m)∧i= .int .i64 p∧Aside0 (kq=m - p)∧Aside0 (∀ j h,j < p→L[j]? =some h→bl h.1 nm=true)∧Aside0 (At w (.b g7 (row (#[.int .i64 d.kind,.bool d.b,.int .i64 d.n,.int .u64 d.f,.string d.s,.slice Bd d.kids.length cd]) 30):: .b ge (row (#[.string nm,.int .i64 v.kind,.string v.raw,.slice A2 v.kids.length c2]) 52):: .b g4 (row (#[.int .i64 6,bF,i0,.int .u64 0,eS,.slice Au m cu]) 30):: .b g2 (row (#[i0,bF,i0,.int .u64 0,eS,nilS]) 30):: .b gv (row (#[.int .i64 9,.string raw,.slice (some ad) n c]) 48)::(sn1 ++ (pr ++ sn))) w'))
    case atStart=>exact ⟨0,⟨Nat.zero_le _⟩,rfl,⟨rfl⟩,⟨fun j h hj=>absurd hj (Nat.not_lt_zero _)⟩,⟨(show At w (.b g7 (row (#[.int .i64 d.kind,.bool d.b,.int .i64 d.n,.int .u64 d.f,.string d.s,.slice Bd d.kids.length cd]) 30):: .b ge (row (#[.string nm,.int .i64 v.kind,.string v.raw,.slice A2 v.kids.length c2]) 52):: .b g4 (row (#[.int .i64 6,bF,i0,.int .u64 0,eS,.slice Au m cu]) 30):: .b g2 (row (#[i0,bF,i0,.int .u64 0,eS,nilS]) 30):: .b gv (row (#[.int .i64 9,.string raw,.slice (some ad) n c]) 48)::(sn1 ++ (pr ++ sn))) _ from at_)⟩⟩
    case round=>
     clear HK;obtain ⟨p,Hp,rfl,Hpq,Hbl,HK⟩:=hrel
     replace Bc:=ce5_ HK 4 3 2 1 0;replace Bf:=fe4_ HK 3 2 1 0
     have HLm:Aside0 (m≤1048576):=⟨by have:=HD.out.le;have:=Hm.out;have:=Hk.out;have:=HL_.out;omega⟩
     by_cases hpm:p < m
     case neg=>
      have fp:decide (p < m)=false:=decide_eq_false hpm;have Hpm:Aside0 (p=m):=⟨by have:=Hp.out;omega⟩;clear hpm
      have Hpos:Aside0 (p=pos L nm):=⟨pos_of (fun j h hj hh=>Hbl.out j h hj hh) (by have:=Hp.out;have:=Hm.out;omega) (fun h hh=>by have h9:=(List.getElem?_eq_some_iff.1 hh).1;have:=Hpm.out;have:=Hm.out;omega)⟩
      obtain ⟨Ap,hcut,_⟩:=sliced_tail Au p m cu Hp.out;have hcut2:=sliced_head Au p m cu (Nat.le_trans Hp.out Hcu.out);have e5:m - p=0:=(by have:=Hpm.out;omega);rw [e5] at hcut;clear e5
      go_wp2_with fail
      go_quiet (fail)
      go_wp2_with (first|((with_reducible refine gd_ 10 ?_);refine bx_ #[eS,i0,bF,i0,.int .u64 0,eS,nilS] 85 ?_;clear HK;intro g10 wb10 HK Gg10;replace Bc:=ce6_ HK 5 4 3 2 1 0;replace Bf:=fe5_ HK 4 3 2 1 0)|((with_reducible refine gd_ 49 ?_);refine lo_ 30 7 g7 (#[.int .i64 d.kind,.bool d.b,.int .i64 d.n,.int .u64 d.f,.string d.s,.slice Bd d.kids.length cd]) HK.out.k.2.1 Tryz.underlying30 ?_)|((with_reducible refine gate_ (.store 85 (.tmp 10) (.tmp 50)) rfl ?_);refine storerow_at (cs:=#[eS,i0,bF,i0,.int .u64 0,eS,nilS]) (g:=g10) 0 (#[.string nm,.int .i64 d.kind,.bool d.b,.int .i64 d.n,.int .u64 d.f,.string d.s,.slice Bd d.kids.length cd]) at_ rfl Gg10.out rfl rfl rfl rfl rfl rfl kr_ rfl (by simp [Value.oneCell']) ?_;intro wr7 HK1;replace HK:=asd_ HK1;clear HK1;replace Bc:=ce6_ HK 5 4 3 2 1 0;replace Bf:=fe5_ HK 4 3 2 1 0))
      refine su6_ 16 HK 5 4 3 2 1 0 [] (fun HS hHeld=> ?_)
      refine pu_ 0 51 1 ?_
      refine pu_ 1 52 3 ?_
      refine ta7_ 2 53 7 hHeld ?_
      refine pu_ 3 54 15 ?_
      refine pu_ 4 55 31 ?_
      refine pu_ 5 56 63 ?_
      refine pn_ 6 57 127 ?_
      refine pn_ 7 58 255 ?_
      refine pn_ 8 59 511 ?_
      refine pn_ 9 60 1023 ?_
      refine pn_ 10 61 2047 ?_
      refine pn_ 11 62 4095 ?_
      refine pn_ 12 63 8191 ?_
      refine pn_ 13 64 16383 ?_
      refine pn_ 14 65 32767 ?_
      refine pu_ 15 66 65535 ?_
      refine done_ kr_ ?_
      clear HK;have HK:=asd_ hHeld.1
      clear hHeld
      replace Bc:=ce6_ HK 5 4 3 2 1 0
      replace Bf:=fe5_ HK 4 3 2 1 0
      go_wp2_with fail
      refine su6_ 8 HK 5 4 3 2 1 0 [] (fun HS hHeld=> ?_)
      refine pu_ 2 74 4 ?_
      refine pu_ 4 76 20 ?_
      refine ta7_ 0 72 21 hHeld ?_
      refine ta7_ 3 75 29 hHeld ?_
      refine pq_ 5 77 61 rfl (by intro w';exact slice_run (t:=28) (by rfl) (by rfl) (by rfl) (by rfl) hcut) ?_
      refine on_ 1 73 63 (fun K hK=> ?_)
      have HE:=asd_ (hHeld.1)
      refine ne_ 73 (row (#[.string nm,.int .i64 d.kind,.bool d.b,.int .i64 d.n,.int .u64 d.f,.string d.s,.slice Bd d.kids.length cd]) 85) (fun g=> .slice (some ⟨g,0,none⟩) 1 1) ?_
      intro gl w3 HE0 hggl
      have Ggl:=asd_ hggl
      clear hggl
      replace HE:=asd_ HE0;clear HE0
      refine hK.out _ _ (HS (At.sub HE.out (List.Sublist.cons _ (List.Sublist.cons_cons _ (List.Sublist.cons_cons _ (List.Sublist.cons_cons _ (List.Sublist.cons_cons _ (List.Sublist.cons_cons _ (List.Sublist.cons_cons _ (List.Sublist.refl _)))))))))) (fun hHeld=> ?_)
      clear hK K
      refine nq_ 73 ?_
      refine on_ 6 78 127 (fun K hK=> ?_)
      refine value_ (w1:=_) (v:= .slice (some ⟨gl,0,none⟩) 1 1) (by rfl) rfl (appendnil_run (by decide) (by rfl) (by rfl) (by rfl)) ?_
      replace HE:=asd_ HE.out
      refine hK.out _ _ (HS (At.sub HE.out (List.Sublist.cons _ (List.Sublist.cons_cons _ (List.Sublist.cons_cons _ (List.Sublist.cons_cons _ (List.Sublist.cons_cons _ (List.Sublist.cons_cons _ (List.Sublist.cons_cons _ (List.Sublist.refl _)))))))))) (fun hHeld=> ?_)
      clear hK K
      refine nq_ 78 ?_
      refine pu_ 7 11 255 ?_
      refine done_ kr_ ?_
      clear HK;have HK:=HE;clear HE
      clear hHeld
      replace Bc:=ce6_ HK 6 5 4 3 2 1
      replace Bf:=fe5_ HK 5 4 3 2 1
      go_wp2_with (first|((with_reducible refine gate_ (.slice 28 (.tmp 80) none (some (.tmp 81)) (some (.tmp 82))) rfl ?_);refine slice_at rfl rfl (by rfl) (by rfl) (by rfl) hcut2 ?_)|((with_reducible refine gate_builtin (b:= .append) (xs:=#[.tmp 83,.tmp 84]) rfl ?_);at_builtin;have HKr:Aside0 (At w ((sn1 ++ (pr ++ sn))) _):=⟨At.sub HK.out (List.sublist_append_right ([.b gl (row (#[.string nm,.int .i64 d.kind,.bool d.b,.int .i64 d.n,.int .u64 d.f,.string d.s,.slice Bd d.kids.length cd]) 85),.b g10 (row (#[.string nm,.int .i64 d.kind,.bool d.b,.int .i64 d.n,.int .u64 d.f,.string d.s,.slice Bd d.kids.length cd]) 85),.b g7 (row (#[.int .i64 d.kind,.bool d.b,.int .i64 d.n,.int .u64 d.f,.string d.s,.slice Bd d.kids.length cd]) 30),.b ge (row (#[.string nm,.int .i64 v.kind,.string v.raw,.slice A2 v.kids.length c2]) 52),.b g4 (row (#[.int .i64 6,bF,i0,.int .u64 0,eS,.slice Au m cu]) 30),.b g2 (row (#[i0,bF,i0,.int .u64 0,eS,nilS]) 30),.b gv (row (#[.int .i64 9,.string raw,.slice (some ad) n c]) 48)]:List Blk) _)⟩;refine appendnew_at (n:=p) (c:=p) (m:=1) (c2:=1) (A:=Au) (olds:=(rowOf L us).take (p * 7)) (news:=(#[.string nm,.int .i64 d.kind,.bool d.b,.int .i64 d.n,.int .u64 d.f,.string d.s,.slice Bd d.kids.length cd]:Array Value).toList) HK.out rfl rfl (by rfl) (by rfl) (fun h=>(by have:=(HP.out.nil_ h).1;have:=Hp.out;omega)) (by rw [List.length_take,rowOf_len _ _ HD.out.lu];have:=Hp.out;have:=Hm.out;omega) (take_rows _ (PR.rows HP.out (Keeps.app.1 (Keeps.app.1 HKr.out.k).2).1)) rfl (World.news_of_block (At.front 0 HK.out rfl).k.1) (by simp [Value.oneCell']) (by omega) (by have:=Hp.out;have:=HLm.out;omega) ?_;intro pr3 g3 c3 wa HP3 HE0;have HP3:=asd_ HP3;have HK9:Aside0 (At w (.b gl (row (#[.string nm,.int .i64 d.kind,.bool d.b,.int .i64 d.n,.int .u64 d.f,.string d.s,.slice Bd d.kids.length cd]) 85):: .b g10 (row (#[.string nm,.int .i64 d.kind,.bool d.b,.int .i64 d.n,.int .u64 d.f,.string d.s,.slice Bd d.kids.length cd]) 85):: .b g7 (row (#[.int .i64 d.kind,.bool d.b,.int .i64 d.n,.int .u64 d.f,.string d.s,.slice Bd d.kids.length cd]) 30):: .b ge (row (#[.string nm,.int .i64 v.kind,.string v.raw,.slice A2 v.kids.length c2]) 52):: .b g4 (row (#[.int .i64 6,bF,i0,.int .u64 0,eS,.slice Au m cu]) 30):: .b g2 (row (#[i0,bF,i0,.int .u64 0,eS,nilS]) 30):: .b gv (row (#[.int .i64 9,.string raw,.slice (some ad) n c]) 48)::(pr3 ++ (sn1 ++ (pr ++ sn)))) wa):=⟨At.behind [.b gl (row (#[.string nm,.int .i64 d.kind,.bool d.b,.int .i64 d.n,.int .u64 d.f,.string d.s,.slice Bd d.kids.length cd]) 85),.b g10 (row (#[.string nm,.int .i64 d.kind,.bool d.b,.int .i64 d.n,.int .u64 d.f,.string d.s,.slice Bd d.kids.length cd]) 85),.b g7 (row (#[.int .i64 d.kind,.bool d.b,.int .i64 d.n,.int .u64 d.f,.string d.s,.slice Bd d.kids.length cd]) 30),.b ge (row (#[.string nm,.int .i64 v.kind,.string v.raw,.slice A2 v.kids.length c2]) 52),.b g4 (row (#[.int .i64 6,bF,i0,.int .u64 0,eS,.slice Au m cu]) 30),.b g2 (row (#[i0,bF,i0,.int .u64 0,eS,nilS]) 30),.b gv (row (#[.int .i64 9,.string raw,.slice (some ad) n c]) 48)] HE0⟩;clear HK HE0 HKr;have HK:=HK9;clear HK9;replace Bc:=ce6_ HK 6 5 4 3 2 1;replace Bf:=fe5_ HK 5 4 3 2 1)|((with_reducible refine gate_ (.store 28 (.tmp 86) (.tmp 85)) rfl ?_);refine store_at (t:=28) (p:=86) (g:=g4) (i:=5) (v:= .slice (some ⟨g3,0,none⟩) (p + 1) c3) 4 (#[.int .i64 6,bF,i0,.int .u64 0,eS,.slice (some ⟨g3,0,none⟩) (p + 1) c3]) rfl at_ rfl Gg4.out rfl rfl rfl rfl gs_ ?_;intro ws8 HK1;replace HK:=asd_ HK1;clear HK1;replace Bc:=ce6_ HK 6 5 4 3 2 1;replace Bf:=fe5_ HK 5 4 3 2 1))
      have e11:(rowOf L us).drop (p * 7)=[]:=List.drop_eq_nil_of_le (by rw [rowOf_len _ _ HD.out.lu];have:=Hpm.out;have:=Hm.out;omega)
      go_roundg (n - (k + 1))
      case measure=>have:=Hkq.out;have:=Hlt.out;omega
      case rel=>exact ⟨k + 1,p + 1,_,pr3,sn1 ++ sn,ds ++ [(nm,d)],L.take p ++ ((nm,d)::L.drop p),us.take p ++ (.slice Bd d.kids.length cd::us.drop p),⟨Hlt.out⟩,by go_num,⟨rfl⟩,⟨by rw [rowOf_ins HD.out.lu,e11,List.append_nil];exact HP3.out⟩,⟨by have:=Hpm.out;have:=Hm.out;simp;omega⟩,⟨HD.out.put (x:=(nm,v)) (fun b hb=>List.mem_append_right _ hb) Hx.out (Hvd.out (by first|trivial|rfl)) (Hdb.out.mono (fun b hb=>List.mem_append_left _ hb)) Hpos.out (fun e he=>absurd (List.getElem?_eq_some_iff.1 he).1 (by have:=Hpm.out;have:=Hm.out;omega))⟩,⟨ge_app Hge.out Hgs.out⟩,⟨fun e=>offG_append (Hof.out e) (Hos.out e)⟩,⟨At.sub (show At w (.b gl (row (#[.string nm,.int .i64 d.kind,.bool d.b,.int .i64 d.n,.int .u64 d.f,.string d.s,.slice Bd d.kids.length cd]) 85):: .b g10 (row (#[.string nm,.int .i64 d.kind,.bool d.b,.int .i64 d.n,.int .u64 d.f,.string d.s,.slice Bd d.kids.length cd]) 85):: .b g7 (row (#[.int .i64 d.kind,.bool d.b,.int .i64 d.n,.int .u64 d.f,.string d.s,.slice Bd d.kids.length cd]) 30):: .b ge (row (#[.string nm,.int .i64 v.kind,.string v.raw,.slice A2 v.kids.length c2]) 52):: .b g4 (row (#[.int .i64 6,bF,i0,.int .u64 0,eS,.slice (some ⟨g3,0,none⟩) (p + 1) c3]) 30):: .b g2 (row (#[i0,bF,i0,.int .u64 0,eS,nilS]) 30):: .b gv (row (#[.int .i64 9,.string raw,.slice (some ad) n c]) 48)::(pr3 ++ (sn1 ++ (pr ++ sn)))) _ from at_) (List.Sublist.cons _ (List.Sublist.cons _ (List.Sublist.cons _ (List.Sublist.cons _ (List.Sublist.cons_cons _ (List.Sublist.cons_cons _ (List.Sublist.cons_cons _ (drop_pr pr3 sn1 pr sn))))))))⟩⟩
     case pos=>
      have fp:decide (p < m)=true:=decide_eq_true hpm;have Hpm:=asd_ hpm;clear hpm
      have hi0:(0:Int)≤(p:Int):=(by omega);have hi1:(p:Int) < (m:Int):=(by have:=Hpm.out;omega);have hs1:IntKind.i64.wrap ((p:Int) + 1)=(p:Int) + 1:=IntWalk.i64_in _ (by have:=Hpm.out;have:=HLm.out;omega)
      obtain ⟨⟨nm1,d1⟩,hl1⟩:∃ h,L[p]? =some h:=⟨_,List.getElem?_eq_getElem (by have:=Hpm.out;have:=Hm.out;omega)⟩;obtain ⟨t1,ht1⟩:∃ t,us[p]? =some t:=⟨_,List.getElem?_eq_getElem (by have:=Hpm.out;have:=Hm.out;have:=HD.out.lu;omega)⟩
      obtain ⟨gA,e3,hcA⟩:=HP.out.cells_ (by have:=Hpm.out;omega);subst e3
      have Hna:Aside0 (∀ W,At w (sn1 ++ (pr ++ sn)) W→W.cell? ⟨gA,p * 7,none⟩=some (.string nm1)):=⟨fun W hW=>hcA W (Keeps.app.1 (Keeps.app.1 hW.k).2).1 _ _ ((rowOf_get hl1 ht1 0 (by decide)).trans rfl)⟩
      obtain ⟨Hl1,HcA⟩:=as2_ hl1 hcA;clear hl1 ht1 hcA
      obtain ⟨bb,hbb⟩:∃ b:Bool,bl nm1 nm=b:=⟨_,rfl⟩;cases bb
      case true=>
       go_wp2_with fail
       refine st_ 16 (fun w'=>At w (.b g7 (row (#[.int .i64 d.kind,.bool d.b,.int .i64 d.n,.int .u64 d.f,.string d.s,.slice Bd d.kids.length cd]) 30):: .b ge (row (#[.string nm,.int .i64 v.kind,.string v.raw,.slice A2 v.kids.length c2]) 52):: .b g4 (row (#[.int .i64 6,bF,i0,.int .u64 0,eS,.slice (some ⟨gA,0,none⟩) m cu]) 30):: .b g2 (row (#[i0,bF,i0,.int .u64 0,eS,nilS]) 30):: .b gv (row (#[.int .i64 9,.string raw,.slice (some ad) n c]) 48)::(sn1 ++ (pr ++ sn))) w'∧(∀ j,w'.cell? ⟨gv,j,none⟩=(#[.int .i64 9,.string raw,.slice (some ad) n c]:Array Value)[j]?)∧(∀ j,w'.cell? ⟨g2,j,none⟩=(#[i0,bF,i0,.int .u64 0,eS,nilS]:Array Value)[j]?)∧(∀ j,w'.cell? ⟨g4,j,none⟩=(#[.int .i64 6,bF,i0,.int .u64 0,eS,.slice (some ⟨gA,0,none⟩) m cu]:Array Value)[j]?)∧(∀ j,w'.cell? ⟨ge,j,none⟩=(#[.string nm,.int .i64 v.kind,.string v.raw,.slice A2 v.kids.length c2]:Array Value)[j]?)∧(∀ j,w'.cell? ⟨g7,j,none⟩=(#[.int .i64 d.kind,.bool d.b,.int .i64 d.n,.int .u64 d.f,.string d.s,.slice Bd d.kids.length cd]:Array Value)[j]?)∧w'.cell? ⟨gA,p * 7,none⟩=some (.string nm1)) [] (fun A=>⟨A,(cA_ A 4),(cA_ A 3),(cA_ A 2),(cA_ A 1),(cA_ A 0),(Hna.out _ (At.sub A (List.sublist_append_right ([.b g7 (row (#[.int .i64 d.kind,.bool d.b,.int .i64 d.n,.int .u64 d.f,.string d.s,.slice Bd d.kids.length cd]) 30),.b ge (row (#[.string nm,.int .i64 v.kind,.string v.raw,.slice A2 v.kids.length c2]) 52),.b g4 (row (#[.int .i64 6,bF,i0,.int .u64 0,eS,.slice (some ⟨gA,0,none⟩) m cu]) 30),.b g2 (row (#[i0,bF,i0,.int .u64 0,eS,nilS]) 30),.b gv (row (#[.int .i64 9,.string raw,.slice (some ad) n c]) 48)]:List Blk) _)))⟩) (fun hHeld=> ?_)
       refine pu_ 0 29 1 ?_
       refine pu_ 1 30 3 ?_
       refine ta7_ 2 31 7 hHeld ?_
       refine pu_ 3 32 15 ?_
       refine pu_ 4 33 31 ?_
       refine pu_ 5 34 63 ?_
       refine pu_ 6 35 127 ?_
       refine pu_ 8 37 383 ?_
       refine pu_ 12 41 4479 ?_
       refine ta7_ 7 36 4607 hHeld ?_
       refine pu_ 9 38 5119 ?_
       refine pu_ 10 39 6143 ?_
       refine ta7_ 11 40 8191 hHeld ?_
       refine ta7_ 13 42 16383 hHeld ?_
       refine pu_ 14 43 32767 ?_
       refine pu_ 15 44 65535 ?_
       refine done_ kr_ ?_
       clear HK;have HK:=asd_ hHeld.1
       clear hHeld
       replace Bc:=ce5_ HK 4 3 2 1 0
       replace Bf:=fe4_ HK 3 2 1 0
       go_wp2_with fail
       go_roundg (m - (p + 1))
       case measure=>have:=Hpq.out;have:=Hpm.out;omega
       case rel=>exact ⟨p + 1,⟨Hpm.out⟩,by go_num,⟨rfl⟩,⟨bl_next Hbl.out Hl1.out hbb⟩,⟨(show At w (.b g7 (row (#[.int .i64 d.kind,.bool d.b,.int .i64 d.n,.int .u64 d.f,.string d.s,.slice Bd d.kids.length cd]) 30):: .b ge (row (#[.string nm,.int .i64 v.kind,.string v.raw,.slice A2 v.kids.length c2]) 52):: .b g4 (row (#[.int .i64 6,bF,i0,.int .u64 0,eS,.slice (some ⟨gA,0,none⟩) m cu]) 30):: .b g2 (row (#[i0,bF,i0,.int .u64 0,eS,nilS]) 30):: .b gv (row (#[.int .i64 9,.string raw,.slice (some ad) n c]) 48)::(sn1 ++ (pr ++ sn))) _ from at_)⟩⟩
      case false=>
       have Hpos:Aside0 (p=pos L nm):=⟨pos_of (fun j h hj hh=>Hbl.out j h hj hh) (by have:=Hp.out;have:=Hm.out;omega) (fun h hh=>by have h8:=hh.symm.trans Hl1.out;cases h8;exact hbb)⟩
       go_wp2_with fail
       refine st_ 16 (fun w'=>At w (.b g7 (row (#[.int .i64 d.kind,.bool d.b,.int .i64 d.n,.int .u64 d.f,.string d.s,.slice Bd d.kids.length cd]) 30):: .b ge (row (#[.string nm,.int .i64 v.kind,.string v.raw,.slice A2 v.kids.length c2]) 52):: .b g4 (row (#[.int .i64 6,bF,i0,.int .u64 0,eS,.slice (some ⟨gA,0,none⟩) m cu]) 30):: .b g2 (row (#[i0,bF,i0,.int .u64 0,eS,nilS]) 30):: .b gv (row (#[.int .i64 9,.string raw,.slice (some ad) n c]) 48)::(sn1 ++ (pr ++ sn))) w'∧(∀ j,w'.cell? ⟨gv,j,none⟩=(#[.int .i64 9,.string raw,.slice (some ad) n c]:Array Value)[j]?)∧(∀ j,w'.cell? ⟨g2,j,none⟩=(#[i0,bF,i0,.int .u64 0,eS,nilS]:Array Value)[j]?)∧(∀ j,w'.cell? ⟨g4,j,none⟩=(#[.int .i64 6,bF,i0,.int .u64 0,eS,.slice (some ⟨gA,0,none⟩) m cu]:Array Value)[j]?)∧(∀ j,w'.cell? ⟨ge,j,none⟩=(#[.string nm,.int .i64 v.kind,.string v.raw,.slice A2 v.kids.length c2]:Array Value)[j]?)∧(∀ j,w'.cell? ⟨g7,j,none⟩=(#[.int .i64 d.kind,.bool d.b,.int .i64 d.n,.int .u64 d.f,.string d.s,.slice Bd d.kids.length cd]:Array Value)[j]?)∧w'.cell? ⟨gA,p * 7,none⟩=some (.string nm1)) [] (fun A=>⟨A,(cA_ A 4),(cA_ A 3),(cA_ A 2),(cA_ A 1),(cA_ A 0),(Hna.out _ (At.sub A (List.sublist_append_right ([.b g7 (row (#[.int .i64 d.kind,.bool d.b,.int .i64 d.n,.int .u64 d.f,.string d.s,.slice Bd d.kids.length cd]) 30),.b ge (row (#[.string nm,.int .i64 v.kind,.string v.raw,.slice A2 v.kids.length c2]) 52),.b g4 (row (#[.int .i64 6,bF,i0,.int .u64 0,eS,.slice (some ⟨gA,0,none⟩) m cu]) 30),.b g2 (row (#[i0,bF,i0,.int .u64 0,eS,nilS]) 30),.b gv (row (#[.int .i64 9,.string raw,.slice (some ad) n c]) 48)]:List Blk) _)))⟩) (fun hHeld=> ?_)
       refine pu_ 0 29 1 ?_
       refine pu_ 1 30 3 ?_
       refine ta7_ 2 31 7 hHeld ?_
       refine pu_ 3 32 15 ?_
       refine pu_ 4 33 31 ?_
       refine pu_ 5 34 63 ?_
       refine pu_ 6 35 127 ?_
       refine pu_ 8 37 383 ?_
       refine pu_ 12 41 4479 ?_
       refine ta7_ 7 36 4607 hHeld ?_
       refine pu_ 9 38 5119 ?_
       refine pu_ 10 39 6143 ?_
       refine ta7_ 11 40 8191 hHeld ?_
       refine ta7_ 13 42 16383 hHeld ?_
       refine pu_ 14 43 32767 ?_
       refine pu_ 15 44 65535 ?_
       refine done_ kr_ ?_
       clear HK;have HK:=asd_ hHeld.1
       clear hHeld
       replace Bc:=ce5_ HK 4 3 2 1 0
       replace Bf:=fe4_ HK 3 2 1 0
       go_wp2_with (first|((with_reducible refine gd_ 10 ?_);refine bx_ #[eS,i0,bF,i0,.int .u64 0,eS,nilS] 85 ?_;clear HK;intro g10 wb10 HK Gg10;replace Bc:=ce6_ HK 5 4 3 2 1 0;replace Bf:=fe5_ HK 4 3 2 1 0)|((with_reducible refine gd_ 49 ?_);refine lo_ 30 7 g7 (#[.int .i64 d.kind,.bool d.b,.int .i64 d.n,.int .u64 d.f,.string d.s,.slice Bd d.kids.length cd]) HK.out.k.2.1 Tryz.underlying30 ?_)|((with_reducible refine gate_ (.store 85 (.tmp 10) (.tmp 50)) rfl ?_);refine storerow_at (cs:=#[eS,i0,bF,i0,.int .u64 0,eS,nilS]) (g:=g10) 0 (#[.string nm,.int .i64 d.kind,.bool d.b,.int .i64 d.n,.int .u64 d.f,.string d.s,.slice Bd d.kids.length cd]) at_ rfl Gg10.out rfl rfl rfl rfl rfl rfl kr_ rfl (by simp [Value.oneCell']) ?_;intro wr9 HK1;replace HK:=asd_ HK1;clear HK1;replace Bc:=ce6_ HK 5 4 3 2 1 0;replace Bf:=fe5_ HK 4 3 2 1 0))
       obtain ⟨be,hbe⟩:∃ b:Bool,(nm1.toList == nm.toList)=b:=⟨_,rfl⟩
       cases be
       case true=>
        refine st_ 16 (fun w'=>At w (.b g10 (row (#[.string nm,.int .i64 d.kind,.bool d.b,.int .i64 d.n,.int .u64 d.f,.string d.s,.slice Bd d.kids.length cd]) 85):: .b g7 (row (#[.int .i64 d.kind,.bool d.b,.int .i64 d.n,.int .u64 d.f,.string d.s,.slice Bd d.kids.length cd]) 30):: .b ge (row (#[.string nm,.int .i64 v.kind,.string v.raw,.slice A2 v.kids.length c2]) 52):: .b g4 (row (#[.int .i64 6,bF,i0,.int .u64 0,eS,.slice (some ⟨gA,0,none⟩) m cu]) 30):: .b g2 (row (#[i0,bF,i0,.int .u64 0,eS,nilS]) 30):: .b gv (row (#[.int .i64 9,.string raw,.slice (some ad) n c]) 48)::(sn1 ++ (pr ++ sn))) w'∧(∀ j,w'.cell? ⟨gv,j,none⟩=(#[.int .i64 9,.string raw,.slice (some ad) n c]:Array Value)[j]?)∧(∀ j,w'.cell? ⟨g2,j,none⟩=(#[i0,bF,i0,.int .u64 0,eS,nilS]:Array Value)[j]?)∧(∀ j,w'.cell? ⟨g4,j,none⟩=(#[.int .i64 6,bF,i0,.int .u64 0,eS,.slice (some ⟨gA,0,none⟩) m cu]:Array Value)[j]?)∧(∀ j,w'.cell? ⟨ge,j,none⟩=(#[.string nm,.int .i64 v.kind,.string v.raw,.slice A2 v.kids.length c2]:Array Value)[j]?)∧(∀ j,w'.cell? ⟨g7,j,none⟩=(#[.int .i64 d.kind,.bool d.b,.int .i64 d.n,.int .u64 d.f,.string d.s,.slice Bd d.kids.length cd]:Array Value)[j]?)∧(∀ j,w'.cell? ⟨g10,j,none⟩=(#[.string nm,.int .i64 d.kind,.bool d.b,.int .i64 d.n,.int .u64 d.f,.string d.s,.slice Bd d.kids.length cd]:Array Value)[j]?)∧w'.cell? ⟨gA,p * 7,none⟩=some (.string nm1)) [] (fun A=>⟨A,(cA_ A 5),(cA_ A 4),(cA_ A 3),(cA_ A 2),(cA_ A 1),(cA_ A 0),(Hna.out _ (At.sub A (List.sublist_append_right ([.b g10 (row (#[.string nm,.int .i64 d.kind,.bool d.b,.int .i64 d.n,.int .u64 d.f,.string d.s,.slice Bd d.kids.length cd]) 85),.b g7 (row (#[.int .i64 d.kind,.bool d.b,.int .i64 d.n,.int .u64 d.f,.string d.s,.slice Bd d.kids.length cd]) 30),.b ge (row (#[.string nm,.int .i64 v.kind,.string v.raw,.slice A2 v.kids.length c2]) 52),.b g4 (row (#[.int .i64 6,bF,i0,.int .u64 0,eS,.slice (some ⟨gA,0,none⟩) m cu]) 30),.b g2 (row (#[i0,bF,i0,.int .u64 0,eS,nilS]) 30),.b gv (row (#[.int .i64 9,.string raw,.slice (some ad) n c]) 48)]:List Blk) _)))⟩) (fun hHeld=> ?_)
        refine pu_ 0 51 1 ?_
        refine pu_ 1 52 3 ?_
        refine ta8_ 2 53 7 hHeld ?_
        refine pu_ 3 54 15 ?_
        refine pu_ 4 55 31 ?_
        refine pu_ 5 56 63 ?_
        refine pu_ 6 57 127 ?_
        refine pu_ 8 59 383 ?_
        refine pu_ 12 63 4479 ?_
        refine ta8_ 7 58 4607 hHeld ?_
        refine pu_ 9 60 5119 ?_
        refine pu_ 10 61 6143 ?_
        refine ta8_ 11 62 8191 hHeld ?_
        refine ta8_ 13 64 16383 hHeld ?_
        refine pu_ 14 65 32767 ?_
        refine pu_ 15 66 65535 ?_
        refine done_ kr_ ?_
        clear HK;have HK:=asd_ hHeld.1
        clear hHeld
        replace Bc:=ce6_ HK 5 4 3 2 1 0
        replace Bf:=fe5_ HK 4 3 2 1 0
        go_wp2_with (first|((with_reducible refine gd_ 70 ?_);refine lo_ 85 10 g10 (#[.string nm,.int .i64 d.kind,.bool d.b,.int .i64 d.n,.int .u64 d.f,.string d.s,.slice Bd d.kids.length cd]) HK.out.k.1 Tryz.underlying85 ?_)|((with_reducible refine gate_ (.store 85 (.tmp 71) (.tmp 70)) rfl ?_);refine putpr_at (Ls:=(.b g10 (row (#[.string nm,.int .i64 d.kind,.bool d.b,.int .i64 d.n,.int .u64 d.f,.string d.s,.slice Bd d.kids.length cd]) 85):: .b g7 (row (#[.int .i64 d.kind,.bool d.b,.int .i64 d.n,.int .u64 d.f,.string d.s,.slice Bd d.kids.length cd]) 30):: .b ge (row (#[.string nm,.int .i64 v.kind,.string v.raw,.slice A2 v.kids.length c2]) 52):: .b g4 (row (#[.int .i64 6,bF,i0,.int .u64 0,eS,.slice (some ⟨gA,0,none⟩) m cu]) 30):: .b g2 (row (#[i0,bF,i0,.int .u64 0,eS,nilS]) 30):: .b gv (row (#[.int .i64 9,.string raw,.slice (some ad) n c]) 48)::sn1)) (pr:=pr) (T:=sn) (g:=gA) (n:=m) (cap:=cu) (i:=p) (L:=L) (us:=us) (k:=(nm,d)) (t:= .slice Bd d.kids.length cd) (kc:=#[.string nm,.int .i64 d.kind,.bool d.b,.int .i64 d.n,.int .u64 d.f,.string d.s,.slice Bd d.kids.length cd]) HK.out HP.out HD.out.lu Hm.out.symm Hpm.out rfl rfl rfl (by rfl) (by rfl) rfl (by simp [Value.oneCell']) ?_;intro pr2 wa HP2 HE0;have HP2:=asd_ HP2;have HK9:Aside0 (At w (.b g10 (row (#[.string nm,.int .i64 d.kind,.bool d.b,.int .i64 d.n,.int .u64 d.f,.string d.s,.slice Bd d.kids.length cd]) 85):: .b g7 (row (#[.int .i64 d.kind,.bool d.b,.int .i64 d.n,.int .u64 d.f,.string d.s,.slice Bd d.kids.length cd]) 30):: .b ge (row (#[.string nm,.int .i64 v.kind,.string v.raw,.slice A2 v.kids.length c2]) 52):: .b g4 (row (#[.int .i64 6,bF,i0,.int .u64 0,eS,.slice (some ⟨gA,0,none⟩) m cu]) 30):: .b g2 (row (#[i0,bF,i0,.int .u64 0,eS,nilS]) 30):: .b gv (row (#[.int .i64 9,.string raw,.slice (some ad) n c]) 48)::(sn1 ++ (pr2 ++ sn))) wa):=asd_ HE0;clear HK HE0;have HK:=HK9;clear HK9;replace Bc:=ce6_ HK 5 4 3 2 1 0;replace Bf:=fe5_ HK 4 3 2 1 0))
        go_roundg (n - (k + 1))
        case measure=>have:=Hkq.out;have:=Hlt.out;omega
        case rel=>exact ⟨k + 1,m,_,pr2,sn1 ++ sn,ds ++ [(nm,d)],L.set p (nm,d),us.set p (.slice Bd d.kids.length cd),⟨Hlt.out⟩,by go_num,⟨rfl⟩,⟨HP2.out⟩,⟨by rw [List.length_set];exact Hm.out⟩,⟨HD.out.set_ (x:=(nm,v)) (fun b hb=>List.mem_append_right _ hb) Hx.out (Hvd.out (by first|trivial|rfl)) (Hdb.out.mono (fun b hb=>List.mem_append_left _ hb)) Hpos.out Hl1.out (beq_iff_eq.1 hbe)⟩,⟨ge_app Hge.out Hgs.out⟩,⟨fun e=>offG_append (Hof.out e) (Hos.out e)⟩,⟨At.under [.b g4 (row (#[.int .i64 6,bF,i0,.int .u64 0,eS,.slice (some ⟨gA,0,none⟩) m cu]) 30),.b g2 (row (#[i0,bF,i0,.int .u64 0,eS,nilS]) 30),.b gv (row (#[.int .i64 9,.string raw,.slice (some ad) n c]) 48)] (At.sub (show At w (.b g10 (row (#[.string nm,.int .i64 d.kind,.bool d.b,.int .i64 d.n,.int .u64 d.f,.string d.s,.slice Bd d.kids.length cd]) 85):: .b g7 (row (#[.int .i64 d.kind,.bool d.b,.int .i64 d.n,.int .u64 d.f,.string d.s,.slice Bd d.kids.length cd]) 30):: .b ge (row (#[.string nm,.int .i64 v.kind,.string v.raw,.slice A2 v.kids.length c2]) 52):: .b g4 (row (#[.int .i64 6,bF,i0,.int .u64 0,eS,.slice (some ⟨gA,0,none⟩) m cu]) 30):: .b g2 (row (#[i0,bF,i0,.int .u64 0,eS,nilS]) 30):: .b gv (row (#[.int .i64 9,.string raw,.slice (some ad) n c]) 48)::(sn1 ++ (pr2 ++ sn))) _ from at_) (List.Sublist.cons _ (List.Sublist.cons _ (List.Sublist.cons _ (List.Sublist.refl _)))))⟩⟩
       case false=>
        have hcut0:=sliced_tail (some ⟨gA,0,none⟩) p m cu Hp.out;obtain ⟨Ap,hcut1,hAp⟩:=hcut0;have hAp1:=hAp Hpm.out Hcu.out;subst hAp1;clear hAp;have hcut:∀ W,(Instr.slice 28 (.slice (some ⟨gA,0,none⟩) m cu) (some (.int .i64 p)) none none).run Tryz.prog W= .ok (.slice (some ((⟨gA,0,none⟩:Addr).add (p * 7))) (m - p) (cu - p)) W:=hcut1;clear hcut1;have hcut2:=sliced_head (some ⟨gA,0,none⟩) p m cu (Nat.le_trans Hp.out Hcu.out)
        refine st_ 16 (fun w'=>At w (.b g10 (row (#[.string nm,.int .i64 d.kind,.bool d.b,.int .i64 d.n,.int .u64 d.f,.string d.s,.slice Bd d.kids.length cd]) 85):: .b g7 (row (#[.int .i64 d.kind,.bool d.b,.int .i64 d.n,.int .u64 d.f,.string d.s,.slice Bd d.kids.length cd]) 30):: .b ge (row (#[.string nm,.int .i64 v.kind,.string v.raw,.slice A2 v.kids.length c2]) 52):: .b g4 (row (#[.int .i64 6,bF,i0,.int .u64 0,eS,.slice (some ⟨gA,0,none⟩) m cu]) 30):: .b g2 (row (#[i0,bF,i0,.int .u64 0,eS,nilS]) 30):: .b gv (row (#[.int .i64 9,.string raw,.slice (some ad) n c]) 48)::(sn1 ++ (pr ++ sn))) w'∧(∀ j,w'.cell? ⟨gv,j,none⟩=(#[.int .i64 9,.string raw,.slice (some ad) n c]:Array Value)[j]?)∧(∀ j,w'.cell? ⟨g2,j,none⟩=(#[i0,bF,i0,.int .u64 0,eS,nilS]:Array Value)[j]?)∧(∀ j,w'.cell? ⟨g4,j,none⟩=(#[.int .i64 6,bF,i0,.int .u64 0,eS,.slice (some ⟨gA,0,none⟩) m cu]:Array Value)[j]?)∧(∀ j,w'.cell? ⟨ge,j,none⟩=(#[.string nm,.int .i64 v.kind,.string v.raw,.slice A2 v.kids.length c2]:Array Value)[j]?)∧(∀ j,w'.cell? ⟨g7,j,none⟩=(#[.int .i64 d.kind,.bool d.b,.int .i64 d.n,.int .u64 d.f,.string d.s,.slice Bd d.kids.length cd]:Array Value)[j]?)∧(∀ j,w'.cell? ⟨g10,j,none⟩=(#[.string nm,.int .i64 d.kind,.bool d.b,.int .i64 d.n,.int .u64 d.f,.string d.s,.slice Bd d.kids.length cd]:Array Value)[j]?)∧w'.cell? ⟨gA,p * 7,none⟩=some (.string nm1)) [] (fun A=>⟨A,(cA_ A 5),(cA_ A 4),(cA_ A 3),(cA_ A 2),(cA_ A 1),(cA_ A 0),(Hna.out _ (At.sub A (List.sublist_append_right ([.b g10 (row (#[.string nm,.int .i64 d.kind,.bool d.b,.int .i64 d.n,.int .u64 d.f,.string d.s,.slice Bd d.kids.length cd]) 85),.b g7 (row (#[.int .i64 d.kind,.bool d.b,.int .i64 d.n,.int .u64 d.f,.string d.s,.slice Bd d.kids.length cd]) 30),.b ge (row (#[.string nm,.int .i64 v.kind,.string v.raw,.slice A2 v.kids.length c2]) 52),.b g4 (row (#[.int .i64 6,bF,i0,.int .u64 0,eS,.slice (some ⟨gA,0,none⟩) m cu]) 30),.b g2 (row (#[i0,bF,i0,.int .u64 0,eS,nilS]) 30),.b gv (row (#[.int .i64 9,.string raw,.slice (some ad) n c]) 48)]:List Blk) _)))⟩) (fun hHeld=> ?_)
        refine pu_ 0 51 1 ?_
        refine pu_ 1 52 3 ?_
        refine ta8_ 2 53 7 hHeld ?_
        refine pu_ 3 54 15 ?_
        refine pu_ 4 55 31 ?_
        refine pu_ 5 56 63 ?_
        refine pu_ 6 57 127 ?_
        refine pu_ 8 59 383 ?_
        refine pu_ 12 63 4479 ?_
        refine ta8_ 7 58 4607 hHeld ?_
        refine pu_ 9 60 5119 ?_
        refine pu_ 10 61 6143 ?_
        refine ta8_ 11 62 8191 hHeld ?_
        refine ta8_ 13 64 16383 hHeld ?_
        refine pu_ 14 65 32767 ?_
        refine pu_ 15 66 65535 ?_
        refine done_ kr_ ?_
        clear HK;have HK:=asd_ hHeld.1
        clear hHeld
        replace Bc:=ce6_ HK 5 4 3 2 1 0
        replace Bf:=fe5_ HK 4 3 2 1 0
        go_wp2_with fail
        refine su6_ 8 HK 5 4 3 2 1 0 [] (fun HS hHeld=> ?_)
        refine pu_ 2 74 4 ?_
        refine pu_ 4 76 20 ?_
        refine ta7_ 0 72 21 hHeld ?_
        refine ta7_ 3 75 29 hHeld ?_
        refine pq_ 5 77 61 rfl (by intro w';exact slice_run (t:=28) (by rfl) (by rfl) (by rfl) (by rfl) hcut) ?_
        refine on_ 1 73 63 (fun K hK=> ?_)
        have HE:=asd_ (hHeld.1)
        refine ne_ 73 (row (#[.string nm,.int .i64 d.kind,.bool d.b,.int .i64 d.n,.int .u64 d.f,.string d.s,.slice Bd d.kids.length cd]) 85) (fun g=> .slice (some ⟨g,0,none⟩) 1 1) ?_
        intro gl w3 HE0 hggl
        have Ggl:=asd_ hggl
        clear hggl
        replace HE:=asd_ HE0;clear HE0
        refine hK.out _ _ (HS (At.sub HE.out (List.Sublist.cons _ (List.Sublist.cons_cons _ (List.Sublist.cons_cons _ (List.Sublist.cons_cons _ (List.Sublist.cons_cons _ (List.Sublist.cons_cons _ (List.Sublist.cons_cons _ (List.Sublist.refl _)))))))))) (fun hHeld=> ?_)
        clear hK K
        refine nq_ 73 ?_
        refine on_ 6 78 127 (fun K hK=> ?_)
        have HKr:Aside0 (At w ((sn1 ++ (pr ++ sn))) _):=⟨At.sub HE.out (List.sublist_append_right ([.b gl (row (#[.string nm,.int .i64 d.kind,.bool d.b,.int .i64 d.n,.int .u64 d.f,.string d.s,.slice Bd d.kids.length cd]) 85),.b g10 (row (#[.string nm,.int .i64 d.kind,.bool d.b,.int .i64 d.n,.int .u64 d.f,.string d.s,.slice Bd d.kids.length cd]) 85),.b g7 (row (#[.int .i64 d.kind,.bool d.b,.int .i64 d.n,.int .u64 d.f,.string d.s,.slice Bd d.kids.length cd]) 30),.b ge (row (#[.string nm,.int .i64 v.kind,.string v.raw,.slice A2 v.kids.length c2]) 52),.b g4 (row (#[.int .i64 6,bF,i0,.int .u64 0,eS,.slice (some ⟨gA,0,none⟩) m cu]) 30),.b g2 (row (#[i0,bF,i0,.int .u64 0,eS,nilS]) 30),.b gv (row (#[.int .i64 9,.string raw,.slice (some ad) n c]) 48)]:List Blk) _)⟩
        refine appendnew_ (A:=some ⟨gl,0,none⟩) (n:=1) (c:=1) (m:=m - p) (c2:=cu - p) (ad:=(⟨gA,0,none⟩:Addr).add (p * 7)) (olds:=(#[.string nm,.int .i64 d.kind,.bool d.b,.int .i64 d.n,.int .u64 d.f,.string d.s,.slice Bd d.kids.length cd]:Array Value).toList) (news:=(rowOf L us).drop (p * 7)) HE.out (by rfl) (by rfl) (by rfl) (by rfl) (fun h=>by cases h) rfl (fun b e=>by cases e;exact World.news_of_block (At.front 0 HE.out rfl).k.1) (by rw [List.length_drop,rowOf_len _ _ HD.out.lu,← Hm.out];omega) (drop_rows (HcA.out _ (Keeps.app.1 (Keeps.app.1 HKr.out.k).2).1) _) (HD.out.one _) (by have:=Hpm.out;omega) (by have:=HLm.out;omega) ?_
        intro pr5 g5 c5 w3 HP5 HE0
        have HP5:=asd_ HP5
        have HE1:Aside0 (At w (.b gl (row (#[.string nm,.int .i64 d.kind,.bool d.b,.int .i64 d.n,.int .u64 d.f,.string d.s,.slice Bd d.kids.length cd]) 85):: .b g10 (row (#[.string nm,.int .i64 d.kind,.bool d.b,.int .i64 d.n,.int .u64 d.f,.string d.s,.slice Bd d.kids.length cd]) 85):: .b g7 (row (#[.int .i64 d.kind,.bool d.b,.int .i64 d.n,.int .u64 d.f,.string d.s,.slice Bd d.kids.length cd]) 30):: .b ge (row (#[.string nm,.int .i64 v.kind,.string v.raw,.slice A2 v.kids.length c2]) 52):: .b g4 (row (#[.int .i64 6,bF,i0,.int .u64 0,eS,.slice (some ⟨gA,0,none⟩) m cu]) 30):: .b g2 (row (#[i0,bF,i0,.int .u64 0,eS,nilS]) 30):: .b gv (row (#[.int .i64 9,.string raw,.slice (some ad) n c]) 48)::(pr5 ++ (sn1 ++ (pr ++ sn)))) w3):=⟨At.behind ([.b gl (row (#[.string nm,.int .i64 d.kind,.bool d.b,.int .i64 d.n,.int .u64 d.f,.string d.s,.slice Bd d.kids.length cd]) 85),.b g10 (row (#[.string nm,.int .i64 d.kind,.bool d.b,.int .i64 d.n,.int .u64 d.f,.string d.s,.slice Bd d.kids.length cd]) 85),.b g7 (row (#[.int .i64 d.kind,.bool d.b,.int .i64 d.n,.int .u64 d.f,.string d.s,.slice Bd d.kids.length cd]) 30),.b ge (row (#[.string nm,.int .i64 v.kind,.string v.raw,.slice A2 v.kids.length c2]) 52),.b g4 (row (#[.int .i64 6,bF,i0,.int .u64 0,eS,.slice (some ⟨gA,0,none⟩) m cu]) 30),.b g2 (row (#[i0,bF,i0,.int .u64 0,eS,nilS]) 30),.b gv (row (#[.int .i64 9,.string raw,.slice (some ad) n c]) 48)]:List Blk) HE0⟩
        clear HE0 HKr
        clear HE;have HE:=HE1;clear HE1
        refine hK.out _ _ (HS (At.sub HE.out (List.Sublist.cons _ (List.Sublist.cons_cons _ (List.Sublist.cons_cons _ (List.Sublist.cons_cons _ (List.Sublist.cons_cons _ (List.Sublist.cons_cons _ (List.Sublist.cons_cons _ (List.Sublist.trans (List.Sublist.refl _) (List.sublist_append_right _ _))))))))))) (fun hHeld=> ?_)
        clear hK K
        refine nq_ 78 ?_
        refine pu_ 7 11 255 ?_
        refine done_ kr_ ?_
        clear HK;have HK:=HE;clear HE
        clear hHeld
        replace Bc:=ce6_ HK 6 5 4 3 2 1
        replace Bf:=fe5_ HK 5 4 3 2 1
        go_wp2_with (first|((with_reducible refine gate_ (.slice 28 (.tmp 80) none (some (.tmp 81)) (some (.tmp 82))) rfl ?_);refine slice_at rfl rfl (by rfl) (by rfl) (by rfl) hcut2 ?_)|((with_reducible refine gate_builtin (b:= .append) (xs:=#[.tmp 83,.tmp 84]) rfl ?_);at_builtin;have HKr:Aside0 (At w ((pr5 ++ (sn1 ++ (pr ++ sn)))) _):=⟨At.sub HK.out (List.sublist_append_right ([.b gl (row (#[.string nm,.int .i64 d.kind,.bool d.b,.int .i64 d.n,.int .u64 d.f,.string d.s,.slice Bd d.kids.length cd]) 85),.b g10 (row (#[.string nm,.int .i64 d.kind,.bool d.b,.int .i64 d.n,.int .u64 d.f,.string d.s,.slice Bd d.kids.length cd]) 85),.b g7 (row (#[.int .i64 d.kind,.bool d.b,.int .i64 d.n,.int .u64 d.f,.string d.s,.slice Bd d.kids.length cd]) 30),.b ge (row (#[.string nm,.int .i64 v.kind,.string v.raw,.slice A2 v.kids.length c2]) 52),.b g4 (row (#[.int .i64 6,bF,i0,.int .u64 0,eS,.slice (some ⟨gA,0,none⟩) m cu]) 30),.b g2 (row (#[i0,bF,i0,.int .u64 0,eS,nilS]) 30),.b gv (row (#[.int .i64 9,.string raw,.slice (some ad) n c]) 48)]:List Blk) _)⟩;refine appendnew_at (n:=p) (c:=p) (m:=(1 + (m - p))) (c2:=c5) (A:=(some ⟨gA,0,none⟩)) (olds:=(rowOf L us).take (p * 7)) (news:=(#[.string nm,.int .i64 d.kind,.bool d.b,.int .i64 d.n,.int .u64 d.f,.string d.s,.slice Bd d.kids.length cd]:Array Value).toList ++ (rowOf L us).drop (p * 7)) HK.out rfl rfl (by rfl) (by rfl) (fun h=>(by have:=(HP.out.nil_ h).1;have:=Hp.out;omega)) (by rw [List.length_take,rowOf_len _ _ HD.out.lu];have:=Hp.out;have:=Hm.out;omega) (take_rows _ (PR.rows HP.out (Keeps.app.1 (Keeps.app.1 (Keeps.app.1 HKr.out.k).2).2).1)) (by rw [List.length_append,List.length_drop,rowOf_len _ _ HD.out.lu,← Hm.out];have e8:(#[.string nm,.int .i64 d.kind,.bool d.b,.int .i64 d.n,.int .u64 d.f,.string d.s,.slice Bd d.kids.length cd]:Array Value).toList.length=7:=rfl;rw [e8];omega) (PR.rows HP5.out (Keeps.app.1 HKr.out.k).1 _ rfl) (app_one (by simp [Value.oneCell']) (HD.out.one _)) (by omega) (by have:=Hp.out;have:=HLm.out;omega) ?_;intro pr3 g3 c3 wa HP3 HE0;have HP3:=asd_ HP3;have HK9:Aside0 (At w (.b gl (row (#[.string nm,.int .i64 d.kind,.bool d.b,.int .i64 d.n,.int .u64 d.f,.string d.s,.slice Bd d.kids.length cd]) 85):: .b g10 (row (#[.string nm,.int .i64 d.kind,.bool d.b,.int .i64 d.n,.int .u64 d.f,.string d.s,.slice Bd d.kids.length cd]) 85):: .b g7 (row (#[.int .i64 d.kind,.bool d.b,.int .i64 d.n,.int .u64 d.f,.string d.s,.slice Bd d.kids.length cd]) 30):: .b ge (row (#[.string nm,.int .i64 v.kind,.string v.raw,.slice A2 v.kids.length c2]) 52):: .b g4 (row (#[.int .i64 6,bF,i0,.int .u64 0,eS,.slice (some ⟨gA,0,none⟩) m cu]) 30):: .b g2 (row (#[i0,bF,i0,.int .u64 0,eS,nilS]) 30):: .b gv (row (#[.int .i64 9,.string raw,.slice (some ad) n c]) 48)::(pr3 ++ (pr5 ++ (sn1 ++ (pr ++ sn))))) wa):=⟨At.behind [.b gl (row (#[.string nm,.int .i64 d.kind,.bool d.b,.int .i64 d.n,.int .u64 d.f,.string d.s,.slice Bd d.kids.length cd]) 85),.b g10 (row (#[.string nm,.int .i64 d.kind,.bool d.b,.int .i64 d.n,.int .u64 d.f,.string d.s,.slice Bd d.kids.length cd]) 85),.b g7 (row (#[.int .i64 d.kind,.bool d.b,.int .i64 d.n,.int .u64 d.f,.string d.s,.slice Bd d.kids.length cd]) 30),.b ge (row (#[.string nm,.int .i64 v.kind,.string v.raw,.slice A2 v.kids.length c2]) 52),.b g4 (row (#[.int .i64 6,bF,i0,.int .u64 0,eS,.slice (some ⟨gA,0,none⟩) m cu]) 30),.b g2 (row (#[i0,bF,i0,.int .u64 0,eS,nilS]) 30),.b gv (row (#[.int .i64 9,.string raw,.slice (some ad) n c]) 48)] HE0⟩;clear HK HE0 HKr;have HK:=HK9;clear HK9;replace Bc:=ce6_ HK 6 5 4 3 2 1;replace Bf:=fe5_ HK 5 4 3 2 1)|((with_reducible refine gate_ (.store 28 (.tmp 86) (.tmp 85)) rfl ?_);refine store_at (t:=28) (p:=86) (g:=g4) (i:=5) (v:= .slice (some ⟨g3,0,none⟩) (p + (1 + (m - p))) c3) 4 (#[.int .i64 6,bF,i0,.int .u64 0,eS,.slice (some ⟨g3,0,none⟩) (p + (1 + (m - p))) c3]) rfl at_ rfl Gg4.out rfl rfl rfl rfl gs_ ?_;intro ws10 HK1;replace HK:=asd_ HK1;clear HK1;replace Bc:=ce6_ HK 6 5 4 3 2 1;replace Bf:=fe5_ HK 5 4 3 2 1))
        go_roundg (n - (k + 1))
        case measure=>have:=Hkq.out;have:=Hlt.out;omega
        case rel=>exact ⟨k + 1,p + (1 + (m - p)),_,pr3,sn1 ++ sn,ds ++ [(nm,d)],L.take p ++ ((nm,d)::L.drop p),us.take p ++ (.slice Bd d.kids.length cd::us.drop p),⟨Hlt.out⟩,by go_num,⟨rfl⟩,⟨by rw [rowOf_ins HD.out.lu];exact HP3.out⟩,⟨by have:=Hpm.out;have:=Hm.out;simp;omega⟩,⟨HD.out.put (x:=(nm,v)) (fun b hb=>List.mem_append_right _ hb) Hx.out (Hvd.out (by first|trivial|rfl)) (Hdb.out.mono (fun b hb=>List.mem_append_left _ hb)) Hpos.out (fun e he hh=>by have h8:=he.symm.trans Hl1.out;cases h8;rw [beq_iff_eq.2 hh] at hbe;cases hbe)⟩,⟨ge_app Hge.out Hgs.out⟩,⟨fun e=>offG_append (Hof.out e) (Hos.out e)⟩,⟨At.sub (show At w (.b gl (row (#[.string nm,.int .i64 d.kind,.bool d.b,.int .i64 d.n,.int .u64 d.f,.string d.s,.slice Bd d.kids.length cd]) 85):: .b g10 (row (#[.string nm,.int .i64 d.kind,.bool d.b,.int .i64 d.n,.int .u64 d.f,.string d.s,.slice Bd d.kids.length cd]) 85):: .b g7 (row (#[.int .i64 d.kind,.bool d.b,.int .i64 d.n,.int .u64 d.f,.string d.s,.slice Bd d.kids.length cd]) 30):: .b ge (row (#[.string nm,.int .i64 v.kind,.string v.raw,.slice A2 v.kids.length c2]) 52):: .b g4 (row (#[.int .i64 6,bF,i0,.int .u64 0,eS,.slice (some ⟨g3,0,none⟩) (p + (1 + (m - p))) c3]) 30):: .b g2 (row (#[i0,bF,i0,.int .u64 0,eS,nilS]) 30):: .b gv (row (#[.int .i64 9,.string raw,.slice (some ad) n c]) 48)::(pr3 ++ (pr5 ++ (sn1 ++ (pr ++ sn))))) _ from at_) (List.Sublist.cons _ (List.Sublist.cons _ (List.Sublist.cons _ (List.Sublist.cons _ (List.Sublist.cons_cons _ (List.Sublist.cons_cons _ (List.Sublist.cons_cons _ (drop_pr2 pr3 pr5 sn1 pr sn))))))))⟩⟩
theorem vd_obj {w0 w:World} (hW:Below w0.heap.size w0 w) {raw:ByteArray} {kids:List Kid} {A:Option Addr} {n c:Nat} (hC:kKid.C w0 A n kids) (hL:n≤1048576) (ih:∀ k∈kids,∀ {w:World},Below w0.heap.size w0 w→∀ {A:Option Addr} {c:Nat},kKid.C w0 A k.2.kids.length k.2.kids→k.2.kids.length≤c→Calls Tryz.prog 15 #[.agg #[.int .i64 k.2.kind,.string k.2.raw,.slice A k.2.kids.length c]] w (VDone w0 k.2 w)):
  Calls Tryz.prog 15 #[.agg #[.int .i64 9,.string raw,.slice A n c]] w (VDone w0 ⟨9,raw,kids⟩ w):=by
 have Hv:Aside0 (∀ {w:World},Below w0.heap.size w0 w→True→True→Calls Tryz.prog 34 #[.agg #[.int .i64 9,.string raw,.slice A n c]] w (VDone w0 ⟨9,raw,kids⟩ w)):=⟨fun hw _ _=>object_ok hw hC hL ih⟩
 have HW_:=asd_ hW;have HC2:Aside0 True:=⟨trivial⟩;have Hl2:Aside0 True:=⟨trivial⟩;clear hW hC hL ih
 have HK:=st0_ w
 go_enter Tryz.func15,Tryz.ntmps15
 go_wp2_with (first|((with_reducible refine gd_ 1 ?_);refine bx_ #[.int .i64 9,.string raw,.slice A n c] 48 ?_;clear HK;intro gv wb1 HK Ggv;replace Bc:=ce1_ HK 0)|((with_reducible refine gd_ 2 ?_);refine bx_ #[i0,bF,i0,.int .u64 0,eS,nilS] 30 ?_;clear HK;intro g2 wb2 HK Gg2;replace Bc:=ce2_ HK 1 0;replace Bf:=fe1_ HK 0))
 refine (Hv.out (below_step HW_.out be_) HC2.out Hl2.out).mono ?_
 rintro _ w9 ⟨d,td,okd,sn1,rfl,hvd,hdb,hks,hnd,hge,hof,hb⟩
 obtain ⟨Bd,cd,e7⟩:=hdb.slice;subst e7
 have HK9:Aside0 (At w (.b g2 (row (#[i0,bF,i0,.int .u64 0,eS,nilS]) 30):: .b gv (row (#[.int .i64 9,.string raw,.slice A n c]) 48)::(sn1 ++ [])) w9):=⟨At.behind [.b g2 (row (#[i0,bF,i0,.int .u64 0,eS,nilS]) 30),.b gv (row (#[.int .i64 9,.string raw,.slice A n c]) 48)] (At.came_all (l:=(.b g2 (row (#[i0,bF,i0,.int .u64 0,eS,nilS]) 30):: .b gv (row (#[.int .i64 9,.string raw,.slice A n c]) 48)::[])) at_ hb hks hnd hge)⟩
 have Hge:Aside0 (∀ g∈nums sn1,w.heap.size≤g):=⟨fun g hg=>Nat.le_trans (show Below w.heap.size w _ from be_).size (hge g hg)⟩
 obtain ⟨Hvd,Hdb,Hof⟩:=as3_ hvd hdb hof;clear HK hvd hdb hks hnd hge hof hb;have HK:=HK9;clear HK9
 replace Bc:=ce2_ HK 1 0;replace Bf:=fe1_ HK 0
 go_wp2_with (first|((with_reducible refine gate_ (.store 30 (.tmp 2) (.tmp 81)) rfl ?_);refine storerow_at (cs:=#[i0,bF,i0,.int .u64 0,eS,nilS]) (g:=g2) 0 (#[.int .i64 d.kind,.bool d.b,.int .i64 d.n,.int .u64 d.f,.string d.s,.slice Bd d.kids.length cd]) at_ rfl Gg2.out rfl rfl rfl rfl rfl rfl kr_ rfl (by simp [Value.oneCell']) ?_;intro wr1 HK1;replace HK:=asd_ HK1;clear HK1;replace Bc:=ce2_ HK 1 0;replace Bf:=fe1_ HK 0))
 have HKz:Aside0 (At w (.b g2 (row (#[.int .i64 d.kind,.bool d.b,.int .i64 d.n,.int .u64 d.f,.string d.s,.slice Bd d.kids.length cd]) 30):: .b gv (row (#[.int .i64 9,.string raw,.slice A n c]) 48)::(sn1 ++ [])) _):=⟨at_⟩
 have HKy:=HKz.out.sub (List.Sublist.cons _ (List.Sublist.cons _ (List.sublist_append_left sn1 [])))
 exact bodyPost_ret (v:= .tuple #[.agg #[.int .i64 d.kind,.bool d.b,.int .i64 d.n,.int .u64 d.f,.string d.s,.slice Bd d.kids.length cd],.bool okd]) (by simp [results,Tryz.results15,go_sem,Bc]) rfl ⟨d,_,okd,sn1,rfl,Hvd.out,Hdb.out,HKy.k,HKy.d,Hge.out,Hof.out,HKy.b⟩
theorem vd_all {w0:World} (hN:Nums w0) {v:Vl} (hf:Fit v) (hs:Sm v):∀ {w:World},Below w0.heap.size w0 w→∀ {A:Option Addr} {c:Nat},kKid.C w0 A v.kids.length v.kids→v.kids.length≤c→Calls Tryz.prog 15 #[.agg #[.int .i64 v.kind,.string v.raw,.slice A v.kids.length c]] w (VDone w0 v w):=by
 induction hf with
 | @mk v h1 h9 h5 hk ih=>
  intro w hW A c hC hL
  obtain ⟨kind,raw,kids⟩:=v
  have hraw:raw.size≤1048576:=hs.size
  have hlen:kids.length≤1048576:=hs.len
  have ih2:∀ k∈kids,∀ {w:World},Below w0.heap.size w0 w→∀ {A:Option Addr} {c:Nat},kKid.C w0 A k.2.kids.length k.2.kids→k.2.kids.length≤c→Calls Tryz.prog 15 #[.agg #[.int .i64 k.2.kind,.string k.2.raw,.slice A k.2.kids.length c]] w (VDone w0 k.2 w):=fun k hk=>ih k hk (hs.kid hk).2
  have hc:kind=1∨kind=2∨kind=3∨kind=4∨kind=5∨kind=6∨kind=7∨kind=8∨kind=9:=by
   have g1:1≤kind:=h1
   have g2:kind≤9:=h9
   omega
  rcases hc with rfl|rfl|rfl|rfl|rfl|rfl|rfl|rfl|rfl
  ·rcases hN.1 raw hraw with ⟨n,h⟩|h
   ·exact vd_int hW h
   ·exact vd_intbad hW h
  ·rcases hN.2 raw hraw with ⟨n,h⟩|h
   ·exact vd_float hW h
   ·exact vd_floatbad hW h
  ·exact vd_str hW
  ·exact vd_blk hW
  ·exact vd_bool hW
  ·exact vd_null hW
  ·exact vd_enum hW
  ·exact vd_list hW hC hlen ih2
  ·exact vd_obj hW hC hlen ih2
theorem ends_same {P:Program} {m a b:Machine} {o o':Outcome} {w w':World} (h1:Steps P m a) (h2:Steps P m b) (ha:step P a= .ended o w) (hb:step P b= .ended o' w'):a=b:=by
 obtain ⟨n1,h1⟩:=h1
 obtain ⟨n2,h2⟩:=h2
 rcases Nat.lt_trichotomy n1 n2 with h|h|h
 ·obtain ⟨k,rfl⟩:∃ k,n2=n1 + (k + 1):=⟨n2 - n1 - 1,by omega⟩
  rw [runN_add,h1] at h2
  simp [runN,ha] at h2
 ·subst h
  rw [h1] at h2
  injection h2
 ·obtain ⟨k,rfl⟩:∃ k,n1=n2 + (k + 1):=⟨n1 - n2 - 1,by omega⟩
  rw [runN_add,h2] at h1
  simp [runN,hb] at h1
theorem calls_both {P:Program} {f:FuncId} {args:Array Value} {w:World} {R R':Ending→World→Prop} (hi:P.inits.idxOf? f=none) (h:Calls P f args w R) (h':Calls P f args w R') (hr:∀ e w',R e w'→∃ v,e= .returned v) (hr':∀ e w',R' e w'→∃ v,e= .returned v):∃ v w',R (.returned v) w'∧R' (.returned v) w':=by
 obtain ⟨e,w1,fr,q,hc,hf,hl⟩:=h []
 obtain ⟨e2,w2,fr2,q2,hc2,hf2,hl2⟩:=h' []
 obtain ⟨v,rfl⟩:=hr _ _ q
 obtain ⟨v2,rfl⟩:=hr' _ _ q2
 have s1:=step_leave_done hl (by rw [hf];exact hi)
 have s2:=step_leave_done hl2 (by rw [hf2];exact hi)
 have e:=ends_same hc hc2 s1 s2
 rw [e,s2] at s1
 injection s1 with s1 s3
 injection s1 with s1
 subst s1 s3
 exact ⟨_,_,q,q2⟩
theorem IOk.up {w0 W:World} {s:ByteArray} {n:Int} (h:IOk w0 s n) (hB:Below w0.heap.size w0 W):IOk W s n:=fun V hV=>h V (below_step hB hV)
theorem IBad.up {w0 W:World} {s:ByteArray} (h:IBad w0 s) (hB:Below w0.heap.size w0 W):IBad W s:=fun V hV=>h V (below_step hB hV)
theorem FOk.up {w0 W:World} {s:ByteArray} {n:Nat} (h:FOk w0 s n) (hB:Below w0.heap.size w0 W):FOk W s n:=fun V hV=>h V (below_step hB hV)
theorem FBad.up {w0 W:World} {s:ByteArray} (h:FBad w0 s) (hB:Below w0.heap.size w0 W):FBad W s:=fun V hV=>h V (below_step hB hV)
theorem Nums.up {w0 W:World} (h:Nums w0) (hB:Below w0.heap.size w0 W):Nums W:=⟨fun s hs=>(h.1 s hs).elim (fun ⟨n,h1⟩=> .inl ⟨n,h1.up hB⟩) (fun h1=> .inr (h1.up hB)),fun s hs=>(h.2 s hs).elim (fun ⟨n,h1⟩=> .inl ⟨n,h1.up hB⟩) (fun h1=> .inr (h1.up hB))⟩
theorem IOk.down {w0 W:World} {s:ByteArray} {n:Int} (hN:Nums w0) (hs:s.size≤1048576) (hB:Below w0.heap.size w0 W) (h:IOk W s n):IOk w0 s n:=by
 have h1:=h W (Below.refl _ _)
 rcases hN.1 s hs with ⟨n',h2⟩|h2
 ·obtain ⟨v,w',⟨e1,_⟩,e2,_⟩:=calls_both (by kernel_rfl) h1 (h2 W hB) (fun _ _ q=>⟨_,q.1⟩) (fun _ _ q=>⟨_,q.1⟩)
  rw [e1] at e2
  obtain rfl:n=n':=by simpa using e2
  exact h2
 ·obtain ⟨v,w',⟨e1,_⟩,u,e2,⟨a,b,c,e3⟩,_⟩:=calls_both (by kernel_rfl) h1 (h2 W hB) (fun _ _ q=>⟨_,q.1⟩) (fun _ _ q=>⟨_,q.choose_spec.1⟩)
  rw [e1,e3] at e2
  simp at e2
theorem FOk.down {w0 W:World} {s:ByteArray} {n:Nat} (hN:Nums w0) (hs:s.size≤1048576) (hB:Below w0.heap.size w0 W) (h:FOk W s n):FOk w0 s n:=by
 have h1:=h W (Below.refl _ _)
 rcases hN.2 s hs with ⟨n',h2⟩|h2
 ·obtain ⟨v,w',⟨e1,_⟩,e2,_⟩:=calls_both (by kernel_rfl) h1 (h2 W hB) (fun _ _ q=>⟨_,q.1⟩) (fun _ _ q=>⟨_,q.1⟩)
  rw [e1] at e2
  obtain rfl:n=n':=by simpa using e2
  exact h2
 ·obtain ⟨v,w',⟨e1,_⟩,u,e2,⟨a,b,c,e3⟩,_⟩:=calls_both (by kernel_rfl) h1 (h2 W hB) (fun _ _ q=>⟨_,q.1⟩) (fun _ _ q=>⟨_,q.choose_spec.1⟩)
  rw [e1,e3] at e2
  simp at e2
theorem VD.down {w0 W:World} (hN:Nums w0) (hB:Below w0.heap.size w0 W) {v:Vl} {x:Dt} (h:VD W v x) (hs:Sm v):VD w0 v x:=by
 induction h with
 |int h1 h2=>exact .int h1 (h2.down hN hs.size hB)
 |float h1 h2=>exact .float h1 (h2.down hN hs.size hB)
 |bool h1=>exact .bool h1
 |null h1=>exact .null h1
 |str h1=>exact .str h1
 |list h1 h2 h3 h4 ih=>exact .list h1 h2 (fun i k d h5 h6=>ih i k d h5 h6 (hs.kid (List.mem_of_getElem? h5)).2) h4
 |obj h1 h2 h3 h4 ih=>exact .obj h1 h2 (fun i k d h5 h6=>ih i k d h5 h6 (hs.kid (List.mem_of_getElem? h5)).2) h4
end Go.Proofs.YtlblbefbbibpaaaGreatDoor.J
