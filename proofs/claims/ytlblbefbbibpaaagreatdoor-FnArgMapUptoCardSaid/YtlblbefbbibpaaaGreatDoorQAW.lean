/- Part. -/
import Derived.Test.YtlblbefbbibpaaaGreatDoorQAV
set_option linter.unusedVariables false
set_option linter.unusedSimpArgs false
set_option maxHeartbeats 8000000
set_option maxRecDepth 100000
namespace Go.Proofs.YtlblbefbbibpaaaGreatDoor.J
open Go.RowKit Zw Zw.PrintWords Zw.PrintLast Zw.PrintMore PAM
section
variable {P:Program} {ops:Array Oper} {Q:Exit→Act→World→Prop} {md:Region.Mode} {ds:List Nat} {S:World→Prop}
theorem twz_ {n m fuel:Nat} {a:Act} {w:World} {oi oj:Oper} (i j mi mj:Nat)
  (h1:∀ K:Act→World→Prop,Shut (∀ a' w',wpAnyLast P md ops Q S ds fuel (bts n mi) a' w'→K a' w')→if Region.wanted oi (yielded ops a.tmps)=true then Oper.wp P oi a w K Q else K (a.put none undef) w)
  (h2:∀ K:Act→World→Prop,Shut (∀ a' w',wpAnyLast P md ops Q S ds fuel (bts n mj) a' w'→K a' w')→if Region.wanted oj (yielded ops a.tmps)=true then Oper.wp P oj a w K Q else K (a.put none undef) w)
  (hi:ops[i]? =some oi:=by exact rfl) (hj:ops[j]? =some oj:=by exact rfl) (hNi:oi.dst=none:=by exact rfl) (hNj:oj.dst=none:=by exact rfl)
  (hc:(Region.ready md ops (bts n m) == [i,j]&&(bts n m).setIfInBounds i true == bts n mi&&(bts n m).setIfInBounds j true == bts n mj)=true:=by kernel_rfl) (hdi:i∈ds:=by decide) (hdj:j∈ds:=by decide):wpAnyLast P md ops Q S ds (fuel + 1) (bts n m) a w:=by
 simp only [Bool.and_eq_true,beq_iff_eq] at hc
 obtain ⟨⟨h3,h4⟩,h5⟩:=hc
 refine wpAnyLast_ready h3 (by simp) (AllReadyL.cons_last hi hdi (fun K hK=> ?_) (AllReadyL.cons_last hj hdj (fun K hK=> ?_) AllReadyL.nil))
 ·rw [hNi]
  exact h1 K (h4 ▸ hK)
 ·rw [hNj]
  exact h2 K (h5 ▸ hK)
end
section
variable {ops:Array Oper} {o:Oper} {a:Act} {Q:Exit→Act→World→Prop} {Kc:Act→World→Prop} {w W:World}
theorem putpr_ {Ls pr T:List Blk} {g n cap i:Nat} {L:List (ByteArray×Dt)} {us:List Value} {k:ByteArray×Dt} {t:Value} {kc:Array Value} {p x:Operand}
  (H:At w (Ls ++ (pr ++ T)) W) (hP:PR w.heap.size pr 85 7 (.slice (some ⟨g,0,none⟩) n cap) n (rowOf L us)) (hl:us.length=L.length) (hn:L.length=n) (hi:i < n) (hw:Region.wanted o (yielded ops a.tmps)=true) (ho:o.op= .store 85 p x) (hN:o.dst=none)
  (hp:a.eval p= .pointer (some ⟨g,i * 7,none⟩)) (hx:a.eval x= .agg kc) (hk:kc.toList=kcells k t) (h1:kc.all (·.oneCell')=true)
  (h:∀ pr' w1,PR w.heap.size pr' 85 7 (.slice (some ⟨g,0,none⟩) n cap) n (rowOf (L.set i k) (us.set i t))→At w (Ls ++ (pr' ++ T)) w1→Kc a w1):if Region.wanted o (yielded ops a.tmps)=true then Oper.wp Tryz.prog o a W Kc Q else Kc (a.put none undef) W:=by
 obtain ⟨g',cap',cur,rfl,e1,hb,hc1,hc2,hcs,hct,hcl⟩:=hP.some_ (by omega)
 injection e1 with e1 _ e3
 injection e1 with e1
 injection e1 with e1
 subst e1 e3
 have HF:At w (.b g (row cur 85)::(Ls ++ T)) W:=H.perm List.perm_middle
 have hkl:kc.toList.length=7:=by rw [hk];rfl
 have hfit:i * 7 + kc.toList.length≤cur.size:=by rw [hkl,hcs];omega
 have hrun:(Instr.storeAt 85 (.pointer (some ⟨g,i * 7,none⟩)) (.agg kc)).run Tryz.prog W= .ok () (W.setCells g (i * 7) kc.toList):=
  run_store_run (P:=Tryz.prog) 85 (.agg kc) kc.toList HF.k.1 rfl (by rw [hkl];kernel_rfl) hfit (fun q hq=>Array.all_eq_true_iff_forall_mem.1 h1 q (by simpa using hq))
 refine skip_ hw hN (w1:=W.setCells g (i * 7) kc.toList) ?_ (h [.b g (row (segs cur (i * 7) kc.toList) 85)] _ (.inr ⟨g,cap,_,rfl,rfl,hb,hc1,hc2,by rw [segs_size,hcs],?_,?_⟩) ?_)
 ·unfold execOp
  simp only [ho,hp,hx,Sem.run_bind,Sem.run_pure,Result.andThen_ok,hrun]
 ·rw [segs_list _ _ _ hfit,rowOf_set hl i (by omega),hk]
  have hL:(rowOf L us).length=n * 7:=by rw [rowOf_len _ _ hl,hn]
  have e7:(kcells k t).length=7:=rfl
  rw [e7,take_mid e7 (by omega) (by simp [hcs];omega),hct]
 ·rw [rowOf_len _ _ (by simp [hl])]
  simp [hn]
 ·have H2:=At.segs hb rfl kc.toList (i * 7) HF
  exact H2.perm (by simpa using (List.perm_middle (l₁:=Ls) (l₂:=T) (a:=Blk.b g (row (segs cur (i * 7) kc.toList) 85))).symm)
variable {rest:List Oper} {l:List Blk} {g clock r:Nat} {es:Array MapEntry} {m:List (ByteArray×Value)} {seen:Array Nat}
theorem menext_more (H:At w l W) (hg:W.heap[g]? =some (.map es clock)) (j:Nat) (hj:l[j]? =some (.b r (.mapIter (some g) clock seen clock))) (hr:w.heap.size≤r) (M:ME es clock m) (h0:(leftOf es seen).size≠0) (hgd:o.guard=none) {it:Operand} (ho:o.op= .next it false) (hit:a.eval it= .pointer (some ⟨r,0,none⟩))
  (hMore:∀ (e:MapEntry) (i:Nat) (p:ByteArray×Value) (w1:World),e∈(leftOf es seen).toList→es.toList[i]? =some e→m[i]? =some p→e.key= .string p.1→e.val=p.2→At w (l.set j (.b r (.mapIter (some g) clock (seen.push e.born) clock))) w1→(Instr.entry (.pointer (some ⟨r,0,none⟩))).run Tryz.prog w1= .ok (.tuple #[.string p.1,p.2]) w1→wpList Tryz.prog ops Q rest (a.put o.dst (.tuple #[.bool true,.string p.1,p.2])) w1):wpList Tryz.prog ops Q (o::rest) a W:=by
 refine menext_at H hg j hj hr M hgd ho hit (fun h=>absurd h h0) fun e w1 he H' hrun=> ?_
 obtain ⟨h1,_⟩:=left_mem.1 he
 obtain ⟨i,hi,ei⟩:=List.getElem_of_mem h1
 have hie:es.toList[i]? =some e:=by rw [List.getElem?_eq_getElem hi,ei]
 obtain ⟨p,hp,hk,hv⟩:=M.get hie
 rw [hk,hv] at hrun ⊢
 exact hMore e i p w1 he hie hp hk hv H' hrun
end
structure KB (sn:List Blk) (ds:List (ByteArray×Dt)) (vs:List MapEntry) (ks:List (ByteArray×Dt)) (ss:List SL):Prop where
 lv:ks.length=vs.length
 ls:ss.length=ks.length
 ky:∀ (i:Nat) (e:MapEntry) (k:ByteArray×Dt),vs[i]? =some e→ks[i]? =some k→e.key= .string k.1∧k∈ds
 db:∀ (i:Nat) (k:ByteArray×Dt) (s:SL),ks[i]? =some k→ss[i]? =some s→DB sn (slv s) k.2
theorem KB.nil (sn:List Blk) (ds:List (ByteArray×Dt)):KB sn ds [] [] []:=⟨rfl,rfl,fun _ _ _ h=>by simp at h,fun _ _ _ h=>by simp at h⟩
theorem KB.next {sn sn':List Blk} {ds:List (ByteArray×Dt)} {vs:List MapEntry} {ks:List (ByteArray×Dt)} {ss:List SL} {e:MapEntry} {k:ByteArray×Dt} {s:SL} (h:KB sn ds vs ks ss) (hs:∀ b∈sn,b∈sn') (he:e.key= .string k.1) (hk:k∈ds) (hd:DB sn' (slv s) k.2):KB sn' ds (vs ++ [e]) (ks ++ [k]) (ss ++ [s]):=by
 obtain ⟨lv,ls,ky,db⟩:=h
 refine ⟨by simp [lv],by simp [ls],fun i f q h1 h2=> ?_,fun i q t h1 h2=> ?_⟩
 ·rcases snoc_get rfl h1 with ⟨_,h3⟩|⟨rfl,rfl⟩
  ·rcases snoc_get lv h2 with ⟨_,h4⟩|⟨h4,_⟩
   ·exact ky i f q h3 h4
   ·omega
  ·rcases snoc_get lv h2 with ⟨h4,_⟩|⟨_,rfl⟩
   ·omega
   ·exact ⟨he,hk⟩
 ·rcases snoc_get rfl h1 with ⟨_,h3⟩|⟨rfl,rfl⟩
  ·rcases snoc_get ls h2 with ⟨_,h4⟩|⟨h4,_⟩
   ·exact (db i q t h3 h4).mono hs
   ·omega
  ·rcases snoc_get ls h2 with ⟨h4,_⟩|⟨_,rfl⟩
   ·omega
   ·exact hd
theorem KB.sorted {sn:List Blk} {es:Array MapEntry} {clock:Nat} {m:List (ByteArray×Value)} {ds L ks ks':List (ByteArray×Dt)} {ss ss':List SL} {vs:List MapEntry} {seen:Array Nat} (h:KB sn ds vs ks ss) (hC:Came es seen vs) (h0:(leftOf es seen).size=0) (hM:ME es clock m) (hnm:m.map Prod.fst=ds.map Prod.fst) (hr:Rising L) (hmem:∀ x,x∈L↔x∈ds)
  (hp:(ks'.zip ss').Perm (ks.zip ss)) (hl:ks'.length=ks.length) (hl2:ss'.length=ks.length) (hs:ks'.Pairwise (fun a b=>bl b.1 a.1=false)):ks'=L∧∀ (i:Nat) (k:ByteArray×Dt) (t:Value),ks'[i]? =some k→(ss'.map slv)[i]? =some t→DB sn t k.2:=by
 have hdn:(ds.map Prod.fst).Nodup:=hnm ▸ hM.names
 have hks:ks'.Perm ks:=by
  have:=hp.map Prod.fst
  rwa [List.map_fst_zip (by omega),List.map_fst_zip (by have:=h.ls;omega)] at this
 have hkv:ks.map (fun k=>Value.string k.1)=vs.map (·.key):=by
  refine List.ext_getElem? fun i=> ?_
  rw [List.getElem?_map,List.getElem?_map]
  cases hv:vs[i]? with
  |none=>
   have:ks[i]? =none:=by rw [List.getElem?_eq_none_iff] at hv ⊢;have:=h.lv;omega
   rw [this];rfl
  |some e=>
   obtain ⟨k,hk⟩:∃ k,ks[i]? =some k:=⟨_,List.getElem?_eq_getElem (by have:=(List.getElem?_eq_some_iff.1 hv).1;have:=h.lv;omega)⟩
   rw [hk]
   simp [(h.ky i e k hv hk).1]
 have hvn:(vs.map (·.key)).Nodup:=by
  refine List.pairwise_map.2 ?_
  refine hC.nd.imp_of_mem fun {a b} ha hb hab e=>hab ?_
  obtain ⟨i,hi,ex⟩:=List.getElem_of_mem (hC.sub a ha)
  obtain ⟨j,hj,ey⟩:=List.getElem_of_mem (hC.sub b hb)
  have a1:(es.toList.map (·.key))[i]? =some b.key:=by rw [List.getElem?_map,List.getElem?_eq_getElem hi,ex];simp [e]
  have a2:(es.toList.map (·.key))[j]? =some b.key:=by rw [List.getElem?_map,List.getElem?_eq_getElem hj,ey];rfl
  have hij:i=j:=(List.getElem?_inj (by simpa using hi) hM.st.2.2).1 (a1.trans a2.symm)
  subst hij
  exact ex.symm.trans ey
 have hkn:(ks.map Prod.fst).Nodup:=by
  rw [← hkv] at hvn
  exact List.pairwise_map.2 ((List.pairwise_map.1 hvn).imp fun h e=>h (by rw [e]))
 have hkn':(ks'.map Prod.fst).Nodup:=(hks.map Prod.fst).nodup_iff.2 hkn
 have hrise:Rising ks':=by
  have h1:=List.pairwise_map.1 hkn'
  refine (hs.and h1).imp fun {a b} hab=> ?_
  exact bl_tot hab.1 (fun e=>hab.2 (toList_eq e).symm)
 have hall:∀ x,x∈ks'↔x∈L:=fun x=>by
  rw [hks.mem_iff,hmem]
  constructor
  ·intro hx
   obtain ⟨i,hi,e⟩:=List.getElem_of_mem hx
   have hk:ks[i]? =some x:=by rw [List.getElem?_eq_getElem hi,e]
   obtain ⟨f,hf⟩:∃ f,vs[i]? =some f:=⟨_,List.getElem?_eq_getElem (by have:=h.lv;omega)⟩
   exact (h.ky i f x hf hk).2
  ·intro hx
   obtain ⟨j,hj,e⟩:=List.getElem_of_mem hx
   have hd:ds[j]? =some x:=by rw [List.getElem?_eq_getElem hj,e]
   obtain ⟨p,hp,hp1⟩:=map_fst_get hnm.symm hd
   have hlt:j < es.toList.length:=by have:=hM.len;have:=(List.getElem?_eq_some_iff.1 hp).1;simp;omega
   obtain ⟨p',hp',hk',_⟩:=hM.get (List.getElem?_eq_getElem hlt)
   rw [hp] at hp'
   cases hp'
   have hv:=(hC.done h0 _).2 (List.getElem_mem hlt)
   obtain ⟨i,hi,ei⟩:=List.getElem_of_mem hv
   have hvi:vs[i]? =some es.toList[j]:=by rw [List.getElem?_eq_getElem hi,ei]
   obtain ⟨k,hk⟩:∃ k,ks[i]? =some k:=⟨_,List.getElem?_eq_getElem (by have:=h.lv;omega)⟩
   obtain ⟨h1,h2⟩:=h.ky i _ k hvi hk
   have e1:k.1=x.1:=by
    rw [hk'] at h1
    exact (Value.string.inj h1).symm.trans hp1
   have:k=x:=by
    obtain ⟨q,hq,eq⟩:=List.getElem_of_mem h2
    have b1:(ds.map Prod.fst)[q]? =some x.1:=by rw [List.getElem?_map,List.getElem?_eq_getElem hq,eq];simp [e1]
    have b2:(ds.map Prod.fst)[j]? =some x.1:=by rw [List.getElem?_map,hd];rfl
    have hqj:q=j:=(List.getElem?_inj (by simpa using hq) hdn).1 (b1.trans b2.symm)
    subst hqj
    exact eq.symm.trans e
   rw [← this]
   exact List.mem_of_getElem? hk
 refine ⟨rising_one hrise hr hall,fun i k t hk ht=> ?_⟩
 rw [List.getElem?_map] at ht
 cases hs':ss'[i]? with
 |none=>rw [hs'] at ht;cases ht
 |some s=>
  rw [hs'] at ht
  cases ht
  have hz:(ks'.zip ss')[i]? =some (k,s):=by rw [List.getElem?_zip_eq_some];exact ⟨hk,hs'⟩
  have hz2:=hp.mem_iff.1 (List.mem_of_getElem? hz)
  obtain ⟨j,hj,ej⟩:=List.getElem_of_mem hz2
  have hj3:(ks.zip ss)[j]? =some (k,s):=by rw [List.getElem?_eq_getElem hj,ej]
  rw [List.getElem?_zip_eq_some] at hj3
  exact h.db j k s hj3.1 hj3.2
end Go.Proofs.YtlblbefbbibpaaaGreatDoor.J
namespace Go.Proofs.YtlblbefbbibpaaaGreatDoor.J
open Go.RowKit Zw Zw.PrintWords Zw.PrintLast Zw.PrintMore PAM
attribute [local go_sem] ta_n_4 ta_n_2 ta_n_97 ta_n_9 ta_n_114 ta_n_81 ta_4_4 ta_2_4 ta_2_2 ta_97_4 ta_97_2 ta_97_97 ta_9_4 ta_9_2 ta_9_97 ta_9_9 ta_114_4 ta_114_2 ta_114_97 ta_114_9 ta_114_114 ta_81_4 ta_81_2 ta_81_97 ta_81_9 ta_81_114 ta_81_81
theorem do_obj {w:World} {g clock:Nat} {es:Array MapEntry} {m:List (ByteArray×Value)} {ds L:List (ByteArray×Dt)} {sn:List Blk} (hk:Keeps sn w) (hb:Blk.b g (.map es clock)∈sn) (hM:ME es clock m) (hnm:m.map Prod.fst=ds.map Prod.fst) (hrise:Rising L) (hmem:∀ x,x∈L↔x∈ds) (hL:m.length≤1073741824) (hone:∀ (i:Nat) (p:ByteArray×Value),m[i]? =some p→p.2.oneCell'=true) (ih:∀ (i:Nat) (d:ByteArray×Dt) (p:ByteArray×Value),ds[i]? =some d→m[i]? =some p→∀ w,Keeps sn w→Calls Tryz.prog 20 #[p.2] w (DO d.2 w)):
  Calls Tryz.prog 20 #[.iface 81 (.map (some g))] w (DO (dObj L) w):=by
 have hmg:=hk.mem hb
 obtain ⟨Hk_,Hb_,HM_,Hnm_,Hrise_,Hmem_,HL_,Ih_,Hone_,Hmg_⟩:=as10_ hk hb hM hnm hrise hmem hL ih hone hmg;clear hk hb hM hnm hrise hmem hL ih hone hmg
 have HK:=st0_ w
 go_enter Tryz.func20,Tryz.ntmps20
 go_wp2_with (first|((with_reducible refine gd_ 2 ?_);refine bx_ #[i0,bF,i0,.int .u64 0,eS,nilS] 30 ?_;clear HK;intro g2 wb2 HK Gg2;replace Bc:=ce1_ HK 0;replace Bf:=fe1_ HK 0)|((with_reducible refine gd_ 12 ?_);refine bx_ #[i0,bF,i0,.int .u64 0,eS,nilS] 30 ?_;clear HK;intro g12 wb12 HK Gg12;replace Bc:=ce2_ HK 1 0;replace Bf:=fe2_ HK 1 0)|((with_reducible refine gd_ 62 ?_);refine range_any at_ (blk_below Hmg_.out be_) rfl rfl Tryz.underlying81 rfl ?_;intro r62 wr62 HK1 hr62;have Gr62:=asd_ hr62;clear hr62;replace HK:=asd_ HK1;clear HK1;skip)|((with_reducible refine gate_ (.store 30 (.tmp 12) (.tmp 60)) rfl ?_);refine storerow_at (cs:=#[i0,bF,i0,.int .u64 0,eS,nilS]) (g:=g12) 0 (x12 (nilS)) at_ rfl Gg12.out rfl rfl rfl rfl rfl rfl kr_ rfl (by simp [Value.oneCell']) ?_;intro wr1 HK1;replace HK:=asd_ HK1;clear HK1;replace Bc:=ce2_ HK 1 0;replace Bf:=fe2_ HK 1 0))
 simp only [Act.put,List.setIfInBounds_toArray,List.set_cons_zero,List.set_cons_succ]
 go_loopg [] (leftOf es #[]).size (fun kq w'=>∃ (u:Value) (seen:Array Nat) (pr2 sn2:List Blk) (vs:List MapEntry) (ks:List (ByteArray×Dt)) (ss:List SL),Aside0 (kq=(leftOf es seen).size)∧Aside0 (Came es seen vs)∧Aside0 (PR w.heap.size pr2 85 7 u ks.length (rowOf ks (ss.map slv)))∧Aside0 (KB sn2 ds vs ks ss)∧Aside0 (∀ g∈nums sn2,w.heap.size≤g)∧Aside0 (∀ e,offG e sn2)∧Aside0 (At w (.b r62 (.mapIter (some g) clock (seen) clock):: .b g12 (row (x12 (u)) 30):: .b g2 (row (#[i0,bF,i0,.int .u64 0,eS,nilS]) 30)::(pr2 ++ sn2)) w'))
 case atStart=>exact ⟨nilS,#[],[],[],[],[],[],⟨rfl⟩,⟨Came.zero es⟩,⟨PR.none_ _ _ _⟩,⟨KB.nil _ _⟩,⟨fun _ h=>by cases h⟩,⟨fun _=>trivial⟩,⟨(show At w [.b r62 (.mapIter (some g) clock #[] clock),.b g12 (row (x12 (nilS)) 30),.b g2 (row (#[i0,bF,i0,.int .u64 0,eS,nilS]) 30)] _ from at_)⟩⟩
 case round=>
  clear HK
  obtain ⟨u,seen,pr2,sn2,vs,ks,ss,Hkq,HC,HP,HB,Hgs,Hos,HK⟩:=hrel;obtain ⟨nk,hnk⟩:∃ n,ks.length=n:=⟨_,rfl⟩;rw [hnk] at HP;have Hnk:=asd_ hnk;clear hnk;obtain ⟨Au,cu,e8,hcu⟩:=HP.out.slice;subst e8;clear hcu
  replace Bc:=ce2_ HK 2 1;replace Bf:=fe2_ HK 2 1
  by_cases h0:(leftOf es seen).size=0
  case pos=>
   have H0:=asd_ h0;clear h0;have hN:nk≤1073741824:=(by have a1:=HC.out.cnt;have a2:=HM_.out.len;have a3:=HL_.out;have a4:=HB.out.lv;have a5:=Hnk.out;omega);have HN:=asd_ hN;clear hN
   go_wp2_with (first|((with_reducible refine gd_ 63 ?_);refine next_done at_ (blk_below Hmg_.out be_) 0 rfl H0.out (fun x hx=>HM_.out.st.1 x hx) (Nat.le_refl _) rfl rfl rfl ?_))
   refine (sort_ok (L:=[.b r62 (.mapIter (some g) clock (seen) clock),.b g2 (row (#[i0,bF,i0,.int .u64 0,eS,nilS]) 30)]) (pr:=pr2) (T:=sn2) (At.perm at_ (List.Perm.swap _ _ _)) HP.out Hnk.out (HB.out.ls.trans Hnk.out) HN.out).mono ?_
   rintro _ w9 ⟨rfl,pr4,ks4,ss4,hp4,hz4,hl4,hs4,hpw,HE0⟩
   obtain ⟨hkl,hdb⟩:=HB.out.sorted HC.out H0.out HM_.out Hnm_.out Hrise_.out Hmem_.out hz4 (hl4.trans Hnk.out.symm) (hs4.trans Hnk.out.symm) hpw;subst hkl
   have HK9:Aside0 (At w (.b g12 (row (x12 (.slice Au nk cu)) 30):: .b r62 (.mapIter (some g) clock (seen) clock):: .b g2 (row (#[i0,bF,i0,.int .u64 0,eS,nilS]) 30)::(pr4 ++ sn2)) w9):=⟨HE0⟩;obtain ⟨Hp4,Hl4,Hs4,Hdb⟩:=as4_ hp4 hl4 hs4 hdb;clear HK HE0 hp4 hz4 hl4 hs4 hpw hdb;have HK:=HK9;clear HK9
   replace Bc:=ce2_ HK 2 0;replace Bf:=fe2_ HK 2 0
   go_wp2_with (first|((with_reducible refine gd_ 84 ?_);refine lo_ 30 12 g12 (x12 (.slice Au nk cu)) HK.out.k.1 Tryz.underlying30 ?_)|((with_reducible refine gate_ (.store 30 (.tmp 2) (.tmp 84)) rfl ?_);refine storerow_at (cs:=#[i0,bF,i0,.int .u64 0,eS,nilS]) (g:=g2) 2 (x12 (.slice Au nk cu)) at_ rfl Gg2.out rfl rfl rfl rfl rfl rfl kr_ rfl (by simp [Value.oneCell']) ?_;intro wr2 HK1;replace HK:=asd_ HK1;clear HK1;replace Bc:=ce2_ HK 2 0;replace Bf:=fe2_ HK 2 0))
   have e9:nk=ks4.length:=Hl4.out.symm;have e7:PR w.heap.size pr4 85 7 (.slice Au nk cu) ks4.length (rowOf ks4 (ss4.map slv)):=e9 ▸ Hp4.out;have e6:(ss4.map slv).length=ks4.length:=by rw [List.length_map,Hs4.out,Hl4.out]
   have HKz:Aside0 (At w (.b g12 (row (x12 (.slice Au nk cu)) 30):: .b r62 (.mapIter (some g) clock (seen) clock):: .b g2 (row (x12 (.slice Au nk cu)) 30)::(pr4 ++ sn2)) _):=⟨at_⟩
   exact bodyPost_ret (v:= .agg (x12 (.slice Au nk cu))) (by simp [results,Tryz.results20,go_sem,Bc]) rfl (DO.made (x:=dObj ks4) (us:=ss4.map slv) [_,_,_] rfl e7 e6 Hdb.out Hgs.out Hos.out HKz.out)
  case neg=>
   have hN:nk≤1073741823:=(by have a1:=HC.out.cnt;have a2:=HM_.out.len;have a3:=HL_.out;have a4:=HB.out.lv;have a5:=Hnk.out;omega);have HN:=asd_ hN;clear hN;have hi0:(0:Int)≤(nk:Int):=(by omega);have hi1:(nk:Int) < ((nk + 1:Nat):Int):=(by omega);have hi2:(nk:Int) < (nk:Int) + 1:=(by omega);have hi3:nk < nk + 1:=Nat.lt_succ_self nk;have H0:=asd_ h0;clear h0
   go_wp2_with (first|((with_reducible refine gd_ 63 ?_);refine menext_more at_ (blk_below Hmg_.out be_) 0 rfl Gr62.out HM_.out H0.out rfl rfl rfl ?_;intro e i p wn he hei hpi hke hve HK1 hent;obtain ⟨He,Hpi,Hke⟩:=as3_ he hpi hke;clear he hei hpi hke hve;have hp1:=Hone_.out i p Hpi.out;replace HK:=asd_ HK1;clear HK1;replace Bc:=ce2_ HK 2 1;replace Bf:=fe2_ HK 2 1))
   obtain ⟨d,hd,hd1⟩:=map_fst_get Hnm_.out Hpi.out;obtain ⟨Hd,Hd1⟩:=as2_ hd hd1;clear hd hd1 hent
   have Hi2:Aside0 (∀ w',Below w.heap.size w w'→Calls Tryz.prog 20 #[p.2] w' (DO d.2 w')):=⟨fun w' hb=>Ih_.out i d p Hd.out Hpi.out w' (Hk_.out.below hb)⟩
   refine st_ 13 (fun w'=>∀ j,w'.cell? ⟨g12,j,none⟩=(x12 (.slice Au nk cu))[j]?) [8,10,12] (fun (A:At w (.b r62 (.mapIter (some g) clock (seen.push e.born) clock):: .b g12 (row (x12 (.slice Au nk cu)) 30):: .b g2 (row (#[i0,bF,i0,.int .u64 0,eS,nilS]) 30)::(pr2 ++ sn2)) _)=>cA_ A 1) (fun hHeld=> ?_)
   have HE:=asd_ (show At w (.b r62 (.mapIter (some g) clock (seen.push e.born) clock):: .b g12 (row (x12 (.slice Au nk cu)) 30):: .b g2 (row (#[i0,bF,i0,.int .u64 0,eS,nilS]) 30)::(pr2 ++ sn2)) _ from At.drew HK.out)
   refine pu_ 0 68 1 ?_
   refine pu_ 2 70 5 ?_
   refine pu_ 3 71 13 ?_
   refine ta1_ 1 69 15 hHeld ?_
   refine pu_ 6 74 79 ?_
   refine jo_ (σ:=Option Addr×Nat×List Blk×Nat) 5 255 (fun s=>[(72,.agg #[.int .i64 d.2.kind,.bool d.2.b,.int .i64 d.2.n,.int .u64 d.2.f,.string d.2.s,.slice s.1 d.2.kids.length s.2.1]),(73,.agg #[.string p.1,.int .i64 d.2.kind,.bool d.2.b,.int .i64 d.2.n,.int .u64 d.2.f,.string d.2.s,.slice s.1 d.2.kids.length s.2.1]),(75,.slice (some ⟨s.2.2.2,0,none⟩) 1 1)]) (fun s w'=>At w (.b s.2.2.2 (row (#[eS,i0,bF,i0,.int .u64 0,eS,nilS]) 85):: .b r62 (.mapIter (some g) clock (seen.push e.born) clock):: .b g12 (row (x12 (.slice Au nk cu)) 30):: .b g2 (row (#[i0,bF,i0,.int .u64 0,eS,nilS]) 30)::(s.2.2.1 ++ (pr2 ++ sn2))) w'∧DB s.2.2.1 (.slice s.1 d.2.kids.length s.2.1) d.2∧(∀ g∈nums s.2.2.1,w.heap.size≤g)∧∀ e,offG e s.2.2.1) (fun hCont=> ?_) ?_
   ·refine tw_ 4 7 72 75 95 207 (fun K hK=> ?_) (fun K hK=> ?_)
    ·skip
     refine ge_ Tryz.func20 #[p.2] ?_
     with_reducible refine (Hi2.out _ HE.out.b).mono ?_
     rintro _ w3 ⟨u1,sn1,rfl,hdb,hks,hnd,hge,hof,hb⟩
     obtain ⟨Bd,cd,e7⟩:=hdb.slice;subst e7
     refine ⟨_,rfl,?_⟩
     have HE1:Aside0 (At w (.b r62 (.mapIter (some g) clock (seen.push e.born) clock):: .b g12 (row (x12 (.slice Au nk cu)) 30):: .b g2 (row (#[i0,bF,i0,.int .u64 0,eS,nilS]) 30)::(sn1 ++ (pr2 ++ sn2))) w3):=⟨At.behind [.b r62 (.mapIter (some g) clock (seen.push e.born) clock),.b g12 (row (x12 (.slice Au nk cu)) 30),.b g2 (row (#[i0,bF,i0,.int .u64 0,eS,nilS]) 30)] (At.came_all (l:=(.b r62 (.mapIter (some g) clock (seen.push e.born) clock):: .b g12 (row (x12 (.slice Au nk cu)) 30):: .b g2 (row (#[i0,bF,i0,.int .u64 0,eS,nilS]) 30)::(pr2 ++ sn2))) HE.out hb hks hnd hge)⟩
     have Hge:Aside0 (∀ g∈nums sn1,w.heap.size≤g):=⟨fun g hg=>Nat.le_trans HE.out.b.size (hge g hg)⟩;obtain ⟨Hdb,Hof⟩:=as2_ hdb hof;clear hdb hks hnd hge hof hb;clear HE;have HE:=HE1;clear HE1
     refine hK.out _ _ (cE_ HE 1) (fun hHeld=> ?_);clear hK K
     refine nq_ 72 ?_
     refine pu_ 5 73 127 ?_
     refine on_ 7 75 255 (fun K hK=> ?_)
     refine ne_ 75 (row (#[eS,i0,bF,i0,.int .u64 0,eS,nilS]) 85) (fun g=> .slice (some ⟨g,0,none⟩) 1 1) ?_
     intro gz w4 HE0 hgz;clear HE hgz;have HE:=asd_ HE0;clear HE0
     refine hK.out _ _ (cE_ HE 2) (fun hHeld=> ?_);clear hK K
     refine nq_ 75 ?_
     exact nx_ (hCont (Bd,cd,sn1,gz) _ ⟨HE.out,Hdb.out,Hge.out,Hof.out⟩)
    ·skip
     refine ne_ 75 (row (#[eS,i0,bF,i0,.int .u64 0,eS,nilS]) 85) (fun g=> .slice (some ⟨g,0,none⟩) 1 1) ?_
     intro gz w4 HE0 hgz;clear HE hgz;have HE:=asd_ HE0;clear HE0
     refine hK.out _ _ (cE_ HE 2) (fun hHeld=> ?_);clear hK K
     refine nq_ 75 ?_
     refine on_ 4 72 223 (fun K hK=> ?_)
     refine ge_ Tryz.func20 #[p.2] ?_
     with_reducible refine (Hi2.out _ HE.out.b).mono ?_
     rintro _ w3 ⟨u1,sn1,rfl,hdb,hks,hnd,hge,hof,hb⟩
     obtain ⟨Bd,cd,e7⟩:=hdb.slice;subst e7
     refine ⟨_,rfl,?_⟩
     have HE1:Aside0 (At w (.b gz (row (#[eS,i0,bF,i0,.int .u64 0,eS,nilS]) 85):: .b r62 (.mapIter (some g) clock (seen.push e.born) clock):: .b g12 (row (x12 (.slice Au nk cu)) 30):: .b g2 (row (#[i0,bF,i0,.int .u64 0,eS,nilS]) 30)::(sn1 ++ (pr2 ++ sn2))) w3):=⟨At.behind [.b gz (row (#[eS,i0,bF,i0,.int .u64 0,eS,nilS]) 85),.b r62 (.mapIter (some g) clock (seen.push e.born) clock),.b g12 (row (x12 (.slice Au nk cu)) 30),.b g2 (row (#[i0,bF,i0,.int .u64 0,eS,nilS]) 30)] (At.came_all (l:=(.b gz (row (#[eS,i0,bF,i0,.int .u64 0,eS,nilS]) 85):: .b r62 (.mapIter (some g) clock (seen.push e.born) clock):: .b g12 (row (x12 (.slice Au nk cu)) 30):: .b g2 (row (#[i0,bF,i0,.int .u64 0,eS,nilS]) 30)::(pr2 ++ sn2))) HE.out hb hks hnd hge)⟩
     have Hge:Aside0 (∀ g∈nums sn1,w.heap.size≤g):=⟨fun g hg=>Nat.le_trans HE.out.b.size (hge g hg)⟩;obtain ⟨Hdb,Hof⟩:=as2_ hdb hof;clear hdb hks hnd hge hof hb;clear HE;have HE:=HE1;clear HE1
     refine hK.out _ _ (cE_ HE 2) (fun hHeld=> ?_);clear hK K
     refine nq_ 72 ?_
     refine pu_ 5 73 255 ?_
     exact nx_ (hCont (Bd,cd,sn1,gz) _ ⟨HE.out,Hdb.out,Hge.out,Hof.out⟩)
   clear HE;rintro ⟨Bd,cd,sn1,gz⟩ w5 ⟨HE0,hdb,hge,hof⟩;obtain ⟨HE,Hdb,Hge,Hof⟩:=as4_ HE0 hdb hge hof;clear HE0 hdb hge hof hHeld
   refine np_ ?_
   refine la_ 8 76 511 (fun K hK=> ?_)
   refine appendpr_ (L:=(.b r62 (.mapIter (some g) clock (seen.push e.born) clock):: .b g12 (row (x12 (.slice Au nk cu)) 30):: .b g2 (row (#[i0,bF,i0,.int .u64 0,eS,nilS]) 30)::sn1)) (pr:=pr2) (T:=sn2) (kc:=#[eS,i0,bF,i0,.int .u64 0,eS,nilS]) (sz:=7) (e:=85) HE.out (by repeat (first|exact Hof.out _|exact Hos.out _|exact HP.out.offG _|exact trivial|(apply offG_append))) HP.out (by rfl) rfl Tryz.underlying28 info85 rfl (by decide) rfl (by simp [Value.oneCell']) rfl rfl (by have:=HN.out;omega) (by have:=HN.out;omega) ?_
   intro pr3 ga ca wa HP3 HE0;have HP3:=asd_ HP3;clear HE;have HE:=asd_ HE0;clear HE0
   refine hK.out _ _ ?_;clear hK K
   refine nq_ 76 ?_
   refine pu_ 9 77 1023 ?_
   refine pu_ 11 78 3071 ?_
   refine jo_ (σ:=List Blk) 0 8191 (fun _=>[]) (fun s w'=>PR w.heap.size s 85 7 (.slice (some ⟨ga,0,none⟩) (nk + 1) ca) (nk + 1) (rowOf (ks ++ [(p.1,d.2)]) ((ss ++ [(Bd,d.2.kids.length,cd)]).map slv))∧At w (.b r62 (.mapIter (some g) clock (seen.push e.born) clock):: .b g12 (row (x12 (.slice (some ⟨ga,0,none⟩) (nk + 1) ca)) 30):: .b g2 (row (#[i0,bF,i0,.int .u64 0,eS,nilS]) 30)::(sn1 ++ (s ++ sn2))) w') (fun hCont=> ?_) ?_
   ·have HPz:Aside0 (PR w.heap.size pr3 85 7 (.slice (some ⟨ga,0,none⟩) (nk + 1) ca) (nk + 1) (rowOf (ks ++ [((⟨#[]⟩:ByteArray),dNull)]) (ss.map slv ++ [nilS]))):=⟨by rw [rowOf_snoc (by have:=HB.out.ls;simp;omega)];exact HP3.out⟩
    have hfin:∀ pr4,PR w.heap.size pr4 85 7 (.slice (some ⟨ga,0,none⟩) (nk + 1) ca) (nk + 1) (rowOf ((ks ++ [((⟨#[]⟩:ByteArray),dNull)]).set nk (p.1,d.2)) ((ss.map slv ++ [nilS]).set nk (.slice Bd d.2.kids.length cd)))→PR w.heap.size pr4 85 7 (.slice (some ⟨ga,0,none⟩) (nk + 1) ca) (nk + 1) (rowOf (ks ++ [(p.1,d.2)]) ((ss ++ [(Bd,d.2.kids.length,cd)]).map slv)):=fun pr4 h=>by
     have a1:(ks ++ [((⟨#[]⟩:ByteArray),dNull)]).set nk (p.1,d.2)=ks ++ [(p.1,d.2)]:=by have:=Hnk.out;subst this;simp
     have a2:(ss.map slv ++ [nilS]).set nk (.slice Bd d.2.kids.length cd)=(ss ++ [(Bd,d.2.kids.length,cd)]).map slv:=by have a3:nk=(ss.map slv).length:=(by have:=Hnk.out;have:=HB.out.ls;simp;omega);rw [a3];simp
     rw [a1,a2] at h;exact h
    have Hfin:=asd_ hfin;clear hfin
    refine twz_ 10 12 4095 7167 (fun K hK=> ?_) (fun K hK=> ?_)
    ·skip
     refine putpr_ (Ls:=(.b r62 (.mapIter (some g) clock (seen.push e.born) clock):: .b g12 (row (x12 (.slice Au nk cu)) 30):: .b g2 (row (#[i0,bF,i0,.int .u64 0,eS,nilS]) 30)::sn1)) (pr:=pr3) (T:=sn2) (i:=nk) (L:=ks ++ [((⟨#[]⟩:ByteArray),dNull)]) (us:=ss.map slv ++ [nilS]) (k:=(p.1,d.2)) (t:= .slice Bd d.2.kids.length cd) (kc:=#[.string p.1,.int .i64 d.2.kind,.bool d.2.b,.int .i64 d.2.n,.int .u64 d.2.f,.string d.2.s,.slice Bd d.2.kids.length cd]) HE.out HPz.out (by have:=HB.out.ls;simp;omega) (by have:=Hnk.out;simp;omega) (Nat.lt_succ_self nk) (by rfl) (by rfl) rfl (by rfl) (by rfl) rfl (by simp [Value.oneCell']) ?_
     intro pr4 w6 HP4 HE0;have HP4:=asd_ HP4;clear HE;have HE:=asd_ HE0;clear HE0
     refine hK.out _ _ ?_;clear hK K
     refine lz_ 12 8191 (fun K hK=> ?_)
     have fg12_:=fE_ HE 1;have cg12_:=cE_ HE 1
     refine sk_ ?_
     have HE1:=asd_ (show At w (.b r62 (.mapIter (some g) clock (seen.push e.born) clock):: .b g12 (row (x12 (.slice (some ⟨ga,0,none⟩) (nk + 1) ca)) 30):: .b g2 (row (#[i0,bF,i0,.int .u64 0,eS,nilS]) 30)::(sn1 ++ (pr4 ++ sn2))) _ from At.store_to (i:=5) (v:= .slice (some ⟨ga,0,none⟩) (nk + 1) ca) 1 (x12 (.slice (some ⟨ga,0,none⟩) (nk + 1) ca)) HE.out rfl Gg12.out rfl rfl)
     clear fg12_ cg12_;clear HE;have HE:=HE1;clear HE1
     refine hK.out _ _ ?_;clear hK K
     exact hCont pr4 _ ⟨Hfin.out _ HP4.out,HE.out⟩
    ·skip
     have fg12_:=fE_ HE 1;have cg12_:=cE_ HE 1
     refine sk_ ?_
     have HE1:=asd_ (show At w (.b r62 (.mapIter (some g) clock (seen.push e.born) clock):: .b g12 (row (x12 (.slice (some ⟨ga,0,none⟩) (nk + 1) ca)) 30):: .b g2 (row (#[i0,bF,i0,.int .u64 0,eS,nilS]) 30)::(sn1 ++ (pr3 ++ sn2))) _ from At.store_to (i:=5) (v:= .slice (some ⟨ga,0,none⟩) (nk + 1) ca) 1 (x12 (.slice (some ⟨ga,0,none⟩) (nk + 1) ca)) HE.out rfl Gg12.out rfl rfl)
     clear fg12_ cg12_;clear HE;have HE:=HE1;clear HE1
     refine hK.out _ _ ?_;clear hK K
     refine lz_ 10 8191 (fun K hK=> ?_)
     refine putpr_ (Ls:=(.b r62 (.mapIter (some g) clock (seen.push e.born) clock):: .b g12 (row (x12 (.slice (some ⟨ga,0,none⟩) (nk + 1) ca)) 30):: .b g2 (row (#[i0,bF,i0,.int .u64 0,eS,nilS]) 30)::sn1)) (pr:=pr3) (T:=sn2) (i:=nk) (L:=ks ++ [((⟨#[]⟩:ByteArray),dNull)]) (us:=ss.map slv ++ [nilS]) (k:=(p.1,d.2)) (t:= .slice Bd d.2.kids.length cd) (kc:=#[.string p.1,.int .i64 d.2.kind,.bool d.2.b,.int .i64 d.2.n,.int .u64 d.2.f,.string d.2.s,.slice Bd d.2.kids.length cd]) HE.out HPz.out (by have:=HB.out.ls;simp;omega) (by have:=Hnk.out;simp;omega) (Nat.lt_succ_self nk) (by rfl) (by rfl) rfl (by rfl) (by rfl) rfl (by simp [Value.oneCell']) ?_
     intro pr4 w6 HP4 HE0;have HP4:=asd_ HP4;clear HE;have HE:=asd_ HE0;clear HE0
     refine hK.out _ _ ?_;clear hK K
     exact hCont pr4 _ ⟨Hfin.out _ HP4.out,HE.out⟩
   clear HE;rintro pr4 w7 ⟨hp4,HE0⟩;have HP4:=asd_ hp4;clear hp4;refine done_ kr_ ?_
   clear HK;have HK:Aside0 (At w (.b r62 (.mapIter (some g) clock (seen.push e.born) clock):: .b g12 (row (x12 (.slice (some ⟨ga,0,none⟩) (nk + 1) ca)) 30):: .b g2 (row (#[i0,bF,i0,.int .u64 0,eS,nilS]) 30)::(sn1 ++ (pr4 ++ sn2))) w7):=⟨HE0⟩;clear HE0
   replace Bc:=ce2_ HK 2 1;replace Bf:=fe2_ HK 2 1
   go_wp2_with fail
   have hcn:=HC.out.next HM_.out.st He.out;have Hcn:=asd_ hcn;clear hcn
   go_roundg (leftOf es (seen.push e.born)).size
   case measure=>have:=Hkq.out;have:=Hcn.out.2;omega
   case rel=>exact ⟨_,seen.push e.born,pr4,sn1 ++ sn2,vs ++ [e],ks ++ [(p.1,d.2)],ss ++ [(Bd,d.2.kids.length,cd)],⟨rfl⟩,⟨Hcn.out.1⟩,⟨by rw [List.length_append,List.length_singleton,Hnk.out];exact HP4.out⟩,⟨HB.out.next (fun b hb=>List.mem_append_right _ hb) Hke.out (by rw [← Hd1.out];exact List.mem_of_getElem? Hd.out) (Hdb.out.mono (fun b hb=>List.mem_append_left _ hb))⟩,⟨ge_app Hge.out Hgs.out⟩,⟨fun e=>offG_append (Hof.out e) (Hos.out e)⟩,⟨At.under [.b r62 (.mapIter (some g) clock (seen.push e.born) clock),.b g12 (row (x12 (.slice (some ⟨ga,0,none⟩) (nk + 1) ca)) 30),.b g2 (row (#[i0,bF,i0,.int .u64 0,eS,nilS]) 30)] at_⟩⟩
end Go.Proofs.YtlblbefbbibpaaaGreatDoor.J
namespace Go.Proofs.YtlblbefbbibpaaaGreatDoor.J
open Go.RowKit Zw Zw.PrintWords Zw.PrintLast Zw.PrintMore PAM
theorem do_all {sn:List Blk} {a:Value} {x:Dt} (h:AB sn a x):∀ w,Keeps sn w→Calls Tryz.prog 20 #[a] w (DO x w):=by
 induction h with
 |null=>exact fun w _=>do_null w
 |bool=>exact fun w _=>do_bool w
 |int=>exact fun w _=>do_int w
 |float=>exact fun w _=>do_float w
 |str=>exact fun w _=>do_str w
 |list h1 h2 h3 h4 h5 h6 ih=>exact fun w hk=>do_list hk h1 h2 h3 h5 h6 ih
 | @obj g clock es m ds L h1 h2 h3 h4 h5 h6 h7 ih=>
  have ho:∀ (i:Nat) (p:ByteArray×Value),m[i]? =some p→p.2.oneCell'=true:=fun i p hp=>by
   obtain ⟨d,hd,_⟩:=map_fst_get h3 hp
   exact (h4 i d p hd hp).one
  exact fun w hk=>do_obj hk h1 h2 h3 h5 h6 h7 ho ih
theorem va_all {w0:World} {v:Vl} {x:Dt} (hv:VD w0 v x) (hf:Fit v) (hs:Sm v):∀ {w:World},Below w0.heap.size w0 w→∀ {sn:List Blk} {gx:Nat},Keeps sn w→VB sn gx v→Calls Tryz.prog 58 #[ptr gx,nM] w (VA x w):=by
 induction hv with
 | @int v n h1 h2=>
  obtain ⟨kind,raw,kids⟩:=v
  obtain rfl:kind=1:=h1
  intro w hW sn gx hk hb
  obtain ⟨hg⟩:=hb
  exact va_int (kids:=kids) hW (hk.mem hg) h2
 | @float v f h1 h2=>
  obtain ⟨kind,raw,kids⟩:=v
  obtain rfl:kind=2:=h1
  intro w hW sn gx hk hb
  obtain ⟨hg⟩:=hb
  exact va_float (kids:=kids) hW (hk.mem hg) h2
 | @bool v h1=>
  obtain ⟨kind,raw,kids⟩:=v
  obtain rfl:kind=5:=h1
  intro w hW sn gx hk hb
  obtain ⟨hg⟩:=hb
  cases hf with
  |mk _ _ h5 _=>exact va_bool (kids:=kids) hW (hk.mem hg) (h5 rfl)
 | @null v h1=>
  obtain ⟨kind,raw,kids⟩:=v
  obtain rfl:kind=6:=h1
  intro w hW sn gx hk hb
  obtain ⟨hg⟩:=hb
  exact va_null (kids:=kids) hW (hk.mem hg)
 | @str v h1=>
  obtain ⟨kind,raw,kids⟩:=v
  intro w hW sn gx hk hb
  obtain ⟨hg⟩:=hb
  rcases h1 with h1|h1|h1
  ·obtain rfl:kind=3:=h1
   exact va_str (kids:=kids) hW (hk.mem hg)
  ·obtain rfl:kind=4:=h1
   exact va_blk (kids:=kids) hW (hk.mem hg)
  ·obtain rfl:kind=7:=h1
   exact va_enum (kids:=kids) hW (hk.mem hg)
 | @list v ds h1 h2 h3 h4 ih=>
  obtain ⟨kind,raw,kids⟩:=v
  obtain rfl:kind=8:=h1
  intro w hW sn gx hk hb
  obtain ⟨hg,hp,hsn,hlp,hlc,hkb,hvb⟩:=hb
  cases hf with
  |mk _ _ _ hfk=>exact va_list hW (hk.mem hg) hs.len (fun i k d h5 h6 {w} hW2 {sn} {gx} hk2 hb2=>ih i k d h5 h6 (hfk k (List.mem_of_getElem? h5)) (hs.kid (List.mem_of_getElem? h5)).2 hW2 hk2 hb2) hk hp hsn hlp hlc h2 hkb hvb h4
 | @obj v ds h1 h2 h3 h4 ih=>
  obtain ⟨kind,raw,kids⟩:=v
  obtain rfl:kind=9:=h1
  intro w hW sn gx hk hb
  obtain ⟨hg,hp,hsn,hlp,hlc,hkb,hvb⟩:=hb
  cases hf with
  |mk _ _ _ hfk=>exact va_obj hW (hk.mem hg) hs.len (fun i k d h5 h6 {w} hW2 {sn} {gx} hk2 hb2=>ih i k d h5 h6 (hfk k (List.mem_of_getElem? h5)) (hs.kid (List.mem_of_getElem? h5)).2 hW2 hk2 hb2) hk hp hsn hlp hlc h2 hkb hvb h4 (fun k hkk=>by
    have:=hfk k hkk
    cases this with
    |mk h8=>omega) (fun k hkk=>(hs.kid hkk).1)
def Found (sn:List Blk) (xs:List Kid) (nm:ByteArray) (r:Value):Prop:=(∃ (i g c:Nat) (x:Kid),xs[i]? =some x∧x.1.toList=nm.toList∧r=ptr g∧KidB sn 107 g x.1 c∧VB sn c x.2)∨(r=nP∧∀ x∈xs,x.1.toList≠nm.toList)
theorem forName_ok {w0 w:World} {sn:List Blk} {xs:List Kid} {v:Value} {nm:ByteArray} (hk:Keeps sn w0) (hB:Below w0.heap.size w0 w) (h:ArgsB sn v xs) (hL:xs.length≤1048576):
  Calls Tryz.prog 57 #[v,.string nm] w fun e w'=>∃ r,e= .returned r∧Found sn xs nm r∧Below w.heap.size w w':=by
 obtain ⟨b,pr,ps,cs,hp,hs,hK⟩:=h;obtain ⟨A,cap,rfl,_⟩:=hp.slice;obtain ⟨n,hn⟩:∃ n,xs.length=n:=⟨_,rfl⟩;rw [hn] at hp hL ⊢;rw [hn] at hK
 obtain ⟨Hk_,HW_,Hp_,Hs_,HK_,HL_,Hn⟩:=as7_ hk hB hp hs hK hL hn;clear hk hB hp hs hK hL hn
 have HK:=st0_ w
 go_enter Tryz.func57,Tryz.ntmps57
 go_wp2_with fail
 go_loopg [9] n (fun kq i w'=>∃ k:Nat,Aside0 (k≤n)∧i= .int .i64 k∧Aside0 (kq=n - k)∧Aside0 (∀ j x,j < k→xs[j]? =some x→x.1.toList≠nm.toList)∧Aside0 (At w [] w'))
 case atStart=>exact ⟨0,⟨Nat.zero_le _⟩,rfl,⟨rfl⟩,⟨fun j x hj=>absurd hj (Nat.not_lt_zero _)⟩,⟨at_⟩⟩
 case round=>
  clear HK;obtain ⟨k,Hk,rfl,Hkq,Hno,HK⟩:=hrel
  by_cases hlt:k < n
  case neg=>
   have hd:decide (k < n)=false:=decide_eq_false hlt;have Hlt:=asd_ hlt;clear hlt
   go_wp2_with fail
   go_ret
   exact ⟨_,rfl,.inr ⟨rfl,fun x hx=>by obtain ⟨j,hj,e⟩:=List.getElem_of_mem hx;exact Hno.out j x (by have:=Hlt.out;have:=Hn.out;omega) (by rw [List.getElem?_eq_getElem hj,e])⟩,be_⟩
  case pos=>
   have hd:decide (k < n)=true:=decide_eq_true hlt;have Hlt:=asd_ hlt;clear hlt
   have hi0:(0:Int)≤(k:Int):=(by omega);have hi1:(k:Int) < (n:Int):=(by have:=Hlt.out;omega);have hs1:IntKind.i64.wrap ((k:Int) + 1)=(k:Int) + 1:=IntWalk.i64_in _ (by have:=Hlt.out;have:=HL_.out;omega)
   obtain ⟨x,hx⟩:∃ x,xs[k]? =some x:=⟨_,List.getElem?_eq_getElem (by have:=Hlt.out;have:=Hn.out;omega)⟩;obtain ⟨g,hg⟩:∃ g,ps[k]? =some g:=⟨_,List.getElem?_eq_getElem (by have:=Hlt.out;have:=HK_.out.lp;omega)⟩;obtain ⟨c,hc⟩:∃ c,cs[k]? =some c:=⟨_,List.getElem?_eq_getElem (by have:=Hlt.out;have:=HK_.out.lc;omega)⟩
   obtain ⟨gA,cA,e1,hcl⟩:=Hp_.out.cell Hk_.out Hs_.out (by have:=Hlt.out;omega);injection e1 with e1 _ e3;subst e1 e3
   have hkb:=HK_.out.kb k g c x hg hc hx;have hvb:=HK_.out.vb k c x hc hx;have hkq:=hkb;obtain ⟨q,hq⟩:=hkq
   have hc0:wr.cell? ⟨gA,k,none⟩=some (ptr g):=pw_cell_below (below_step HW_.out HK.out.b) (hcl k _ (by simp [hg]));have hc1:wr.cell? ⟨g,0,none⟩=some (.string x.1):=pw_cell_below (below_step HW_.out HK.out.b) (by simp [World.cell?,Hk_.out.mem hq,row])
   obtain ⟨Hkb,Hvb,Hx⟩:=as3_ hkb hvb hx;clear hkb hvb hx hg hc hq hcl
   by_cases he:x.1.toList=nm.toList
   case pos=>
    have f0:(x.1.toList == nm.toList)=true:=beq_iff_eq.2 he;have He:=asd_ he;clear he
    go_wp2_with fail
    go_ret
    exact ⟨_,rfl,.inl ⟨k,g,c,x,Hx.out,He.out,rfl,Hkb.out,Hvb.out⟩,be_⟩
   case neg=>
    have f0:(x.1.toList == nm.toList)=false:=beq_eq_false_iff_ne.2 he;have He:=asd_ he;clear he
    go_wp2_with fail
    go_roundg (n - (k + 1))
    case measure=>have:=Hkq.out;have:=Hlt.out;omega
    case rel=>exact ⟨k + 1,⟨Hlt.out⟩,by go_num,⟨rfl⟩,⟨fun j y hj hy=>(Nat.lt_or_ge j k).elim (fun h9=>Hno.out j y h9 hy) (fun h9=>by obtain rfl:j=k:=(by omega);rw [Hx.out] at hy;cases hy;exact He.out)⟩,⟨at_⟩⟩
def argv (xs:List Kid) (d:ADef):List Vl:=xs.foldl (fun l a=>if a.1.toList=d.name.toList then [a.2] else l) d.dflt
def allKids (xs:List Kid) (ds:List ADef):List Kid:=ds.flatMap (fun d=>(argv xs d).map (fun v=>(d.name,v)))
theorem argv_none {xs:List Kid} {nm:ByteArray} (h:∀ x∈xs,x.1.toList≠nm.toList) (l:List Vl):xs.foldl (fun l a=>if a.1.toList=nm.toList then [a.2] else l) l=l:=by
 induction xs generalizing l with
 |nil=>rfl
 |cons x xs ih=>rw [List.foldl_cons,if_neg (h x List.mem_cons_self),ih (fun y hy=>h y (List.mem_cons_of_mem _ hy))]
theorem argv_some {xs:List Kid} {nm:ByteArray} (hn:(xs.map Prod.fst).Nodup) {x:Kid} (hx:x∈xs) (he:x.1.toList=nm.toList) (l:List Vl):xs.foldl (fun l a=>if a.1.toList=nm.toList then [a.2] else l) l=[x.2]:=by
 induction xs generalizing l with
 |nil=>cases hx
 |cons y xs ih=>
  rw [List.map_cons,List.nodup_cons] at hn
  rw [List.foldl_cons]
  rcases List.mem_cons.1 hx with rfl|hx
  ·rw [if_pos he]
   refine argv_none (fun z hz e=>hn.1 ?_) _
   rw [toList_eq (he.trans e.symm)]
   exact List.mem_map_of_mem hz
  ·exact ih hn.2 hx _
theorem allKids_snoc (xs:List Kid) {ds:List ADef} {k:Nat} {d:ADef} (h:ds[k]? =some d):allKids xs (ds.take (k + 1))=allKids xs (ds.take k) ++ (argv xs d).map (fun v=>(d.name,v)):=by
 rw [take_succ_get h,allKids,List.flatMap_append,List.flatMap_singleton]
 rfl
theorem allKids_pre (xs:List Kid) (ds:List ADef) (k:Nat):∃ r,allKids xs ds=allKids xs (ds.take k) ++ r:=by
 refine ⟨allKids xs (ds.drop k),?_⟩
 unfold allKids
 rw [← List.flatMap_append,List.take_append_drop]
def VM (x:Dt) (w:World) (e:Ending) (w':World):Prop:=
 ∃ (g:Nat) (sn:List Blk),e= .returned (.map (some g))∧AB sn (.iface 81 (.map (some g))) x∧Keeps sn w'∧(nums sn).Nodup∧(∀ g∈nums sn,w.heap.size≤g)∧(∀ e,offG e sn)∧Below w.heap.size w w'
theorem VM.made {x:Dt} {g:Nat} {w w':World} {e:Ending} {sn:List Blk} (L:List Blk) (he:e= .returned (.map (some g))) (ha:AB sn (.iface 81 (.map (some g))) x) (hg:∀ g∈nums sn,w.heap.size≤g) (ho:∀ e,offG e sn) (HK:At w (L ++ sn) w'):VM x w e w':=
 have H:=HK.sub (List.sublist_append_right L sn)
 ⟨g,sn,he,ha,H.k,H.d,hg,ho,H.b⟩
theorem arg2map_ok {w0 w:World} (hW:Below w0.heap.size w0 w) {xs:List Kid} {defs:List ADef} {ds:List (ByteArray×Dt)} {sn:List Blk} {va vd:Value} (hk:Keeps sn w) (ha:ArgsB sn va xs) (hd:AdefsB sn vd defs) (hLa:xs.length≤1048576) (hLd:defs.length≤1048576) (hxn:(xs.map Prod.fst).Nodup) (hfx:∀ k∈xs,Fit k.2∧Sm k.2) (hfd:∀ d∈defs,d.name.size≤1048576∧d.dflt.length≤1∧∀ v∈d.dflt,Fit v∧Sm v) (hld:ds.length=(allKids xs defs).length) (hvd:∀ (i:Nat) (k:Kid) (d:ByteArray×Dt),(allKids xs defs)[i]? =some k→ds[i]? =some d→VD w0 k.2 d.2) (hdn:∀ (i:Nat) (k:Kid) (d:ByteArray×Dt),(allKids xs defs)[i]? =some k→ds[i]? =some d→d.1=k.1):
  Calls Tryz.prog 42 #[vd,va,nM] w (VM (dObj (ds.foldl ins [])) w):=by
 obtain ⟨b,pr,ps,hp,hs,hD⟩:=hd;obtain ⟨A,cap,rfl,_⟩:=hp.slice;obtain ⟨n,hn⟩:∃ n,defs.length=n:=⟨_,rfl⟩;rw [hn] at hp hLd hD ⊢
 obtain ⟨HW_,Hk_,Ha_,HLa_,HLd_,Hxn_,Hfx_,Hfd_,Hld_,Hvd_,Hdn_,Hp_⟩:=as12_ hW hk ha hLa hLd hxn hfx hfd hld hvd hdn hp;obtain ⟨Hs_,HD_,Hn_⟩:=as3_ hs hD hn;clear hW hk ha hLa hLd hxn hfx hfd hld hvd hdn hp hs hD hn
 have HK:=st0_ w
 have hmm:= @run_makeMap Tryz.prog
 go_enter Tryz.func42,Tryz.ntmps42
 go_wp2_with (first|((with_reducible refine gd_ 14 ?_);refine nw_ (.map #[] 0) (fun g=> .map (some g)) ?_;clear HK;intro gm wb14 HK Ggm;skip))
 go_loopg [17] n (fun kq i w'=>∃ (k ck:Nat) (es:Array MapEntry) (sn2:List Blk) (m:List (ByteArray×Value)) (ms:List (ByteArray×Dt)),Aside0 (k≤n)∧i= .int .i64 k∧Aside0 (kq=n - k)∧Aside0 (ME es ck m)∧Aside0 (MB sn2 m ms)∧Aside0 (∀ x,x∈(ds.take (allKids xs (defs.take k)).length).foldl ins []↔x∈ms)∧Aside0 (m.length≤k)∧Aside0 (∀ g∈nums sn2,w.heap.size≤g)∧Aside0 (∀ e,offG e sn2)∧Aside0 (At w (.b gm (.map es ck)::sn2) w'))
 case atStart=>exact ⟨0,0,#[],[],[],[],⟨Nat.zero_le _⟩,rfl,⟨rfl⟩,⟨ME.made⟩,⟨MB.nil _⟩,⟨fun x=>by simp [allKids]⟩,⟨Nat.le_refl _⟩,⟨fun _ h=>by cases h⟩,⟨fun _=>trivial⟩,⟨at_⟩⟩
 case round=>
  clear HK
  obtain ⟨k,ck,es,sn2,m,ms,Hk,rfl,Hkq,HM,HB,HI,Hml,Hgs,Hos,HK⟩:=hrel
  by_cases hlt:k < n
  case neg=>
   have hd:decide (k < n)=false:=decide_eq_false hlt;have Hlt:=asd_ hlt;clear hlt
   go_wp2_with fail
   have e8:defs.take k=defs:=List.take_of_length_le (by have:=Hlt.out;have:=Hn_.out;omega);have h9:=HI.out;rw [e8,← Hld_.out,List.take_length] at h9;have H9:=asd_ h9;clear e8 h9;have HKz:Aside0 (At w (.b gm (.map es ck)::sn2) _):=⟨at_⟩
   exact bodyPost_ret (v:= .map (some gm)) (by simp [results,Tryz.results42,go_sem]) rfl (VM.made [] rfl (AB.obj (List.mem_cons_self) HM.out HB.out.nm (fun i d p h1 h2=>(HB.out.ab i d p h1 h2).mono (fun b hb=>List.mem_cons_of_mem _ hb)) (foldl_ins_rising ds List.Pairwise.nil) H9.out (by have:=HLd_.out;have:=Hk.out;have:=Hml.out;omega)) (fun g hg=>(List.mem_cons.1 hg).elim (fun e=>e ▸ Ggm.out) (Hgs.out g)) (fun e=>Hos.out e) HKz.out)
  case pos=>
   have hd:decide (k < n)=true:=decide_eq_true hlt;have Hlt:=asd_ hlt;clear hlt
   have hi0:(0:Int)≤(k:Int):=(by omega);have hi1:(k:Int) < (n:Int):=(by have:=Hlt.out;omega);have hs1:IntKind.i64.wrap ((k:Int) + 1)=(k:Int) + 1:=IntWalk.i64_in _ (by have:=Hlt.out;have:=HLd_.out;omega)
   obtain ⟨x,hx⟩:∃ x,defs[k]? =some x:=⟨_,List.getElem?_eq_getElem (by have:=Hlt.out;have:=Hn_.out;omega)⟩;obtain ⟨g,hgk⟩:∃ g,ps[k]? =some g:=⟨_,List.getElem?_eq_getElem (by have:=Hlt.out;have:=HD_.out.lp;omega)⟩
   obtain ⟨gA,cA,e1,hcl⟩:=Hp_.out.cell Hk_.out Hs_.out (by have:=Hlt.out;omega);injection e1 with e1 _ e3;subst e1 e3
   obtain ⟨vf,vdr,gt,gq,hq,hfb⟩:=HD_.out.db k g x hgk hx;have hcm:=hcl k (ptr g) (by simp [hgk]);have hqm:=Hk_.out.mem hq;obtain ⟨_,hf1,hf2⟩:=Hfd_.out x (List.mem_of_getElem? hx)
   obtain ⟨Hcm,Hqm,Hfb,Hx,Hf1,Hf2⟩:=as6_ hcm hqm hfb hx hf1 hf2;clear hcm hqm hfb hx hgk hq hcl hf1 hf2
   have hak:=allKids_snoc xs Hx.out;obtain ⟨r,hpre⟩:=allKids_pre xs defs (k + 1);rw [hak] at hpre;obtain ⟨Hak,Hpre⟩:=as2_ hak hpre;clear hak hpre
   have hc0:wr.cell? ⟨gA,k,none⟩=some (ptr g):=pw_cell_below HK.out.b Hcm.out;have hc1:wr.cell? ⟨g,1,none⟩=some (.string x.name):=pw_cell_below HK.out.b (by simp [World.cell?,Hqm.out,row]);have hc2:wr.cell? ⟨g,2,none⟩=some vf:=pw_cell_below HK.out.b (by simp [World.cell?,Hqm.out,row])
   go_wp2_with fail
   refine (forName_ok (Hk_.out.below be_) (Below.refl _ _) Ha_.out HLa_.out).mono ?_
   rintro _ w8 ⟨r8,rfl,hfo,hb⟩
   have HK9:Aside0 (At w (.b gm (.map es ck)::sn2) w8):=⟨At.step at_ hb⟩;clear HK hb;have HK:=HK9;clear HK9
   clear hc0 hc1 hc2;have hc0:w8.cell? ⟨gA,k,none⟩=some (ptr g):=pw_cell_below HK.out.b Hcm.out;have hc1:w8.cell? ⟨g,1,none⟩=some (.string x.name):=pw_cell_below HK.out.b (by simp [World.cell?,Hqm.out,row]);have hc2:w8.cell? ⟨g,2,none⟩=some vf:=pw_cell_below HK.out.b (by simp [World.cell?,Hqm.out,row])
   rcases hfo with ⟨i,gk,c,y,hy,hye,rfl,⟨qk,hkb⟩,hvb⟩|⟨rfl,hno⟩
   ·have hav:argv xs x=[y.2]:=argv_some Hxn_.out (List.mem_of_getElem? hy) hye _;have hfy:=Hfx_.out y (List.mem_of_getElem? hy)
    have hkm:=Hk_.out.mem hkb;obtain ⟨gp2,cv2,hgc⟩:=hvb.head;have hgm2:=Hk_.out.mem hgc;have hkd:y.2.kind≠0:=by (cases hfy.1 with|mk h8=>omega)
    obtain ⟨Hav,Hkm,Hgc,Hvb,Hfy⟩:=as5_ hav hkm hgm2 hvb hfy;clear hav hkm hgm2 hgc hkb hy hye hfy
    have f0:(y.2.kind == 0)=false:=beq_eq_false_iff_ne.2 hkd;clear hkd
    have hpk:(allKids xs defs)[(allKids xs (defs.take k)).length]? =some (x.name,y.2):=by rw [Hpre.out,Hav.out,List.append_assoc,List.getElem?_append_right (Nat.le_refl _),Nat.sub_self];rfl
    obtain ⟨d,hdk⟩:∃ d,ds[(allKids xs (defs.take k)).length]? =some d:=⟨_,List.getElem?_eq_getElem (by rw [Hld_.out];exact (List.getElem?_eq_some_iff.1 hpk).1)⟩
    have hdn:=Hdn_.out _ _ d hpk hdk;have hv9:=Hvd_.out _ _ d hpk hdk;obtain ⟨Hdk,Hdn,Hv9⟩:=as3_ hdk hdn hv9;clear hpk hdk hdn hv9
    clear hc0 hc1 hc2;have hc0:w8.cell? ⟨gA,k,none⟩=some (ptr g):=pw_cell_below HK.out.b Hcm.out;have hc1:w8.cell? ⟨g,1,none⟩=some (.string x.name):=pw_cell_below HK.out.b (by simp [World.cell?,Hqm.out,row]);have hc2:w8.cell? ⟨g,2,none⟩=some vf:=pw_cell_below HK.out.b (by simp [World.cell?,Hqm.out,row]);have hc3:w8.cell? ⟨gk,1,none⟩=some (ptr c):=pw_cell_below HK.out.b (by simp [World.cell?,Hkm.out,row]);have hc4:w8.cell? ⟨c,2,none⟩=some (.int .i64 y.2.kind):=pw_cell_below HK.out.b (by simp [World.cell?,Hgc.out,row])
    go_wp2_with fail
    have Hi2:=asd_ (fun {w}=>va_all Hv9.out Hfy.out.1 Hfy.out.2 (w:=w));have Hv2:=asd_ Hvb.out
    refine (Hi2.out (below_step HW_.out be_) (Hk_.out.below be_) Hv2.out).mono ?_
    rintro _ w9 ⟨a,sn1,rfl,hab,hks,hnd,hge,hof,hb⟩
    have HK9:Aside0 (At w (.b gm (.map es ck)::(sn1 ++ sn2)) w9):=⟨At.behind [.b gm (.map es ck)] (At.came_all (l:=(.b gm (.map es ck)::sn2)) at_ hb hks hnd hge)⟩
    have Hge:Aside0 (∀ g∈nums sn1,w.heap.size≤g):=⟨fun g hg=>Nat.le_trans (show Below w.heap.size w _ from be_).size (hge g hg)⟩
    have hone:=hab.one;obtain ⟨Hab,Hof⟩:=as2_ hab hof;clear HK hab hks hnd hge hof hb;have HK:=HK9;clear HK9
    clear hc0 hc1 hc2 hc3 hc4;have hc0:w9.cell? ⟨gA,k,none⟩=some (ptr g):=pw_cell_below HK.out.b Hcm.out;have hc1:w9.cell? ⟨g,1,none⟩=some (.string x.name):=pw_cell_below HK.out.b (by simp [World.cell?,Hqm.out,row]);have hc2:w9.cell? ⟨g,2,none⟩=some vf:=pw_cell_below HK.out.b (by simp [World.cell?,Hqm.out,row]);have hc3:w9.cell? ⟨gk,1,none⟩=some (ptr c):=pw_cell_below HK.out.b (by simp [World.cell?,Hkm.out,row]);have hc4:w9.cell? ⟨c,2,none⟩=some (.int .i64 y.2.kind):=pw_cell_below HK.out.b (by simp [World.cell?,Hgc.out,row])
    go_wp2_with (first|(at_mapUpdate;refine meput_at 0 at_ rfl Ggm.out HM.out rfl rfl rfl Tryz.underlying81 rfl (Hfd_.out x (List.mem_of_getElem? Hx.out)).1 rfl rfl ?_;intro es2 ck2 m2 wm hup hm2 HE0;obtain ⟨Hup,HM2⟩:=as2_ hup hm2;have HK9:Aside0 (At w (.b gm (.map es2 ck2)::(sn1 ++ sn2)) wm):=asd_ HE0;clear HK HE0 hup hm2;have HK:=HK9;clear HK9;clear hc0 hc1 hc2 hc3 hc4;have hc0:wm.cell? ⟨gA,k,none⟩=some (ptr g):=pw_cell_below HK.out.b Hcm.out;have hc1:wm.cell? ⟨g,1,none⟩=some (.string x.name):=pw_cell_below HK.out.b (by simp [World.cell?,Hqm.out,row]);have hc2:wm.cell? ⟨g,2,none⟩=some vf:=pw_cell_below HK.out.b (by simp [World.cell?,Hqm.out,row]);have hc3:wm.cell? ⟨gk,1,none⟩=some (ptr c):=pw_cell_below HK.out.b (by simp [World.cell?,Hkm.out,row]);have hc4:wm.cell? ⟨c,2,none⟩=some (.int .i64 y.2.kind):=pw_cell_below HK.out.b (by simp [World.cell?,Hgc.out,row])))
    obtain ⟨ms2,hu2,hb2⟩:=HB.out.upd (sn':=sn1 ++ sn2) (fun b hb=>List.mem_append_right _ hb) Hup.out (Hab.out.mono (fun b hb=>List.mem_append_left _ hb));obtain ⟨Hu2,Hb2⟩:=as2_ hu2 hb2;clear hu2 hb2
    go_roundg (n - (k + 1))
    case measure=>have:=Hkq.out;have:=Hlt.out;omega
    case rel=>exact ⟨k + 1,ck2,es2,sn1 ++ sn2,m2,ms2,⟨Hlt.out⟩,by go_num,⟨rfl⟩,HM2,Hb2,⟨by have e7:=Hak.out;rw [Hav.out] at e7;rw [e7,List.length_append,List.length_map,List.length_singleton,take_succ_get Hdk.out,List.foldl_append];have e9:d=(x.name,d.2):=Prod.ext Hdn.out rfl;have h9:=(upd_ins (foldl_ins_rising (ds.take (allKids xs (defs.take k)).length) List.Pairwise.nil) HI.out (by rw [← HB.out.nm];exact HM.out.names) Hu2.out).2;rw [← e9] at h9;exact h9⟩,⟨by have:=Hup.out.len;have:=Hml.out;omega⟩,⟨ge_app Hge.out Hgs.out⟩,⟨fun e=>offG_append (Hof.out e) (Hos.out e)⟩,⟨at_⟩⟩
   ·have hav:argv xs x=x.dflt:=argv_none hno _;have Hav:=asd_ hav;clear hav hno
    rcases Hfb.out with ⟨hd0,rfl⟩|⟨y,gv,hd1,rfl,hvb⟩
    ·rw [hd0] at Hav;clear hd0
     go_wp2_with fail
     go_roundg (n - (k + 1))
     case measure=>have:=Hkq.out;have:=Hlt.out;omega
     case rel=>exact ⟨k + 1,ck,es,sn2,m,ms,⟨Hlt.out⟩,by go_num,⟨rfl⟩,HM,HB,⟨by have e7:=Hak.out;rw [Hav.out] at e7;rw [e7,List.map_nil,List.append_nil];exact HI.out⟩,⟨by have:=Hml.out;omega⟩,Hgs,Hos,⟨at_⟩⟩
    ·rw [hd1] at Hav;have hfy:=Hf2.out y (by rw [hd1];exact List.mem_singleton.2 rfl);obtain ⟨Hfy,Hvb⟩:=as2_ hfy hvb;clear hfy hvb hd1
     have hpk:(allKids xs defs)[(allKids xs (defs.take k)).length]? =some (x.name,y):=by rw [Hpre.out,Hav.out,List.append_assoc,List.getElem?_append_right (Nat.le_refl _),Nat.sub_self];rfl
     obtain ⟨d,hdk⟩:∃ d,ds[(allKids xs (defs.take k)).length]? =some d:=⟨_,List.getElem?_eq_getElem (by rw [Hld_.out];exact (List.getElem?_eq_some_iff.1 hpk).1)⟩
     have hdn:=Hdn_.out _ _ d hpk hdk;have hv9:=Hvd_.out _ _ d hpk hdk;obtain ⟨Hdk,Hdn,Hv9⟩:=as3_ hdk hdn hv9;clear hpk hdk hdn hv9
     go_wp2_with fail
     have Hi2:=asd_ (fun {w}=>va_all Hv9.out Hfy.out.1 Hfy.out.2 (w:=w));have Hv2:=asd_ Hvb.out
     refine (Hi2.out (below_step HW_.out be_) (Hk_.out.below be_) Hv2.out).mono ?_
     rintro _ w9 ⟨a,sn1,rfl,hab,hks,hnd,hge,hof,hb⟩
     have HK9:Aside0 (At w (.b gm (.map es ck)::(sn1 ++ sn2)) w9):=⟨At.behind [.b gm (.map es ck)] (At.came_all (l:=(.b gm (.map es ck)::sn2)) at_ hb hks hnd hge)⟩
     have Hge:Aside0 (∀ g∈nums sn1,w.heap.size≤g):=⟨fun g hg=>Nat.le_trans (show Below w.heap.size w _ from be_).size (hge g hg)⟩
     have hone:=hab.one;obtain ⟨Hab,Hof⟩:=as2_ hab hof;clear HK hab hks hnd hge hof hb;have HK:=HK9;clear HK9
     clear hc0 hc1 hc2;have hc0:w9.cell? ⟨gA,k,none⟩=some (ptr g):=pw_cell_below HK.out.b Hcm.out;have hc1:w9.cell? ⟨g,1,none⟩=some (.string x.name):=pw_cell_below HK.out.b (by simp [World.cell?,Hqm.out,row]);have hc2:w9.cell? ⟨g,2,none⟩=some (ptr gv):=pw_cell_below HK.out.b (by simp [World.cell?,Hqm.out,row])
     go_wp2_with (first|(at_mapUpdate;refine meput_at 0 at_ rfl Ggm.out HM.out rfl rfl rfl Tryz.underlying81 rfl (Hfd_.out x (List.mem_of_getElem? Hx.out)).1 rfl rfl ?_;intro es2 ck2 m2 wm hup hm2 HE0;obtain ⟨Hup,HM2⟩:=as2_ hup hm2;have HK9:Aside0 (At w (.b gm (.map es2 ck2)::(sn1 ++ sn2)) wm):=asd_ HE0;clear HK HE0 hup hm2;have HK:=HK9;clear HK9;clear hc0 hc1 hc2;have hc0:wm.cell? ⟨gA,k,none⟩=some (ptr g):=pw_cell_below HK.out.b Hcm.out;have hc1:wm.cell? ⟨g,1,none⟩=some (.string x.name):=pw_cell_below HK.out.b (by simp [World.cell?,Hqm.out,row]);have hc2:wm.cell? ⟨g,2,none⟩=some (ptr gv):=pw_cell_below HK.out.b (by simp [World.cell?,Hqm.out,row])))
     obtain ⟨ms2,hu2,hb2⟩:=HB.out.upd (sn':=sn1 ++ sn2) (fun b hb=>List.mem_append_right _ hb) Hup.out (Hab.out.mono (fun b hb=>List.mem_append_left _ hb));obtain ⟨Hu2,Hb2⟩:=as2_ hu2 hb2;clear hu2 hb2
     go_roundg (n - (k + 1))
     case measure=>have:=Hkq.out;have:=Hlt.out;omega
     case rel=>exact ⟨k + 1,ck2,es2,sn1 ++ sn2,m2,ms2,⟨Hlt.out⟩,by go_num,⟨rfl⟩,HM2,Hb2,⟨by have e7:=Hak.out;rw [Hav.out] at e7;rw [e7,List.length_append,List.length_map,List.length_singleton,take_succ_get Hdk.out,List.foldl_append];have e9:d=(x.name,d.2):=Prod.ext Hdn.out rfl;have h9:=(upd_ins (foldl_ins_rising (ds.take (allKids xs (defs.take k)).length) List.Pairwise.nil) HI.out (by rw [← HB.out.nm];exact HM.out.names) Hu2.out).2;rw [← e9] at h9;exact h9⟩,⟨by have:=Hup.out.len;have:=Hml.out;omega⟩,⟨ge_app Hge.out Hgs.out⟩,⟨fun e=>offG_append (Hof.out e) (Hos.out e)⟩,⟨at_⟩⟩
abbrev defC (vd:Value):Array Value:=#[eS,eS,vd,nP,nP,nilS,nP,nP,nP]
abbrev fldC (va:Value) (gd:Nat):Array Value:=#[eS,eS,va,nilS,nilS,nP,nP,ptr gd,nP]
theorem argumentMap_ok {w:World} {x:Dt} {gf gd:Nat} {va vd:Value} (hgf:w.heap[gf]? =some (row (fldC va gd) 76)) (hgd:w.heap[gd]? =some (row (defC vd) 71)) (hc:∀ W,Below w.heap.size w W→Calls Tryz.prog 42 #[vd,va,nM] W (VM x W)):
  Calls Tryz.prog 21 #[ptr gf,nM] w (VM x w):=by
 obtain ⟨Hc,Hgf,Hgd⟩:=as3_ hc hgf hgd;clear hc hgf hgd;have HK:=st0_ w
 have bgf:=cel_ (blk_below Hgf.out HK.out.b);have bgd:=cel_ (blk_below Hgd.out HK.out.b)
 go_enter Tryz.func21,Tryz.ntmps21
 go_wp2_with fail
 refine st_ 14 (fun w'=>At w [] w'∧(∀ j,w'.cell? ⟨gf,j,none⟩=(fldC va gd)[j]?)∧(∀ j,w'.cell? ⟨gd,j,none⟩=(defC vd)[j]?)) [12] (fun A=>⟨A,(cel_ (blk_below Hgf.out A.b)),(cel_ (blk_below Hgd.out A.b))⟩) (fun hHeld=> ?_)
 refine pu_ 0 10 1 ?_
 refine pu_ 1 11 3 ?_
 refine pu_ 2 12 7 ?_
 refine pu_ 7 17 135 ?_
 refine pu_ 8 18 391 ?_
 refine pu_ 9 19 903 ?_
 refine pu_ 11 21 2951 ?_
 refine ta3_ 3 13 2959 hHeld ?_
 refine pu_ 4 14 2975 ?_
 refine pu_ 5 15 3007 ?_
 refine ta3_ 6 16 3071 hHeld ?_
 refine ta3_ 10 20 4095 hHeld ?_
 refine la_ 12 22 8191 (fun K hK=> ?_)
 have HE:=asd_ (hHeld.1)
 refine ge_ Tryz.func42 #[vd,va,nM] ?_
 with_reducible refine (Hc.out _ HE.out.b).mono ?_
 rintro _ w3 ⟨gm,sn1,rfl,hab,hks,hnd,hge,hof,hb⟩
 refine ⟨_,rfl,?_⟩
 have HE1:Aside0 (At w (sn1 ++ []) w3):=⟨At.came_all HE.out hb hks hnd hge⟩;have Hge:Aside0 (∀ g∈nums sn1,w.heap.size≤g):=⟨fun g hg=>Nat.le_trans HE.out.b.size (hge g hg)⟩;obtain ⟨Hab,Hof⟩:=as2_ hab hof;clear hab hks hnd hge hof hb
 clear HE;have HE:=HE1;clear HE1
 refine hK.out _ _ ?_
 clear hK K
 refine nq_ 22 ?_
 refine pu_ 13 4 16383 ?_
 refine done_ kr_ ?_
 clear HK;have HK:=HE;clear HE
 clear hHeld
 clear bgf bgd
 go_wp2_with fail
 exact bodyPost_ret (v:= .map (some gm)) (by simp [results,Tryz.results21,go_sem]) rfl (VM.made [] rfl Hab.out Hge.out Hof.out ((show At w (sn1 ++ []) _ from at_).perm (by simp)))
theorem newMaker_ok (w:World):Calls Tryz.prog 16 #[] w fun e w'=>∃ gm gs,e= .returned (.pointer (some ⟨gm,0,none⟩))∧At w [.f (Fact.maker w.heap.size gm gs)] w':=by
 have HK:=st0_ w
 go_enter Tryz.func16,Tryz.ntmps16
 go_wp2_with (first|((with_reducible refine gd_ 2 ?_);refine bx_ #[eS,eS,bF] 102 ?_;clear HK;intro gs wb2 HK Ggs;replace Bc:=ce1_ HK 0;replace Bf:=fe1_ HK 0)|((with_reducible refine gd_ 4 ?_);refine bx_ #[.pointer (some ⟨gs,0,none⟩),.int .i64 0,.bool false] 79 ?_;clear HK;intro gm wb4 HK Ggm;replace Bc:=ce2_ HK 1 0;replace Bf:=fe2_ HK 1 0))
 go_ret
 exact ⟨gm,gs,rfl,((show At w [.b gm (row (#[.pointer (some ⟨gs,0,none⟩),.int .i64 0,.bool false]) 79),.b gs (row (#[eS,eS,bF]) 102)] _ from at_).sub (List.Sublist.cons_cons _ (List.Sublist.cons _ (List.Sublist.refl _)))).unsee Ggm.out⟩
end Go.Proofs.YtlblbefbbibpaaaGreatDoor.J
