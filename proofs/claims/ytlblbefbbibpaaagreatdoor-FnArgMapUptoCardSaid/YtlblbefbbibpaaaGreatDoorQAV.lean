/- Part. -/
import Derived.Test.YtlblbefbbibpaaaGreatDoorQAU
set_option linter.unusedVariables false
set_option linter.unusedSimpArgs false
set_option maxHeartbeats 8000000
set_option maxRecDepth 100000
namespace Go.Proofs.YtlblbefbbibpaaaGreatDoor.J
open Go.RowKit Zw Zw.PrintWords Zw.PrintLast Zw.PrintMore PAM
theorem dirs_ok {w0 w:World} {l:List Blk} {gm gs:Nat} (H:At w0 (.f (Fact.maker w0.heap.size gm gs)::l) w) (hl:Clean l) {A:Option Addr} {n c:Nat} {xs:List Dr} (hC:kDr.C w0 A n xs) (hL:n≤1048576) (hs:SmD xs) (hf:∀ d∈xs,FitK d.2):
  Calls Tryz.prog 39 #[.pointer (some ⟨gm,0,none⟩),.slice A n c] w (MadeV w0 l gm gs (fun v _=>∃ A n c,v= .slice A n c)):=by
 obtain ⟨Hl_,HC_,HL_,Hs_,Hf_⟩:=as5_ hl hC hL hs hf;clear hl hC hL hs hf
 have Hn:Aside0 (n=xs.length):=⟨HC_.out.1.symm⟩
 have HK:=asd_ H
 clear H
 go_enter Tryz.func39,Tryz.ntmps39
 go_wp2_with fail
 go_loopg [5,10] n (fun kq cv i w'=>∃ (k:Nat) (pr sn:List Blk) (ps cs:List Nat),Aside0 (k≤n)∧i= .int .i64 k∧Aside0 (kq=n - k)∧Aside0 (PR w0.heap.size pr 136 1 cv k (ps.map ptr))∧Aside0 (True)∧Aside0 (Clean sn)∧Aside0 (At w0 (.f (Fact.maker w0.heap.size gm gs)::(pr ++ (sn ++ l))) w'))
 case atStart=>exact ⟨0,[],[],[],[],⟨Nat.zero_le _⟩,rfl,⟨rfl⟩,⟨PR.none_ _ _ _⟩,⟨trivial⟩,⟨Clean.nil⟩,⟨(show At w0 (.f (Fact.maker w0.heap.size gm gs)::l) _ from at_)⟩⟩
 case round=>
  clear HK
  obtain ⟨k,pr,sn,ps,cs,Hk,rfl,Hkq,HP,HI,Hcs,HK⟩:=hrel;have HPc:=asd_ (HP.out.clean (by decide))
  obtain ⟨Ac,cc,e8,hcc8⟩:=HP.out.slice;subst e8;clear hcc8
  by_cases hlt:k < n
  case neg=>
   have hd:decide (k < n)=false:=decide_eq_false hlt;have Hlt:=asd_ hlt;clear hlt
   go_wp2_with fail
   go_ret
   have e9:k=xs.length:=(by have:=Hlt.out;have:=Hk.out;have:=Hn.out;omega)
   exact ⟨_,pr ++ sn,rfl,⟨_,_,_,rfl⟩,Clean.app HPc.out Hcs.out,(by rw [List.append_assoc];exact at_)⟩
  case pos=>
   have hd:decide (k < n)=true:=decide_eq_true hlt;have Hlt:=asd_ hlt;clear hlt
   have hi0:(0:Int)≤(k:Int):=(by omega);have hi1:(k:Int) < (n:Int):=(by have:=Hlt.out;omega);have hs1:IntKind.i64.wrap ((k:Int) + 1)=(k:Int) + 1:=IntWalk.i64_in _ (by have:=Hlt.out;have:=HL_.out;omega)
   obtain ⟨ad,nm,l2,A2,c2,hA,hx,h0,h1,hl2,hC2⟩:=at_Dr HC_.out k Hlt.out
   subst hA
   have hmem:=List.mem_of_getElem? hx;obtain ⟨Hx,Hmem,Hl2,HC2⟩:=as4_ hx hmem hl2 hC2;clear hmem hx hl2 hC2
   obtain ⟨C0,C1⟩:=as2_ h0 h1;clear h0 h1
   replace Bx:=xc2_ HK.out.b C0 C1
   go_wp2_with (first|((with_reducible refine gd_ 7 ?_);refine bx_ #[eS,nilS] 122 ?_;clear HK;intro ge wb7 HK Gge;replace Bc:=ce1_ HK 0;replace Bf:=fe1_ HK 0;replace Bx:=xc2_ HK.out.b C0 C1)|((with_reducible refine gate_ (.store 122 (.tmp 7) (.tmp 13)) rfl ?_);refine storerow_at (cs:=#[eS,nilS]) (g:=ge) 0 (#[.string nm,.slice A2 l2.length c2]) at_ rfl Gge.out rfl rfl rfl rfl rfl rfl kr_ rfl (by simp [Value.oneCell']) ?_;intro wr1 HK1;replace HK:=asd_ HK1;clear HK1;replace Bc:=ce1_ HK 0;replace Bf:=fe1_ HK 0;replace Bx:=xc2_ HK.out.b C0 C1))
   have Hfv:Aside0 (FitK l2):=⟨Hf_.out _ Hmem.out⟩;have Hsv:Aside0 (SmK l2):=⟨(Hs_.out.2 _ Hmem.out).2⟩;have Hlv:Aside0 (l2.length≤1048576):=⟨Hsv.out.1⟩
   refine su1_ 14 HK 0 [12] (fun HS hHeld=> ?_)
   refine pu_ 0 14 1 ?_
   refine pu_ 1 15 3 ?_
   refine pu_ 3 17 11 ?_
   refine pu_ 4 18 27 ?_
   refine pu_ 7 21 155 ?_
   refine ta2_ 2 16 159 hHeld ?_
   refine ta2_ 5 19 191 hHeld ?_
   refine on_ 6 20 255 (fun K hK=> ?_)
   have HE:=asd_ (hHeld.1)
   refine ge_ Tryz.func17 #[.pointer (some ⟨gm,0,none⟩),.slice A2 l2.length c2] ?_
   with_reducible refine (args_ok (l:=(.b ge (row (#[.string nm,.slice A2 l2.length c2]) 122)::(pr ++ (sn ++ l)))) (At.front 1 HE.out rfl) (by repeat (first|exact Hl_.out|exact Hcf.out|exact Clean.nil|exact HPc.out|exact Hcs.out|(apply Clean.app)|(refine Clean.cons ?_ (by decide)))) HC2.out Hlv.out Hsv.out Hfv.out).mono ?_
   rintro e w3 ⟨va,snc,rfl,hq,hc,HE9⟩
   refine ⟨_,rfl,?_⟩
   obtain ⟨b9,pr9,ps9,cs9,hP9,-,-⟩:=hq
   obtain ⟨Aa,ca,e7,e6⟩:=hP9.slice
   subst e7
   clear hP9 e6 hc
   have HE1:Aside0 (At w0 (.b ge (row (#[.string nm,.slice A2 l2.length c2]) 122):: .f (Fact.maker w0.heap.size gm gs)::(pr ++ (sn ++ l))) _):=asd_ (At.back0 [.b ge (row (#[.string nm,.slice A2 l2.length c2]) 122)] HE9)
   clear HE9
   clear HE;have HE:=HE1;clear HE1
   refine hK.out _ _ (HS (At.sub HE.out (List.Sublist.cons_cons _ (List.Sublist.cons_cons _ (List.Sublist.refl _))))) (fun hHeld=> ?_)
   clear hK K
   refine nq_ 20 ?_
   refine on_ 8 22 511 (fun K hK=> ?_)
   refine ge_ Tryz.func36 #[.pointer (some ⟨gm,0,none⟩)] ?_
   with_reducible refine (pos_ok (l:=(.b ge (row (#[.string nm,.slice A2 l2.length c2]) 122)::(pr ++ (sn ++ l)))) (At.front 1 HE.out rfl) (by repeat (first|exact Hl_.out|exact Hcf.out|exact Clean.nil|exact HPc.out|exact Hcs.out|(apply Clean.app)|(refine Clean.cons ?_ (by decide))))).mono ?_
   rintro e w3 ⟨gq,snq,rfl,-,hc,HE9⟩
   refine ⟨_,rfl,?_⟩
   clear hc
   have HE1:Aside0 (At w0 (.b ge (row (#[.string nm,.slice A2 l2.length c2]) 122):: .f (Fact.maker w0.heap.size gm gs)::(pr ++ (sn ++ l))) _):=asd_ (At.back0 [.b ge (row (#[.string nm,.slice A2 l2.length c2]) 122)] HE9)
   clear HE9
   clear HE;have HE:=HE1;clear HE1
   refine hK.out _ _ (HS (At.sub HE.out (List.Sublist.cons_cons _ (List.Sublist.cons_cons _ (List.Sublist.refl _))))) (fun hHeld=> ?_)
   clear hK K
   refine nq_ 22 ?_
   refine pu_ 9 23 1023 ?_
   refine on_ 10 24 2047 (fun K hK=> ?_)
   refine ne_ 24 (row #[.string nm,.slice Aa l2.length ca,ptr gq,nP,nP,eS] 140) (fun g=> .pointer (some ⟨g,0,none⟩)) ?_
   intro gk w3 HE0 hggk
   have Ggk:=asd_ hggk
   clear hggk
   replace HE:=asd_ HE0;clear HE0
   refine hK.out _ _ (HS (At.sub HE.out (List.Sublist.cons _ (List.Sublist.cons_cons _ (List.Sublist.cons_cons _ (List.Sublist.refl _)))))) (fun hHeld=> ?_)
   clear hK K
   refine nq_ 24 ?_
   refine on_ 11 25 4095 (fun K hK=> ?_)
   refine ne_ 25 (row #[ptr gk] 136) (fun g=> .slice (some ⟨g,0,none⟩) 1 1) ?_
   intro gl w3 HE0 hggl
   have Ggl:=asd_ hggl
   clear hggl
   replace HE:=asd_ HE0;clear HE0
   refine hK.out _ _ (HS (At.sub HE.out (List.Sublist.cons _ (List.Sublist.cons _ (List.Sublist.cons_cons _ (List.Sublist.cons_cons _ (List.Sublist.refl _))))))) (fun hHeld=> ?_)
   clear hK K
   refine nq_ 25 ?_
   refine la_ 12 26 8191 (fun K hK=> ?_)
   refine appendpr_ (L:=[.b gk (row #[.string nm,.slice Aa l2.length ca,ptr gq,nP,nP,eS] 140),.b ge (row (#[.string nm,.slice A2 l2.length c2]) 122),.f (Fact.maker w0.heap.size gm gs)]) (pr:=pr) (T:=(sn ++ l)) (kc:=#[ptr gk]) (sz:=1) (e:=136) (At.front 0 HE.out rfl) ⟨maker_stays (by decide),(Hcs.out.app Hl_.out).offG 136⟩ HP.out (by rfl) rfl Tryz.underlying67 info136 rfl (by decide) rfl (by simp [Value.oneCell']) rfl rfl (by have:=Hlt.out;have:=HL_.out;omega) (by have:=Hlt.out;have:=HL_.out;omega) ?_
   intro pr2 g2 c2_ w3 HP2 HE0
   have HP2:=asd_ HP2
   have HE1:Aside0 (At w0 (.b gk (row #[.string nm,.slice Aa l2.length ca,ptr gq,nP,nP,eS] 140):: .b ge (row (#[.string nm,.slice A2 l2.length c2]) 122):: .f (Fact.maker w0.heap.size gm gs)::(pr2 ++ (sn ++ l))) _):=asd_ HE0
   clear HE0
   clear HE;have HE:=HE1;clear HE1
   refine hK.out _ _ ?_
   clear hK K
   refine nq_ 26 ?_
   refine pu_ 13 5 16383 ?_
   refine done_ kr_ ?_
   clear HK;have HK:=HE;clear HE
   clear hHeld
   replace Bc:=ce1_ HK 1
   replace Bf:=fe1_ HK 1
   go_wp2_with fail
   go_roundg (n - (k + 1))
   case measure=>have:=Hkq.out;have:=Hlt.out;omega
   case rel=>exact ⟨k + 1,pr2,sn,ps ++ [gk],cs,⟨Hlt.out⟩,by go_num,⟨rfl⟩,⟨by rw [List.map_append];exact HP2.out⟩,⟨trivial⟩,Hcs,⟨At.sub (show At w0 (.b gk (row #[.string nm,.slice Aa l2.length ca,ptr gq,nP,nP,eS] 140):: .b ge (row (#[.string nm,.slice A2 l2.length c2]) 122):: .f (Fact.maker w0.heap.size gm gs)::(pr2 ++ (sn ++ l))) _ from at_) (List.Sublist.cons _ (List.Sublist.cons _ (List.Sublist.refl _)))⟩⟩
theorem typ_nm {w0 w:World} {l:List Blk} {gm gs:Nat} (H:At w0 (.f (Fact.maker w0.heap.size gm gs)::l) w) (hl:Clean l) {A:Option Addr} {c:Nat} {nm:ByteArray} {nn:Bool} (hn:nm.toList≠[]):
  Calls Tryz.prog 37 #[.pointer (some ⟨gm,0,none⟩),.agg #[.string nm,.slice A 0 c,.bool nn]] w (Made w0 l gm gs (fun _ _=>True)):=by
 obtain ⟨h0,ln,H1⟩:=H.see hl.offF;obtain ⟨H0_,Hl_⟩:=as2_ h0 hl;clear H h0 hl
 have f0:nm.toList.isEmpty=false:=(by cases h:nm.toList with|nil=>exact absurd h hn|cons a b=>rfl);clear hn
 have HK:=asd_ H1
 clear H1
 replace Bc:=ce1_ HK 0;replace Bf:=fe1_ HK 0
 go_enter Tryz.func37,Tryz.ntmps37
 go_wp2_with (first|((with_reducible refine gd_ 3 ?_);refine bx_ #[.string nm,.slice A 0 c,.bool nn] 41 ?_;clear HK;intro gv wb3 HK Ggv;replace Bc:=ce2_ HK 1 0;replace Bf:=fe1_ HK 1)|((with_reducible refine gate_ (.store 4 (.tmp 28) (.tmp 26)) rfl ?_);refine set79_at (t:=4) (p:=28) (i:=2) (v:= .bool false) (mk3 gs ln) rfl (At.front 1 HK.out rfl) ⟨(by decide),Hl_.out.offF⟩ H0_.out rfl rfl rfl gs_ ?_;intro ws HK1;have HK2:Aside0 (At w0 (.b gv (row (#[.string nm,.slice A 0 c,.bool nn]) 41):: .f (Fact.maker w0.heap.size gm gs)::l) ws):=⟨At.front 1 (At.unsee HK1 H0_.out) rfl⟩;clear HK HK1;have HK:=HK2;clear HK2;replace Bc:=ce1_ HK 0))
 refine su1_ 9 HK 0 [] (fun HS hHeld=> ?_)
 refine pu_ 0 29 1 ?_
 refine pu_ 2 31 5 ?_
 refine pu_ 4 33 21 ?_
 refine ta2_ 1 30 23 hHeld ?_
 refine ta2_ 3 32 31 hHeld ?_
 refine on_ 5 34 63 (fun K hK=> ?_)
 have HE:=asd_ (hHeld.1)
 refine ge_ Tryz.func36 #[.pointer (some ⟨gm,0,none⟩)] ?_
 with_reducible refine (pos_ok (l:=(.b gv (row (#[.string nm,.slice A 0 c,.bool nn]) 41)::l)) (At.front 1 HE.out rfl) (by repeat (first|exact Hl_.out|(refine Clean.cons ?_ (by decide))))).mono ?_
 rintro e w3 ⟨gq,snq,rfl,-,hc,HE9⟩
 refine ⟨_,rfl,?_⟩
 clear hc
 have HE1:Aside0 (At w0 (.b gv (row (#[.string nm,.slice A 0 c,.bool nn]) 41):: .f (Fact.maker w0.heap.size gm gs)::l) _):=asd_ (At.back0 [.b gv (row (#[.string nm,.slice A 0 c,.bool nn]) 41)] HE9)
 clear HE9
 clear HE;have HE:=HE1;clear HE1
 refine hK.out _ _ (HS (At.sub HE.out (List.Sublist.cons_cons _ (List.Sublist.cons_cons _ (List.Sublist.refl _))))) (fun hHeld=> ?_)
 clear hK K
 refine nq_ 34 ?_
 refine pu_ 6 35 127 ?_
 refine on_ 7 36 255 (fun K hK=> ?_)
 refine ne_ 36 (row #[.string nm,nP,.bool nn,ptr gq] 135) (fun g=> .pointer (some ⟨g,0,none⟩)) ?_
 intro gx w3 HE0 hggx
 have Ggx:=asd_ hggx
 clear hggx
 replace HE:=asd_ HE0;clear HE0
 refine hK.out _ _ (HS (At.sub HE.out (List.Sublist.cons _ (List.Sublist.cons_cons _ (List.Sublist.cons_cons _ (List.Sublist.refl _)))))) (fun hHeld=> ?_)
 clear hK K
 refine nq_ 36 ?_
 refine pu_ 8 5 511 ?_
 refine done_ kr_ ?_
 clear HK;have HK:=HE;clear HE
 clear hHeld
 replace Bc:=ce2_ HK 1 0
 replace Bf:=fe1_ HK 0
 go_wp2_with fail
 go_ret
 exact ⟨gx,[],rfl,trivial,Clean.nil,At.sub (show At w0 (.b gx (row #[.string nm,nP,.bool nn,ptr gq] 135):: .b gv (row (#[.string nm,.slice A 0 c,.bool nn]) 41):: .f (Fact.maker w0.heap.size gm gs)::l) _ from at_) (List.Sublist.cons _ (List.Sublist.cons _ (List.Sublist.refl _)))⟩
theorem typ_el {y:S41} (ih:∀ {w0 w:World} {l:List Blk} {gm gs:Nat},At w0 (.f (Fact.maker w0.heap.size gm gs)::l) w→Clean l→∀ {A:Option Addr} {c:Nat},k41.C w0 A y.f1.length y.f1→y.f1.length≤c→Calls Tryz.prog 37 #[.pointer (some ⟨gm,0,none⟩),.agg #[.string y.f0,.slice A y.f1.length c,.bool y.f2]] w (Made w0 l gm gs (fun _ _=>True))) {w0 w:World} {l:List Blk} {gm gs:Nat} (H:At w0 (.f (Fact.maker w0.heap.size gm gs)::l) w) (hl:Clean l) {A:Option Addr} {c:Nat} {nm:ByteArray} {nn:Bool} (hn:nm.toList=[]) (hC:k41.C w0 A 1 [y]):
  Calls Tryz.prog 37 #[.pointer (some ⟨gm,0,none⟩),.agg #[.string nm,.slice A 1 c,.bool nn]] w (Made w0 l gm gs (fun _ _=>True)):=by
 obtain ⟨h0,ln,H1⟩:=H.see hl.offF;obtain ⟨H0_,Hl_⟩:=as2_ h0 hl;clear H h0 hl
 have f0:(nm.toList=[])=True:=eq_true hn;have f1:nm.toList.isEmpty=true:=(by rw [hn];rfl);clear hn;have Hih:Aside0 (∀ {w0 w:World} {l:List Blk} {gm gs:Nat},At w0 (.f (Fact.maker w0.heap.size gm gs)::l) w→Clean l→∀ {A:Option Addr} {c:Nat},k41.C w0 A y.f1.length y.f1→y.f1.length≤c→Calls Tryz.prog 37 #[.pointer (some ⟨gm,0,none⟩),.agg #[.string y.f0,.slice A y.f1.length c,.bool y.f2]] w (Made w0 l gm gs (fun _ _=>True))):=⟨ih⟩;clear ih
 have HC_:=asd_ hC;clear hC;obtain ⟨ad,A1,c1,hA,h0,h1,h2,hl1,hC1⟩:=at_T41 HC_.out 0 (by omega) (by decide)
 subst hA;have e0:ad.add ((0:Int).toNat * 3)=ad:=(by simp [Addr.add]);have e1:rd_T41 [y] 0=y:=rfl;rw [e0,e1] at h0 h1 h2;rw [e1] at hl1 hC1;clear e0 e1
 obtain ⟨C0,C1,C2,Hl1,HC1⟩:=as5_ h0 h1 h2 hl1 hC1;clear h0 h1 h2 hl1 hC1
 have HK:=asd_ H1
 clear H1
 replace Bc:=ce1_ HK 0;replace Bf:=fe1_ HK 0
 go_enter Tryz.func37,Tryz.ntmps37
 go_wp2_with (first|((with_reducible refine gd_ 3 ?_);refine bx_ #[.string nm,.slice (some ad) 1 c,.bool nn] 41 ?_;clear HK;intro gv wb3 HK Ggv;replace Bc:=ce2_ HK 1 0;replace Bf:=fe1_ HK 1;replace Bx:=xc3_ HK.out.b C0 C1 C2)|((with_reducible refine gate_ (.store 4 (.tmp 28) (.tmp 26)) rfl ?_);refine set79_at (t:=4) (p:=28) (i:=2) (v:= .bool false) (mk3 gs ln) rfl (At.front 1 HK.out rfl) ⟨(by decide),Hl_.out.offF⟩ H0_.out rfl rfl rfl gs_ ?_;intro ws HK1;have HK2:Aside0 (At w0 (.b gv (row (#[.string nm,.slice (some ad) 1 c,.bool nn]) 41):: .f (Fact.maker w0.heap.size gm gs)::l) ws):=⟨At.front 1 (At.unsee HK1 H0_.out) rfl⟩;clear HK HK1;have HK:=HK2;clear HK2;replace Bc:=ce1_ HK 0;replace Bx:=xc3_ HK.out.b C0 C1 C2))
 refine su1_ 9 HK 0 [] (fun HS hHeld=> ?_)
 refine pu_ 0 29 1 ?_
 refine pu_ 2 31 5 ?_
 refine pu_ 4 33 21 ?_
 refine ta2_ 1 30 23 hHeld ?_
 refine ta2_ 3 32 31 hHeld ?_
 refine on_ 5 34 63 (fun K hK=> ?_)
 have HE:=asd_ (hHeld.1)
 refine ge_ Tryz.func36 #[.pointer (some ⟨gm,0,none⟩)] ?_
 with_reducible refine (pos_ok (l:=(.b gv (row (#[.string nm,.slice (some ad) 1 c,.bool nn]) 41)::l)) (At.front 1 HE.out rfl) (by repeat (first|exact Hl_.out|(refine Clean.cons ?_ (by decide))))).mono ?_
 rintro e w3 ⟨gq,snq,rfl,-,hc,HE9⟩
 refine ⟨_,rfl,?_⟩
 clear hc
 have HE1:Aside0 (At w0 (.b gv (row (#[.string nm,.slice (some ad) 1 c,.bool nn]) 41):: .f (Fact.maker w0.heap.size gm gs)::l) _):=asd_ (At.back0 [.b gv (row (#[.string nm,.slice (some ad) 1 c,.bool nn]) 41)] HE9)
 clear HE9
 clear HE;have HE:=HE1;clear HE1
 refine hK.out _ _ (HS (At.sub HE.out (List.Sublist.cons_cons _ (List.Sublist.cons_cons _ (List.Sublist.refl _))))) (fun hHeld=> ?_)
 clear hK K
 refine nq_ 34 ?_
 refine pu_ 6 35 127 ?_
 refine on_ 7 36 255 (fun K hK=> ?_)
 refine ne_ 36 (row #[.string nm,nP,.bool nn,ptr gq] 135) (fun g=> .pointer (some ⟨g,0,none⟩)) ?_
 intro gx w3 HE0 hggx
 have Ggx:=asd_ hggx
 clear hggx
 replace HE:=asd_ HE0;clear HE0
 refine hK.out _ _ (HS (At.sub HE.out (List.Sublist.cons _ (List.Sublist.cons_cons _ (List.Sublist.cons_cons _ (List.Sublist.refl _)))))) (fun hHeld=> ?_)
 clear hK K
 refine nq_ 36 ?_
 refine pu_ 8 5 511 ?_
 refine done_ kr_ ?_
 clear HK;have HK:=HE;clear HE
 clear hHeld
 replace Bc:=ce2_ HK 1 0
 replace Bf:=fe1_ HK 0
 have x0:=pw_cell_below HK.out.b C0.out
 have x1:=pw_cell_below HK.out.b C1.out
 have x2:=pw_cell_below HK.out.b C2.out
 go_wp2_with fail
 refine (Hih.out (At.front 2 (show At w0 (.b gx (row #[.string nm,nP,.bool nn,ptr gq] 135):: .b gv (row (#[.string nm,.slice (some ad) 1 c,.bool nn]) 41):: .f (Fact.maker w0.heap.size gm gs)::l) _ from at_) rfl) (by repeat (first|exact Hl_.out|(refine Clean.cons ?_ (by decide)))) HC1.out Hl1.out).mono ?_
 rintro _ w9 ⟨gy,sny,rfl,-,hc,HE9⟩
 have HK9:Aside0 (At w0 (.b gx (row #[.string nm,nP,.bool nn,ptr gq] 135):: .b gv (row (#[.string nm,.slice (some ad) 1 c,.bool nn]) 41):: .f (Fact.maker w0.heap.size gm gs)::l) w9):=⟨At.back0 [.b gx (row #[.string nm,nP,.bool nn,ptr gq] 135),.b gv (row (#[.string nm,.slice (some ad) 1 c,.bool nn]) 41)] HE9⟩;clear HK hc HE9;have HK:=HK9;clear HK9
 replace Bc:=ce2_ HK 1 0;replace Bf:=fe1_ HK 0
 go_wp2_with (first|((with_reducible refine gate_ (.store 65 (.tmp 49) (.tmp 47)) rfl ?_);refine store_at (t:=65) (p:=49) (g:=gx) (i:=1) (v:=ptr gy) 0 (#[.string nm,ptr gy,.bool nn,ptr gq]) rfl at_ rfl Ggx.out rfl rfl rfl rfl gs_ ?_;intro ws1 HK1;replace HK:=asd_ HK1;clear HK1;replace Bc:=ce2_ HK 1 0;replace Bf:=fe1_ HK 0))
 go_ret
 exact ⟨gx,[],rfl,trivial,Clean.nil,At.sub (show At w0 (.b gx (row (#[.string nm,ptr gy,.bool nn,ptr gq]) 135):: .b gv (row (#[.string nm,.slice (some ad) 1 c,.bool nn]) 41):: .f (Fact.maker w0.heap.size gm gs)::l) _ from at_) (List.Sublist.cons _ (List.Sublist.cons _ (List.Sublist.refl _)))⟩
theorem typ_ok {y:S41} (hf:TFit y):∀ {w0 w:World} {l:List Blk} {gm gs:Nat},At w0 (.f (Fact.maker w0.heap.size gm gs)::l) w→Clean l→∀ {A:Option Addr} {c:Nat},k41.C w0 A y.f1.length y.f1→y.f1.length≤c→Calls Tryz.prog 37 #[.pointer (some ⟨gm,0,none⟩),.agg #[.string y.f0,.slice A y.f1.length c,.bool y.f2]] w (Made w0 l gm gs (fun _ _=>True)):=by
 induction hf with
 | @nm x e hn=>
  intro w0 w l gm gs H hl A c hC hc
  obtain ⟨nm,f1,nn⟩:=x
  have e':f1=[]:=e
  subst e'
  exact typ_nm H hl hn
 | @el x y e hn hy ih=>
  intro w0 w l gm gs H hl A c hC hc
  obtain ⟨nm,f1,nn⟩:=x
  have e':f1=[y]:=e
  subst e'
  exact typ_el ih H hl hn hC
def DefB (sn:List Blk) (g:Nat) (x:ADef):Prop:=∃ vf vd gt gq,Blk.b g (row #[.string x.doc,.string x.name,vf,ptr gt,vd,ptr gq,nP,nP] 113)∈sn∧FirstB sn vf x.dflt
theorem DefB.mono {sn sn':List Blk} (h:∀ x∈sn,x∈sn') {g:Nat} {x:ADef} (hb:DefB sn g x):DefB sn' g x:=let ⟨vf,vd,gt,gq,h1,h2⟩:=hb;⟨vf,vd,gt,gq,h _ h1,h2.mono h⟩
structure DefsB (sn:List Blk) (ps:List Nat) (xs:List ADef) (k:Nat):Prop where
 lp:ps.length=k
 db:∀ (i g:Nat) (x:ADef),ps[i]? =some g→xs[i]? =some x→DefB sn g x
theorem DefsB.next {sn sn':List Blk} {ps:List Nat} {xs:List ADef} {k g:Nat} {x:ADef} (h:DefsB sn ps xs k) (hs:∀ b∈sn,b∈sn') (hx:xs[k]? =some x) (hk:DefB sn' g x):DefsB sn' (ps ++ [g]) xs (k + 1):=by
 obtain ⟨lp,db⟩:=h
 refine ⟨by simp [lp],fun i g' y h1 h3=> ?_⟩
 rcases Nat.lt_or_ge i k with h4|h4
 ·rw [List.getElem?_append_left (by omega)] at h1
  exact (db i g' y h1 h3).mono hs
 ·rw [List.getElem?_append_right (by omega)] at h1
  have:i - ps.length=0:=by
   rcases Nat.eq_zero_or_pos (i - ps.length) with h2|h2
   ·exact h2
   ·rw [List.getElem?_eq_none (by simp;omega)] at h1;cases h1
  rw [this] at h1
  obtain rfl:i=k:=by omega
  rw [hx] at h3
  cases h3
  obtain rfl:g=g':=by simpa using h1
  exact hk
def AdefsB (sn:List Blk) (v:Value) (xs:List ADef):Prop:=∃ (b:Nat) (pr:List Blk) (ps:List Nat),PR b pr 108 1 v xs.length (ps.map ptr)∧(∀ x∈pr,x∈sn)∧DefsB sn ps xs xs.length
theorem first_no {w0 w:World} {l:List Blk} {gm gs:Nat} (H:At w0 (.f (Fact.maker w0.heap.size gm gs)::l) w) {A:Option Addr} {c:Nat}:
  Calls Tryz.prog 38 #[.pointer (some ⟨gm,0,none⟩),.slice A 0 c] w (MadeV w0 l gm gs (fun v sn=>FirstB sn v [])):=by
 go_enter Tryz.func38,Tryz.ntmps38
 go_wp2_with fail
 go_ret
 exact ⟨nP,[],rfl,.inl ⟨rfl,rfl⟩,Clean.nil,H⟩
theorem first_one {w0 w:World} {l:List Blk} {gm gs:Nat} (H:At w0 (.f (Fact.maker w0.heap.size gm gs)::l) w) (hl:Clean l) {A:Option Addr} {c:Nat} {v:Vl} (hC:kVl.C w0 A 1 [v]) (hs:Sm v) (hf:Fit v):
  Calls Tryz.prog 38 #[.pointer (some ⟨gm,0,none⟩),.slice A 1 c] w (MadeV w0 l gm gs (fun u sn=>FirstB sn u [v])):=by
 obtain ⟨h0,ln,H1⟩:=H.see hl.offF;obtain ⟨H0_,Hl_,Hf_,Hs_⟩:=as4_ h0 hl hf hs;clear H h0 hl hf hs
 obtain ⟨ad,v',A2,c2,hA,hx,h2,h3,h4,hl2,hC2⟩:=at_Vl hC 0 (by decide)
 obtain rfl:v=v':=(by simpa using hx);clear hx hC;subst hA;have e0:ad.add (0 * 3)=ad:=(by simp [Addr.add]);rw [e0] at h2 h3 h4;clear e0;obtain ⟨Hl2,HC2,C0,C1,C2⟩:=as5_ hl2 hC2 h2 h3 h4;clear h2 h3 h4 hl2 hC2
 have HK:=asd_ H1
 clear H1
 replace Bc:=ce1_ HK 0;replace Bf:=fe1_ HK 0;replace Bx:=xc3_ HK.out.b C0 C1 C2
 go_enter Tryz.func38,Tryz.ntmps38
 go_wp2_with (first|((with_reducible refine gate_ (.store 4 (.tmp 19) (.tmp 17)) rfl ?_);refine set79_at (t:=4) (p:=19) (i:=2) (v:= .bool false) (mk3 gs ln) rfl HK.out Hl_.out.offF H0_.out rfl rfl rfl gs_ ?_;intro ws HK1;have HK2:Aside0 (At w0 (.f (Fact.maker w0.heap.size gm gs)::l) ws):=⟨At.unsee HK1 H0_.out⟩;clear HK HK1;have HK:=HK2;clear HK2;replace Bx:=xc3_ HK.out.b C0 C1 C2))
 refine (val_ok v Hf_.out Hs_.out (show At w0 (.f (Fact.maker w0.heap.size gm gs)::l) _ from at_) Hl_.out HC2.out Hl2.out).mono ?_
 rintro _ w9 ⟨gx,sn,rfl,hq,hc,HE9⟩;obtain ⟨Hq,Hc⟩:=as2_ hq hc;clear HK hq hc;have HK:=asd_ HE9;clear HE9
 go_wp2_with fail
 go_ret
 exact ⟨_,sn,rfl,.inr ⟨v,gx,rfl,rfl,Hq.out⟩,Hc.out,at_⟩
theorem first_ok {w0 w:World} {l:List Blk} {gm gs:Nat} (H:At w0 (.f (Fact.maker w0.heap.size gm gs)::l) w) (hl:Clean l) {A:Option Addr} {c:Nat} {xs:List Vl} (hC:kVl.C w0 A xs.length xs) (hn:xs.length≤1) (hs:∀ v∈xs,Sm v) (hf:∀ v∈xs,Fit v):
  Calls Tryz.prog 38 #[.pointer (some ⟨gm,0,none⟩),.slice A xs.length c] w (MadeV w0 l gm gs (fun u sn=>FirstB sn u xs)):=by
 match xs,hn with
 |[],_=>exact first_no H
 |[v],_=>exact first_one H hl hC (hs v (List.mem_singleton.2 rfl)) (hf v (List.mem_singleton.2 rfl))
theorem argDefs_ok {w0 w:World} {l:List Blk} {gm gs:Nat} (H:At w0 (.f (Fact.maker w0.heap.size gm gs)::l) w) (hl:Clean l) {A:Option Addr} {n c:Nat} {xs:List ADef} (hC:kAD.C w0 A n xs) (hL:n≤1048576) (hs:SmA xs) (hf:∀ a∈xs,FitA a):
  Calls Tryz.prog 18 #[.pointer (some ⟨gm,0,none⟩),.slice A n c] w (MadeV w0 l gm gs (fun v sn=>AdefsB sn v xs)):=by
 obtain ⟨Hl_,HC_,HL_,Hs_,Hf_⟩:=as5_ hl hC hL hs hf;clear hl hC hL hs hf
 have Hn:Aside0 (n=xs.length):=⟨HC_.out.1.symm⟩
 have HK:=asd_ H
 clear H
 go_enter Tryz.func18,Tryz.ntmps18
 go_wp2_with fail
 go_loopg [5,10] n (fun kq cv i w'=>∃ (k:Nat) (pr sn:List Blk) (ps cs:List Nat),Aside0 (k≤n)∧i= .int .i64 k∧Aside0 (kq=n - k)∧Aside0 (PR w0.heap.size pr 108 1 cv k (ps.map ptr))∧Aside0 (DefsB sn ps xs k)∧Aside0 (Clean sn)∧Aside0 (At w0 (.f (Fact.maker w0.heap.size gm gs)::(pr ++ (sn ++ l))) w'))
 case atStart=>exact ⟨0,[],[],[],[],⟨Nat.zero_le _⟩,rfl,⟨rfl⟩,⟨PR.none_ _ _ _⟩,⟨⟨rfl,fun _ _ _ h=>by simp at h⟩⟩,⟨Clean.nil⟩,⟨(show At w0 (.f (Fact.maker w0.heap.size gm gs)::l) _ from at_)⟩⟩
 case round=>
  clear HK
  obtain ⟨k,pr,sn,ps,cs,Hk,rfl,Hkq,HP,HI,Hcs,HK⟩:=hrel;have HPc:=asd_ (HP.out.clean (by decide))
  obtain ⟨Ac,cc,e8,hcc8⟩:=HP.out.slice;subst e8;clear hcc8
  by_cases hlt:k < n
  case neg=>
   have hd:decide (k < n)=false:=decide_eq_false hlt;have Hlt:=asd_ hlt;clear hlt
   go_wp2_with fail
   go_ret
   have e9:k=xs.length:=(by have:=Hlt.out;have:=Hk.out;have:=Hn.out;omega)
   exact ⟨_,pr ++ sn,rfl,⟨_,pr,ps,(by rw [← e9];exact HP.out),fun x hx=>List.mem_append_left _ hx,⟨e9 ▸ HI.out.lp,fun i g x a b=>(HI.out.db i g x a b).mono (fun x hx=>List.mem_append_right _ hx)⟩⟩,Clean.app HPc.out Hcs.out,(by rw [List.append_assoc];exact at_)⟩
  case pos=>
   have hd:decide (k < n)=true:=decide_eq_true hlt;have Hlt:=asd_ hlt;clear hlt
   have hi0:(0:Int)≤(k:Int):=(by omega);have hi1:(k:Int) < (n:Int):=(by have:=Hlt.out;omega);have hs1:IntKind.i64.wrap ((k:Int) + 1)=(k:Int) + 1:=IntWalk.i64_in _ (by have:=Hlt.out;have:=HL_.out;omega)
   obtain ⟨ad,x,A1,A2,A3,c1,c2,c3,hA,hx,h0,h1,h2,h3,h4,h5,h6,⟨hl1,hC1⟩,⟨hl2,hC2⟩,hl3,hC3⟩:=at_AD HC_.out k Hlt.out
   subst hA
   have hmem:=List.mem_of_getElem? hx;obtain ⟨Hx,Hmem,Hl1,HC1,Hl2,HC2,Hl3,HC3⟩:=as8_ hx hmem hl1 hC1 hl2 hC2 hl3 hC3;clear hmem hx hl1 hC1 hl2 hC2 hl3 hC3
   obtain ⟨C0,C1,C2,C3,C4,C5,C6⟩:=as7_ h0 h1 h2 h3 h4 h5 h6;clear h0 h1 h2 h3 h4 h5 h6
   replace Bx:=xc7_ HK.out.b C0 C1 C2 C3 C4 C5 C6
   go_wp2_with (first|((with_reducible refine gd_ 7 ?_);refine bx_ #[eS,eS,eS,nilS,bF,nilS,nilS] 45 ?_;clear HK;intro ge wb7 HK Gge;replace Bc:=ce1_ HK 0;replace Bf:=fe1_ HK 0;replace Bx:=xc7_ HK.out.b C0 C1 C2 C3 C4 C5 C6)|((with_reducible refine gate_ (.store 45 (.tmp 7) (.tmp 13)) rfl ?_);refine storerow_at (cs:=#[eS,eS,eS,nilS,bF,nilS,nilS]) (g:=ge) 0 (#[.string x.doc,.string x.name,.string x.t.f0,.slice A1 x.t.f1.length c1,.bool x.t.f2,.slice A2 x.dflt.length c2,.slice A3 x.dirs.length c3]) at_ rfl Gge.out rfl rfl rfl rfl rfl rfl kr_ rfl (by simp [Value.oneCell']) ?_;intro wr1 HK1;replace HK:=asd_ HK1;clear HK1;replace Bc:=ce1_ HK 0;replace Bf:=fe1_ HK 0;replace Bx:=xc7_ HK.out.b C0 C1 C2 C3 C4 C5 C6))
   have hf9:=Hf_.out _ Hmem.out;have hs9:=Hs_.out.2 _ Hmem.out;have Hft:Aside0 (TFit x.t):=⟨hf9.1⟩;have Hfd:Aside0 (∀ v∈x.dflt,Fit v):=⟨hf9.2.2.1⟩;have Hfl:Aside0 (x.dflt.length≤1):=⟨hf9.2.1⟩;have Hfr:Aside0 (∀ d∈x.dirs,FitK d.2):=⟨hf9.2.2.2⟩;have Hsd:Aside0 (∀ v∈x.dflt,Sm v):=⟨hs9.2.2.2.1.2⟩;have Hsr:Aside0 (SmD x.dirs):=⟨hs9.2.2.2.2⟩;have Hsl:Aside0 (x.dirs.length≤1048576):=⟨hs9.2.2.2.2.1⟩;clear hf9 hs9
   refine su1_ 24 HK 0 [22] (fun HS hHeld=> ?_)
   refine pu_ 0 14 1 ?_
   refine pu_ 1 15 3 ?_
   refine pu_ 3 17 11 ?_
   refine pu_ 5 19 43 ?_
   refine pu_ 6 20 107 ?_
   refine pu_ 9 23 619 ?_
   refine pu_ 10 24 1643 ?_
   refine pu_ 13 27 9835 ?_
   refine pu_ 14 28 26219 ?_
   refine pu_ 17 31 157291 ?_
   refine ta2_ 2 16 157295 hHeld ?_
   refine ta2_ 4 18 157311 hHeld ?_
   refine ta2_ 7 21 157439 hHeld ?_
   refine ta2_ 11 25 159487 hHeld ?_
   refine ta2_ 15 29 192255 hHeld ?_
   refine on_ 8 22 192511 (fun K hK=> ?_)
   have HE:=asd_ (hHeld.1)
   refine ge_ Tryz.func37 #[.pointer (some ⟨gm,0,none⟩),.agg #[.string x.t.f0,.slice A1 x.t.f1.length c1,.bool x.t.f2]] ?_
   with_reducible refine (typ_ok Hft.out (l:=(.b ge (row (#[.string x.doc,.string x.name,.string x.t.f0,.slice A1 x.t.f1.length c1,.bool x.t.f2,.slice A2 x.dflt.length c2,.slice A3 x.dirs.length c3]) 45)::(pr ++ (sn ++ l)))) (At.front 1 HE.out rfl) (by repeat (first|exact Hl_.out|exact Hcf.out|exact Clean.nil|exact HPc.out|exact Hcs.out|(apply Clean.app)|(refine Clean.cons ?_ (by decide)))) HC1.out Hl1.out).mono ?_
   rintro e w3 ⟨gt,snt,rfl,-,hc,HE9⟩
   refine ⟨_,rfl,?_⟩
   clear hc
   have HE1:Aside0 (At w0 (.b ge (row (#[.string x.doc,.string x.name,.string x.t.f0,.slice A1 x.t.f1.length c1,.bool x.t.f2,.slice A2 x.dflt.length c2,.slice A3 x.dirs.length c3]) 45):: .f (Fact.maker w0.heap.size gm gs)::(pr ++ (sn ++ l))) _):=asd_ (At.back0 [.b ge (row (#[.string x.doc,.string x.name,.string x.t.f0,.slice A1 x.t.f1.length c1,.bool x.t.f2,.slice A2 x.dflt.length c2,.slice A3 x.dirs.length c3]) 45)] HE9)
   clear HE9
   clear HE;have HE:=HE1;clear HE1
   refine hK.out _ _ (HS (At.sub HE.out (List.Sublist.cons_cons _ (List.Sublist.cons_cons _ (List.Sublist.refl _))))) (fun hHeld=> ?_)
   clear hK K
   refine nq_ 22 ?_
   refine on_ 12 26 196607 (fun K hK=> ?_)
   refine ge_ Tryz.func38 #[.pointer (some ⟨gm,0,none⟩),.slice A2 x.dflt.length c2] ?_
   with_reducible refine (first_ok (l:=(.b ge (row (#[.string x.doc,.string x.name,.string x.t.f0,.slice A1 x.t.f1.length c1,.bool x.t.f2,.slice A2 x.dflt.length c2,.slice A3 x.dirs.length c3]) 45)::(pr ++ (sn ++ l)))) (At.front 1 HE.out rfl) (by repeat (first|exact Hl_.out|exact Hcf.out|exact Clean.nil|exact HPc.out|exact Hcs.out|(apply Clean.app)|(refine Clean.cons ?_ (by decide)))) HC2.out Hfl.out Hsd.out Hfd.out).mono ?_
   rintro e w3 ⟨vf,snf,rfl,hq,hc,HE9⟩
   refine ⟨_,rfl,?_⟩
   obtain ⟨Af,e7⟩:=FirstB.is hq
   subst e7
   have Hqf:=asd_ hq
   have Hcf:=asd_ hc
   clear hc hq
   have HE1:Aside0 (At w0 (.b ge (row (#[.string x.doc,.string x.name,.string x.t.f0,.slice A1 x.t.f1.length c1,.bool x.t.f2,.slice A2 x.dflt.length c2,.slice A3 x.dirs.length c3]) 45):: .f (Fact.maker w0.heap.size gm gs)::(snf ++ (pr ++ (sn ++ l)))) _):=asd_ (At.back [.b ge (row (#[.string x.doc,.string x.name,.string x.t.f0,.slice A1 x.t.f1.length c1,.bool x.t.f2,.slice A2 x.dflt.length c2,.slice A3 x.dirs.length c3]) 45)] HE9)
   clear HE9
   clear HE;have HE:=HE1;clear HE1
   refine hK.out _ _ (HS (At.sub HE.out (List.Sublist.cons_cons _ (List.Sublist.cons_cons _ (List.Sublist.trans (List.Sublist.refl _) (List.sublist_append_right _ _)))))) (fun hHeld=> ?_)
   clear hK K
   refine nq_ 26 ?_
   refine on_ 16 30 262143 (fun K hK=> ?_)
   refine ge_ Tryz.func39 #[.pointer (some ⟨gm,0,none⟩),.slice A3 x.dirs.length c3] ?_
   with_reducible refine (dirs_ok (l:=(.b ge (row (#[.string x.doc,.string x.name,.string x.t.f0,.slice A1 x.t.f1.length c1,.bool x.t.f2,.slice A2 x.dflt.length c2,.slice A3 x.dirs.length c3]) 45)::(snf ++ (pr ++ (sn ++ l))))) (At.front 1 HE.out rfl) (by repeat (first|exact Hl_.out|exact Hcf.out|exact Clean.nil|exact HPc.out|exact Hcs.out|(apply Clean.app)|(refine Clean.cons ?_ (by decide)))) HC3.out Hsl.out Hsr.out Hfr.out).mono ?_
   rintro e w3 ⟨vr,snr,rfl,hq,hc,HE9⟩
   refine ⟨_,rfl,?_⟩
   obtain ⟨Ar,nr,cr,e7⟩:=hq
   subst e7
   clear hc
   have HE1:Aside0 (At w0 (.b ge (row (#[.string x.doc,.string x.name,.string x.t.f0,.slice A1 x.t.f1.length c1,.bool x.t.f2,.slice A2 x.dflt.length c2,.slice A3 x.dirs.length c3]) 45):: .f (Fact.maker w0.heap.size gm gs)::(snf ++ (pr ++ (sn ++ l)))) _):=asd_ (At.back0 [.b ge (row (#[.string x.doc,.string x.name,.string x.t.f0,.slice A1 x.t.f1.length c1,.bool x.t.f2,.slice A2 x.dflt.length c2,.slice A3 x.dirs.length c3]) 45)] HE9)
   clear HE9
   clear HE;have HE:=HE1;clear HE1
   refine hK.out _ _ (HS (At.sub HE.out (List.Sublist.cons_cons _ (List.Sublist.cons_cons _ (List.Sublist.trans (List.Sublist.refl _) (List.sublist_append_right _ _)))))) (fun hHeld=> ?_)
   clear hK K
   refine nq_ 30 ?_
   refine on_ 18 32 524287 (fun K hK=> ?_)
   refine ge_ Tryz.func36 #[.pointer (some ⟨gm,0,none⟩)] ?_
   with_reducible refine (pos_ok (l:=(.b ge (row (#[.string x.doc,.string x.name,.string x.t.f0,.slice A1 x.t.f1.length c1,.bool x.t.f2,.slice A2 x.dflt.length c2,.slice A3 x.dirs.length c3]) 45)::(snf ++ (pr ++ (sn ++ l))))) (At.front 1 HE.out rfl) (by repeat (first|exact Hl_.out|exact Hcf.out|exact Clean.nil|exact HPc.out|exact Hcs.out|(apply Clean.app)|(refine Clean.cons ?_ (by decide))))).mono ?_
   rintro e w3 ⟨gq,snq,rfl,-,hc,HE9⟩
   refine ⟨_,rfl,?_⟩
   clear hc
   have HE1:Aside0 (At w0 (.b ge (row (#[.string x.doc,.string x.name,.string x.t.f0,.slice A1 x.t.f1.length c1,.bool x.t.f2,.slice A2 x.dflt.length c2,.slice A3 x.dirs.length c3]) 45):: .f (Fact.maker w0.heap.size gm gs)::(snf ++ (pr ++ (sn ++ l)))) _):=asd_ (At.back0 [.b ge (row (#[.string x.doc,.string x.name,.string x.t.f0,.slice A1 x.t.f1.length c1,.bool x.t.f2,.slice A2 x.dflt.length c2,.slice A3 x.dirs.length c3]) 45)] HE9)
   clear HE9
   clear HE;have HE:=HE1;clear HE1
   refine hK.out _ _ (HS (At.sub HE.out (List.Sublist.cons_cons _ (List.Sublist.cons_cons _ (List.Sublist.trans (List.Sublist.refl _) (List.sublist_append_right _ _)))))) (fun hHeld=> ?_)
   clear hK K
   refine nq_ 32 ?_
   refine pu_ 19 33 1048575 ?_
   refine on_ 20 34 2097151 (fun K hK=> ?_)
   refine ne_ 34 (row #[.string x.doc,.string x.name,.pointer Af,ptr gt,.slice Ar nr cr,ptr gq,nP,nP] 113) (fun g=> .pointer (some ⟨g,0,none⟩)) ?_
   intro gk w3 HE0 hggk
   have Ggk:=asd_ hggk
   clear hggk
   replace HE:=asd_ HE0;clear HE0
   refine hK.out _ _ (HS (At.sub HE.out (List.Sublist.cons _ (List.Sublist.cons_cons _ (List.Sublist.cons_cons _ (List.Sublist.trans (List.Sublist.refl _) (List.sublist_append_right _ _))))))) (fun hHeld=> ?_)
   clear hK K
   refine nq_ 34 ?_
   refine on_ 21 35 4194303 (fun K hK=> ?_)
   refine ne_ 35 (row #[ptr gk] 108) (fun g=> .slice (some ⟨g,0,none⟩) 1 1) ?_
   intro gl w3 HE0 hggl
   have Ggl:=asd_ hggl
   clear hggl
   replace HE:=asd_ HE0;clear HE0
   refine hK.out _ _ (HS (At.sub HE.out (List.Sublist.cons _ (List.Sublist.cons _ (List.Sublist.cons_cons _ (List.Sublist.cons_cons _ (List.Sublist.trans (List.Sublist.refl _) (List.sublist_append_right _ _)))))))) (fun hHeld=> ?_)
   clear hK K
   refine nq_ 35 ?_
   refine la_ 22 36 8388607 (fun K hK=> ?_)
   refine appendpr_ (L:=(.b gk (row #[.string x.doc,.string x.name,.pointer Af,ptr gt,.slice Ar nr cr,ptr gq,nP,nP] 113):: .b ge (row (#[.string x.doc,.string x.name,.string x.t.f0,.slice A1 x.t.f1.length c1,.bool x.t.f2,.slice A2 x.dflt.length c2,.slice A3 x.dirs.length c3]) 45):: .f (Fact.maker w0.heap.size gm gs)::snf)) (pr:=pr) (T:=(sn ++ l)) (kc:=#[ptr gk]) (sz:=1) (e:=108) (At.front 0 HE.out rfl) ⟨maker_stays (by decide),offG_append (Hcf.out.offG 108) ((Hcs.out.app Hl_.out).offG 108)⟩ HP.out (by rfl) rfl Tryz.underlying62 info108 rfl (by decide) rfl (by simp [Value.oneCell']) rfl rfl (by have:=Hlt.out;have:=HL_.out;omega) (by have:=Hlt.out;have:=HL_.out;omega) ?_
   intro pr2 g2 c2_ w3 HP2 HE0
   have HP2:=asd_ HP2
   have HE1:Aside0 (At w0 (.b gk (row #[.string x.doc,.string x.name,.pointer Af,ptr gt,.slice Ar nr cr,ptr gq,nP,nP] 113):: .b ge (row (#[.string x.doc,.string x.name,.string x.t.f0,.slice A1 x.t.f1.length c1,.bool x.t.f2,.slice A2 x.dflt.length c2,.slice A3 x.dirs.length c3]) 45):: .f (Fact.maker w0.heap.size gm gs)::(snf ++ (pr2 ++ (sn ++ l)))) _):=asd_ HE0
   clear HE0
   clear HE;have HE:=HE1;clear HE1
   refine hK.out _ _ ?_
   clear hK K
   refine nq_ 36 ?_
   refine pu_ 23 5 16777215 ?_
   refine done_ kr_ ?_
   clear HK;have HK:=HE;clear HE
   clear hHeld
   replace Bc:=ce1_ HK 1
   replace Bf:=fe1_ HK 1
   go_wp2_with fail
   go_roundg (n - (k + 1))
   case measure=>have:=Hkq.out;have:=Hlt.out;omega
   case rel=>exact ⟨k + 1,pr2,(.b gk (row #[.string x.doc,.string x.name,.pointer Af,ptr gt,.slice Ar nr cr,ptr gq,nP,nP] 113)::(snf ++ sn)),ps ++ [gk],cs,⟨Hlt.out⟩,by go_num,⟨rfl⟩,⟨by rw [List.map_append];exact HP2.out⟩,⟨HI.out.next (fun b hb=>List.mem_cons_of_mem _ (List.mem_append_right _ hb)) Hx.out ⟨_,_,gt,gq,List.mem_cons_self,Hqf.out.mono (fun b hb=>List.mem_cons_of_mem _ (List.mem_append_left _ hb))⟩⟩,⟨Clean.cons (Hcf.out.app Hcs.out) (by decide)⟩,⟨At.pack [.f (Fact.maker w0.heap.size gm gs)] (At.sub (show At w0 (.b gk (row #[.string x.doc,.string x.name,.pointer Af,ptr gt,.slice Ar nr cr,ptr gq,nP,nP] 113):: .b ge (row (#[.string x.doc,.string x.name,.string x.t.f0,.slice A1 x.t.f1.length c1,.bool x.t.f2,.slice A2 x.dflt.length c2,.slice A3 x.dirs.length c3]) 45):: .f (Fact.maker w0.heap.size gm gs)::(snf ++ (pr2 ++ (sn ++ l)))) _ from at_) (List.Sublist.cons_cons _ (List.Sublist.cons _ (List.Sublist.refl _))))⟩⟩
theorem unset_no (W:World) {gx:Nat} {kind:Int} {m:Value} (hc:W.cell? ⟨gx,2,none⟩=some (.int .i64 kind)) (hk:kind≠0):Calls Tryz.prog 86 #[.pointer (some ⟨gx,0,none⟩),m] W fun e w'=>e= .returned (.bool false)∧Below W.heap.size W w':=by
 have f0:(kind == 0)=false:=beq_eq_false_iff_ne.2 hk;have f1:(kind != 0)=true:=bne_iff_ne.2 hk;have HK:Aside0 (At W [] W):=asd_ (At.start W)
 go_enter Tryz.func86,Tryz.ntmps86
 go_wp2_with fail
 go_ret
 exact ⟨rfl,Below.refl _ _⟩
theorem take_succ_get {α:Type} {l:List α} {k:Nat} {x:α} (h:l[k]? =some x):l.take (k + 1)=l.take k ++ [x]:=by rw [List.take_add_one,h];rfl
theorem VB.head {sn:List Blk} {gx:Nat} {v:Vl} (h:VB sn gx v):∃ gp cv,Blk.b gx (row (vc v cv gp) 129)∈sn:=by
 cases h with|mk h1=>exact ⟨_,_,h1⟩
theorem va_obj {w0 w:World} (hW:Below w0.heap.size w0 w) {raw:ByteArray} {kids:List Kid} {ds:List (ByteArray×Dt)} {gx gp:Nat} {cv:Value} (hg:w.heap[gx]? =some (row (#[.string raw,cv,.int .i64 9,ptr gp,nP,nP,nP,nP,bF]) 129)) (hL:kids.length≤1048576) (ih:∀ (i:Nat) (k:Kid) (d:ByteArray×Dt),kids[i]? =some k→ds[i]? =some d→∀ {w:World},Below w0.heap.size w0 w→∀ {sn:List Blk} {gx:Nat},Keeps sn w→VB sn gx k.2→Calls Tryz.prog 58 #[ptr gx,nM] w (VA d.2 w)) {sn:List Blk} (hk:Keeps sn w) {b:Nat} {pr:List Blk} {ps cs:List Nat} (hp:PR b pr 130 1 cv kids.length (ps.map ptr)) (hs:∀ x∈pr,x∈sn) (hlp:ps.length=kids.length) (hlc:cs.length=kids.length) (hld:ds.length=kids.length) (hkb:∀ (i g c:Nat) (x:Kid),ps[i]? =some g→cs[i]? =some c→kids[i]? =some x→KidB sn 131 g x.1 c) (hvb:∀ (i c:Nat) (x:Kid),cs[i]? =some c→kids[i]? =some x→VB sn c x.2) (hdn:∀ (i:Nat) (k:Kid) (d:ByteArray×Dt),kids[i]? =some k→ds[i]? =some d→d.1=k.1) (hfi:∀ k∈kids,k.2.kind≠0) (hsz:∀ k∈kids,k.1.size≤1048576):
  Calls Tryz.prog 58 #[ptr gx,nM] w (VA (dObj (ds.foldl ins [])) w):=by
 obtain ⟨A,cap,rfl,_⟩:=hp.slice;obtain ⟨n,hn⟩:∃ n,kids.length=n:=⟨_,rfl⟩;rw [hn] at hp hL hlp hlc hld hg
 obtain ⟨HW_,Hg_,HL_,Ih_,Hk_,Hp_,Hs_,Hlp_,Hlc_,Hld_,Hkb_,Hvb_⟩:=as12_ hW hg hL ih hk hp hs hlp hlc hld hkb hvb;obtain ⟨Hn_,Hdn_,Hfi_,Hsz_⟩:=as4_ hn hdn hfi hsz;clear hdn hfi hsz;clear hW hg hL ih hk hp hs hlp hlc hld hkb hvb hn
 have HK:=st0_ w
 have bgx:=cel_ (blk_below Hg_.out HK.out.b)
 have hmm:= @run_makeMap Tryz.prog
 go_enter Tryz.func58,Tryz.ntmps58
 go_wp2_with (first|((with_reducible refine gd_ 139 ?_);refine nw_ (.map #[] 0) (fun g=> .map (some g)) ?_;clear HK bgx;intro gm wb139 HK Ggm;have bgx:=cel_ (blk_below Hg_.out HK.out.b)))
 go_loopg [145] n (fun kq i w'=>∃ (k ck:Nat) (es:Array MapEntry) (sn2:List Blk) (m:List (ByteArray×Value)) (ms:List (ByteArray×Dt)),Aside0 (k≤n)∧i= .int .i64 k∧Aside0 (kq=n - k)∧Aside0 (ME es ck m)∧Aside0 (MB sn2 m ms)∧Aside0 (∀ x,x∈(ds.take k).foldl ins []↔x∈ms)∧Aside0 (m.length≤k)∧Aside0 (∀ g∈nums sn2,w.heap.size≤g)∧Aside0 (∀ e,offG e sn2)∧Aside0 (At w (.b gm (.map es ck)::sn2) w'))
 case atStart=>exact ⟨0,0,#[],[],[],[],⟨Nat.zero_le _⟩,rfl,⟨rfl⟩,⟨ME.made⟩,⟨MB.nil _⟩,⟨fun x=>by simp⟩,⟨Nat.le_refl _⟩,⟨fun _ h=>by cases h⟩,⟨fun _=>trivial⟩,⟨at_⟩⟩
 case round=>
  clear HK bgx
  obtain ⟨k,ck,es,sn2,m,ms,Hk,rfl,Hkq,HM,HB,HI,Hml,Hgs,Hos,HK⟩:=hrel
  have bgx:=cel_ (blk_below Hg_.out HK.out.b)
  by_cases hlt:k < n
  case neg=>
   have hd:decide (k < n)=false:=decide_eq_false hlt;have Hlt:=asd_ hlt;clear hlt
   go_wp2_with fail
   have e9:ds.take k=ds:=List.take_of_length_le (by have:=Hlt.out;have:=Hld_.out;omega);have HKz:Aside0 (At w (.b gm (.map es ck)::sn2) _):=⟨at_⟩
   exact bodyPost_ret (v:= .tuple #[.iface 81 (.map (some gm)),.nilIface]) (by simp [results,Tryz.results58,go_sem]) rfl (VA.made [] rfl (AB.obj (List.mem_cons_self) HM.out HB.out.nm (fun i d p h1 h2=>(HB.out.ab i d p h1 h2).mono (fun b hb=>List.mem_cons_of_mem _ hb)) (foldl_ins_rising ds List.Pairwise.nil) (e9 ▸ HI.out) (by have:=HL_.out;have:=Hk.out;have:=Hml.out;omega)) (fun g hg=>(List.mem_cons.1 hg).elim (fun e=>e ▸ Ggm.out) (Hgs.out g)) (fun e=>Hos.out e) HKz.out)
  case pos=>
   have hd:decide (k < n)=true:=decide_eq_true hlt;have Hlt:=asd_ hlt;clear hlt
   have hi0:(0:Int)≤(k:Int):=(by omega);have hi1:(k:Int) < (n:Int):=(by have:=Hlt.out;omega);have hs1:IntKind.i64.wrap ((k:Int) + 1)=(k:Int) + 1:=IntWalk.i64_in _ (by have:=Hlt.out;have:=HL_.out;omega)
   obtain ⟨x,hx⟩:∃ x,kids[k]? =some x:=⟨_,List.getElem?_eq_getElem (by have:=Hlt.out;have:=Hn_.out;omega)⟩;obtain ⟨g,hgk⟩:∃ g,ps[k]? =some g:=⟨_,List.getElem?_eq_getElem (by have:=Hlt.out;have:=Hlp_.out;omega)⟩;obtain ⟨c,hc⟩:∃ c,cs[k]? =some c:=⟨_,List.getElem?_eq_getElem (by have:=Hlt.out;have:=Hlc_.out;omega)⟩;obtain ⟨d,hdk⟩:∃ d,ds[k]? =some d:=⟨_,List.getElem?_eq_getElem (by have:=Hlt.out;have:=Hld_.out;omega)⟩
   obtain ⟨gA,cA,e1,hcl⟩:=Hp_.out.cell Hk_.out Hs_.out (by have:=Hlt.out;omega);injection e1 with e1 _ e3;subst e1 e3
   obtain ⟨q,hq⟩:=Hkb_.out k g c x hgk hc hx;have hv2:=Hvb_.out k c x hc hx;have hcm:=hcl k (ptr g) (by simp [hgk]);have hqm:=Hk_.out.mem hq
   obtain ⟨Hcm,Hqm,Hv2,Hx,Hdk⟩:=as5_ hcm hqm hv2 hx hdk;clear hcm hqm hv2 hx hdk hgk hc hq hcl
   clear bgx
   have bgx:=cel_ (blk_below Hg_.out HK.out.b);have hc0:wr.cell? ⟨gA,k,none⟩=some (ptr g):=pw_cell_below HK.out.b Hcm.out;have hc1:wr.cell? ⟨g,0,none⟩=some (.string x.1):=pw_cell_below HK.out.b (by simp [World.cell?,Hqm.out,row]);have hc2:wr.cell? ⟨g,1,none⟩=some (ptr c):=pw_cell_below HK.out.b (by simp [World.cell?,Hqm.out,row])
   have Hi2:=asd_ (fun {w}=>Ih_.out k x d Hx.out Hdk.out (w:=w));have hdn:=Hdn_.out k x d Hx.out Hdk.out;have Hdn:=asd_ hdn;clear hdn
   have hkd:x.2.kind≠0:=(Hfi_.out x (List.mem_of_getElem? Hx.out));have Hkd:=asd_ hkd;clear hkd;obtain ⟨gp2,cv2,hgc⟩:=Hv2.out.head;have Hgc:=asd_ (Hk_.out.mem hgc);clear hgc
   go_wp2_with (first|((with_reducible refine gd_ 154 ?_);refine cl_ #[ptr c,nM] (.bool false) Tryz.func86 (unset_no _ (show World.cell? _ _=some (.int .i64 x.2.kind) from pw_cell_below be_ (by simp [World.cell?,Hgc.out,row])) Hkd.out) ?_;intro wc154 HK1;replace HK:=asd_ HK1;clear HK1;clear bgx hc0 hc1 hc2;have bgx:=cel_ (blk_below Hg_.out HK.out.b);have hc0:wc154.cell? ⟨gA,k,none⟩=some (ptr g):=pw_cell_below HK.out.b Hcm.out;have hc1:wc154.cell? ⟨g,0,none⟩=some (.string x.1):=pw_cell_below HK.out.b (by simp [World.cell?,Hqm.out,row]);have hc2:wc154.cell? ⟨g,1,none⟩=some (ptr c):=pw_cell_below HK.out.b (by simp [World.cell?,Hqm.out,row])))
   refine (Hi2.out (below_step HW_.out be_) (Hk_.out.below be_) Hv2.out).mono ?_
   rintro _ w9 ⟨a,sn1,rfl,hab,hks,hnd,hge,hof,hb⟩
   have HK9:Aside0 (At w (.b gm (.map es ck)::(sn1 ++ sn2)) w9):=⟨At.behind [.b gm (.map es ck)] (At.came_all (l:=(.b gm (.map es ck)::sn2)) at_ hb hks hnd hge)⟩
   have Hge:Aside0 (∀ g∈nums sn1,w.heap.size≤g):=⟨fun g hg=>Nat.le_trans (show Below w.heap.size w _ from be_).size (hge g hg)⟩
   have hone:=hab.one;obtain ⟨Hab,Hof⟩:=as2_ hab hof;clear HK hab hks hnd hge hof hb;have HK:=HK9;clear HK9
   clear bgx hc0 hc1 hc2;have bgx:=cel_ (blk_below Hg_.out HK.out.b);have hc0:w9.cell? ⟨gA,k,none⟩=some (ptr g):=pw_cell_below HK.out.b Hcm.out;have hc1:w9.cell? ⟨g,0,none⟩=some (.string x.1):=pw_cell_below HK.out.b (by simp [World.cell?,Hqm.out,row]);have hc2:w9.cell? ⟨g,1,none⟩=some (ptr c):=pw_cell_below HK.out.b (by simp [World.cell?,Hqm.out,row])
   go_wp2_with (first|(at_mapUpdate;refine meput_at 0 at_ rfl Ggm.out HM.out rfl rfl rfl Tryz.underlying81 rfl (Hsz_.out x (List.mem_of_getElem? Hx.out)) rfl rfl ?_;intro es2 ck2 m2 wm hup hm2 HE0;obtain ⟨Hup,HM2⟩:=as2_ hup hm2;have HK9:Aside0 (At w (.b gm (.map es2 ck2)::(sn1 ++ sn2)) wm):=asd_ HE0;clear HK HE0 hup hm2;have HK:=HK9;clear HK9;clear bgx hc0 hc1 hc2;have bgx:=cel_ (blk_below Hg_.out HK.out.b);have hc0:wm.cell? ⟨gA,k,none⟩=some (ptr g):=pw_cell_below HK.out.b Hcm.out;have hc1:wm.cell? ⟨g,0,none⟩=some (.string x.1):=pw_cell_below HK.out.b (by simp [World.cell?,Hqm.out,row]);have hc2:wm.cell? ⟨g,1,none⟩=some (ptr c):=pw_cell_below HK.out.b (by simp [World.cell?,Hqm.out,row])))
   obtain ⟨ms2,hu2,hb2⟩:=HB.out.upd (sn':=sn1 ++ sn2) (fun b hb=>List.mem_append_right _ hb) Hup.out (Hab.out.mono (fun b hb=>List.mem_append_left _ hb));obtain ⟨Hu2,Hb2⟩:=as2_ hu2 hb2;clear hu2 hb2
   go_roundg (n - (k + 1))
   case measure=>have:=Hkq.out;have:=Hlt.out;omega
   case rel=>exact ⟨k + 1,ck2,es2,sn1 ++ sn2,m2,ms2,⟨Hlt.out⟩,by go_num,⟨rfl⟩,HM2,Hb2,⟨by rw [take_succ_get Hdk.out,List.foldl_append];have e9:d=(x.1,d.2):=Prod.ext Hdn.out rfl;have h9:=(upd_ins (foldl_ins_rising (ds.take k) List.Pairwise.nil) HI.out (by rw [← HB.out.nm];exact HM.out.names) Hu2.out).2;rw [← e9] at h9;exact h9⟩,⟨by have:=Hup.out.len;have:=Hml.out;omega⟩,⟨ge_app Hge.out Hgs.out⟩,⟨fun e=>offG_append (Hof.out e) (Hos.out e)⟩,⟨at_⟩⟩
end Go.Proofs.YtlblbefbbibpaaaGreatDoor.J
namespace Go.Proofs.YtlblbefbbibpaaaGreatDoor.J
open Go.RowKit Zw Zw.PrintWords Zw.PrintLast Zw.PrintMore PAM
attribute [local go_sem] ta_n_4 ta_n_2 ta_n_97 ta_n_9 ta_n_114 ta_n_81 ta_4_4 ta_2_4 ta_2_2 ta_97_4 ta_97_2 ta_97_97 ta_9_4 ta_9_2 ta_9_97 ta_9_9 ta_114_4 ta_114_2 ta_114_97 ta_114_9 ta_114_114 ta_81_4 ta_81_2 ta_81_97 ta_81_9 ta_81_114 ta_81_81
theorem do_list {w:World} {v:Value} {b:Nat} {pr sn:List Blk} {us:List Value} {ds:List (ByteArray×Dt)} (hk:Keeps sn w) (hp:PR b pr 20 1 v ds.length us) (hs:∀ y∈pr,y∈sn) (hlu:us.length=ds.length) (hnm:∀ d∈ds,d.1=⟨#[]⟩) (hL:ds.length≤1073741824) (ih:∀ (i:Nat) (d:ByteArray×Dt) (t:Value),ds[i]? =some d→us[i]? =some t→∀ w,Keeps sn w→Calls Tryz.prog 20 #[t] w (DO d.2 w)):
  Calls Tryz.prog 20 #[.iface 114 v] w (DO (dList ds) w):=by
 obtain ⟨A,cap,rfl,_⟩:=hp.slice;obtain ⟨n,hn⟩:∃ n,ds.length=n:=⟨_,rfl⟩;rw [hn] at hp hL hlu ⊢
 obtain ⟨Hk_,Hp_,Hs_,Hlu_,Hnm_,HL_,Ih_,Hn_⟩:=as8_ hk hp hs hlu hnm hL ih hn;clear hk hp hs hlu hnm hL ih hn
 have HK:=st0_ w
 go_enter Tryz.func20,Tryz.ntmps20
 go_wp2_with (first|((with_reducible refine gd_ 2 ?_);refine bx_ #[i0,bF,i0,.int .u64 0,eS,nilS] 30 ?_;clear HK;intro g2 wb2 HK Gg2;replace Bc:=ce1_ HK 0;replace Bf:=fe1_ HK 0)|((with_reducible refine gd_ 8 ?_);refine bx_ #[i0,bF,i0,.int .u64 0,eS,nilS] 30 ?_;clear HK;intro g8 wb8 HK Gg8;replace Bc:=ce2_ HK 1 0;replace Bf:=fe2_ HK 1 0)|((with_reducible refine gate_ (.store 30 (.tmp 8) (.tmp 40)) rfl ?_);refine storerow_at (cs:=#[i0,bF,i0,.int .u64 0,eS,nilS]) (g:=g8) 0 (#[.int .i64 5,bF,i0,.int .u64 0,eS,nilS]) at_ rfl Gg8.out rfl rfl rfl rfl rfl rfl kr_ rfl (by simp [Value.oneCell']) ?_;intro wr1 HK1;replace HK:=asd_ HK1;clear HK1;replace Bc:=ce2_ HK 1 0;replace Bf:=fe2_ HK 1 0))
 go_loopg [43] n (fun kq i w'=>∃ (k:Nat) (u:Value) (pr2 sn2:List Blk) (us2:List Value),Aside0 (k≤n)∧i= .int .i64 k∧Aside0 (kq=n - k)∧Aside0 (PR w.heap.size pr2 85 7 u k (rowOf (ds.take k) us2))∧Aside0 (us2.length=k)∧Aside0 (∀ (i:Nat) (d:ByteArray×Dt) (t:Value),ds[i]? =some d→us2[i]? =some t→DB sn2 t d.2)∧Aside0 (∀ g∈nums sn2,w.heap.size≤g)∧Aside0 (∀ e,offG e sn2)∧Aside0 (At w (.b g8 (row (#[.int .i64 5,bF,i0,.int .u64 0,eS,u]) 30):: .b g2 (row (#[i0,bF,i0,.int .u64 0,eS,nilS]) 30)::(pr2 ++ sn2)) w'))
 case atStart=>exact ⟨0,nilS,[],[],[],⟨Nat.zero_le _⟩,rfl,⟨rfl⟩,⟨PR.none_ _ _ _⟩,⟨rfl⟩,⟨fun _ _ _ _ h=>by simp at h⟩,⟨fun _ h=>by cases h⟩,⟨fun _=>trivial⟩,⟨(show At w [.b g8 (row (#[.int .i64 5,bF,i0,.int .u64 0,eS,nilS]) 30),.b g2 (row (#[i0,bF,i0,.int .u64 0,eS,nilS]) 30)] _ from at_)⟩⟩
 case round=>
  clear HK
  obtain ⟨k,u,pr2,sn2,us2,Hk,rfl,Hkq,HP,Hl2,HU,Hgs,Hos,HK⟩:=hrel;obtain ⟨Au,cu,e8,hcu⟩:=HP.out.slice;subst e8;clear hcu
  replace Bc:=ce2_ HK 1 0;replace Bf:=fe2_ HK 1 0
  by_cases hlt:k < n
  case neg=>
   have hd:decide (k < n)=false:=decide_eq_false hlt;have Hlt:=asd_ hlt;clear hlt
   go_wp2_with (first|((with_reducible refine gd_ 56 ?_);refine lo_ 30 8 g8 (#[.int .i64 5,bF,i0,.int .u64 0,eS,.slice Au k cu]) HK.out.k.1 Tryz.underlying30 ?_)|((with_reducible refine gate_ (.store 30 (.tmp 2) (.tmp 56)) rfl ?_);refine storerow_at (cs:=#[i0,bF,i0,.int .u64 0,eS,nilS]) (g:=g2) 1 (#[.int .i64 5,bF,i0,.int .u64 0,eS,.slice Au k cu]) at_ rfl Gg2.out rfl rfl rfl rfl rfl rfl kr_ rfl (by simp [Value.oneCell']) ?_;intro wr2 HK1;replace HK:=asd_ HK1;clear HK1;replace Bc:=ce2_ HK 1 0;replace Bf:=fe2_ HK 1 0))
   have e9:k=ds.length:=(by have:=Hlt.out;have:=Hk.out;have:=Hn_.out;omega);have e8:ds.take k=ds:=List.take_of_length_le (by omega)
   have e7:PR w.heap.size pr2 85 7 (.slice Au k cu) k (rowOf ds us2):=e8 ▸ HP.out;have e6:us2.length=ds.length:=Hl2.out.trans e9
   have HKz:Aside0 (At w (.b g8 (row (#[.int .i64 5,bF,i0,.int .u64 0,eS,.slice Au k cu]) 30):: .b g2 (row (#[.int .i64 5,bF,i0,.int .u64 0,eS,.slice Au k cu]) 30)::(pr2 ++ sn2)) _):=⟨at_⟩;subst e9
   exact bodyPost_ret (v:= .agg #[.int .i64 5,bF,i0,.int .u64 0,eS,.slice Au ds.length cu]) (by simp [results,Tryz.results20,go_sem,Bc]) rfl (DO.made (x:=dList ds) (us:=us2) [_,_] rfl e7 e6 HU.out Hgs.out Hos.out HKz.out)
  case pos=>
   have hd:decide (k < n)=true:=decide_eq_true hlt;have Hlt:=asd_ hlt;clear hlt
   have hi0:(0:Int)≤(k:Int):=(by omega);have hi1:(k:Int) < (n:Int):=(by have:=Hlt.out;omega);have hs1:IntKind.i64.wrap ((k:Int) + 1)=(k:Int) + 1:=IntWalk.i64_in _ (by have:=Hlt.out;have:=HL_.out;omega)
   obtain ⟨d,hdk⟩:∃ d,ds[k]? =some d:=⟨_,List.getElem?_eq_getElem (by have:=Hlt.out;have:=Hn_.out;omega)⟩;obtain ⟨y,hy⟩:∃ y,us[k]? =some y:=⟨_,List.getElem?_eq_getElem (by have:=Hlt.out;have:=Hlu_.out;omega)⟩
   obtain ⟨gA,cA,e1,hcl⟩:=Hp_.out.cell Hk_.out Hs_.out (by have:=Hlt.out;omega);injection e1 with e1 _ e3;subst e1 e3;have hcm:=hcl k y hy;obtain ⟨Hcm,Hdk,Hy⟩:=as3_ hcm hdk hy;have hnmd:=Hnm_.out d (List.mem_of_getElem? hdk);have Hnmd:=asd_ hnmd;clear hcm hcl hdk hy hnmd
   replace Bc:=ce2_ HK 1 0;replace Bf:=fe2_ HK 1 0;have hc0:wr.cell? ⟨gA,k,none⟩=some y:=pw_cell_below HK.out.b Hcm.out
   have Hi2:Aside0 (∀ w',Below w.heap.size w w'→Calls Tryz.prog 20 #[y] w' (DO d.2 w')):=⟨fun w' hb=>Ih_.out k d y Hdk.out Hy.out w' (Hk_.out.below hb)⟩
   go_wp2_with fail
   refine su2_ 9 HK 1 0 [6,8] (fun HS hHeld=> ?_)
   refine pu_ 0 47 1 ?_
   refine pu_ 2 49 5 ?_
   refine ta3_ 1 48 7 hHeld ?_
   refine on_ 3 50 15 (fun K hK=> ?_)
   have HE:=asd_ (hHeld.1)
   refine ge_ Tryz.func20 #[y] ?_
   with_reducible refine (Hi2.out _ HE.out.b).mono ?_
   rintro e w3 ⟨u1,sn1,rfl,hdb,hks,hnd,hge,hof,hb⟩
   obtain ⟨Bd,cd,e7⟩:=hdb.slice;subst e7
   refine ⟨_,rfl,?_⟩
   have HE1:Aside0 (At w (.b g8 (row (#[.int .i64 5,bF,i0,.int .u64 0,eS,.slice Au k cu]) 30):: .b g2 (row (#[i0,bF,i0,.int .u64 0,eS,nilS]) 30)::(sn1 ++ (pr2 ++ sn2))) w3):=⟨At.behind [.b g8 (row (#[.int .i64 5,bF,i0,.int .u64 0,eS,.slice Au k cu]) 30),.b g2 (row (#[i0,bF,i0,.int .u64 0,eS,nilS]) 30)] (At.came_all (l:=(.b g8 (row (#[.int .i64 5,bF,i0,.int .u64 0,eS,.slice Au k cu]) 30):: .b g2 (row (#[i0,bF,i0,.int .u64 0,eS,nilS]) 30)::(pr2 ++ sn2))) HE.out hb hks hnd hge)⟩
   have Hge:Aside0 (∀ g∈nums sn1,w.heap.size≤g):=⟨fun g hg=>Nat.le_trans HE.out.b.size (hge g hg)⟩
   obtain ⟨Hdb,Hof⟩:=as2_ hdb hof;clear hdb hks hnd hge hof hb
   clear HE;have HE:=HE1;clear HE1
   refine hK.out _ _ (HS (At.sub HE.out (List.Sublist.cons_cons _ (List.Sublist.cons_cons _ (List.Sublist.trans (List.Sublist.refl _) (List.sublist_append_right _ _)))))) (fun hHeld=> ?_)
   clear hK K
   refine nq_ 50 ?_
   refine pu_ 4 51 31 ?_
   refine on_ 5 52 63 (fun K hK=> ?_)
   refine ne_ 52 (row (#[.string ⟨#[]⟩,.int .i64 d.2.kind,.bool d.2.b,.int .i64 d.2.n,.int .u64 d.2.f,.string d.2.s,.slice Bd d.2.kids.length cd]) 85) (fun g=> .slice (some ⟨g,0,none⟩) 1 1) ?_
   intro gl w3 HE0 hggl
   have Ggl:=asd_ hggl
   clear hggl
   replace HE:=asd_ HE0;clear HE0
   refine hK.out _ _ (HS (At.sub HE.out (List.Sublist.cons _ (List.Sublist.cons_cons _ (List.Sublist.cons_cons _ (List.Sublist.trans (List.Sublist.refl _) (List.sublist_append_right _ _))))))) (fun hHeld=> ?_)
   clear hK K
   refine nq_ 52 ?_
   refine la_ 6 53 127 (fun K hK=> ?_)
   refine appendpr_ (L:=(.b g8 (row (#[.int .i64 5,bF,i0,.int .u64 0,eS,.slice Au k cu]) 30):: .b g2 (row (#[i0,bF,i0,.int .u64 0,eS,nilS]) 30)::sn1)) (pr:=pr2) (T:=sn2) (kc:=#[.string ⟨#[]⟩,.int .i64 d.2.kind,.bool d.2.b,.int .i64 d.2.n,.int .u64 d.2.f,.string d.2.s,.slice Bd d.2.kids.length cd]) (sz:=7) (e:=85) (At.front 0 HE.out rfl) (by repeat (first|exact Hof.out _|exact Hos.out _|exact HP.out.offG _|exact trivial|(apply offG_append))) HP.out (by rfl) rfl Tryz.underlying28 info85 rfl (by decide) rfl (by simp [Value.oneCell']) rfl rfl (by have:=Hlt.out;have:=HL_.out;omega) (by have:=Hlt.out;have:=HL_.out;omega) ?_
   intro pr3 ga ca wa HP3 HE0
   have HP3:=asd_ HP3;have HE1:Aside0 (At w (.b g8 (row (#[.int .i64 5,bF,i0,.int .u64 0,eS,.slice Au k cu]) 30):: .b g2 (row (#[i0,bF,i0,.int .u64 0,eS,nilS]) 30)::(sn1 ++ (pr3 ++ sn2))) wa):=asd_ HE0;clear HE0
   clear HE;have HE:=HE1;clear HE1
   refine hK.out _ _ ?_
   clear hK K
   refine nq_ 53 ?_
   refine pu_ 7 54 255 ?_
   refine lz_ 8 511 (fun K hK=> ?_)
   have fg8_:=fE_ HE 0
   have cg8_:=cE_ HE 0
   refine sk_ ?_
   have HE1:=asd_ (At.store_to (i:=5) (v:= .slice (some ⟨ga,0,none⟩) (k + 1) ca) 0 (#[.int .i64 5,bF,i0,.int .u64 0,eS,.slice (some ⟨ga,0,none⟩) (k + 1) ca]) HE.out rfl Gg8.out rfl rfl)
   clear fg8_ cg8_
   clear HE;have HE:=HE1;clear HE1
   refine hK.out _ _ ?_
   clear hK K
   refine done_ kr_ ?_
   clear HK;have HK:=HE;clear HE
   clear hHeld
   clear hc0
   replace Bc:=ce2_ HK 1 0
   replace Bf:=fe2_ HK 1 0
   go_wp2_with fail
   have e9:kcells d (.slice Bd d.2.kids.length cd)=(#[.string ⟨#[]⟩,.int .i64 d.2.kind,.bool d.2.b,.int .i64 d.2.n,.int .u64 d.2.f,.string d.2.s,.slice Bd d.2.kids.length cd]:Array Value).toList:=by show Value.string d.1::_=_;rw [Hnmd.out]
   have hP9:Aside0 (PR w.heap.size pr3 85 7 (.slice (some ⟨ga,0,none⟩) (k + 1) ca) (k + 1) (rowOf (ds.take (k + 1)) (us2 ++ [.slice Bd d.2.kids.length cd]))):=⟨by rw [take_succ_get Hdk.out,rowOf_snoc (by have:=Hl2.out;have:=Hlt.out;have:=Hn_.out;rw [List.length_take];omega),e9];exact HP3.out⟩;clear e9
   go_roundg (n - (k + 1))
   case measure=>have:=Hkq.out;have:=Hlt.out;omega
   case rel=>exact ⟨k + 1,_,pr3,sn1 ++ sn2,us2 ++ [.slice Bd d.2.kids.length cd],⟨Hlt.out⟩,by go_num,⟨rfl⟩,hP9,⟨by simp [Hl2.out]⟩,⟨fun i e t h1 h2=>(snoc_get Hl2.out h2).elim (fun h3=>(HU.out i e t h1 h3.2).mono (fun b hb=>List.mem_append_right _ hb)) (fun h3=>by obtain ⟨rfl,rfl⟩:=h3;rw [Hdk.out] at h1;cases h1;exact Hdb.out.mono (fun b hb=>List.mem_append_left _ hb))⟩,⟨ge_app Hge.out Hgs.out⟩,⟨fun e=>offG_append (Hof.out e) (Hos.out e)⟩,⟨At.under [.b g8 (row (#[.int .i64 5,bF,i0,.int .u64 0,eS,.slice (some ⟨ga,0,none⟩) (k + 1) ca]) 30),.b g2 (row (#[i0,bF,i0,.int .u64 0,eS,nilS]) 30)] at_⟩⟩
end Go.Proofs.YtlblbefbbibpaaaGreatDoor.J
