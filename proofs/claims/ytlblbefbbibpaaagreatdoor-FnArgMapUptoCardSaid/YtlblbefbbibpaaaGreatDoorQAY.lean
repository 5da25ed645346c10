/- Part. -/
import Derived.Test.YtlblbefbbibpaaaGreatDoorQAX
set_option linter.unusedVariables false
set_option linter.unusedSimpArgs false
set_option maxHeartbeats 8000000
set_option maxRecDepth 100000
namespace Go.Proofs.YtlblbefbbibpaaaGreatDoor.J
open Go.RowKit Zw Zw.PrintWords Zw.PrintLast Zw.PrintMore PAM
theorem fitsArgDefs5_ok (w:World) (A:Option Addr) (n c:Nat) (xs:List ADef) (hC:kAD.C w A n xs) (hL:n≤1048576) (hs:SmA xs):
  Calls Tryz.prog 5 #[.slice A n c,.int .i64 60] w (Yes ((∀ a∈xs,FitA a)∧(xs.map ADef.name).Nodup) w):=by
 obtain ⟨HC_,HL_,Hs_⟩:=as3_ hC hL hs;clear hC hL hs
 have HK:=st0_ w
 have Hn:Aside0 (n=xs.length):=⟨HC_.out.1.symm⟩
 go_enter Tryz.func5,Tryz.ntmps5
 go_wp2_with fail
 have HK2:Aside0 (At w [.f (Fact.rows Kd.string 9 w.heap.size E9 nilS [])] w):=⟨At.fact _ HK.out (Kd.R_nil _ _ _ _ _)⟩;clear HK;have HK:=HK2;clear HK2
 go_loopg [5,10] n (fun kq v i w'=>∃ k:Nat,Aside0 (k≤n)∧i= .int .i64 k∧Aside0 (kq=n - k)∧Aside0 (At w [.f (Fact.rows Kd.string 9 w.heap.size E9 v ((xs.take k).map ADef.name))] w'))
 case atStart=>exact ⟨0,⟨Nat.zero_le _⟩,rfl,⟨rfl⟩,⟨at_⟩⟩
 case round=>
  clear HK
  obtain ⟨k,Hk,rfl,Hkq,HK⟩:=hrel
  by_cases hlt:k < n
  case neg=>
   have hd:decide (k < n)=false:=decide_eq_false hlt;have e9:((xs.take k).map ADef.name)=xs.map ADef.name:=(by rw [List.take_of_length_le (by have:=Hn.out;omega)]);rw [e9] at HK;clear e9 hlt
   obtain ⟨nl,hnl⟩:∃ nl,nl=xs.map ADef.name:=⟨_,rfl⟩;rw [← hnl] at HK;have Hnl:=asd_ hnl;clear hnl
   obtain ⟨Aa,ca,e9,hla,hca⟩:=Kd.R_reads (show Kd.R Kd.string 9 wr w.heap.size (fun _=>True) u5 nl from HK.out.k.1);subst e9
   obtain ⟨ka,ra,hra,hra2⟩:=apart_some nl (by rw [Hnl.out];have:=Hs_.out.1;simp;omega)
   obtain ⟨HCa,HLa,Hra,Hra2,HBr⟩:=as5_ hca hla hra hra2 HK.out.b;clear hla hca hra hra2
   go_wp2_with fail
   have HK9:Aside0 (At w [] wr):=⟨HK.out.drop⟩;clear HK;have HK:=HK9;clear HK9
   refine (fitsArgDefs_ok _ _ _ _ xs (Kd.C_below HC_.out be_) HL_.out Hs_.out 60 (by decide) (by decide)).mono ?_
   rintro _ wa ⟨ba,rfl,hp,hb⟩
   obtain ⟨Hpa,HBa⟩:=as2_ hp hb;have HK9:=asd_ (At.step at_ hb);clear HK hp hb;have HK:=HK9;clear HK9
   cases ba
   case true=>
    go_wp2_with (first|(go_at_call 11;refine ((spec_apart.calls ka Aa ca nl ra _ (Kd.C_below HCa.out HBa.out) HLa.out Hra.out).mono (fun _ _ h=>(⟨h.1,h.2.below⟩:_∧Below _ _ _))).mono ?_;rintro _ w3 ⟨rfl,hb⟩;have HK9:=asd_ (At.step at_ hb);clear HK hb;have HK:=HK9;clear HK9))
    go_ret
    exact ⟨_,rfl,fun hb=>⟨Hpa.out (by first|trivial|rfl),Hnl.out ▸ Hra2.out hb⟩,be_⟩
   case false=>
    go_wp2_with fail
    go_ret
    exact Yes.no be_
  case pos=>
   have hd:decide (k < n)=true:=decide_eq_true hlt;have Hlt:=asd_ hlt;clear hlt
   have hi0:(0:Int)≤(k:Int):=(by omega);have hi1:(k:Int) < (n:Int):=(by have:=Hlt.out;omega);have hs1:IntKind.i64.wrap ((k:Int) + 1)=(k:Int) + 1:=IntWalk.i64_in _ (by have:=Hlt.out;have:=HL_.out;omega)
   obtain ⟨ad,x,A1,A2,A3,c1,c2,c3,hA,hx,h0,h1,h2,h3,h4,h5,h6,⟨hl1,hC1⟩,⟨hl2,hC2⟩,hl3,hC3⟩:=at_AD HC_.out k Hlt.out
   subst hA
   have hmem:=List.mem_of_getElem? hx;obtain ⟨Hx,Hmem,Hl1,HC1,Hl2,HC2,Hl3,HC3⟩:=as8_ hx hmem hl1 hC1 hl2 hC2 hl3 hC3;clear hmem hx hl1 hC1 hl2 hC2 hl3 hC3
   obtain ⟨C0,C1,C2,C3,C4,C5,C6⟩:=as7_ h0 h1 h2 h3 h4 h5 h6;clear h0 h1 h2 h3 h4 h5 h6
   replace Bx:=xc7_ HK.out.b C0 C1 C2 C3 C4 C5 C6
   go_wp2_with (first|((with_reducible refine gd_ 7 ?_);refine bx_ #[eS,eS,eS,nilS,bF,nilS,nilS] 45 ?_;clear HK;intro ge wb7 HK Gge;replace Bc:=ce1_ HK 0;replace Bf:=fe1_ HK 0;replace Bx:=xc7_ HK.out.b C0 C1 C2 C3 C4 C5 C6)|((with_reducible refine gd_ 17 ?_);refine nw_ (row #[.string x.name] 9) (fun g=> .slice (some ⟨g,0,none⟩) 1 1) ?_;clear HK;intro gl wb17 HK Ggl;replace Bc:=ce1_ HK 1;replace Bf:=fe1_ HK 1)|((with_reducible refine gate_builtin (b:= .append) (xs:=#[.tmp 14,.tmp 17]) rfl ?_);at_builtin;refine append1_at (p:=x.name) (xs:=((xs.take k).map ADef.name)) (g:=gl) (t:=37) (s:= .tmp 14) (x:= .tmp 17) (At.front 1 (At.front 2 HK.out rfl) rfl) rfl rfl rfl Tryz.underlying37 info9 rfl (by decide) rfl rfl (by have h9:=Hlt.out;have h8:=HL_.out;simp only [List.length_map,List.length_take];omega) ?_;intro v18 wa18 HK1;replace HK:=asd_ HK1;clear HK1;replace Bc:=ce1_ HK 1;replace Bf:=fe1_ HK 1)|((with_reducible refine gate_ (.store 45 (.tmp 7) (.tmp 13)) rfl ?_);refine storerow_at (cs:=#[eS,eS,eS,nilS,bF,nilS,nilS]) (g:=ge) 0 (#[.string x.doc,.string x.name,.string x.t.f0,.slice A1 x.t.f1.length c1,.bool x.t.f2,.slice A2 x.dflt.length c2,.slice A3 x.dirs.length c3]) at_ rfl Gge.out rfl rfl rfl rfl rfl rfl kr_ rfl (by simp [Value.oneCell']) ?_;intro wr1 HK1;replace HK:=asd_ HK1;clear HK1;replace Bc:=ce1_ HK 0;replace Bf:=fe1_ HK 0;replace Bx:=xc7_ HK.out.b C0 C1 C2 C3 C4 C5 C6))
   go_roundg (n - (k + 1))
   case measure=>have:=Hkq.out;have:=Hlt.out;omega
   case rel=>exact ⟨k + 1,⟨Hlt.out⟩,by go_num,⟨rfl⟩,⟨by rw [take_mapA Hx.out];exact At.sub HK.out (List.Sublist.cons_cons _ (List.nil_sublist _))⟩⟩
theorem wordy_one (kind:Int) (raw:ByteArray) (kids:List Kid) (ih:∀ k∈kids,∀ (w:World) (A:Option Addr) (c:Nat),kKid.C w A k.2.kids.length k.2.kids→Calls Tryz.prog 14 #[.agg #[.int .i64 k.2.kind,.string k.2.raw,.slice A k.2.kids.length c],.int .i64 300] w (Yes True w))
  (w:World) (A:Option Addr) (n c:Nat) (hC:kKid.C w A n kids) (hL:n≤1048576):
  Calls Tryz.prog 14 #[.agg #[.int .i64 kind,.string raw,.slice A n c],.int .i64 300] w (Yes True w):=by
 obtain ⟨HC_,HL_,Ih_⟩:=as3_ hC hL ih;clear hC hL ih
 have HK:=st0_ w
 have Hn:Aside0 (n=kids.length):=⟨HC_.out.1.symm⟩
 go_enter Tryz.func14,Tryz.ntmps14
 go_wp2_with (first|((with_reducible refine gd_ 2 ?_);refine bx_ #[.int .i64 kind,.string raw,.slice A n c] 48 ?_;clear HK;intro gv wb2 HK Ggv;replace Bc:=ce1_ HK 0))
 go_loopg [10] n (fun kq i w'=>∃ k:Nat,Aside0 (k≤n)∧i= .int .i64 k∧Aside0 (kq=n - k)∧Aside0 (∀ j x,j < k→kids[j]? =some x→True)∧Aside0 (At w [.b gv (row (#[.int .i64 kind,.string raw,.slice A n c]) 48)] w'))
 case atStart=>exact ⟨0,⟨Nat.zero_le _⟩,rfl,⟨rfl⟩,⟨upto_zero⟩,⟨at_⟩⟩
 case round=>
  clear HK
  obtain ⟨k,Hk,rfl,Hkq,Hfit,HK⟩:=hrel
  replace Bc:=ce1_ HK 0
  by_cases hlt:k < n
  case neg=>
   have hd:decide (k < n)=false:=decide_eq_false hlt;have Hlt:=asd_ hlt;clear hlt
   go_wp2_with fail
   all_goals go_ret
   all_goals exact Yes.is be_ trivial
  case pos=>
   have hd:decide (k < n)=true:=decide_eq_true hlt;have Hlt:=asd_ hlt;clear hlt
   have hi0:(0:Int)≤(k:Int):=(by omega);have hi1:(k:Int) < (n:Int):=(by have:=Hlt.out;omega);have hs1:IntKind.i64.wrap ((k:Int) + 1)=(k:Int) + 1:=IntWalk.i64_in _ (by have:=Hlt.out;have:=HL_.out;omega)
   obtain ⟨ad,nm,v,A2,c2,hA,hx,h0,h1,h2,h3,hl2,hC2⟩:=at_Kid HC_.out k Hlt.out
   subst hA
   have hmem:=List.mem_of_getElem? hx;obtain ⟨Hx,Hmem,Hl2,HC2⟩:=as4_ hx hmem hl2 hC2;clear hmem hx hl2 hC2
   obtain ⟨C0,C1,C2,C3⟩:=as4_ h0 h1 h2 h3;clear h0 h1 h2 h3
   replace Bc:=ce1_ HK 0;replace Bx:=xc4_ HK.out.b C0 C1 C2 C3
   go_wp2_with (first|((with_reducible refine gd_ 6 ?_);refine bx_ #[eS,i0,eS,nilS] 52 ?_;clear HK;intro ge wb6 HK Gge;replace Bc:=ce2_ HK 1 0;replace Bf:=fe1_ HK 0;replace Bx:=xc4_ HK.out.b C0 C1 C2 C3)|((with_reducible refine gate_ (.store 52 (.tmp 6) (.tmp 13)) rfl ?_);refine storerow_at (cs:=#[eS,i0,eS,nilS]) (g:=ge) 0 (#[.string nm,.int .i64 v.kind,.string v.raw,.slice A2 v.kids.length c2]) at_ rfl Gge.out rfl rfl rfl rfl rfl rfl kr_ rfl (by simp [Value.oneCell']) ?_;intro wr1 HK1;replace HK:=asd_ HK1;clear HK1;replace Bc:=ce2_ HK 1 0;replace Bf:=fe1_ HK 0;replace Bx:=xc4_ HK.out.b C0 C1 C2 C3))
   refine (Ih_.out _ Hmem.out _ _ _ (Kd.C_below HC2.out be_)).mono ?_
   rintro _ wv ⟨bv,rfl,hp,hb⟩
   have Hpv:=asd_ hp;have HK9:=asd_ (At.step at_ hb);clear HK hp hb;have HK:=HK9;clear HK9
   replace Bc:=ce2_ HK 1 0;replace Bf:=fe1_ HK 0;replace Bx:=xc4_ HK.out.b C0 C1 C2 C3
   cases bv
   case true=>
    go_wp2_with fail
    go_ret
    exact Yes.is be_ trivial
   case false=>
    go_wp2_with fail
    go_roundg (n - (k + 1))
    case measure=>have:=Hkq.out;have:=Hlt.out;omega
    case rel=>exact ⟨k + 1,⟨Hlt.out⟩,by go_num,⟨rfl⟩,⟨upto_next Hfit.out Hx.out (trivial)⟩,⟨At.sub at_ (by simp)⟩⟩
theorem wordy_ok (v:Vl):Sm v→∀ (w:World) (A:Option Addr) (c:Nat),kKid.C w A v.kids.length v.kids→Calls Tryz.prog 14 #[.agg #[.int .i64 v.kind,.string v.raw,.slice A v.kids.length c],.int .i64 300] w (Yes True w):=by
 obtain ⟨kind,raw,kids⟩:=v
 intro hs w A c hC
 exact wordy_one kind raw kids (fun k hk=>wordy_ok k.2 (hs.kid hk).2) w A _ c hC hs.len
termination_by SizeOf.sizeOf v
decreasing_by
 all_goals (have:=List.sizeOf_lt_of_mem hk;obtain ⟨a,b⟩:=k;simp at this ⊢;omega)
theorem wordyArgs_ok (w:World) (A B:Option Addr) (n c m e:Nat) (xs:List Kid) (ys:List ADef) (hC:kKid.C w A n xs) (hL:n≤1048576) (hs:SmK xs) (hD:kAD.C w B m ys) (hM:m≤1048576) (ht:SmA ys):
  Calls Tryz.prog 6 #[.slice A n c,.slice B m e,.int .i64 300] w (Yes True w):=by
 obtain ⟨HC_,HL_,Hs_,HD_,HM_,Ht_⟩:=as6_ hC hL hs hD hM ht;clear hC hL hs hD hM ht
 have HK:=st0_ w
 go_enter Tryz.func6,Tryz.ntmps6
 go_wp2_with fail
 go_loopg [15] n (fun kq i w'=>∃ k:Nat,Aside0 (k≤n)∧i= .int .i64 k∧Aside0 (kq=n - k)∧Aside0 (∀ j x,j < k→xs[j]? =some x→True)∧Aside0 (At w [] w'))
 case atStart=>exact ⟨0,⟨Nat.zero_le _⟩,rfl,⟨rfl⟩,⟨upto_zero⟩,⟨at_⟩⟩
 case round=>
  clear HK
  obtain ⟨k,Hk,rfl,Hkq,Hfit,HK⟩:=hrel
  by_cases hlt:k < n
  case neg=>
   have hd:decide (k < n)=false:=decide_eq_false hlt;have Hlt:=asd_ hlt;clear hlt
   go_wp2_with fail
   go_loopg [26] m (fun kq i w'=>∃ k:Nat,Aside0 (k≤m)∧i= .int .i64 k∧Aside0 (kq=m - k)∧Aside0 (∀ j x,j < k→ys[j]? =some x→True)∧Aside0 (At w [] w'))
   case atStart=>exact ⟨0,⟨Nat.zero_le _⟩,rfl,⟨rfl⟩,⟨upto_zero⟩,⟨at_⟩⟩
   case round=>
    clear HK
    obtain ⟨k,Hk,rfl,Hkq,Hfit,HK⟩:=hrel
    by_cases hlt:k < m
    case neg=>
     have hd:decide (k < m)=false:=decide_eq_false hlt;have Hlt:=asd_ hlt;clear hlt
     go_wp2_with fail
     go_ret
     exact Yes.is be_ trivial
    case pos=>
     have hd:decide (k < m)=true:=decide_eq_true hlt;have Hlt:=asd_ hlt;clear hlt
     have hi0:(0:Int)≤(k:Int):=(by omega);have hi1:(k:Int) < (m:Int):=(by have:=Hlt.out;omega);have hs1:IntKind.i64.wrap ((k:Int) + 1)=(k:Int) + 1:=IntWalk.i64_in _ (by have:=Hlt.out;have:=HM_.out;omega)
     obtain ⟨ad,x,A1,A2,A3,c1,c2,c3,hA,hx,h0,h1,h2,h3,h4,h5,h6,⟨hl1,hC1⟩,⟨hl2,hC2⟩,hl3,hC3⟩:=at_AD HD_.out k Hlt.out
     subst hA
     have hmem:=List.mem_of_getElem? hx;obtain ⟨Hx,Hmem,Hl1,HC1,Hl2,HC2,Hl3,HC3⟩:=as8_ hx hmem hl1 hC1 hl2 hC2 hl3 hC3;clear hmem hx hl1 hC1 hl2 hC2 hl3 hC3
     obtain ⟨C0,C1,C2,C3,C4,C5,C6⟩:=as7_ h0 h1 h2 h3 h4 h5 h6;clear h0 h1 h2 h3 h4 h5 h6
     replace Bx:=xc7_ HK.out.b C0 C1 C2 C3 C4 C5 C6
     go_wp2_with (first|((with_reducible refine gd_ 10 ?_);refine bx_ #[eS,eS,eS,nilS,bF,nilS,nilS] 45 ?_;clear HK;intro gd wb10 HK Ggd;replace Bc:=ce1_ HK 0;replace Bf:=fe1_ HK 0;replace Bx:=xc7_ HK.out.b C0 C1 C2 C3 C4 C5 C6)|((with_reducible refine gate_ (.store 45 (.tmp 10) (.tmp 29)) rfl ?_);refine storerow_at (cs:=#[eS,eS,eS,nilS,bF,nilS,nilS]) (g:=gd) 0 (#[.string x.doc,.string x.name,.string x.t.f0,.slice A1 x.t.f1.length c1,.bool x.t.f2,.slice A2 x.dflt.length c2,.slice A3 x.dirs.length c3]) at_ rfl Ggd.out rfl rfl rfl rfl rfl rfl kr_ rfl (by simp [Value.oneCell']) ?_;intro wr1 HK1;replace HK:=asd_ HK1;clear HK1;replace Bc:=ce1_ HK 0;replace Bf:=fe1_ HK 0;replace Bx:=xc7_ HK.out.b C0 C1 C2 C3 C4 C5 C6))
     have HC9:=HC2;have HL9:Aside0 (x.dflt.length≤1048576):=⟨(Ht_.out.2 _ Hmem.out).2.2.2.1.1⟩;have Hs2_:Aside0 (∀ v∈x.dflt,Sm v):=⟨(Ht_.out.2 _ Hmem.out).2.2.2.1.2⟩
     go_loopg [33] x.dflt.length (fun kq i w'=>∃ k3:Nat,Aside0 (k3≤x.dflt.length)∧i= .int .i64 k3∧Aside0 (kq=x.dflt.length - k3)∧Aside0 (∀ j y,j < k3→x.dflt[j]? =some y→True)∧Aside0 (At w [.b gd (row (#[.string x.doc,.string x.name,.string x.t.f0,.slice A1 x.t.f1.length c1,.bool x.t.f2,.slice A2 x.dflt.length c2,.slice A3 x.dirs.length c3]) 45)] w'))
     case atStart=>exact ⟨0,⟨Nat.zero_le _⟩,rfl,⟨rfl⟩,⟨upto_zero⟩,⟨at_⟩⟩
     case round=>
      clear HK
      obtain ⟨k3,Hk3,rfl,Hkq3,Hfit3,HK⟩:=hrel
      replace Bc:=ce1_ HK 0;replace Bf:=fe1_ HK 0
      by_cases hlt:k3 < x.dflt.length
      case neg=>
       have hd:decide (k3 < x.dflt.length)=false:=decide_eq_false hlt;have Hlt3:=asd_ hlt;clear hlt
       go_wp2_with fail
       go_roundg (m - (k + 1))
       case measure=>have:=Hkq.out;have:=Hlt.out;omega
       case rel=>exact ⟨k + 1,⟨Hlt.out⟩,by go_num,⟨rfl⟩,⟨upto_next Hfit.out Hx.out (trivial)⟩,⟨At.sub at_ (by simp)⟩⟩
      case pos=>
       have hd:decide (k3 < x.dflt.length)=true:=decide_eq_true hlt;have Hlt3:=asd_ hlt;clear hlt
       have hi0:(0:Int)≤(k3:Int):=(by omega);have hi1:(k3:Int) < (x.dflt.length:Int):=(by have:=Hlt3.out;omega);have hs1:IntKind.i64.wrap ((k3:Int) + 1)=(k3:Int) + 1:=IntWalk.i64_in _ (by have:=Hlt3.out;have:=HL9.out;omega)
       obtain ⟨ad5,v,A5,c5,hA,hx,h0,h1,h2,hl2,hC2⟩:=at_Vl HC9.out k3 Hlt3.out
       subst hA
       have hmem:=List.mem_of_getElem? hx;obtain ⟨Hx3,Hmem3,Hl2,HC2⟩:=as4_ hx hmem hl2 hC2;clear hmem hx hl2 hC2
       obtain ⟨C0,C1,C2⟩:=as3_ h0 h1 h2;clear h0 h1 h2
       replace Bc:=ce1_ HK 0;replace Bf:=fe1_ HK 0;replace Bx:=xc3_ HK.out.b C0 C1 C2
       go_wp2_with (first|((with_reducible refine gd_ 12 ?_);refine bx_ #[i0,eS,nilS] 48 ?_;clear HK;intro ge wb12 HK Gge;replace Bc:=ce2_ HK 1 0;replace Bf:=fe2_ HK 1 0;replace Bx:=xc3_ HK.out.b C0 C1 C2)|((with_reducible refine gate_ (.store 48 (.tmp 12) (.tmp 36)) rfl ?_);refine storerow_at (cs:=#[i0,eS,nilS]) (g:=ge) 0 (#[.int .i64 v.kind,.string v.raw,.slice A5 v.kids.length c5]) at_ rfl Gge.out rfl rfl rfl rfl rfl rfl kr_ rfl (by simp [Value.oneCell']) ?_;intro wr2 HK1;replace HK:=asd_ HK1;clear HK1;replace Bc:=ce2_ HK 1 0;replace Bf:=fe2_ HK 1 0;replace Bx:=xc3_ HK.out.b C0 C1 C2))
       refine (wordy_ok v ((Hs2_.out) _ Hmem3.out) _ _ _ (Kd.C_below HC2.out be_)).mono ?_
       rintro _ wv ⟨bv,rfl,hp,hb⟩
       have Hpv:=asd_ hp;have HK9:=asd_ (At.step at_ hb);clear HK hp hb;have HK:=HK9;clear HK9
       replace Bc:=ce2_ HK 1 0;replace Bf:=fe2_ HK 1 0;replace Bx:=xc3_ HK.out.b C0 C1 C2
       cases bv
       case true=>
        go_wp2_with fail
        go_ret
        exact Yes.is be_ trivial
       case false=>
        go_wp2_with fail
        go_roundg (x.dflt.length - (k3 + 1))
        case measure=>have:=Hkq3.out;have:=Hlt3.out;omega
        case rel=>exact ⟨k3 + 1,⟨Hlt3.out⟩,by go_num,⟨rfl⟩,⟨upto_next Hfit3.out Hx3.out (trivial)⟩,⟨At.sub at_ (by simp)⟩⟩
  case pos=>
   have hd:decide (k < n)=true:=decide_eq_true hlt;have Hlt:=asd_ hlt;clear hlt
   have hi0:(0:Int)≤(k:Int):=(by omega);have hi1:(k:Int) < (n:Int):=(by have:=Hlt.out;omega);have hs1:IntKind.i64.wrap ((k:Int) + 1)=(k:Int) + 1:=IntWalk.i64_in _ (by have:=Hlt.out;have:=HL_.out;omega)
   obtain ⟨ad,nm,v,A2,c2,hA,hx,h0,h1,h2,h3,hl2,hC2⟩:=at_Kid HC_.out k Hlt.out
   subst hA
   have hmem:=List.mem_of_getElem? hx;obtain ⟨Hx,Hmem,Hl2,HC2⟩:=as4_ hx hmem hl2 hC2;clear hmem hx hl2 hC2
   obtain ⟨C0,C1,C2,C3⟩:=as4_ h0 h1 h2 h3;clear h0 h1 h2 h3
   replace Bx:=xc4_ HK.out.b C0 C1 C2 C3
   go_wp2_with (first|((with_reducible refine gd_ 8 ?_);refine bx_ #[eS,i0,eS,nilS] 50 ?_;clear HK;intro ge wb8 HK Gge;replace Bc:=ce1_ HK 0;replace Bf:=fe1_ HK 0;replace Bx:=xc4_ HK.out.b C0 C1 C2 C3)|((with_reducible refine gate_ (.store 50 (.tmp 8) (.tmp 18)) rfl ?_);refine storerow_at (cs:=#[eS,i0,eS,nilS]) (g:=ge) 0 (#[.string nm,.int .i64 v.kind,.string v.raw,.slice A2 v.kids.length c2]) at_ rfl Gge.out rfl rfl rfl rfl rfl rfl kr_ rfl (by simp [Value.oneCell']) ?_;intro wr3 HK1;replace HK:=asd_ HK1;clear HK1;replace Bc:=ce1_ HK 0;replace Bf:=fe1_ HK 0;replace Bx:=xc4_ HK.out.b C0 C1 C2 C3))
   refine (wordy_ok v (Hs_.out.2 _ Hmem.out).2 _ _ _ (Kd.C_below HC2.out be_)).mono ?_
   rintro _ wv ⟨bv,rfl,hp,hb⟩
   have Hpv:=asd_ hp;have HK9:=asd_ (At.step at_ hb);clear HK hp hb;have HK:=HK9;clear HK9
   replace Bc:=ce1_ HK 0;replace Bf:=fe1_ HK 0;replace Bx:=xc4_ HK.out.b C0 C1 C2 C3
   cases bv
   case true=>
    go_wp2_with fail
    go_ret
    exact Yes.is be_ trivial
   case false=>
    go_wp2_with fail
    go_roundg (n - (k + 1))
    case measure=>have:=Hkq.out;have:=Hlt.out;omega
    case rel=>exact ⟨k + 1,⟨Hlt.out⟩,by go_num,⟨rfl⟩,⟨upto_next Hfit.out Hx.out (trivial)⟩,⟨At.sub at_ (by simp)⟩⟩
theorem argNames_ok (w:World) (A:Option Addr) (n c:Nat) (xs:List Kid) (hC:kKid.C w A n xs) (hL:n≤1048576):
  Calls Tryz.prog 12 #[.slice A n c] w fun e w'=>∃ v,e= .returned v∧Kd.R Kd.string 9 w' w.heap.size (fun _=>True) v (xs.map Prod.fst)∧Below w.heap.size w w':=by
 obtain ⟨HC_,HL_⟩:=as2_ hC hL;clear hC hL
 have HK:=st0_ w
 have Hn:Aside0 (n=xs.length):=⟨HC_.out.1.symm⟩
 go_enter Tryz.func12,Tryz.ntmps12
 go_wp2_with fail
 have HK2:Aside0 (At w [.f (Fact.rows Kd.string 9 w.heap.size E9 nilS [])] w):=⟨At.fact _ HK.out (Kd.R_nil _ _ _ _ _)⟩;clear HK;have HK:=HK2;clear HK2
 go_loopg [3,8] n (fun kq v i w'=>∃ k:Nat,Aside0 (k≤n)∧i= .int .i64 k∧Aside0 (kq=n - k)∧Aside0 (At w [.f (Fact.rows Kd.string 9 w.heap.size E9 v ((xs.take k).map Prod.fst))] w'))
 case atStart=>exact ⟨0,⟨Nat.zero_le _⟩,rfl,⟨rfl⟩,⟨at_⟩⟩
 case round=>
  clear HK
  obtain ⟨k,Hk,rfl,Hkq,HK⟩:=hrel
  by_cases hlt:k < n
  case neg=>
   have hd:decide (k < n)=false:=decide_eq_false hlt;have e9:((xs.take k).map Prod.fst)=xs.map Prod.fst:=(by rw [List.take_of_length_le (by have:=Hn.out;omega)]);rw [e9] at HK;clear e9 hlt
   go_wp2_with fail
   go_ret
   exact ⟨u3,rfl,HK.out.k.1,be_⟩
  case pos=>
   have hd:decide (k < n)=true:=decide_eq_true hlt;have Hlt:=asd_ hlt;clear hlt
   have hi0:(0:Int)≤(k:Int):=(by omega);have hi1:(k:Int) < (n:Int):=(by have:=Hlt.out;omega);have hs1:IntKind.i64.wrap ((k:Int) + 1)=(k:Int) + 1:=IntWalk.i64_in _ (by have:=Hlt.out;have:=HL_.out;omega)
   obtain ⟨ad,nm,v,A2,c2,hA,hx,h0,h1,h2,h3,hl2,hC2⟩:=at_Kid HC_.out k Hlt.out
   subst hA
   have hmem:=List.mem_of_getElem? hx;obtain ⟨Hx,Hmem,Hl2,HC2⟩:=as4_ hx hmem hl2 hC2;clear hmem hx hl2 hC2
   obtain ⟨C0,C1,C2,C3⟩:=as4_ h0 h1 h2 h3;clear h0 h1 h2 h3
   replace Bx:=xc4_ HK.out.b C0 C1 C2 C3
   go_wp2_with (first|((with_reducible refine gd_ 5 ?_);refine bx_ #[eS,i0,eS,nilS] 50 ?_;clear HK;intro ge wb5 HK Gge;replace Bc:=ce1_ HK 0;replace Bf:=fe1_ HK 0;replace Bx:=xc4_ HK.out.b C0 C1 C2 C3)|((with_reducible refine gd_ 15 ?_);refine nw_ (row #[.string nm] 9) (fun g=> .slice (some ⟨g,0,none⟩) 1 1) ?_;clear HK;intro gl wb15 HK Ggl;replace Bc:=ce1_ HK 1;replace Bf:=fe1_ HK 1)|((with_reducible refine gate_builtin (b:= .append) (xs:=#[.tmp 12,.tmp 15]) rfl ?_);at_builtin;refine append1_at (p:=nm) (xs:=((xs.take k).map Prod.fst)) (g:=gl) (t:=37) (s:= .tmp 12) (x:= .tmp 15) (At.front 1 (At.front 2 HK.out rfl) rfl) rfl rfl rfl Tryz.underlying37 info9 rfl (by decide) rfl rfl (by have h9:=Hlt.out;have h8:=HL_.out;simp only [List.length_map,List.length_take];omega) ?_;intro v16 wa16 HK1;replace HK:=asd_ HK1;clear HK1;replace Bc:=ce1_ HK 1;replace Bf:=fe1_ HK 1)|((with_reducible refine gate_ (.store 50 (.tmp 5) (.tmp 11)) rfl ?_);refine storerow_at (cs:=#[eS,i0,eS,nilS]) (g:=ge) 0 (#[.string nm,.int .i64 v.kind,.string v.raw,.slice A2 v.kids.length c2]) at_ rfl Gge.out rfl rfl rfl rfl rfl rfl kr_ rfl (by simp [Value.oneCell']) ?_;intro wr1 HK1;replace HK:=asd_ HK1;clear HK1;replace Bc:=ce1_ HK 0;replace Bf:=fe1_ HK 0;replace Bx:=xc4_ HK.out.b C0 C1 C2 C3))
   go_roundg (n - (k + 1))
   case measure=>have:=Hkq.out;have:=Hlt.out;omega
   case rel=>exact ⟨k + 1,⟨Hlt.out⟩,by go_num,⟨rfl⟩,⟨by rw [take_map Hx.out];exact At.sub HK.out (List.Sublist.cons_cons _ (List.nil_sublist _))⟩⟩
theorem fitsArgs4_ok (w:World) (A:Option Addr) (n c:Nat) (xs:List Kid) (hC:kKid.C w A n xs) (hL:n≤1048576) (hs:SmK xs):
  Calls Tryz.prog 4 #[.slice A n c,.int .i64 60] w (Yes (FitK xs∧(xs.map Prod.fst).Nodup) w):=by
 obtain ⟨HC_,HL_,Hs_⟩:=as3_ hC hL hs;clear hC hL hs
 have HK:=st0_ w
 go_enter Tryz.func4,Tryz.ntmps4
 go_wp2_with fail
 refine (fitsArgs_ok _ _ _ _ xs (Kd.C_below HC_.out be_) HL_.out Hs_.out 60 (by decide) (by decide)).mono ?_
 rintro _ wa ⟨ba,rfl,hp,hb⟩
 have Hpa:=asd_ hp;have HK9:=asd_ (At.step at_ hb);clear HK hp hb;have HK:=HK9;clear HK9
 cases ba
 case true=>
  go_wp2_with fail
  refine (argNames_ok _ A n c xs (Kd.C_below HC_.out be_) HL_.out).mono ?_
  rintro _ w2 ⟨v,rfl,hR,hb⟩
  obtain ⟨nl,hnl⟩:∃ nl,nl=xs.map Prod.fst:=⟨_,rfl⟩;rw [← hnl] at hR;have Hnl:=asd_ hnl;clear hnl
  obtain ⟨Aa,ca,rfl,hla,hca⟩:=Kd.R_reads hR
  obtain ⟨ka,ra,hra,hra2⟩:=apart_some nl (by rw [Hnl.out];have:=Hs_.out.1;simp;omega)
  have HK9:=asd_ (At.step at_ hb);obtain ⟨HCa,HLa,Hra,Hra2⟩:=as4_ hca hla hra hra2;clear HK hb hR hla hca hra hra2;have HK:=HK9;clear HK9
  go_wp2_with (first|(go_at_call 11;refine ((spec_apart.calls ka Aa ca nl ra _ (Kd.C_below HCa.out (Below.refl _ _)) HLa.out Hra.out).mono (fun _ _ h=>(⟨h.1,h.2.below⟩:_∧Below _ _ _))).mono ?_;rintro _ w3 ⟨rfl,hb⟩;have HK9:=asd_ (At.step at_ hb);clear HK hb;have HK:=HK9;clear HK9))
  go_ret
  exact ⟨_,rfl,fun hb=>⟨Hpa.out (by first|trivial|rfl),Hnl.out ▸ Hra2.out hb⟩,be_⟩
 case false=>
  go_wp2_with fail
  go_ret
  exact Yes.no be_
theorem VD.obj_inv {w0:World} {raw:ByteArray} {kids:List Kid} {x:Dt} (h:VD w0 ⟨9,raw,kids⟩ x):∃ ds:List (ByteArray×Dt),x=dObj (ds.foldl ins [])∧ds.length=kids.length∧(∀ (i:Nat) (k:Kid) (d:ByteArray×Dt),kids[i]? =some k→ds[i]? =some d→VD w0 k.2 d.2)∧(∀ (i:Nat) (k:Kid) (d:ByteArray×Dt),kids[i]? =some k→ds[i]? =some d→d.1=k.1):=by
 generalize hv:(⟨9,raw,kids⟩:Vl)=v at h
 cases h with
 |obj h1 h2 h3 h4=>subst hv;exact ⟨_,rfl,h2,h3,h4⟩
 |int h1=>subst hv;exact absurd h1 (by show ¬ (9:Int)=1;decide)
 |float h1=>subst hv;exact absurd h1 (by show ¬ (9:Int)=2;decide)
 |bool h1=>subst hv;exact absurd h1 (by show ¬ (9:Int)=5;decide)
 |null h1=>subst hv;exact absurd h1 (by show ¬ (9:Int)=6;decide)
 |str h1=>subst hv;exact absurd h1 (by show ¬ ((9:Int)=3∨(9:Int)=4∨(9:Int)=7);decide)
 |list h1=>subst hv;exact absurd h1 (by show ¬ (9:Int)=8;decide)
theorem foldl_ins_len {α:Type} (ds:List (ByteArray×α)):∀ (L:List (ByteArray×α)),(ds.foldl ins L).length≤L.length + ds.length:=by
 induction ds with
 |nil=>intro L;exact Nat.le_refl _
 |cons d ds ih=>
  intro L
  have h1:∀ (M:List (ByteArray×α)),(ins M d).length≤M.length + 1:=by
   intro M
   induction M with
   |nil=>exact Nat.le_refl _
   |cons h t iht=>
    unfold ins
    split
    ·simp only [List.length_cons];omega
    ·split<;>simp
  have h2:=ih (ins L d)
  have h3:=h1 L
  simp only [List.foldl_cons,List.length_cons]
  omega
theorem foldl_ins_mem {α:Type} (ds:List (ByteArray×α)):∀ {L:List (ByteArray×α)} {x:ByteArray×α},Rising L→x∈ds.foldl ins L→x∈L∨x∈ds:=by
 induction ds with
 |nil=>exact fun _ h=> .inl h
 |cons d ds ih=>
  intro L x hL hx
  rcases ih (ins_rising hL d) hx with h|h
  ·rcases (ins_mem hL d x).1 h with rfl|h
   ·exact .inr List.mem_cons_self
   ·exact .inl h.1
  ·exact .inr (List.mem_cons_of_mem _ h)
theorem VD.lt {w0:World} {v:Vl} {x:Dt} (h:VD w0 v x) (hs:Sm v):Lt x:=by
 induction h with
 |int=>exact .mk (by show 0≤1073741824;decide) (fun k hk=>by cases hk)
 |float=>exact .mk (by show 0≤1073741824;decide) (fun k hk=>by cases hk)
 |bool=>exact .mk (by show 0≤1073741824;decide) (fun k hk=>by cases hk)
 |null=>exact .mk (by show 0≤1073741824;decide) (fun k hk=>by cases hk)
 |str=>exact .mk (by show 0≤1073741824;decide) (fun k hk=>by cases hk)
 | @list v ds h1 h2 h3 h4 ih=>
  refine .mk (by have:=hs.len;show ds.length≤_;omega) (fun d hd=> ?_)
  have hd0:d∈ds:=hd
  obtain ⟨i,hi,e⟩:=List.getElem_of_mem hd0
  have hd':ds[i]? =some d:=by rw [List.getElem?_eq_getElem hi];exact congrArg some e
  obtain ⟨k,hk⟩:∃ k,v.kids[i]? =some k:=⟨_,List.getElem?_eq_getElem (by rw [← h2];exact hi)⟩
  exact ih i k d hk hd' (hs.kid (List.mem_of_getElem? hk)).2
 | @obj v ds h1 h2 h3 h4 ih=>
  refine .mk (by have:=hs.len;have h5:=foldl_ins_len ds [];show (ds.foldl ins []).length≤_;simp at h5;omega) (fun d hd=> ?_)
  have hd2:d∈ds:=(foldl_ins_mem ds List.Pairwise.nil hd).elim (fun h=>by cases h) id
  obtain ⟨i,hi,e⟩:=List.getElem_of_mem hd2
  have hd':ds[i]? =some d:=by rw [List.getElem?_eq_getElem hi];exact congrArg some e
  obtain ⟨k,hk⟩:∃ k,v.kids[i]? =some k:=⟨_,List.getElem?_eq_getElem (by rw [← h2];exact hi)⟩
  exact ih i k d hk hd' (hs.kid (List.mem_of_getElem? hk)).2
theorem law_ok {w:World} {xs:List Kid} {defs:List ADef} {Aa A:Option Addr} {na n ca c:Nat} (hN:Nums w) (hCa:kKid.C w Aa na xs) (hC:kAD.C w A n defs) (hLa:na≤1048576) (hL:n≤1048576) (hsa:SmK xs) (hsd:SmA defs):
  Calls Tryz.prog 3 #[.slice Aa na ca,.slice A n c] w fun e w'=>e= .returned (.bool true)∧Below w.heap.size w w':=by
 obtain ⟨HN_,HCa_,HC_,HLa_,HL_,Hsa_,Hsd_⟩:=as7_ hN hCa hC hLa hL hsa hsd;clear hN hCa hC hLa hL hsa hsd
 have HK:=st0_ w
 have qna1:decide ((2147483647:Int) < (na:Int))=false:=decide_eq_false (by have:=HLa_.out;omega);have qna2:decide (2147483647 < na)=false:=decide_eq_false (by have:=HLa_.out;omega)
 have qn1:decide ((2147483647:Int) < (n:Int))=false:=decide_eq_false (by have:=HL_.out;omega);have qn2:decide (2147483647 < n)=false:=decide_eq_false (by have:=HL_.out;omega)
 go_enter Tryz.func3,Tryz.ntmps3
 go_wp2_with fail
 refine (fitsArgs4_ok _ _ _ _ xs (Kd.C_below HCa_.out be_) HLa_.out Hsa_.out).mono ?_;rintro _ wa ⟨ba,rfl,hp,hb⟩;have Hpa:=asd_ hp;clear hp
 have HK9:=asd_ (At.step (show At w [] _ from at_) hb);clear HK hb;have HK:=HK9;clear HK9
 cases ba
 case false=>
  go_wp2_with fail
  exact bodyPost_ret (v:= .bool true) (by simp [results,Tryz.results3,go_sem]) rfl ⟨rfl,be_⟩
 case true=>
  go_wp2_with fail
  refine (fitsArgDefs5_ok _ _ _ _ defs (Kd.C_below HC_.out be_) HL_.out Hsd_.out).mono ?_;rintro _ wd ⟨bd,rfl,hp,hb⟩;have Hpd:=asd_ hp;clear hp
  have HK9:=asd_ (At.step (show At w [] _ from at_) hb);clear HK hb;have HK:=HK9;clear HK9
  cases bd
  case false=>
   go_wp2_with fail
   exact bodyPost_ret (v:= .bool true) (by simp [results,Tryz.results3,go_sem]) rfl ⟨rfl,be_⟩
  case true=>
   by_cases h1:100 < na
   case pos=>
    have p1:decide ((100:Int) < (na:Int))=true:=decide_eq_true (by omega);have p2:decide (100 < na)=true:=decide_eq_true h1;clear h1
    go_wp2_with fail
    exact bodyPost_ret (v:= .bool true) (by simp [results,Tryz.results3,go_sem]) rfl ⟨rfl,be_⟩
   case neg=>
    have p1:decide ((100:Int) < (na:Int))=false:=decide_eq_false (by omega);have p2:decide (100 < na)=false:=decide_eq_false h1;clear h1
    by_cases h2:100 < n
    case pos=>
     have p3:decide ((100:Int) < (n:Int))=true:=decide_eq_true (by omega);have p4:decide (100 < n)=true:=decide_eq_true h2;clear h2
     go_wp2_with fail
     exact bodyPost_ret (v:= .bool true) (by simp [results,Tryz.results3,go_sem]) rfl ⟨rfl,be_⟩
    case neg=>
     have p3:decide ((100:Int) < (n:Int))=false:=decide_eq_false (by omega);have p4:decide (100 < n)=false:=decide_eq_false h2;clear h2
     go_wp2_with fail
     refine (wordyArgs_ok _ _ _ _ _ _ _ xs defs (Kd.C_below HCa_.out be_) HLa_.out Hsa_.out (Kd.C_below HC_.out be_) HL_.out Hsd_.out).mono ?_;rintro _ ww ⟨bw,rfl,-,hb⟩
     have HK9:=asd_ (At.step (show At w [] _ from at_) hb);clear HK hb;have HK:=HK9;clear HK9
     cases bw
     case true=>
      go_wp2_with fail
      exact bodyPost_ret (v:= .bool true) (by simp [results,Tryz.results3,go_sem]) rfl ⟨rfl,be_⟩
     case false=>
      go_wp2_with fail
      have hfa:∀ k∈xs,Fit k.2∧Sm k.2:=fun k hk=>⟨(Hpa.out (by first|trivial|rfl)).1 k hk,(Hsa_.out.2 k hk).2⟩;have hfd:∀ d∈defs,d.name.size≤1048576∧d.dflt.length≤1∧∀ v∈d.dflt,Fit v∧Sm v:=fun d hd=>⟨(Hsd_.out.2 d hd).2.1,((Hpd.out (by first|trivial|rfl)).1 d hd).2.1,fun v hv=>⟨((Hpd.out (by first|trivial|rfl)).1 d hd).2.2.1 v hv,(Hsd_.out.2 d hd).2.2.2.1.2 v hv⟩⟩;have hxn:=(Hpa.out (by first|trivial|rfl)).2;have hvl:=allKids_vl hfa hfd (by rw [HC_.out.1];exact HL_.out)
      obtain ⟨Hfa,Hfd,Hxn,Hvl⟩:=as4_ hfa hfd hxn hvl;have Hf2:Aside0 (∀ a∈defs,FitA a):=⟨(Hpd.out (by first|trivial|rfl)).1⟩;have Hf1:Aside0 (FitK xs):=⟨(Hpa.out (by first|trivial|rfl)).1⟩;clear hfa hfd hxn hvl Hpa Hpd
      refine (specArgMap_ok HN_.out be_ HCa_.out HC_.out HLa_.out HL_.out Hfa.out Hfd.out).mono ?_
      rintro _ w7 ⟨d,td,okd,sn1,rfl,hvd,hdb,hks,hnd,hge,hof,hb⟩;obtain ⟨Bd,cd,e7⟩:=hdb.slice;subst e7
      have HK9:Aside0 (At w (sn1 ++ []) w7):=⟨At.came_all (l:=[]) (show At w [] _ from at_) hb hks hnd hge⟩;obtain ⟨Hvd,Hdb⟩:=as2_ hvd hdb;clear HK hvd hdb hks hnd hge hof hb;have HK:=HK9;clear HK9
      cases okd
      case false=>
       go_wp2_with (first|((with_reducible refine gd_ 5 ?_);refine bx_ #[i0,bF,i0,.int .u64 0,eS,nilS] 30 ?_;clear HK;intro g5 wb5 HK Gg5;replace Bc:=ce1_ HK 0;replace Bf:=fe1_ HK 0)|((with_reducible refine gate_ (.store 30 (.tmp 5) (.tmp 44)) rfl ?_);refine storerow_at (cs:=#[i0,bF,i0,.int .u64 0,eS,nilS]) (g:=g5) 0 (#[.int .i64 d.kind,.bool d.b,.int .i64 d.n,.int .u64 d.f,.string d.s,.slice Bd d.kids.length cd]) at_ rfl Gg5.out rfl rfl rfl rfl rfl rfl kr_ rfl (by simp [Value.oneCell']) ?_;intro wr1 HK1;replace HK:=asd_ HK1;clear HK1;replace Bc:=ce1_ HK 0;replace Bf:=fe1_ HK 0))
       exact bodyPost_ret (v:= .bool true) (by simp [results,Tryz.results3,go_sem]) rfl ⟨rfl,be_⟩
      case true=>
       go_wp2_with (first|((with_reducible refine gd_ 5 ?_);refine bx_ #[i0,bF,i0,.int .u64 0,eS,nilS] 30 ?_;clear HK;intro g5 wb5 HK Gg5;replace Bc:=ce1_ HK 0;replace Bf:=fe1_ HK 0)|((with_reducible refine gate_ (.store 30 (.tmp 5) (.tmp 44)) rfl ?_);refine storerow_at (cs:=#[i0,bF,i0,.int .u64 0,eS,nilS]) (g:=g5) 0 (#[.int .i64 d.kind,.bool d.b,.int .i64 d.n,.int .u64 d.f,.string d.s,.slice Bd d.kids.length cd]) at_ rfl Gg5.out rfl rfl rfl rfl rfl rfl kr_ rfl (by simp [Value.oneCell']) ?_;intro wr1 HK1;replace HK:=asd_ HK1;clear HK1;replace Bc:=ce1_ HK 0;replace Bf:=fe1_ HK 0))
       have hv:=Hvd.out (by first|trivial|rfl);have hlt:=hv.lt Hvl.out.2;obtain ⟨ds,hdx,hdl,hdv,hdn⟩:=hv.obj_inv;have Hlt:=asd_ hlt;clear hv hlt
       have hgo:∀ (W:World),Below w.heap.size w W→∀ (sn:List Blk) (va vd:Value),Keeps sn W→ArgsB sn va xs→AdefsB sn vd defs→Calls Tryz.prog 42 #[vd,va,nM] W (VM d W):=fun W hb sn va vd hk ha hd=>by rw [hdx];exact arg2map_ok hb hk ha hd (by rw [HCa_.out.1];exact HLa_.out) (by rw [HC_.out.1];exact HL_.out) Hxn.out Hfa.out Hfd.out hdl hdv hdn
       have Hgo:=asd_ hgo;clear hgo hdx hdl hdv hdn
       refine (argMap_ok (x:=d) trivial (Kd.C_below HCa_.out be_) (Kd.C_below HC_.out be_) HLa_.out HL_.out Hsa_.out Hsd_.out Hf1.out Hf2.out (fun W hb=>Hgo.out W (below_step be_ hb))).mono ?_
       rintro _ w8 ⟨u2,sn2,rfl,hdb2,hks,hnd,hge,hb⟩;obtain ⟨Be,ce,e7⟩:=hdb2.slice;subst e7;have Hdb2:=asd_ hdb2;clear hdb2
       have HK9:Aside0 (At w (.b g5 (row (#[.int .i64 d.kind,.bool d.b,.int .i64 d.n,.int .u64 d.f,.string d.s,.slice Bd d.kids.length cd]) 30)::(sn2 ++ (sn1 ++ []))) w8):=⟨At.behind [.b g5 (row (#[.int .i64 d.kind,.bool d.b,.int .i64 d.n,.int .u64 d.f,.string d.s,.slice Bd d.kids.length cd]) 30)] (At.came_all (l:=(.b g5 (row (#[.int .i64 d.kind,.bool d.b,.int .i64 d.n,.int .u64 d.f,.string d.s,.slice Bd d.kids.length cd]) 30)::(sn1 ++ []))) at_ hb hks hnd hge)⟩;clear HK hks hnd hge hb;have HK:=HK9;clear HK9
       replace Bc:=ce1_ HK 0;replace Bf:=fe1_ HK 0
       go_wp2_with (first|((with_reducible refine gd_ 7 ?_);refine bx_ #[i0,bF,i0,.int .u64 0,eS,nilS] 30 ?_;clear HK;intro g7 wb7 HK Gg7;replace Bc:=ce2_ HK 1 0;replace Bf:=fe2_ HK 1 0)|((with_reducible refine gd_ 56 ?_);(try (refine gate_guard (by rfl) ?_;dsimp only));refine lo_ 30 7 g7 (#[.int .i64 d.kind,.bool d.b,.int .i64 d.n,.int .u64 d.f,.string d.s,.slice Be d.kids.length ce]) HK.out.k.1 Tryz.underlying30 ?_)|((with_reducible refine gd_ 57 ?_);(try (refine gate_guard (by rfl) ?_;dsimp only));refine lo_ 30 5 g5 (#[.int .i64 d.kind,.bool d.b,.int .i64 d.n,.int .u64 d.f,.string d.s,.slice Bd d.kids.length cd]) HK.out.k.2.1 Tryz.underlying30 ?_)|((first|((with_reducible refine gate_ (.store 30 (.tmp 7) (.tmp 52)) rfl ?_);refine storerow_at (cs:=#[i0,bF,i0,.int .u64 0,eS,nilS]) (g:=g7) 0 (#[.int .i64 d.kind,.bool d.b,.int .i64 d.n,.int .u64 d.f,.string d.s,.slice Be d.kids.length ce]) at_ rfl Gg7.out rfl rfl rfl rfl rfl rfl kr_ rfl (by simp [Value.oneCell']) ?_)|((with_reducible refine gd_ 58 ?_);(try (refine gate_guard (by rfl) ?_;dsimp only));refine cl_ #[.agg #[.int .i64 d.kind,.bool d.b,.int .i64 d.n,.int .u64 d.f,.string d.s,.slice Be d.kids.length ce],.agg #[.int .i64 d.kind,.bool d.b,.int .i64 d.n,.int .u64 d.f,.string d.s,.slice Bd d.kids.length cd]] (.bool true) Tryz.func9 (same_ok Hlt.out (w0:=_) (show Keeps sn2 _ from (Keeps.app.1 HK.out.k.2.2).1) (show Keeps sn1 _ from (Keeps.app.1 (Keeps.app.1 HK.out.k.2.2).2).1) Hdb2.out Hdb.out _ (Below.refl _ _)) ?_));intro wr2 HK1;replace HK:=asd_ HK1;clear HK1;replace Bc:=ce2_ HK 1 0;replace Bf:=fe2_ HK 1 0))
       exact bodyPost_ret (v:= .bool true) (by simp [results,Tryz.results3,go_sem]) rfl ⟨rfl,be_⟩
end Go.Proofs.YtlblbefbbibpaaaGreatDoor.J
