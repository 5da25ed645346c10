/- Part. -/
import Derived.Test.YtlblbefbbibpaaaGreatDoorQBD
set_option linter.unusedVariables false
set_option linter.unusedSimpArgs false
set_option maxHeartbeats 8000000
set_option maxRecDepth 100000
namespace Go.Proofs.YtlblbefbbibpaaaGreatDoor.J
open Go.RowKit Zw Zw.PrintWords Zw.PrintLast Zw.PrintMore PAM
def dz (L:List Nat):Dec.D:=⟨L,0,0,false,false⟩
structure SS where
 i:Nat
 sd:Bool
 sg:Bool
 D:Dec.D
def sl (s:ByteArray):Nat→SS→Option SS
 |0,x=>some x
 |f + 1,x=>
  let c:=ch s x.i
  if c=95 then sl s f {x with i:=x.i + 1} else
  if c=46 then (if x.sd then none else sl s f {x with sd:=true,D:={x.D with dp:=x.D.nd},i:=x.i + 1}) else
  if dig c then (if c=48∧x.D.nd=0 then sl s f {x with sg:=true,D:={x.D with dp:=x.D.dp - 1},i:=x.i + 1} else
   if x.D.nd < 800 then sl s f {x with sg:=true,D:={x.D with d:=x.D.d.set x.D.nd c.toNat,nd:=x.D.nd + 1},i:=x.i + 1} else
   sl s f {x with sg:=true,D:={x.D with trunc:=x.D.trunc||c != 48},i:=x.i + 1}) else some x
def exs (s:ByteArray) (i:Nat):Option (Nat×Int×Bool):=if exB s false i then exd s (i + 1) else some (i,0,false)
def set3 (s:ByteArray) (D:Dec.D) (i:Nat) (ev:Int):Option Dec.D:=if i=s.size then some {D with dp:=D.dp + ev} else none
def set2 (s:ByteArray) (x:SS):Option Dec.D:=
 if x.sg then (match exs s x.i with|none=>none|some (i,ev,_)=>set3 s (if x.sd then x.D else {x.D with dp:=x.D.nd}) i ev) else none
def setF (L:List Nat) (s:ByteArray):Option Dec.D:=
 if s.size=0 then none else
 match sl s (s.size - (sgnF s).1) ⟨(sgnF s).1,false,false,{dz L with neg:=(sgnF s).2}⟩ with|none=>none|some x=>set2 s x
structure SG (s:ByteArray) (x:SS):Prop where
 good:Dec.Good x.D
 hi:x.i≤s.size
 d1: -(x.i:Int)≤x.D.dp
 d2:x.D.dp≤x.i
 n:x.D.nd≤x.i
theorem SG.up {s:ByteArray} {x:SS} (h:SG s x) (hi:x.i < s.size):SG s {x with i:=x.i + 1}:=⟨h.good,hi,by have:=h.d1;show -((x.i + 1:Nat):Int)≤x.D.dp;omega,by have:=h.d2;show x.D.dp≤((x.i + 1:Nat):Int);omega,by have:=h.n;show x.D.nd≤x.i + 1;omega⟩
theorem SG.dig {s:ByteArray} {x:SS} {c:Int} (h:SG s x) (hi:x.i < s.size) (h48:48≤c) (h57:c≤57) (hz:¬(c=48∧x.D.nd=0)) (hn:x.D.nd < 800):SG s ⟨x.i + 1,x.sd,true,{x.D with d:=x.D.d.set x.D.nd c.toNat,nd:=x.D.nd + 1}⟩:=by
 obtain ⟨⟨l1,l2,l3,l4⟩,b,c1,d,e⟩:=h
 refine ⟨⟨by simp [l1],by show x.D.nd + 1≤800;omega,fun i hi=> ?_,fun _=> ?_⟩,by show x.i + 1≤s.size;omega,by show -((x.i + 1:Nat):Int)≤x.D.dp;omega,by show x.D.dp≤((x.i + 1:Nat):Int);omega,by show x.D.nd + 1≤x.i + 1;omega⟩
 ·show Dec.Dg ((x.D.d.set x.D.nd c.toNat).getD i 0)
  have hi':i < x.D.nd + 1:=hi
  by_cases e1:i=x.D.nd
  ·subst e1
   have:(x.D.d.set x.D.nd c.toNat).getD x.D.nd 0=c.toNat:=by simp [List.getD,List.getElem?_set,l1,hn]
   rw [this];unfold Dec.Dg;omega
  ·have:(x.D.d.set x.D.nd c.toNat).getD i 0=x.D.d.getD i 0:=by simp [List.getD,List.getElem?_set,Ne.symm e1]
   rw [this];exact l3 i (by omega)
 ·show 49≤(x.D.d.set x.D.nd c.toNat).getD 0 0
  by_cases e1:x.D.nd=0
  ·have:(x.D.d.set x.D.nd c.toNat).getD 0 0=c.toNat:=by rw [e1];simp [List.getD,List.getElem?_set,l1]
   rw [this];omega
  ·have:(x.D.d.set x.D.nd c.toNat).getD 0 0=x.D.d.getD 0 0:=by simp [List.getD,List.getElem?_set,e1]
   rw [this];exact l4 (by omega)
theorem dz_good {L:List Nat} (hL:L.length=800) (b:Bool):Dec.Good {dz L with neg:=b}:=⟨hL,Nat.zero_le _,fun i hi=>absurd hi (Nat.not_lt_zero _),fun h=>absurd h (Nat.lt_irrefl _)⟩
def SetP (L:List Nat) (s:ByteArray) (w0:World) (l:List Blk) (g:Nat) (e:Ending) (w':World):Prop:=∃ (ok:Bool) (D:Dec.D),e= .returned (.bool ok)∧(ok=true→setF L s=some D∧Dec.Good D)∧(ok=false→setF L s=none)∧At w0 (.b g (row (dc D) 235)::l) w'
theorem set_ok {w0 w:World} {l:List Blk} {g:Nat} {L:List Nat} (s:ByteArray) (hL:L.length=800) (H:At w0 (.b g (row (dc (dz L)) 235)::l) w) (hg:w0.heap.size≤g) (hs:s.size≤1048576):
  Calls Tryz.prog 116 #[.pointer (some ⟨g,0,none⟩),.string s] w (SetP L s w0 l g):=by
 obtain ⟨Hg,Hs⟩:=as2_ hg hs;clear hg hs;obtain ⟨R,hR⟩:∃ R,setF L s=R:=⟨_,rfl⟩;have HR:=asd_ hR;unfold setF at hR;have HK:=asd_ H;clear H
 have HLL:=asd_ hL;have HL:Aside0 ((dz L).d.length=800):=⟨hL⟩;clear hL
 have cnd:=At.dnd (W:=w) HK.out HL.out;have cdp:=At.ddp (W:=w) HK.out HL.out;have cneg:=At.dneg (W:=w) HK.out HL.out;have ctr:=At.dtr (W:=w) HK.out HL.out;have cfr:=At.dfro (W:=w) HK.out
 go_enter Tryz.func116,Tryz.ntmps116
 by_cases h0:s.size=0
 case pos=>
  rw [if_pos h0] at hR
  have Hn:Aside0 (setF L s=none):=⟨by rw [HR.out,← hR]⟩;clear hR
  go_wp2_with (first|((with_reducible refine gate_ (.store 4 (.tmp 12) (.const (.bool false))) rfl ?_);refine store_at (t:=4) (p:=12) (g:=g) (i:=802) (v:= .bool false) 0 (dc (dz L)) (dc_set_neg HL.out false) at_ rfl Hg.out rfl rfl rfl rfl gs_ ?_;intro ws1 HK1;replace HK:=asd_ HK1;clear HK1;clear cnd cdp cneg ctr cfr;have cnd:=At.dnd (W:=ws1) HK.out HL.out;have cdp:=At.ddp (W:=ws1) HK.out HL.out;have cneg:=At.dneg (W:=ws1) HK.out HL.out;have ctr:=At.dtr (W:=ws1) HK.out HL.out;have cfr:=At.dfro (W:=ws1) HK.out)|((with_reducible refine gate_ (.store 4 (.tmp 15) (.const (.bool false))) rfl ?_);refine store_at (t:=4) (p:=15) (g:=g) (i:=803) (v:= .bool false) 0 (dc (dz L)) (dc_set_trunc HL.out false) at_ rfl Hg.out rfl rfl rfl rfl gs_ ?_;intro ws2 HK1;replace HK:=asd_ HK1;clear HK1;clear cnd cdp cneg ctr cfr;have cnd:=At.dnd (W:=ws2) HK.out HL.out;have cdp:=At.ddp (W:=ws2) HK.out HL.out;have cneg:=At.dneg (W:=ws2) HK.out HL.out;have ctr:=At.dtr (W:=ws2) HK.out HL.out;have cfr:=At.dfro (W:=ws2) HK.out))
  go_ret
  exact ⟨false,_,rfl,(fun h=>(by cases h)),fun _=>Hn.out,at_⟩
 case neg=>
  rw [if_neg h0] at hR;have f1:decide (s.size≤0)=false:=decide_eq_false (by omega);have q1:0 < s.size:=(by omega);have q2:(0:Int) < s.size:=(by omega);obtain ⟨c,hc⟩:∃ c,ch s 0=c:=⟨_,rfl⟩;have x1:((s[0]'q1).toNat:Int)=c:=(ch_at q1).trans hc;have Hc:=asd_ hc;have Hsz0:Aside0 (0 < s.size):=⟨q1⟩;clear hc;have HR2:=asd_ hR;clear hR
  go_upto_block 0 with (first|((with_reducible refine gate_ (.store 4 (.tmp 12) (.const (.bool false))) rfl ?_);refine store_at (t:=4) (p:=12) (g:=g) (i:=802) (v:= .bool false) 0 (dc (dz L)) (dc_set_neg HL.out false) at_ rfl Hg.out rfl rfl rfl rfl gs_ ?_;intro ws1 HK1;replace HK:=asd_ HK1;clear HK1;clear cnd cdp cneg ctr cfr;have cnd:=At.dnd (W:=ws1) HK.out HL.out;have cdp:=At.ddp (W:=ws1) HK.out HL.out;have cneg:=At.dneg (W:=ws1) HK.out HL.out;have ctr:=At.dtr (W:=ws1) HK.out HL.out;have cfr:=At.dfro (W:=ws1) HK.out)|((with_reducible refine gate_ (.store 4 (.tmp 15) (.const (.bool false))) rfl ?_);refine store_at (t:=4) (p:=15) (g:=g) (i:=803) (v:= .bool false) 0 (dc (dz L)) (dc_set_trunc HL.out false) at_ rfl Hg.out rfl rfl rfl rfl gs_ ?_;intro ws2 HK1;replace HK:=asd_ HK1;clear HK1;clear cnd cdp cneg ctr cfr;have cnd:=At.dnd (W:=ws2) HK.out HL.out;have cdp:=At.ddp (W:=ws2) HK.out HL.out;have cneg:=At.dneg (W:=ws2) HK.out HL.out;have ctr:=At.dtr (W:=ws2) HK.out HL.out;have cfr:=At.dfro (W:=ws2) HK.out))
  go_cut [5] from 23 to 33 (fun v5 wc=>∃ (ng:Bool) (i:Nat),v5= .int .i64 i∧Aside0 (sgnF s=(i,ng))∧Aside0 (i≤1)∧Aside0 (At w0 (.b g (row (dc {dz L with neg:=ng}) 235)::l) wc))
  case first=>
   by_cases h43:c=43
   case pos=>
    have g1:(c == 43)=true:=beq_iff_eq.2 (by omega)
    have Hsg:Aside0 (sgnF s=(1,false)):=⟨by unfold sgnF;rw [Hc.out];exact if_pos h43⟩;clear h43
    go_wp2_with fail
    go_meet
    case rel=>exact ⟨false,1,rfl,Hsg,⟨by omega⟩,⟨at_⟩⟩
   case neg=>
    have g1:(c == 43)=false:=beq_eq_false_iff_ne.2 (by omega)
    by_cases h45:c=45
    case pos=>
     have g2:(c == 45)=true:=beq_iff_eq.2 (by omega)
     have Hsg:Aside0 (sgnF s=(1,true)):=⟨by unfold sgnF;rw [Hc.out];rw [if_neg h43,if_pos h45]⟩;clear h43 h45
     go_wp2_with (first|((with_reducible refine gate_ (.store 4 (.tmp 33) (.const (.bool true))) rfl ?_);refine store_at (t:=4) (p:=33) (g:=g) (i:=802) (v:= .bool true) 0 (dc {dz L with neg:=true}) (dc_set_neg HL.out true) at_ rfl Hg.out rfl rfl rfl rfl gs_ ?_;intro ws3 HK1;replace HK:=asd_ HK1;clear HK1;clear cnd cdp cneg ctr cfr;have cnd:=At.dnd (W:=ws3) HK.out HL.out;have cdp:=At.ddp (W:=ws3) HK.out HL.out;have cneg:=At.dneg (W:=ws3) HK.out HL.out;have ctr:=At.dtr (W:=ws3) HK.out HL.out;have cfr:=At.dfro (W:=ws3) HK.out))
     go_meet
     case rel=>exact ⟨true,1,rfl,Hsg,⟨by omega⟩,⟨at_⟩⟩
    case neg=>
     have g2:(c == 45)=false:=beq_eq_false_iff_ne.2 (by omega)
     have Hsg:Aside0 (sgnF s=(0,false)):=⟨by unfold sgnF;rw [Hc.out];rw [if_neg h43,if_neg h45]⟩;clear h43 h45
     go_wp2_with fail
     go_meet
     case rel=>exact ⟨false,0,rfl,Hsg,⟨by omega⟩,⟨at_⟩⟩
  case rest=>
   clear HK f1 q2 Hc h0 x1 q1 cnd cdp cneg ctr cfr;obtain ⟨ng,i1,rfl,Hsg,Hi1,HK⟩:=hcut
   have hR:=HR2.out;rw [Hsg.out] at hR;dsimp only at hR;clear HR2;obtain ⟨X,hX⟩:∃ X,sl s (s.size - i1) ⟨i1,false,false,{dz L with neg:=ng}⟩=X:=⟨_,rfl⟩;rw [hX] at hR;obtain ⟨HX,HR2⟩:=as2_ hX hR;clear hX hR
   go_upto_block 1 with fail
   go_cut [5,6,7] from 34 to 116 (fun v5 v6 v7 wc=>∃ x:SS,v5= .int .i64 x.i∧v6= .bool x.sd∧v7= .bool x.sg∧Aside0 (X=some x)∧Aside0 (SG s x)∧Aside0 (At w0 (.b g (row (dc x.D) 235)::l) wc))
   case first=>
    go_wp2_with fail
    go_loopg [5,6,7] (s.size - i1) (fun kq v5 v6 v7 w'=>∃ x:SS,v5= .int .i64 x.i∧v6= .bool x.sd∧v7= .bool x.sg∧Aside0 (kq + x.i=s.size)∧Aside0 (sl s kq x=X)∧Aside0 (SG s x)∧Aside0 (At w0 (.b g (row (dc x.D) 235)::l) w'))
    case atStart=>exact ⟨⟨i1,false,false,{dz L with neg:=ng}⟩,rfl,rfl,rfl,⟨by show s.size - i1 + i1=s.size;have:=Hi1.out;have:=Hsz0.out;omega⟩,HX,⟨⟨dz_good HLL.out ng,by show i1≤s.size;have:=Hi1.out;have:=Hsz0.out;omega,by show -(i1:Int)≤0;omega,by show (0:Int)≤i1;omega,Nat.zero_le _⟩⟩,⟨at_⟩⟩
    case round=>
     clear HK HL;obtain ⟨⟨k,sd,sg,D⟩,rfl,rfl,rfl,Hk,Hr,Hb,HK⟩:=hrel;dsimp only at Hk HK;have HL:Aside0 (D.d.length=800):=⟨Hb.out.good.len⟩;have Hn8:Aside0 (D.nd≤800):=⟨Hb.out.good.nd⟩
     have cnd:=At.dnd (W:=wr) HK.out HL.out;have cdp:=At.ddp (W:=wr) HK.out HL.out;have cneg:=At.dneg (W:=wr) HK.out HL.out;have ctr:=At.dtr (W:=wr) HK.out HL.out;have cfr:=At.dfro (W:=wr) HK.out
     cases gk with
     |zero=>
      have f0:decide (k < s.size)=false:=decide_eq_false (by have:=Hk.out;omega)
      go_wp2_with fail
      go_meet
      case rel=>exact ⟨⟨k,sd,sg,D⟩,rfl,rfl,rfl,⟨by rw [← Hr.out];rfl⟩,Hb,⟨at_⟩⟩
     |succ q=>
      have hk:k < s.size:=(by have:=Hk.out;omega);have Hk1:=asd_ hk;have f0:decide (k < s.size)=true:=decide_eq_true (hk);have q4:(k:Int) < s.size:=(by omega);obtain ⟨c,hc⟩:∃ c,ch s k=c:=⟨_,rfl⟩;have x1:((s[k]'hk).toNat:Int)=c:=(ch_at hk).trans hc;have cb:=ch_bd s k;rw [hc] at cb;obtain ⟨cb0,cb1⟩:=cb;have hr:=Hr.out;unfold sl at hr;dsimp only at hr;rw [hc] at hr;clear hc Hr
      have e1:IntKind.i64.wrap ((k:Int) + 1)=(k:Int) + 1:=IntWalk.i64_in _ (by have:=Hs.out;omega);have hdp1:=Hb.out.d1;have hdp2:=Hb.out.d2;dsimp only at hdp1 hdp2;have e2:IntKind.i64.wrap (D.dp - 1)=D.dp - 1:=IntWalk.i64_in _ (by have:=Hs.out;omega);have e3:IntKind.i64.wrap ((D.nd:Int) + 1)=(D.nd:Int) + 1:=IntWalk.i64_in _ (by have:=Hn8.out;omega);clear hdp1 hdp2
      by_cases h95:c=95
      case pos=>
       rw [if_pos h95] at hr
       have g95:(c == 95)=true:=beq_iff_eq.2 (by omega)
       clear h95
       have Hr:=asd_ hr;clear hr
       go_wp2_with fail
       go_roundg q
       case measure=>exact Nat.lt_succ_self _
       case rel=>exact ⟨⟨k + 1,sd,sg,D⟩,by go_num,rfl,rfl,⟨by have:=Hk.out;dsimp only;omega⟩,Hr,⟨Hb.out.up Hk1.out⟩,⟨at_⟩⟩
      case neg=>
       rw [if_neg h95] at hr
       have g95:(c == 95)=false:=beq_eq_false_iff_ne.2 (by omega)
       clear h95
       by_cases h46:c=46
       case pos=>
        rw [if_pos h46] at hr
        have g46:(c == 46)=true:=beq_iff_eq.2 (by omega)
        clear h46
        cases sd
        case true=>
         rw [if_pos rfl] at hr;have hR:=HR2.out;rw [← hr] at hR;dsimp only at hR;clear HR2 hr
         have Hn:Aside0 (setF L s=none):=⟨by rw [HR.out,← hR]⟩;clear hR
         go_wp2_with fail
         go_ret
         exact ⟨false,_,rfl,(fun h=>(by cases h)),fun _=>Hn.out,at_⟩
        case false=>
         rw [if_neg (by decide)] at hr;have Hr:=asd_ hr;clear hr
         go_wp2_with (first|((with_reducible refine gate_ (.store 3 (.tmp 57) (.tmp 55)) rfl ?_);refine store_at (t:=3) (p:=57) (g:=g) (i:=801) (v:= .int .i64 D.nd) 0 (dc {D with dp:=D.nd}) (dc_set_dp HL.out _) at_ rfl Hg.out rfl rfl rfl rfl gs_ ?_;intro ws4 HK1;replace HK:=asd_ HK1;clear HK1;clear cnd cdp cneg ctr cfr;have cnd:=At.dnd (W:=ws4) HK.out HL.out;have cdp:=At.ddp (W:=ws4) HK.out HL.out;have cneg:=At.dneg (W:=ws4) HK.out HL.out;have ctr:=At.dtr (W:=ws4) HK.out HL.out;have cfr:=At.dfro (W:=ws4) HK.out))
         go_roundg q
         case measure=>exact Nat.lt_succ_self _
         case rel=>exact ⟨⟨k + 1,true,sg,{D with dp:=D.nd}⟩,by go_num,rfl,rfl,⟨by have:=Hk.out;dsimp only;omega⟩,Hr,⟨⟨⟨Hb.out.good.len,Hb.out.good.nd,Hb.out.good.dg,Hb.out.good.top⟩,Hk1.out,by show -((k + 1:Nat):Int)≤(D.nd:Int);omega,by have:=Hb.out.n;show (D.nd:Int)≤((k + 1:Nat):Int);dsimp only at this;omega,by have:=Hb.out.n;show D.nd≤k + 1;dsimp only at this;omega⟩⟩,⟨at_⟩⟩
       case neg=>
        rw [if_neg h46] at hr
        have g46:(c == 46)=false:=beq_eq_false_iff_ne.2 (by omega)
        clear h46
        by_cases h48:48≤c
        case pos=>
         have g1:decide (48≤c)=true:=decide_eq_true (h48)
         by_cases h57:c≤57
         case pos=>
          have g2:decide (c≤57)=true:=decide_eq_true (h57)
          rw [show dig c=true by unfold dig;simp;omega,if_pos rfl] at hr;obtain ⟨H48,H57⟩:=as2_ h48 h57;have u1:IntKind.u8.wrap c=c:=(by rw [IntKind.wrap_u8];omega)
          by_cases hz:c=48∧D.nd=0
          case pos=>
           rw [if_pos hz] at hr;obtain ⟨hz1,hz2⟩:=hz
           have g6:(c == 48)=true:=beq_iff_eq.2 (by omega)
           have g7:((D.nd:Int) == 0)=true:=beq_iff_eq.2 (by omega);clear hz1 hz2
           have Hr:=asd_ hr;clear hr h48 h57
           go_wp2_with (first|((with_reducible refine gate_ (.store 3 (.tmp 86) (.tmp 84)) rfl ?_);refine store_at (t:=3) (p:=86) (g:=g) (i:=801) (v:= .int .i64 (D.dp - 1)) 0 (dc {D with dp:=D.dp - 1}) (dc_set_dp HL.out _) at_ rfl Hg.out rfl rfl rfl rfl gs_ ?_;intro ws5 HK1;replace HK:=asd_ HK1;clear HK1;clear cnd cdp cneg ctr cfr;have cnd:=At.dnd (W:=ws5) HK.out HL.out;have cdp:=At.ddp (W:=ws5) HK.out HL.out;have cneg:=At.dneg (W:=ws5) HK.out HL.out;have ctr:=At.dtr (W:=ws5) HK.out HL.out;have cfr:=At.dfro (W:=ws5) HK.out))
           go_roundg q
           case measure=>exact Nat.lt_succ_self _
           case rel=>exact ⟨⟨k + 1,sd,true,{D with dp:=D.dp - 1}⟩,by go_num,rfl,rfl,⟨by have:=Hk.out;dsimp only;omega⟩,Hr,⟨⟨⟨Hb.out.good.len,Hb.out.good.nd,Hb.out.good.dg,Hb.out.good.top⟩,Hk1.out,by have:=Hb.out.d1;show -((k + 1:Nat):Int)≤D.dp - 1;dsimp only at this;omega,by have:=Hb.out.d2;show D.dp - 1≤((k + 1:Nat):Int);dsimp only at this;omega,by have:=Hb.out.n;show D.nd≤k + 1;dsimp only at this;omega⟩⟩,⟨at_⟩⟩
          case neg=>
           rw [if_neg hz] at hr
           by_cases hnd:D.nd < 800
           case pos=>
            rw [if_pos hnd] at hr
            have g3:decide (D.nd < 800)=true:=decide_eq_true (hnd)
            have g3i:decide ((D.nd:Int) < 800)=true:=decide_eq_true (by omega)
            by_cases hc8:c=48
            case pos=>
             have g6:(c == 48)=true:=beq_iff_eq.2 (hc8)
             have g7:((D.nd:Int) == 0)=false:=beq_eq_false_iff_ne.2 (by omega);clear hc8
             obtain ⟨cn,hcn⟩:∃ cn:Nat,c=(cn:Int):=⟨c.toNat,by omega⟩;subst hcn;rw [Int.toNat_natCast] at hr;obtain ⟨Hz,Hnd,Hr⟩:=as3_ hz hnd hr;have p0:(0:Int)≤(D.nd:Int):=(by omega);have p1:(D.nd:Int) < 800:=(by omega);have p1n:D.nd < 800:=hnd;clear hr h48 h57 hz hnd
             have cx:=At.dd (W:=wr) HK.out HL.out D.nd p1n;have HL2:Aside0 ((D.d.set D.nd cn).length=800):=⟨by rw [List.length_set];exact HL.out⟩
             go_wp2_with fail
             refine st_ 12 (fun w'=>At w0 (.b g (row (dc D) 235)::l) w'∧World.cell? w' ⟨g,800,none⟩=some (.int .i64 D.nd)) [11] (fun A=>⟨A,(At.dnd A HL.out)⟩) (fun hHeld=> ?_)
             refine pu_ 0 92 1 ?_
             refine pu_ 1 93 3 ?_
             refine pu_ 2 94 7 ?_
             refine pu_ 3 95 15 ?_
             refine pu_ 5 97 47 ?_
             refine pu_ 6 98 111 ?_
             refine pu_ 8 100 367 ?_
             refine pu_ 9 101 879 ?_
             refine ta2_ 4 96 895 hHeld ?_
             refine ta2_ 7 99 1023 hHeld ?_
             refine pu_ 10 102 2047 ?_
             refine lz_ 11 4095 (fun K hK=> ?_)
             have HE:=asd_ (hHeld.1)
             have fg_:=fE_ HE 0
             have cg_:World.cell? _ ⟨g,D.nd,none⟩=_:=At.dd HE.out HL.out D.nd p1n
             refine sk_ ?_
             have HE1:=asd_ (At.store_to (i:=D.nd) (v:= .int .u8 (cn:Int)) 0 (dc {D with d:=D.d.set D.nd cn}) HE.out rfl Hg.out rfl (dc_set_d HL.out p1n cn))
             clear fg_ cg_
             clear HE;have HE:=HE1;clear HE1
             refine hK.out _ _ ?_
             clear hK K
             refine done_ kr_ ?_
             clear HK;have HK:=HE;clear HE
             clear hHeld
             clear cnd cdp cneg ctr cfr cx;have hE9:=HK.out;clear HK;rw [World.setCell_drew] at hE9;generalize hws9:World.drew (World.setCell wr ⟨g,D.nd,none⟩ (Value.int .u8 (cn:Int)))=ws9 at hE9 ⊢;have HK:=asd_ hE9;clear hE9 hws9;have cnd:=At.dnd (W:=ws9) HK.out HL2.out;have cdp:=At.ddp (W:=ws9) HK.out HL2.out;have cneg:=At.dneg (W:=ws9) HK.out HL2.out;have ctr:=At.dtr (W:=ws9) HK.out HL2.out;have cfr:=At.dfro (W:=ws9) HK.out
             go_wp2_with (first|((with_reducible refine gate_ (.store 3 (.tmp 109) (.tmp 107)) rfl ?_);refine store_at (t:=3) (p:=109) (g:=g) (i:=800) (v:= .int .i64 ((D.nd:Int) + 1)) 0 (dc {D with d:=D.d.set D.nd cn,nd:=D.nd + 1}) ((show (dc {D with d:=D.d.set D.nd cn}).setIfInBounds 800 (.int .i64 ((D.nd:Int) + 1))=dc {D with d:=D.d.set D.nd cn,nd:=D.nd + 1} from dc_set_nd HL2.out (D.nd + 1))) at_ rfl Hg.out rfl rfl rfl rfl gs_ ?_;intro ws6 HK1;replace HK:=asd_ HK1;clear HK1;clear cnd cdp cneg ctr cfr;have cnd:=At.dnd (W:=ws6) HK.out HL2.out;have cdp:=At.ddp (W:=ws6) HK.out HL2.out;have cneg:=At.dneg (W:=ws6) HK.out HL2.out;have ctr:=At.dtr (W:=ws6) HK.out HL2.out;have cfr:=At.dfro (W:=ws6) HK.out))
             go_roundg q
             case measure=>exact Nat.lt_succ_self _
             case rel=>exact ⟨⟨k + 1,sd,true,{D with d:=D.d.set D.nd cn,nd:=D.nd + 1}⟩,by go_num,rfl,rfl,⟨by have:=Hk.out;dsimp only;omega⟩,Hr,⟨by have h9:=Hb.out.dig Hk1.out H48.out H57.out Hz.out Hnd.out;dsimp only at h9;rw [Int.toNat_natCast] at h9;exact h9⟩,⟨at_⟩⟩
            case neg=>
             have g6:(c == 48)=false:=beq_eq_false_iff_ne.2 (hc8)
             clear hc8
             obtain ⟨cn,hcn⟩:∃ cn:Nat,c=(cn:Int):=⟨c.toNat,by omega⟩;subst hcn;rw [Int.toNat_natCast] at hr;obtain ⟨Hz,Hnd,Hr⟩:=as3_ hz hnd hr;have p0:(0:Int)≤(D.nd:Int):=(by omega);have p1:(D.nd:Int) < 800:=(by omega);have p1n:D.nd < 800:=hnd;clear hr h48 h57 hz hnd
             have cx:=At.dd (W:=wr) HK.out HL.out D.nd p1n;have HL2:Aside0 ((D.d.set D.nd cn).length=800):=⟨by rw [List.length_set];exact HL.out⟩
             go_wp2_with fail
             refine st_ 12 (fun w'=>At w0 (.b g (row (dc D) 235)::l) w'∧World.cell? w' ⟨g,800,none⟩=some (.int .i64 D.nd)) [11] (fun A=>⟨A,(At.dnd A HL.out)⟩) (fun hHeld=> ?_)
             refine pu_ 0 92 1 ?_
             refine pu_ 1 93 3 ?_
             refine pu_ 2 94 7 ?_
             refine pu_ 3 95 15 ?_
             refine pu_ 5 97 47 ?_
             refine pu_ 6 98 111 ?_
             refine pu_ 8 100 367 ?_
             refine pu_ 9 101 879 ?_
             refine ta2_ 4 96 895 hHeld ?_
             refine ta2_ 7 99 1023 hHeld ?_
             refine pu_ 10 102 2047 ?_
             refine lz_ 11 4095 (fun K hK=> ?_)
             have HE:=asd_ (hHeld.1)
             have fg_:=fE_ HE 0
             have cg_:World.cell? _ ⟨g,D.nd,none⟩=_:=At.dd HE.out HL.out D.nd p1n
             refine sk_ ?_
             have HE1:=asd_ (At.store_to (i:=D.nd) (v:= .int .u8 (cn:Int)) 0 (dc {D with d:=D.d.set D.nd cn}) HE.out rfl Hg.out rfl (dc_set_d HL.out p1n cn))
             clear fg_ cg_
             clear HE;have HE:=HE1;clear HE1
             refine hK.out _ _ ?_
             clear hK K
             refine done_ kr_ ?_
             clear HK;have HK:=HE;clear HE
             clear hHeld
             clear cnd cdp cneg ctr cfr cx;have hE9:=HK.out;clear HK;rw [World.setCell_drew] at hE9;generalize hws9:World.drew (World.setCell wr ⟨g,D.nd,none⟩ (Value.int .u8 (cn:Int)))=ws9 at hE9 ⊢;have HK:=asd_ hE9;clear hE9 hws9;have cnd:=At.dnd (W:=ws9) HK.out HL2.out;have cdp:=At.ddp (W:=ws9) HK.out HL2.out;have cneg:=At.dneg (W:=ws9) HK.out HL2.out;have ctr:=At.dtr (W:=ws9) HK.out HL2.out;have cfr:=At.dfro (W:=ws9) HK.out
             go_wp2_with (first|((with_reducible refine gate_ (.store 3 (.tmp 109) (.tmp 107)) rfl ?_);refine store_at (t:=3) (p:=109) (g:=g) (i:=800) (v:= .int .i64 ((D.nd:Int) + 1)) 0 (dc {D with d:=D.d.set D.nd cn,nd:=D.nd + 1}) ((show (dc {D with d:=D.d.set D.nd cn}).setIfInBounds 800 (.int .i64 ((D.nd:Int) + 1))=dc {D with d:=D.d.set D.nd cn,nd:=D.nd + 1} from dc_set_nd HL2.out (D.nd + 1))) at_ rfl Hg.out rfl rfl rfl rfl gs_ ?_;intro ws7 HK1;replace HK:=asd_ HK1;clear HK1;clear cnd cdp cneg ctr cfr;have cnd:=At.dnd (W:=ws7) HK.out HL2.out;have cdp:=At.ddp (W:=ws7) HK.out HL2.out;have cneg:=At.dneg (W:=ws7) HK.out HL2.out;have ctr:=At.dtr (W:=ws7) HK.out HL2.out;have cfr:=At.dfro (W:=ws7) HK.out))
             go_roundg q
             case measure=>exact Nat.lt_succ_self _
             case rel=>exact ⟨⟨k + 1,sd,true,{D with d:=D.d.set D.nd cn,nd:=D.nd + 1}⟩,by go_num,rfl,rfl,⟨by have:=Hk.out;dsimp only;omega⟩,Hr,⟨by have h9:=Hb.out.dig Hk1.out H48.out H57.out Hz.out Hnd.out;dsimp only at h9;rw [Int.toNat_natCast] at h9;exact h9⟩,⟨at_⟩⟩
           case neg=>
            rw [if_neg hnd] at hr
            have g3:decide (D.nd < 800)=false:=decide_eq_false (hnd)
            have g3i:decide ((D.nd:Int) < 800)=false:=decide_eq_false (by omega)
            clear h48 h57
            by_cases hc8:c=48
            case pos=>
             have g6:(c == 48)=true:=beq_iff_eq.2 (hc8)
             have g7:((D.nd:Int) == 0)=false:=beq_eq_false_iff_ne.2 (by omega)
             have g9:(c != 48)=false:=bne_eq_false_iff_eq.2 hc8;rw [g9,Bool.or_false] at hr;have Hr:=asd_ hr;clear hr hc8 hz
             go_wp2_with fail
             go_roundg q
             case measure=>exact Nat.lt_succ_self _
             case rel=>exact ⟨⟨k + 1,sd,true,D⟩,by go_num,rfl,rfl,⟨by have:=Hk.out;dsimp only;omega⟩,Hr,⟨⟨(Hb.out.up Hk1.out).good,(Hb.out.up Hk1.out).hi,(Hb.out.up Hk1.out).d1,(Hb.out.up Hk1.out).d2,(Hb.out.up Hk1.out).n⟩⟩,⟨at_⟩⟩
            case neg=>
             have g6:(c == 48)=false:=beq_eq_false_iff_ne.2 (hc8)
             rw [show (c != 48)=true from bne_iff_ne.2 hc8,Bool.or_true] at hr;have g9:(c != 48)=true:=bne_iff_ne.2 hc8;have Hr:=asd_ hr;clear hr hc8 hz
             go_wp2_with (first|((with_reducible refine gate_ (.store 4 (.tmp 116) (.const (.bool true))) rfl ?_);refine store_at (t:=4) (p:=116) (g:=g) (i:=803) (v:= .bool true) 0 (dc {D with trunc:=true}) (dc_set_trunc HL.out true) at_ rfl Hg.out rfl rfl rfl rfl gs_ ?_;intro ws8 HK1;replace HK:=asd_ HK1;clear HK1;clear cnd cdp cneg ctr cfr;have cnd:=At.dnd (W:=ws8) HK.out HL.out;have cdp:=At.ddp (W:=ws8) HK.out HL.out;have cneg:=At.dneg (W:=ws8) HK.out HL.out;have ctr:=At.dtr (W:=ws8) HK.out HL.out;have cfr:=At.dfro (W:=ws8) HK.out))
             go_roundg q
             case measure=>exact Nat.lt_succ_self _
             case rel=>exact ⟨⟨k + 1,sd,true,{D with trunc:=true}⟩,by go_num,rfl,rfl,⟨by have:=Hk.out;dsimp only;omega⟩,Hr,⟨⟨⟨Hb.out.good.len,Hb.out.good.nd,Hb.out.good.dg,Hb.out.good.top⟩,(Hb.out.up Hk1.out).hi,(Hb.out.up Hk1.out).d1,(Hb.out.up Hk1.out).d2,(Hb.out.up Hk1.out).n⟩⟩,⟨at_⟩⟩
         case neg=>
          have g2:decide (c≤57)=false:=decide_eq_false (h57)
          rw [show dig c=false by unfold dig;simp;omega,if_neg (by decide)] at hr
          have Hr:=asd_ hr;clear hr
          go_wp2_with fail
          go_meet
          case rel=>exact ⟨⟨k,sd,sg,D⟩,rfl,rfl,rfl,⟨by rw [← Hr.out]⟩,Hb,⟨at_⟩⟩
        case neg=>
         have g1:decide (48≤c)=false:=decide_eq_false (h48)
         rw [show dig c=false by unfold dig;simp;omega,if_neg (by decide)] at hr
         have Hr:=asd_ hr;clear hr
         go_wp2_with fail
         go_meet
         case rel=>exact ⟨⟨k,sd,sg,D⟩,rfl,rfl,rfl,⟨by rw [← Hr.out]⟩,Hb,⟨at_⟩⟩
   case rest=>
    clear HK HL HX;obtain ⟨⟨k,sd,sg,D⟩,rfl,rfl,rfl,HX,Hb,HK⟩:=hcut;dsimp only at HK;have HL:Aside0 (D.d.length=800):=⟨Hb.out.good.len⟩;have Hn8:Aside0 (D.nd≤800):=⟨Hb.out.good.nd⟩;have hR:=HR2.out;rw [HX.out] at hR;dsimp only at hR;unfold set2 at hR;dsimp only at hR;clear HR2 HX
    have cnd:=At.dnd HK.out HL.out;have cdp:=At.ddp HK.out HL.out;have cneg:=At.dneg HK.out HL.out;have ctr:=At.dtr HK.out HL.out;have cfr:=At.dfro HK.out
    cases sg
    case false=>
     rw [if_neg (by decide)] at hR
     have Hn:Aside0 (setF L s=none):=⟨by rw [HR.out,← hR]⟩;clear hR
     go_wp2_with fail
     go_ret
     exact ⟨false,_,rfl,(fun h=>(by cases h)),fun _=>Hn.out,at_⟩
    case true=>
     rw [if_pos rfl] at hR;have HR2:=asd_ hR;clear hR
     go_upto_if 120 with fail
     go_cut [7] from 119 to 127 (fun v7 wc=>∃ D2:Dec.D,v7= .bool true∧Aside0 ((if sd then D else {D with dp:=D.nd})=D2)∧Aside0 (SG s ⟨k,sd,true,D2⟩)∧Aside0 (At w0 (.b g (row (dc D2) 235)::l) wc))
     case first=>
      cases sd
      case true=>
       go_wp2_with fail
       go_meet
       case rel=>exact ⟨D,rfl,⟨by simp⟩,Hb,⟨at_⟩⟩
      case false=>
       go_wp2_with (first|((with_reducible refine gate_ (.store 3 (.tmp 127) (.tmp 125)) rfl ?_);refine store_at (t:=3) (p:=127) (g:=g) (i:=801) (v:= .int .i64 D.nd) 0 (dc {D with dp:=D.nd}) (dc_set_dp HL.out _) at_ rfl Hg.out rfl rfl rfl rfl gs_ ?_;intro ws9 HK1;replace HK:=asd_ HK1;clear HK1;clear cnd cdp cneg ctr cfr;have cnd:=At.dnd (W:=ws9) HK.out HL.out;have cdp:=At.ddp (W:=ws9) HK.out HL.out;have cneg:=At.dneg (W:=ws9) HK.out HL.out;have ctr:=At.dtr (W:=ws9) HK.out HL.out;have cfr:=At.dfro (W:=ws9) HK.out))
       go_meet
       case rel=>exact ⟨{D with dp:=D.nd},rfl,⟨if_neg (by decide)⟩,⟨⟨⟨Hb.out.good.len,Hb.out.good.nd,Hb.out.good.dg,Hb.out.good.top⟩,Hb.out.hi,by show -(k:Int)≤(D.nd:Int);omega,by have:=Hb.out.n;show (D.nd:Int)≤(k:Int);dsimp only at this;omega,Hb.out.n⟩⟩,⟨at_⟩⟩
     case rest=>
      clear HK cnd cdp cneg ctr cfr HL Hn8;obtain ⟨D2,rfl,HD2,Hb2,HK⟩:=hcut
      have hR:=HR2.out;rw [HD2.out] at hR;clear HR2 HD2 Hb;have HL:Aside0 (D2.d.length=800):=⟨Hb2.out.good.len⟩;have Hks0:Aside0 (k≤s.size):=⟨Hb2.out.hi⟩;have Hdb:Aside0 (-1048576≤D2.dp∧D2.dp≤1048576):=⟨by have h1:=Hb2.out.d1;have h2:=Hb2.out.d2;have h3:=Hb2.out.hi;have:=Hs.out;dsimp only at h1 h2 h3;omega⟩;have Hgd:Aside0 (Dec.Good D2):=⟨Hb2.out.good⟩;clear Hb2
      have cnd:=At.dnd (W:=wc) HK.out HL.out;have cdp:=At.ddp (W:=wc) HK.out HL.out;have cneg:=At.dneg (W:=wc) HK.out HL.out;have ctr:=At.dtr (W:=wc) HK.out HL.out;have cfr:=At.dfro (W:=wc) HK.out
      obtain ⟨bx,hbx⟩:∃ b,exB s false k=b:=⟨_,rfl⟩;unfold exs at hR;rw [hbx] at hR;have HR2:=asd_ hR;unfold exB at hbx;rw [show ecO false=101 from rfl] at hbx;clear hR;have Hbx:=asd_ hbx;clear hbx
      go_upto_region 32 with (fail)
      go_cut [138] from 128 to 137 (fun v138 wc=>v138= .bool bx∧Aside0 (At w0 (.b g (row (dc D2) 235)::l) wc))
      case first=>
       have hbx:=Hbx.out;clear Hbx
       by_cases hk:k < s.size
       case pos=>
        have f0:decide (k < s.size)=true:=decide_eq_true (by omega)
        have f1:decide ((k:Int) < (s.size:Int))=true:=decide_eq_true (by omega)
        have q1:k < s.size:=hk;have q2:(k:Int) < s.size:=(by omega);obtain ⟨c,hc⟩:∃ c,ch s k=c:=⟨_,rfl⟩;have x1:((s[k]'q1).toNat:Int)=c:=(ch_at q1).trans hc;obtain ⟨e,he⟩:∃ e,lw c=e:=⟨_,rfl⟩;rw [hc,he] at hbx;have He:=asd_ he;clear hc he
        by_cases hee:e=101
        case pos=>
         have g1:(e == 101)=true:=beq_iff_eq.2 (hee)
         have hb2:true=bx:=(by rw [← hbx];simp [*]);subst hb2;clear hbx
         go_wp2_with (first|((with_reducible refine gd_ 136 ?_);(try (refine gate_guard (by rfl) ?_;dsimp only));refine cl_ #[.int .u8 c] (.int .u8 e) Tryz.func89 (by rw [← He.out];exact lw_ok _ _) ?_;intro wc136 HK1;replace HK:=asd_ HK1;clear HK1;clear cnd cdp cneg ctr cfr;have cnd:=At.dnd (W:=wc136) HK.out HL.out;have cdp:=At.ddp (W:=wc136) HK.out HL.out;have cneg:=At.dneg (W:=wc136) HK.out HL.out;have ctr:=At.dtr (W:=wc136) HK.out HL.out;have cfr:=At.dfro (W:=wc136) HK.out))
         go_meet
         case rel=>exact ⟨rfl,⟨at_⟩⟩
        case neg=>
         have g1:(e == 101)=false:=beq_eq_false_iff_ne.2 (hee)
         have hb2:false=bx:=(by rw [← hbx];simp [*]);subst hb2;clear hbx
         go_wp2_with (first|((with_reducible refine gd_ 136 ?_);(try (refine gate_guard (by rfl) ?_;dsimp only));refine cl_ #[.int .u8 c] (.int .u8 e) Tryz.func89 (by rw [← He.out];exact lw_ok _ _) ?_;intro wc136 HK1;replace HK:=asd_ HK1;clear HK1;clear cnd cdp cneg ctr cfr;have cnd:=At.dnd (W:=wc136) HK.out HL.out;have cdp:=At.ddp (W:=wc136) HK.out HL.out;have cneg:=At.dneg (W:=wc136) HK.out HL.out;have ctr:=At.dtr (W:=wc136) HK.out HL.out;have cfr:=At.dfro (W:=wc136) HK.out))
         go_meet
         case rel=>exact ⟨rfl,⟨at_⟩⟩
       case neg=>
        have f0:decide (k < s.size)=false:=decide_eq_false (by omega)
        have f1:decide ((k:Int) < (s.size:Int))=false:=decide_eq_false (by omega)
        have hb2:false=bx:=(by rw [← hbx];simp [*]);subst hb2;clear hbx
        go_wp2_with fail
        go_meet
        case rel=>exact ⟨rfl,⟨at_⟩⟩
      case rest=>
       clear HK cnd cdp cneg ctr cfr;obtain ⟨rfl,HK⟩:=hcut
       have cnd:=At.dnd (W:=wc) HK.out HL.out;have cdp:=At.ddp (W:=wc) HK.out HL.out;have cneg:=At.dneg (W:=wc) HK.out HL.out;have ctr:=At.dtr (W:=wc) HK.out HL.out;have cfr:=At.dfro (W:=wc) HK.out
       go_upto_if 138 with fail
       go_cut [5,8,9] from 138 to 219 (fun v5 v8 v9 wc=>∃ (j:Nat) (D3:Dec.D),v5= .int .i64 j∧Aside0 (∃ ev:Int,set3 s D2 j ev=R∧D3={D2 with dp:=D2.dp + ev})∧Aside0 (j≤s.size)∧Aside0 (At w0 (.b g (row (dc D3) 235)::l) wc))
       case first=>
        have hR:=HR2.out;clear HR2;cases bx
        case false=>
         rw [if_neg (by decide)] at hR;dsimp only at hR;clear Hbx;have Hr3:=asd_ hR;clear hR;go_wp2_with fail
         go_meet
         case rel=>exact ⟨k,D2,rfl,⟨0,Hr3.out,by rw [Int.add_zero]⟩,Hks0,⟨at_⟩⟩
        case true=>
         rw [if_pos rfl] at hR;have hks:k < s.size:=(by have h9:=Hbx.out;simp at h9;exact h9.1);have Hks:=asd_ hks;clear Hbx hks
         obtain ⟨a,ha⟩:∃ a,k + 1=a:=⟨_,rfl⟩;rw [ha] at hR;have Ha:Aside0 (a≤s.size):=⟨by have:=Hks.out;omega⟩;have e1:IntKind.i64.wrap ((k:Int) + 1)=(a:Int):=by rw [IntWalk.i64_in _ (by have:=Hks.out;have:=Hs.out;omega)];omega
         clear ha;unfold exd at hR
         by_cases has:s.size≤a
         case pos=>
          rw [if_pos has] at hR;dsimp only at hR;have f1:decide (s.size≤a)=true:=decide_eq_true has;have f2:decide ((s.size:Int)≤(a:Int))=true:=decide_eq_true (by omega);clear has
          have Hn:Aside0 (setF L s=none):=⟨by rw [HR.out,← hR]⟩;clear hR
          go_wp2_with fail
          go_ret
          exact ⟨false,_,rfl,(fun h=>(by cases h)),fun _=>Hn.out,at_⟩
         case neg=>
          rw [if_neg has] at hR;have f1:decide (s.size≤a)=false:=decide_eq_false has;have f2:decide ((s.size:Int)≤(a:Int))=false:=decide_eq_false (by omega);have q1:a < s.size:=(by omega);have q2:(a:Int) < s.size:=(by omega);obtain ⟨c,hc⟩:∃ c,ch s a=c:=⟨_,rfl⟩;have x1:((s[a]'q1).toNat:Int)=c:=(ch_at q1).trans hc;rw [hc] at hR;have Hq:=asd_ q1;clear hc has;have HR2:=asd_ hR;clear hR
          go_upto_block 4 with fail
          go_cut [5,8] from 148 to 155 (fun v5 v8 wc=>∃ (j:Nat) (sv:Int),v5= .int .i64 j∧v8= .int .i64 sv∧Aside0 (j=if c=43∨c=45 then a + 1 else a)∧Aside0 (sv=if c=45 then -1 else 1)∧Aside0 (At w0 (.b g (row (dc D2) 235)::l) wc))
          case first=>
           have e2:IntKind.i64.wrap ((a:Int) + 1)=(a:Int) + 1:=IntWalk.i64_in _ (by have:=Hq.out;have:=Hs.out;omega)
           by_cases h43:c=43
           case pos=>
            have g1:(c == 43)=true:=beq_iff_eq.2 (by omega)
            have Hj1:Aside0 (a + 1=if c=43∨c=45 then a + 1 else a):=⟨by rw [if_pos (.inl h43)]⟩;have Hj2:Aside0 (1=if c=45 then (-1:Int) else 1):=⟨by rw [if_neg (by omega)]⟩;clear h43
            go_wp2_with fail
            go_meet
            case rel=>exact ⟨a + 1,1,by go_num,rfl,Hj1,Hj2,⟨at_⟩⟩
           case neg=>
            have g1:(c == 43)=false:=beq_eq_false_iff_ne.2 (by omega)
            by_cases h45:c=45
            case pos=>
             have g2:(c == 45)=true:=beq_iff_eq.2 (by omega)
             have Hj1:Aside0 (a + 1=if c=43∨c=45 then a + 1 else a):=⟨by rw [if_pos (.inr h45)]⟩;have Hj2:Aside0 (-1=if c=45 then (-1:Int) else 1):=⟨by rw [if_pos h45]⟩;clear h43 h45
             go_wp2_with fail
             go_meet
             case rel=>exact ⟨a + 1,-1,by go_num,rfl,Hj1,Hj2,⟨at_⟩⟩
            case neg=>
             have g2:(c == 45)=false:=beq_eq_false_iff_ne.2 (by omega)
             have Hj1:Aside0 (a=if c=43∨c=45 then a + 1 else a):=⟨by rw [if_neg (by omega)]⟩;have Hj2:Aside0 (1=if c=45 then (-1:Int) else 1):=⟨by rw [if_neg h45]⟩;clear h43 h45
             go_wp2_with fail
             go_meet
             case rel=>exact ⟨a,1,rfl,rfl,Hj1,Hj2,⟨at_⟩⟩
          case rest=>
           clear HK cnd cdp cneg ctr cfr x1 f1 f2 q1 q2 e1;obtain ⟨j,sv,rfl,rfl,Hj,Hsv,HK⟩:=hcut
           have cnd:=At.dnd (W:=wc) HK.out HL.out;have cdp:=At.ddp (W:=wc) HK.out HL.out;have cneg:=At.dneg (W:=wc) HK.out HL.out;have ctr:=At.dtr (W:=wc) HK.out HL.out;have cfr:=At.dfro (W:=wc) HK.out
           have hR:=HR2.out;rw [← Hj.out,← Hsv.out] at hR;clear HR2;obtain ⟨b6,hb6⟩:∃ b:Bool,(decide (j < s.size)&&dig (ch s j))=b:=⟨_,rfl⟩;have hb7:(j < s.size∧dig (ch s j)=true)=(b6=true):=(by rw [← hb6];simp);simp only [hb7] at hR;clear hb7;have HR2:=asd_ hR;clear hR;have Hb6:=asd_ hb6;clear hb6;have Hja:Aside0 (j≤s.size):=⟨by rw [Hj.out];have:=Hq.out;split<;>omega⟩;have Hsv2:Aside0 (sv= -1∨sv=1):=⟨by rw [Hsv.out];split;exact .inl rfl;exact .inr rfl⟩;clear Hj Hsv
           go_upto_region 42 with (fail)
           go_cut [171] from 156 to 170 (fun v171 wc=>v171= .bool (!b6)∧Aside0 (At w0 (.b g (row (dc D2) 235)::l) wc))
           case first=>
            have hb6:=Hb6.out;unfold dig at hb6;clear Hb6
            by_cases hjs:s.size≤j
            case pos=>
             have f1:decide (s.size≤j)=true:=decide_eq_true (by omega)
             have f2:decide ((s.size:Int)≤(j:Int))=true:=decide_eq_true (by omega)
             have q9:¬ j < s.size:=(by omega)
             have hb2:false=b6:=(by rw [← hb6];simp [*]);subst hb2;clear hb6
             go_wp2_with fail
             go_meet
             case rel=>exact ⟨rfl,⟨at_⟩⟩
            case neg=>
             have f1:decide (s.size≤j)=false:=decide_eq_false (by omega)
             have f2:decide ((s.size:Int)≤(j:Int))=false:=decide_eq_false (by omega)
             have q1:j < s.size:=(by omega);have q2:(j:Int) < s.size:=(by omega);obtain ⟨d,hd⟩:∃ d,ch s j=d:=⟨_,rfl⟩;have x1:((s[j]'q1).toNat:Int)=d:=(ch_at q1).trans hd;rw [hd] at hb6;clear hd
             by_cases h48:48≤d
             case pos=>
              have g1:decide (d < 48)=false:=decide_eq_false (by omega)
              by_cases h57:d≤57
              case pos=>
               have g2:decide (57 < d)=false:=decide_eq_false (by omega)
               have hb2:true=b6:=(by rw [← hb6];simp [*]);subst hb2;clear hb6
               go_wp2_with fail
               go_meet
               case rel=>exact ⟨rfl,⟨at_⟩⟩
              case neg=>
               have g2:decide (57 < d)=true:=decide_eq_true (by omega)
               have hb2:false=b6:=(by rw [← hb6];simp [*]);subst hb2;clear hb6
               go_wp2_with fail
               go_meet
               case rel=>exact ⟨rfl,⟨at_⟩⟩
             case neg=>
              have g1:decide (d < 48)=true:=decide_eq_true (by omega)
              have hb2:false=b6:=(by rw [← hb6];simp [*]);subst hb2;clear hb6
              go_wp2_with fail
              go_meet
              case rel=>exact ⟨rfl,⟨at_⟩⟩
           case rest=>
            clear HK cnd cdp cneg ctr cfr;obtain ⟨rfl,HK⟩:=hcut
            have cnd:=At.dnd (W:=wc) HK.out HL.out;have cdp:=At.ddp (W:=wc) HK.out HL.out;have cneg:=At.dneg (W:=wc) HK.out HL.out;have ctr:=At.dtr (W:=wc) HK.out HL.out;have cfr:=At.dfro (W:=wc) HK.out
            have hR:=HR2.out;clear HR2 Hb6;cases b6
            case false=>
             rw [if_neg (by decide)] at hR;dsimp only at hR
             have Hn:Aside0 (setF L s=none):=⟨by rw [HR.out,← hR]⟩;clear hR
             go_wp2_with fail
             go_ret
             exact ⟨false,_,rfl,(fun h=>(by cases h)),fun _=>Hn.out,at_⟩
            case true=>
             rw [if_pos rfl] at hR;dsimp only at hR;obtain ⟨E,hE⟩:∃ E,exl s (s.size - j) j 0 false=E:=⟨_,rfl⟩;rw [hE] at hR;obtain ⟨HE,HR2⟩:=as2_ hE hR;clear hE hR
             go_wp2_with fail
             go_loopg [5,9] (s.size - j) (fun kq v5 v9 w'=>∃ (a:Nat) (u:Bool) (e:Int),v5= .int .i64 a∧v9= .int .i64 e∧Aside0 (kq + a=s.size)∧Aside0 (exl s kq a e u=E)∧Aside0 (0≤e∧e≤100000)∧Aside0 (At w0 (.b g (row (dc D2) 235)::l) w'))
             case atStart=>exact ⟨j,false,0,rfl,rfl,⟨by have:=Hja.out;omega⟩,HE,⟨by omega⟩,⟨at_⟩⟩
             case round=>
              clear HK HE cnd cdp cneg ctr cfr;obtain ⟨a,u,e,rfl,rfl,Hk2,HE,He,HK⟩:=hrel
              have cnd:=At.dnd (W:=wr) HK.out HL.out;have cdp:=At.ddp (W:=wr) HK.out HL.out;have cneg:=At.dneg (W:=wr) HK.out HL.out;have ctr:=At.dtr (W:=wr) HK.out HL.out;have cfr:=At.dfro (W:=wr) HK.out
              cases gk with
              |zero=>
               have hE:=HE.out;unfold exl at hE;clear HE
               have f0:decide (a < s.size)=false:=decide_eq_false (by have:=Hk2.out;omega);have f1:decide ((a:Int) < (s.size:Int))=false:=decide_eq_false (by have:=Hk2.out;omega)
               have HE2:=asd_ hE;clear hE;obtain ⟨ev,hev⟩:∃ ev,e * sv=ev:=⟨_,rfl⟩;have hevb: -100000≤ev∧ev≤100000:=(by rcases Hsv2.out with h9|h9<;>rw [h9] at hev<;>have:=He.out<;>omega);have e8:IntKind.i64.wrap (e * sv)=ev:=(IntWalk.i64_in _ (by omega)).trans hev;have e9:IntKind.i64.wrap (D2.dp + ev)=D2.dp + ev:=IntWalk.i64_in _ (by have:=Hdb.out;omega);obtain ⟨Hev,Hevb⟩:=as2_ hev hevb;clear hev hevb
               go_wp2_with (first|((with_reducible refine gate_ (.store 3 (.tmp 219) (.tmp 217)) rfl ?_);refine store_at (t:=3) (p:=219) (g:=g) (i:=801) (v:= .int .i64 (D2.dp + ev)) 0 (dc {D2 with dp:=D2.dp + ev}) (dc_set_dp HL.out _) at_ rfl Hg.out rfl rfl rfl rfl gs_ ?_;intro ws10 HK1;replace HK:=asd_ HK1;clear HK1;clear cnd cdp cneg ctr cfr;have cnd:=At.dnd (W:=ws10) HK.out HL.out;have cdp:=At.ddp (W:=ws10) HK.out HL.out;have cneg:=At.dneg (W:=ws10) HK.out HL.out;have ctr:=At.dtr (W:=ws10) HK.out HL.out;have cfr:=At.dfro (W:=ws10) HK.out))
               go_meet
               case rel=>exact ⟨a,{D2 with dp:=D2.dp + ev},rfl,⟨ev,by have h9:=HR2.out;rw [← HE2.out] at h9;dsimp only at h9;rw [Hev.out] at h9;exact h9,rfl⟩,⟨by have:=Hk2.out;omega⟩,⟨at_⟩⟩
              |succ q=>
               have hE:=HE.out;unfold exl at hE;clear HE;have hk:a < s.size:=(by have:=Hk2.out;omega);have f0:decide (a < s.size)=true:=decide_eq_true (hk);have f1:decide ((a:Int) < (s.size:Int))=true:=decide_eq_true (by omega);have q4:(a:Int) < s.size:=(by omega);obtain ⟨c,hc⟩:∃ c,ch s a=c:=⟨_,rfl⟩;have x1:((s[a]'hk).toNat:Int)=c:=(ch_at hk).trans hc;have cb:=ch_bd s a;rw [hc] at cb hE;obtain ⟨cb0,cb1⟩:=cb;clear hc;have e1:IntKind.i64.wrap ((a:Int) + 1)=(a:Int) + 1:=IntWalk.i64_in _ (by have:=Hs.out;omega)
               by_cases h48:48≤c
               case pos=>
                have g1:decide (48≤c)=true:=decide_eq_true (h48)
                by_cases h57:c≤57
                case pos=>
                 have g2:decide (c≤57)=true:=decide_eq_true (h57)
                 rw [show dig c=true by unfold dig;simp;omega,if_pos rfl] at hE
                 have g95:(c == 95)=false:=beq_eq_false_iff_ne.2 (by omega)
                 by_cases he:e < 10000
                 case pos=>
                  rw [if_pos he] at hE
                  have g3:decide (e < 10000)=true:=decide_eq_true (he)
                  have e5:IntKind.i64.wrap (e * 10)=e * 10:=IntWalk.i64_in _ (by have:=He.out;omega);have e6:IntKind.i64.wrap c=c:=IntWalk.i64_in _ (by omega);have e7:IntKind.i64.wrap (e * 10 + c)=e * 10 + c:=IntWalk.i64_in _ (by have:=He.out;omega);have e8:IntKind.i64.wrap (e * 10 + c - 48)=e * 10 + c - 48:=IntWalk.i64_in _ (by have:=He.out;omega);have He2:Aside0 (0≤e * 10 + c - 48∧e * 10 + c - 48≤100000):=⟨by have:=He.out;omega⟩;clear he h48 h57
                  have HE2:=asd_ hE;clear hE;go_wp2_with fail
                  go_roundg q
                  case measure=>exact Nat.lt_succ_self _
                  case rel=>exact ⟨a + 1,u,(e * 10 + c - 48),by go_num,rfl,⟨by have:=Hk2.out;omega⟩,HE2,He2,⟨at_⟩⟩
                 case neg=>
                  rw [if_neg he] at hE
                  have g3:decide (e < 10000)=false:=decide_eq_false (he)
                  clear he h48 h57
                  have HE2:=asd_ hE;clear hE;go_wp2_with fail
                  go_roundg q
                  case measure=>exact Nat.lt_succ_self _
                  case rel=>exact ⟨a + 1,u,e,by go_num,rfl,⟨by have:=Hk2.out;omega⟩,HE2,He,⟨at_⟩⟩
                case neg=>
                 have g2:decide (c≤57)=false:=decide_eq_false (h57)
                 rw [show dig c=false by unfold dig;simp;omega,if_neg (by decide)] at hE
                 by_cases h95:c=95
                 case pos=>
                  rw [if_pos h95] at hE
                  have g95:(c == 95)=true:=beq_iff_eq.2 (by omega)
                  clear h95
                  have HE2:=asd_ hE;clear hE;go_wp2_with fail
                  go_roundg q
                  case measure=>exact Nat.lt_succ_self _
                  case rel=>exact ⟨a + 1,true,e,by go_num,rfl,⟨by have:=Hk2.out;omega⟩,HE2,He,⟨at_⟩⟩
                 case neg=>
                  rw [if_neg h95] at hE
                  have g95:(c == 95)=false:=beq_eq_false_iff_ne.2 (by omega)
                  clear h95
                  have HE2:=asd_ hE;clear hE;obtain ⟨ev,hev⟩:∃ ev,e * sv=ev:=⟨_,rfl⟩;have hevb: -100000≤ev∧ev≤100000:=(by rcases Hsv2.out with h9|h9<;>rw [h9] at hev<;>have:=He.out<;>omega);have e8:IntKind.i64.wrap (e * sv)=ev:=(IntWalk.i64_in _ (by omega)).trans hev;have e9:IntKind.i64.wrap (D2.dp + ev)=D2.dp + ev:=IntWalk.i64_in _ (by have:=Hdb.out;omega);obtain ⟨Hev,Hevb⟩:=as2_ hev hevb;clear hev hevb
                  go_wp2_with (first|((with_reducible refine gate_ (.store 3 (.tmp 219) (.tmp 217)) rfl ?_);refine store_at (t:=3) (p:=219) (g:=g) (i:=801) (v:= .int .i64 (D2.dp + ev)) 0 (dc {D2 with dp:=D2.dp + ev}) (dc_set_dp HL.out _) at_ rfl Hg.out rfl rfl rfl rfl gs_ ?_;intro ws11 HK1;replace HK:=asd_ HK1;clear HK1;clear cnd cdp cneg ctr cfr;have cnd:=At.dnd (W:=ws11) HK.out HL.out;have cdp:=At.ddp (W:=ws11) HK.out HL.out;have cneg:=At.dneg (W:=ws11) HK.out HL.out;have ctr:=At.dtr (W:=ws11) HK.out HL.out;have cfr:=At.dfro (W:=ws11) HK.out))
                  go_meet
                  case rel=>exact ⟨a,{D2 with dp:=D2.dp + ev},rfl,⟨ev,by have h9:=HR2.out;rw [← HE2.out] at h9;dsimp only at h9;rw [Hev.out] at h9;exact h9,rfl⟩,⟨by have:=Hk2.out;omega⟩,⟨at_⟩⟩
               case neg=>
                have g1:decide (48≤c)=false:=decide_eq_false (h48)
                rw [show dig c=false by unfold dig;simp;omega,if_neg (by decide)] at hE
                by_cases h95:c=95
                case pos=>
                 rw [if_pos h95] at hE
                 have g95:(c == 95)=true:=beq_iff_eq.2 (by omega)
                 clear h95
                 have HE2:=asd_ hE;clear hE;go_wp2_with fail
                 go_roundg q
                 case measure=>exact Nat.lt_succ_self _
                 case rel=>exact ⟨a + 1,true,e,by go_num,rfl,⟨by have:=Hk2.out;omega⟩,HE2,He,⟨at_⟩⟩
                case neg=>
                 rw [if_neg h95] at hE
                 have g95:(c == 95)=false:=beq_eq_false_iff_ne.2 (by omega)
                 clear h95
                 have HE2:=asd_ hE;clear hE;obtain ⟨ev,hev⟩:∃ ev,e * sv=ev:=⟨_,rfl⟩;have hevb: -100000≤ev∧ev≤100000:=(by rcases Hsv2.out with h9|h9<;>rw [h9] at hev<;>have:=He.out<;>omega);have e8:IntKind.i64.wrap (e * sv)=ev:=(IntWalk.i64_in _ (by omega)).trans hev;have e9:IntKind.i64.wrap (D2.dp + ev)=D2.dp + ev:=IntWalk.i64_in _ (by have:=Hdb.out;omega);obtain ⟨Hev,Hevb⟩:=as2_ hev hevb;clear hev hevb
                 go_wp2_with (first|((with_reducible refine gate_ (.store 3 (.tmp 219) (.tmp 217)) rfl ?_);refine store_at (t:=3) (p:=219) (g:=g) (i:=801) (v:= .int .i64 (D2.dp + ev)) 0 (dc {D2 with dp:=D2.dp + ev}) (dc_set_dp HL.out _) at_ rfl Hg.out rfl rfl rfl rfl gs_ ?_;intro ws12 HK1;replace HK:=asd_ HK1;clear HK1;clear cnd cdp cneg ctr cfr;have cnd:=At.dnd (W:=ws12) HK.out HL.out;have cdp:=At.ddp (W:=ws12) HK.out HL.out;have cneg:=At.dneg (W:=ws12) HK.out HL.out;have ctr:=At.dtr (W:=ws12) HK.out HL.out;have cfr:=At.dfro (W:=ws12) HK.out))
                 go_meet
                 case rel=>exact ⟨a,{D2 with dp:=D2.dp + ev},rfl,⟨ev,by have h9:=HR2.out;rw [← HE2.out] at h9;dsimp only at h9;rw [Hev.out] at h9;exact h9,rfl⟩,⟨by have:=Hk2.out;omega⟩,⟨at_⟩⟩
       case rest=>
        clear HK cnd cdp cneg ctr cfr HR2 Hbx;obtain ⟨j,D3,rfl,Hr3,Hjs,HK⟩:=hcut
        have Hgd3:Aside0 (Dec.Good D3):=⟨by obtain ⟨ev,_,rfl⟩:=Hr3.out;exact ⟨Hgd.out.len,Hgd.out.nd,Hgd.out.dg,Hgd.out.top⟩⟩;obtain ⟨ev,hR,hd3⟩:=Hr3.out;clear Hr3;unfold set3 at hR;rw [← hd3] at hR;clear hd3
        by_cases hj:j=s.size
        case pos=>
         rw [if_pos hj] at hR;have gm:((j:Int) != (s.size:Int))=false:=bne_eq_false_iff_eq.2 (by omega);have gm2:(j:Int)=(s.size:Int):=(by omega)
         have Hn:Aside0 (setF L s=some D3):=⟨by rw [HR.out,← hR]⟩;clear hR
         go_wp2_with fail
         go_ret
         exact ⟨true,D3,rfl,fun _=>⟨Hn.out,Hgd3.out⟩,(fun h=>(by cases h)),at_⟩
        case neg=>
         rw [if_neg hj] at hR;have gm:((j:Int) != (s.size:Int))=true:=bne_iff_ne.2 (by omega)
         have Hn:Aside0 (setF L s=none):=⟨by rw [HR.out,← hR]⟩;clear hR
         go_wp2_with fail
         go_ret
         exact ⟨false,_,rfl,(fun h=>(by cases h)),fun _=>Hn.out,at_⟩
end Go.Proofs.YtlblbefbbibpaaaGreatDoor.J
namespace Go.Proofs.YtlblbefbbibpaaaGreatDoor.PAM
open Go.RowKit Zw.PrintWords Zw.PrintLast Zw.PrintMore
attribute [local go_sem] max2_int min2_int max_two min_two max_three min_three max_four min_four
def bits_Mul64.f (a0:Int) (a1:Int):Option (Int×Int):=some (IntKind.u64.wrap ((IntKind.u64.wrap ((IntKind.u64.wrap ((a0 / 4294967296) * (a1 / 4294967296))) + ((IntKind.u64.wrap ((IntKind.u64.wrap ((a0 / 4294967296) * (Go.bits .and .u64 a1 4294967295))) + ((IntKind.u64.wrap ((Go.bits .and .u64 a0 4294967295) * (Go.bits .and .u64 a1 4294967295))) / 4294967296))) / 4294967296))) + ((IntKind.u64.wrap ((Go.bits .and .u64 (IntKind.u64.wrap ((IntKind.u64.wrap ((a0 / 4294967296) * (Go.bits .and .u64 a1 4294967295))) + ((IntKind.u64.wrap ((Go.bits .and .u64 a0 4294967295) * (Go.bits .and .u64 a1 4294967295))) / 4294967296))) 4294967295) + (IntKind.u64.wrap ((Go.bits .and .u64 a0 4294967295) * (a1 / 4294967296))))) / 4294967296)),IntKind.u64.wrap (a0 * a1))
theorem bits_Mul64.calls (a0:Int) (a1:Int) (r1:Int) (r2:Int) (w:World) (h:bits_Mul64.f a0 a1=some (r1,r2)):
  Calls Tryz.prog 149 #[.int .u64 a0,.int .u64 a1] w fun e w'=>e= .returned (.tuple #[.int .u64 r1,.int .u64 r2])∧Drawn0 w w':=by
 have H:(some (IntKind.u64.wrap ((IntKind.u64.wrap ((IntKind.u64.wrap ((a0 / 4294967296) * (a1 / 4294967296))) + ((IntKind.u64.wrap ((IntKind.u64.wrap ((a0 / 4294967296) * (Go.bits .and .u64 a1 4294967295))) + ((IntKind.u64.wrap ((Go.bits .and .u64 a0 4294967295) * (Go.bits .and .u64 a1 4294967295))) / 4294967296))) / 4294967296))) + ((IntKind.u64.wrap ((Go.bits .and .u64 (IntKind.u64.wrap ((IntKind.u64.wrap ((a0 / 4294967296) * (Go.bits .and .u64 a1 4294967295))) + ((IntKind.u64.wrap ((Go.bits .and .u64 a0 4294967295) * (Go.bits .and .u64 a1 4294967295))) / 4294967296))) 4294967295) + (IntKind.u64.wrap ((Go.bits .and .u64 a0 4294967295) * (a1 / 4294967296))))) / 4294967296)),IntKind.u64.wrap (a0 * a1)))=some (r1,r2):=h
 clear h
 simp only [Option.some.injEq,Prod.mk.injEq] at H
 obtain ⟨rfl,rfl⟩:=H
 go_enter Tryz.func149,Tryz.ntmps149
 go_wp2
 go_ret2
 exact ⟨r1_,dr_⟩
def strconv_bool2_uint64.f (a0:Bool):Option (Int):=if a0=true then (some 1) else (some 0)
theorem strconv_bool2_uint64.calls (a0:Bool) (r:Int) (w:World) (h:strconv_bool2_uint64.f a0=some r):
  Calls Tryz.prog 118 #[.bool a0] w fun e w'=>e= .returned (.int .u64 r)∧Drawn0 w w':=by
 have H:(if a0=true then (some 1) else (some 0))=some r:=h
 clear h
 by_cases c2:a0=true
 ·subst c2
  have H1:(some 1)=some r:=by rw [if_pos rfl] at H;exact H
  clear H
  have H:=H1
  clear H1
  obtain rfl:=Option.some.inj H
  go_enter Tryz.func118,Tryz.ntmps118
  go_wp2
  go_ret
  exact ⟨r1_,dr_⟩
 ·replace c2:=Bool.eq_false_iff.mpr c2
  subst c2
  have H1:(some 0)=some r:=by rw [if_neg (show ¬ (false=true) by decide)] at H;exact H
  clear H
  have H:=H1
  clear H1
  obtain rfl:=Option.some.inj H
  go_enter Tryz.func118,Tryz.ntmps118
  go_wp2
  go_ret
  exact ⟨r1_,dr_⟩
def strconv_bool2_int.f (a0:Bool):Option (Int):=if a0=true then (some 1) else (some 0)
theorem strconv_bool2_int.calls (a0:Bool) (r:Int) (w:World) (h:strconv_bool2_int.f a0=some r):
  Calls Tryz.prog 135 #[.bool a0] w fun e w'=>e= .returned (.int .i64 r)∧Drawn0 w w':=by
 have H:(if a0=true then (some 1) else (some 0))=some r:=h
 clear h
 by_cases c2:a0=true
 ·subst c2
  have H1:(some 1)=some r:=by rw [if_pos rfl] at H;exact H
  clear H
  have H:=H1
  clear H1
  obtain rfl:=Option.some.inj H
  go_enter Tryz.func135,Tryz.ntmps135
  go_wp2
  go_ret
  exact ⟨r1_,dr_⟩
 ·replace c2:=Bool.eq_false_iff.mpr c2
  subst c2
  have H1:(some 0)=some r:=by rw [if_neg (show ¬ (false=true) by decide)] at H;exact H
  clear H
  have H:=H1
  clear H1
  obtain rfl:=Option.some.inj H
  go_enter Tryz.func135,Tryz.ntmps135
  go_wp2
  go_ret
  exact ⟨r1_,dr_⟩
end Go.Proofs.YtlblbefbbibpaaaGreatDoor.PAM
