/- Part. -/
import Derived.Test.YtlblbefbbibpaaaGreatDoorQBC
set_option linter.unusedVariables false
set_option linter.unusedSimpArgs false
set_option maxHeartbeats 8000000
set_option maxRecDepth 100000
namespace Go.Proofs.YtlblbefbbibpaaaGreatDoor.J
open Go.RowKit Zw Zw.PrintWords Zw.PrintLast Zw.PrintMore PAM
structure RS where
 i:Nat
 m:Int
 us:Bool
 sd:Bool
 sg:Bool
 nd:Nat
 nm:Nat
 dp:Int
 tr:Bool
def dig (c:Int):Bool:=decide (48≤c)&&decide (c≤57)
def hxd (c:Int) (hx:Bool):Bool:=hx&&decide (97≤lw c)&&decide (lw c≤102)
def bsO (hx:Bool):Int:=if hx then 16 else 10
def mxO (hx:Bool):Nat:=if hx then 16 else 19
def ecO (hx:Bool):Int:=if hx then 112 else 101
def rl (s:ByteArray) (hx:Bool):Nat→RS→RS
 |0,x=>x
 |f + 1,x=>
  let c:=ch s x.i
  if c=95 then rl s hx f {x with us:=true,i:=x.i + 1} else
  if c=46 then (if x.sd then x else rl s hx f {x with sd:=true,dp:=x.nd,i:=x.i + 1}) else
  if dig c then (if c=48∧x.nd=0 then rl s hx f {x with sg:=true,dp:=x.dp - 1,i:=x.i + 1} else
   if x.nm < mxO hx then rl s hx f {x with sg:=true,nd:=x.nd + 1,nm:=x.nm + 1,m:=IntKind.u64.wrap (IntKind.u64.wrap (x.m * bsO hx) + (c - 48)),i:=x.i + 1} else
   rl s hx f {x with sg:=true,nd:=x.nd + 1,tr:=x.tr||c != 48,i:=x.i + 1}) else
  if hxd c hx then (if x.nm < mxO hx then rl s hx f {x with sg:=true,nd:=x.nd + 1,nm:=x.nm + 1,m:=IntKind.u64.wrap (IntKind.u64.wrap (x.m * 16) + (lw c - 97 + 10)),i:=x.i + 1} else
   rl s hx f {x with sg:=true,nd:=x.nd + 1,tr:=true,i:=x.i + 1}) else x
def exl (s:ByteArray):Nat→Nat→Int→Bool→Nat×Int×Bool
 |0,i,e,us=>(i,e,us)
 |f + 1,i,e,us=>if dig (ch s i) then exl s f (i + 1) (if e < 10000 then e * 10 + ch s i - 48 else e) us else if ch s i=95 then exl s f (i + 1) e true else (i,e,us)
def exd (s:ByteArray) (i:Nat):Option (Nat×Int×Bool):=
 if s.size≤i then none else
 let j:=if ch s i=43∨ch s i=45 then i + 1 else i
 if j < s.size∧dig (ch s j)=true then (let r:=exl s (s.size - j) j 0 false;some (r.1,r.2.1 * (if ch s i=45 then -1 else 1),r.2.2)) else none
def exB (s:ByteArray) (hx:Bool) (i:Nat):Bool:=decide (i < s.size)&&decide (lw (ch s i)=ecO hx)
def exq (s:ByteArray) (hx:Bool) (i:Nat):Option (Nat×Int×Bool):=if exB s hx i then exd s (i + 1) else if hx then none else some (i,0,false)
def sgnF (s:ByteArray):Nat×Bool:=if ch s 0=43 then (1,false) else if ch s 0=45 then (1,true) else (0,false)
def hexB (s:ByteArray) (i:Nat):Bool:=decide (i + 2 < s.size)&&decide (ch s i=48)&&decide (lw (ch s (i + 1))=120)
abbrev Rd:=Int×Int×Bool×Bool×Bool×Nat
def rd3 (s:ByteArray) (ng hx:Bool) (x:RS) (i:Nat) (ev:Int) (us:Bool):Option Rd:=
 if ((x.us||us)&& !uok (s.extract 0 i))=true then none else some (x.m,if x.m=0 then 0 else (if x.sd then x.dp else (x.nd:Int)) * (if hx then 4 else 1) + ev - (x.nm:Int) * (if hx then 4 else 1),ng,x.tr,hx,i)
def rd2 (s:ByteArray) (ng hx:Bool) (x:RS):Option Rd:=
 if x.sg then (match exq s hx x.i with|none=>none|some (i,ev,us)=>rd3 s ng hx x i ev us) else none
def rd1 (s:ByteArray) (i:Nat) (ng hx:Bool):Option Rd:=rd2 s ng hx (rl s hx (s.size - i) ⟨i,0,false,false,false,0,0,0,false⟩)
def rdF (s:ByteArray):Option Rd:=
 if s.size=0 then none else rd1 s ((sgnF s).1 + if hexB s (sgnF s).1 then 2 else 0) (sgnF s).2 (hexB s (sgnF s).1)
def RdP (s:ByteArray) (e:Ending):Prop:=∃ (m p:Int) (ng tr hx:Bool) (i:Nat) (ok:Bool),e= .returned (.tuple #[.int .u64 m,.int .i64 p,.bool ng,.bool tr,.bool hx,.int .i64 i,.bool ok])∧(ok=true→rdF s=some (m,p,ng,tr,hx,i)∧0≤m∧m≤18446744073709551615∧i≤s.size∧ -10000000≤p∧p≤10000000)∧(ok=false→rdF s=none)
theorem u64_rng (n:Int):0≤IntKind.u64.wrap n∧IntKind.u64.wrap n≤18446744073709551615:=by rw [IntKind.wrap_u64];omega
theorem rd_ok (s:ByteArray) (w:World) (hs:s.size≤1048576):
  Calls Tryz.prog 110 #[.string s] w fun e w'=>RdP s e∧Below w.heap.size w w':=by
 have Hs:=asd_ hs;clear hs;obtain ⟨R,hR⟩:∃ R,rdF s=R:=⟨_,rfl⟩;have HR:=asd_ hR;unfold rdF at hR
 have HK:=st0_ w
 go_enter Tryz.func110,Tryz.ntmps110
 go_wp2_with fail
 refine wp_scope_straight ?_
 by_cases h0:s.size=0
 case pos=>
  rw [if_pos h0] at hR;have f0:decide (s.size=0)=true:=decide_eq_true h0;have f1:decide (s.size≤0)=true:=decide_eq_true (by omega);have f2:decide ((s.size:Int)≤0)=true:=decide_eq_true (by omega);have f3:decide ((s.size:Int)=0)=true:=decide_eq_true (by omega)
  have Hn:Aside0 (rdF s=none):=⟨by rw [HR.out,← hR]⟩;clear hR
  go_wp2_with fail
  try rw [Exit.noGoto_ret]
  exact bodyPost_ret (v:= .tuple #[.int .u64 (0),.int .i64 (0),.bool false,.bool false,.bool false,.int .i64 (0),.bool false]) (by simp [results,Tryz.results110,go_sem]) rfl ⟨⟨0,0,false,false,false,_,false,rfl,(fun h=>(by cases h)),fun _=>Hn.out⟩,be_⟩
 case neg=>
  rw [if_neg h0] at hR;have f0:decide (s.size=0)=false:=decide_eq_false h0;have f1:decide (s.size≤0)=false:=decide_eq_false (by omega);have f2:decide ((s.size:Int)≤0)=false:=decide_eq_false (by omega)
  have q1:0 < s.size:=(by omega);have q2:(0:Int) < s.size:=(by omega);obtain ⟨c,hc⟩:∃ c,ch s 0=c:=⟨_,rfl⟩;have x1:((s[0]'q1).toNat:Int)=c:=(ch_at q1).trans hc;have Hc:=asd_ hc;have Hsz0:Aside0 (0 < s.size):=⟨q1⟩;clear hc;have HR2:=asd_ hR;clear hR
  go_upto_block 0 with fail
  go_cut [4,7] from 28 to 35 (fun v4 v7 wc=>∃ (ng:Bool) (i:Nat),v4= .bool ng∧v7= .int .i64 i∧Aside0 (sgnF s=(i,ng))∧Aside0 (i≤1)∧Aside0 (At w [] wc))
  case first=>
   by_cases h43:c=43
   case pos=>
    have g1:(c == 43)=true:=beq_iff_eq.2 (by omega)
    have Hsg:Aside0 (sgnF s=(1,false)):=⟨by unfold sgnF;rw [Hc.out];exact if_pos h43⟩;clear h43
    go_wp2_with fail
    go_meet
    case rel=>exact ⟨false,1,rfl,rfl,Hsg,⟨by omega⟩,⟨at_⟩⟩
   case neg=>
    have g1:(c == 43)=false:=beq_eq_false_iff_ne.2 (by omega)
    by_cases h45:c=45
    case pos=>
     have g2:(c == 45)=true:=beq_iff_eq.2 (by omega)
     have Hsg:Aside0 (sgnF s=(1,true)):=⟨by unfold sgnF;rw [Hc.out];rw [if_neg h43,if_pos h45]⟩;clear h43 h45
     go_wp2_with fail
     go_meet
     case rel=>exact ⟨true,1,rfl,rfl,Hsg,⟨by omega⟩,⟨at_⟩⟩
    case neg=>
     have g2:(c == 45)=false:=beq_eq_false_iff_ne.2 (by omega)
     have Hsg:Aside0 (sgnF s=(0,false)):=⟨by unfold sgnF;rw [Hc.out];rw [if_neg h43,if_neg h45]⟩;clear h43 h45
     go_wp2_with fail
     go_meet
     case rel=>exact ⟨false,0,rfl,rfl,Hsg,⟨by omega⟩,⟨at_⟩⟩
  case rest=>
   clear HK f0 f1 f2 q2 Hc h0;obtain ⟨ng,i,rfl,rfl,Hsg,Hi1,HK⟩:=hcut
   have hR:=HR2.out;rw [Hsg.out] at hR;dsimp only at hR;clear HR2;obtain ⟨hx,hhx⟩:∃ b,hexB s i=b:=⟨_,rfl⟩;rw [hhx] at hR;have HR2:=asd_ hR;unfold hexB at hhx;clear hR x1 q1
   have e2:IntKind.i64.wrap ((i:Int) + 2)=(i:Int) + 2:=IntWalk.i64_in _ (by have:=Hi1.out;omega);have e1:IntKind.i64.wrap ((i:Int) + 1)=(i:Int) + 1:=IntWalk.i64_in _ (by have:=Hi1.out;omega)
   go_upto_region 12 with (fail)
   go_cut [54] from 36 to 53 (fun v54 wc=>v54= .bool hx∧Aside0 (At w [] wc))
   case first=>
    by_cases h2:i + 2 < s.size
    case pos=>
     have f1:decide (i + 2 < s.size)=true:=decide_eq_true (by omega)
     have f2:decide ((i:Int) + 2 < (s.size:Int))=true:=decide_eq_true (by omega)
     have q1:i < s.size:=(by omega);have q2:(i:Int) < s.size:=(by omega);have q3:i + 1 < s.size:=(by omega);have q4:(i:Int) + 1 < s.size:=(by omega);obtain ⟨c,hc⟩:∃ c,ch s i=c:=⟨_,rfl⟩;have x1:((s[i]'q1).toNat:Int)=c:=(ch_at q1).trans hc;obtain ⟨d,hd⟩:∃ d,ch s (i + 1)=d:=⟨_,rfl⟩;have x2:((s[i + 1]'q3).toNat:Int)=d:=(ch_at q3).trans hd;obtain ⟨e,he⟩:∃ e,lw d=e:=⟨_,rfl⟩;rw [hc,hd,he] at hhx;have He:=asd_ he;clear hc hd he
     by_cases h48:c=48
     case pos=>
      have g1:(c == 48)=true:=beq_iff_eq.2 (by omega)
      by_cases h120:e=120
      case pos=>
       have g2:(e == 120)=true:=beq_iff_eq.2 (by omega)
       have hb2:true=hx:=(by rw [← hhx];simp [*]);subst hb2;clear hhx
       go_wp2_with (first|((with_reducible refine gd_ 52 ?_);(try (refine gate_guard (by rfl) ?_;dsimp only));refine cl_ #[.int .u8 d] (.int .u8 e) Tryz.func89 (by rw [← He.out];exact lw_ok _ _) ?_;intro wc52 HK1;replace HK:=asd_ HK1;clear HK1;skip))
       go_meet
       case rel=>exact ⟨rfl,⟨at_⟩⟩
      case neg=>
       have g2:(e == 120)=false:=beq_eq_false_iff_ne.2 (by omega)
       have hb2:false=hx:=(by rw [← hhx];simp [*]);subst hb2;clear hhx
       go_wp2_with (first|((with_reducible refine gd_ 52 ?_);(try (refine gate_guard (by rfl) ?_;dsimp only));refine cl_ #[.int .u8 d] (.int .u8 e) Tryz.func89 (by rw [← He.out];exact lw_ok _ _) ?_;intro wc52 HK1;replace HK:=asd_ HK1;clear HK1;skip))
       go_meet
       case rel=>exact ⟨rfl,⟨at_⟩⟩
     case neg=>
      have g1:(c == 48)=false:=beq_eq_false_iff_ne.2 (by omega)
      have hb2:false=hx:=(by rw [← hhx];simp [*]);subst hb2;clear hhx
      go_wp2_with (first|((with_reducible refine gd_ 52 ?_);(try (refine gate_guard (by rfl) ?_;dsimp only));refine cl_ #[.int .u8 d] (.int .u8 e) Tryz.func89 (by rw [← He.out];exact lw_ok _ _) ?_;intro wc52 HK1;replace HK:=asd_ HK1;clear HK1;skip))
      go_meet
      case rel=>exact ⟨rfl,⟨at_⟩⟩
    case neg=>
     have f1:decide (i + 2 < s.size)=false:=decide_eq_false (by omega)
     have f2:decide ((i:Int) + 2 < (s.size:Int))=false:=decide_eq_false (by omega)
     have hb2:false=hx:=(by rw [← hhx];simp [*]);subst hb2;clear hhx
     go_wp2_with fail
     go_meet
     case rel=>exact ⟨rfl,⟨at_⟩⟩
   case rest=>
    clear HK;obtain ⟨rfl,HK⟩:=hcut
    go_upto_if 54 with fail
    go_cut [6,7,10,11,12] from 54 to 56 (fun v6 v7 v10 v11 v12 wc=>∃ (i1:Nat) (bs:Int) (mx:Nat) (ec:Int),v6= .bool hx∧v7= .int .i64 i1∧v10= .int .u64 bs∧v11= .int .i64 mx∧v12= .int .u8 ec∧Aside0 (i1=i + if hx then 2 else 0)∧Aside0 (bs=bsO hx)∧Aside0 (mx=mxO hx)∧Aside0 (ec=ecO hx)∧Aside0 (i1≤s.size)∧Aside0 (At w [] wc))
    case first=>
     have hsz:0 < s.size∨True:= .inr trivial;clear hsz;cases hx
     case false=>
      clear hhx;go_wp2_with fail
      go_meet
      case rel=>exact ⟨i,10,19,101,rfl,rfl,rfl,rfl,rfl,⟨rfl⟩,⟨rfl⟩,⟨rfl⟩,⟨rfl⟩,⟨by have:=Hi1.out;have:=Hsz0.out;omega⟩,⟨at_⟩⟩
     case true=>
      have Hh2:Aside0 (i + 2 < s.size):=⟨by simp at hhx;omega⟩;clear hhx;go_wp2_with fail
      go_meet
      case rel=>exact ⟨i + 2,16,16,112,rfl,by go_num,rfl,rfl,rfl,⟨rfl⟩,⟨rfl⟩,⟨rfl⟩,⟨rfl⟩,⟨by have:=Hh2.out;omega⟩,⟨at_⟩⟩
    case rest=>
     clear HK hhx e1 e2;obtain ⟨i1,bs,mx,ec,rfl,rfl,rfl,rfl,rfl,Hi,Hbs,Hmx,Hec,His,HK⟩:=hcut
     have hR:=HR2.out;rw [← Hi.out] at hR;clear HR2 Hi Hsg Hi1;unfold rd1 at hR;obtain ⟨X,hX⟩:∃ X,rl s hx (s.size - i1) ⟨i1,0,false,false,false,0,0,0,false⟩=X:=⟨_,rfl⟩;rw [hX] at hR;obtain ⟨HX,HR2⟩:=as2_ hX hR;clear hX hR
     have Hmx19:Aside0 (mx≤19):=⟨by rw [Hmx.out];unfold mxO;split<;>omega⟩;have g16:(bs == 16)=hx:=(by rw [Hbs.out];cases hx<;>rfl);have Hg16:=asd_ g16;clear g16
     go_wp2_with fail
     go_step3
     go_upto_block 1 with fail
     go_cut [2,5,7,9,13,14,15,16,17,18] from 57 to 138 (fun v2 v5 v7 v9 v13 v14 v15 v16 v17 v18 wc=>∃ x:RS,v2= .int .u64 x.m∧v5= .bool x.tr∧v7= .int .i64 x.i∧v9= .bool x.us∧v13= .bool x.sd∧v14= .bool x.sg∧v15= .int .i64 x.nd∧v16= .int .i64 x.nm∧v17= .int .i64 x.dp∧Aside0 (x=X)∧Aside0 (x.i≤s.size∧x.nd≤x.i∧x.nm≤x.nd∧ -(x.i:Int)≤x.dp∧x.dp≤x.i∧0≤x.m∧x.m≤18446744073709551615)∧Aside0 (At w [] wc))
     case first=>
      go_wp2_with fail
      go_loopg [2,5,7,9,13,14,15,16,17] (s.size - i1) (fun kq v2 v5 v7 v9 v13 v14 v15 v16 v17 w'=>∃ x:RS,v2= .int .u64 x.m∧v5= .bool x.tr∧v7= .int .i64 x.i∧v9= .bool x.us∧v13= .bool x.sd∧v14= .bool x.sg∧v15= .int .i64 x.nd∧v16= .int .i64 x.nm∧v17= .int .i64 x.dp∧Aside0 (kq + x.i=s.size)∧Aside0 (rl s hx kq x=X)∧Aside0 (x.i≤s.size∧x.nd≤x.i∧x.nm≤x.nd∧ -(x.i:Int)≤x.dp∧x.dp≤x.i∧0≤x.m∧x.m≤18446744073709551615)∧Aside0 (At w [] w'))
      case atStart=>exact ⟨⟨i1,0,false,false,false,0,0,0,false⟩,rfl,rfl,rfl,rfl,rfl,rfl,rfl,rfl,rfl,⟨by have:=His.out;show s.size - i1 + i1=s.size;omega⟩,HX,⟨His.out,Nat.zero_le _,Nat.zero_le _,by show -(i1:Int)≤0;omega,by show (0:Int)≤i1;omega,by show (0:Int)≤0;omega,by show (0:Int)≤18446744073709551615;omega⟩,⟨at_⟩⟩
      case round=>
       clear HK His;obtain ⟨⟨k,m,us,sd,sg,nd,nm,dp,tr⟩,rfl,rfl,rfl,rfl,rfl,rfl,rfl,rfl,rfl,Hk,Hr,Hb,HK⟩:=hrel;dsimp only at Hk Hb
       cases gk with
       |zero=>
        have f0:decide (k < s.size)=false:=decide_eq_false (by have:=Hk.out;omega)
        go_wp2_with fail
        go_meet
        case rel=>exact ⟨⟨k,m,us,sd,sg,nd,nm,dp,tr⟩,rfl,rfl,rfl,rfl,rfl,rfl,rfl,rfl,rfl,⟨by rw [← Hr.out];rfl⟩,Hb,⟨at_⟩⟩
       |succ q=>
        have hk:k < s.size:=(by have:=Hk.out;omega);have f0:decide (k < s.size)=true:=decide_eq_true (hk);have q4:(k:Int) < s.size:=(by omega);obtain ⟨c,hc⟩:∃ c,ch s k=c:=⟨_,rfl⟩;have x1:((s[k]'hk).toNat:Int)=c:=(ch_at hk).trans hc;have cb:=ch_bd s k;rw [hc] at cb;obtain ⟨cb0,cb1⟩:=cb;have hr:=Hr.out;unfold rl at hr;dsimp only at hr;rw [hc] at hr;clear hc Hr
        have e1:IntKind.i64.wrap ((k:Int) + 1)=(k:Int) + 1:=IntWalk.i64_in _ (by have:=Hb.out;have:=Hs.out;omega);have e2:IntKind.i64.wrap (dp - 1)=dp - 1:=IntWalk.i64_in _ (by have:=Hb.out;have:=Hs.out;omega);have e3:IntKind.i64.wrap ((nd:Int) + 1)=(nd:Int) + 1:=IntWalk.i64_in _ (by have:=Hb.out;have:=Hs.out;omega);have e4:IntKind.i64.wrap ((nm:Int) + 1)=(nm:Int) + 1:=IntWalk.i64_in _ (by have:=Hb.out;have:=Hs.out;omega)
        obtain ⟨e,he⟩:∃ e,lw c=e:=⟨_,rfl⟩;rw [he] at hr;have He:=asd_ he;obtain ⟨b,hb⟩:∃ b,dig c=b:=⟨_,rfl⟩;rw [hb] at hr;unfold dig at hb;obtain ⟨b2,hb2⟩:∃ b,hxd c hx=b:=⟨_,rfl⟩;rw [hb2] at hr;unfold hxd at hb2;rw [he] at hb2;clear he;rw [← Hmx.out,← Hbs.out] at hr
        by_cases h95:c=95
        case pos=>
         rw [if_pos h95] at hr
         have g95:(c == 95)=true:=beq_iff_eq.2 (by omega)
         clear h95 hb hb2
         have Hr:=asd_ hr;clear hr
         go_wp2_with fail
         go_roundg q
         case measure=>exact Nat.lt_succ_self _
         case rel=>exact ⟨⟨k + 1,m,true,sd,sg,nd,nm,dp,tr⟩,(by first|rfl|(simp;done)|exact ivl (by rw [hz1];simp)),(by first|rfl|(simp;done)),by go_num,(by first|rfl|(simp;done)),(by first|rfl|(simp;done)),(by first|rfl|(simp;done)),by go_num,by go_num,(by first|rfl|(simp;done)),⟨by have:=Hk.out;dsimp only;omega⟩,Hr,⟨by have:=Hb.out;have:=Hs.out;dsimp only;refine ⟨?_,?_,?_,?_,?_,?_,?_⟩<;>omega⟩,⟨at_⟩⟩
        case neg=>
         rw [if_neg h95] at hr
         have g95:(c == 95)=false:=beq_eq_false_iff_ne.2 (by omega)
         clear h95
         by_cases h46:c=46
         case pos=>
          rw [if_pos h46] at hr
          have g46:(c == 46)=true:=beq_iff_eq.2 (by omega)
          clear h46 hb hb2
          cases sd
          case true=>
           rw [if_pos rfl] at hr
           have Hr:=asd_ hr;clear hr
           go_wp2_with fail
           go_meet
           case rel=>exact ⟨⟨k,m,us,true,sg,nd,nm,dp,tr⟩,rfl,rfl,rfl,rfl,rfl,rfl,rfl,rfl,rfl,Hr,Hb,⟨at_⟩⟩
          case false=>
           rw [if_neg (by decide)] at hr
           have Hr:=asd_ hr;clear hr
           go_wp2_with fail
           go_roundg q
           case measure=>exact Nat.lt_succ_self _
           case rel=>exact ⟨⟨k + 1,m,us,true,sg,nd,nm,nd,tr⟩,(by first|rfl|(simp;done)|exact ivl (by rw [hz1];simp)),(by first|rfl|(simp;done)),by go_num,(by first|rfl|(simp;done)),(by first|rfl|(simp;done)),(by first|rfl|(simp;done)),by go_num,by go_num,(by first|rfl|(simp;done)),⟨by have:=Hk.out;dsimp only;omega⟩,Hr,⟨by have:=Hb.out;have:=Hs.out;dsimp only;refine ⟨?_,?_,?_,?_,?_,?_,?_⟩<;>omega⟩,⟨at_⟩⟩
         case neg=>
          rw [if_neg h46] at hr
          have g46:(c == 46)=false:=beq_eq_false_iff_ne.2 (by omega)
          clear h46
          go_upto_region 32 with (fail)
          go_cut [76] from 77 to 83 (fun v76 wc=>v76= .bool b∧Aside0 (At w [] wc))
          case first=>
           clear hr hb2
           by_cases h48:48≤c
           case pos=>
            have g1:decide (48≤c)=true:=decide_eq_true (by omega)
            by_cases h57:c≤57
            case pos=>
             have g2:decide (c≤57)=true:=decide_eq_true (by omega)
             have hb2:true=b:=(by rw [← hb];simp [*]);subst hb2;clear hb
             go_wp2_with fail
             go_meet
             case rel=>exact ⟨rfl,⟨at_⟩⟩
            case neg=>
             have g2:decide (c≤57)=false:=decide_eq_false (by omega)
             have hb2:false=b:=(by rw [← hb];simp [*]);subst hb2;clear hb
             go_wp2_with fail
             go_meet
             case rel=>exact ⟨rfl,⟨at_⟩⟩
           case neg=>
            have g1:decide (48≤c)=false:=decide_eq_false (by omega)
            have hb2:false=b:=(by rw [← hb];simp [*]);subst hb2;clear hb
            go_wp2_with fail
            go_meet
            case rel=>exact ⟨rfl,⟨at_⟩⟩
          case rest=>
           clear HK;obtain ⟨rfl,HK⟩:=hcut;cases b
           case true=>
            rw [if_pos rfl] at hr;have h48:48≤c:=(by simp at hb;omega);have h57:c≤57:=(by simp at hb;omega);clear hb hb2
            have u1:IntKind.u64.wrap (c - 48)=c - 48:=u64w _ (by omega) (by omega);have u2:IntKind.u8.wrap (c - 48)=c - 48:=(by rw [IntKind.wrap_u8];omega);have u3:(c - 48) % 256=c - 48:=(by omega)
            by_cases hz:c=48∧nd=0
            case pos=>
             rw [if_pos hz] at hr;obtain ⟨hz1,hz2⟩:=hz
             have g6:(c == 48)=true:=beq_iff_eq.2 (by omega)
             have g7:((nd:Int) == 0)=true:=beq_iff_eq.2 (by omega);clear hz1 hz2 h48 h57
             have Hr:=asd_ hr;clear hr
             go_wp2_with fail
             go_roundg q
             case measure=>exact Nat.lt_succ_self _
             case rel=>exact ⟨⟨k + 1,m,us,sd,true,nd,nm,dp - 1,tr⟩,(by first|rfl|(simp;done)|exact ivl (by rw [hz1];simp)),(by first|rfl|(simp;done)),by go_num,(by first|rfl|(simp;done)),(by first|rfl|(simp;done)),(by first|rfl|(simp;done)),by go_num,by go_num,(by first|rfl|(simp;done)),⟨by have:=Hk.out;dsimp only;omega⟩,Hr,⟨by have:=Hb.out;have:=Hs.out;dsimp only;refine ⟨?_,?_,?_,?_,?_,?_,?_⟩<;>omega⟩,⟨at_⟩⟩
            case neg=>
             rw [if_neg hz] at hr
             by_cases hz1:c=48
             case pos=>
              have g6:(c == 48)=true:=beq_iff_eq.2 (by omega)
              have g7:((nd:Int) == 0)=false:=beq_eq_false_iff_ne.2 (by omega);have g8:(c != 48)=false:=bne_eq_false_iff_eq.2 hz1;clear hz
              by_cases hnm:nm < mx
              case pos=>
               rw [if_pos hnm] at hr
               have g3:decide (nm < mx)=true:=decide_eq_true (hnm)
               have g3i:decide ((nm:Int) < (mx:Int))=true:=decide_eq_true (by omega)
               clear hnm h48 h57
               have Hr:=asd_ hr;clear hr
               go_wp2_with fail
               go_roundg q
               case measure=>exact Nat.lt_succ_self _
               case rel=>exact ⟨⟨k + 1,IntKind.u64.wrap (IntKind.u64.wrap (m * bs) + (c - 48)),us,sd,true,nd + 1,nm + 1,dp,tr⟩,(by first|rfl|(simp;done)|exact ivl (by rw [hz1];simp)),(by first|rfl|(simp;done)),by go_num,(by first|rfl|(simp;done)),(by first|rfl|(simp;done)),(by first|rfl|(simp;done)),by go_num,by go_num,(by first|rfl|(simp;done)),⟨by have:=Hk.out;dsimp only;omega⟩,Hr,⟨by have:=Hb.out;have:=Hs.out;dsimp only;exact ⟨by omega,by omega,by omega,by omega,by omega,u64_rng _⟩⟩,⟨at_⟩⟩
              case neg=>
               rw [if_neg hnm] at hr
               have g3:decide (nm < mx)=false:=decide_eq_false (hnm)
               have g3i:decide ((nm:Int) < (mx:Int))=false:=decide_eq_false (by omega)
               clear hnm h48 h57
               rw [g8,Bool.or_false] at hr
               have Hr:=asd_ hr;clear hr
               go_wp2_with fail
               go_roundg q
               case measure=>exact Nat.lt_succ_self _
               case rel=>exact ⟨⟨k + 1,m,us,sd,true,nd + 1,nm,dp,tr⟩,(by first|rfl|(simp;done)|exact ivl (by rw [hz1];simp)),(by first|rfl|(simp;done)),by go_num,(by first|rfl|(simp;done)),(by first|rfl|(simp;done)),(by first|rfl|(simp;done)),by go_num,by go_num,(by first|rfl|(simp;done)),⟨by have:=Hk.out;dsimp only;omega⟩,Hr,⟨by have:=Hb.out;have:=Hs.out;dsimp only;refine ⟨?_,?_,?_,?_,?_,?_,?_⟩<;>omega⟩,⟨at_⟩⟩
             case neg=>
              have g6:(c == 48)=false:=beq_eq_false_iff_ne.2 (by omega)
              clear hz
              by_cases hnm:nm < mx
              case pos=>
               rw [if_pos hnm] at hr
               have g3:decide (nm < mx)=true:=decide_eq_true (hnm)
               have g3i:decide ((nm:Int) < (mx:Int))=true:=decide_eq_true (by omega)
               clear hnm h48 h57
               have Hr:=asd_ hr;clear hr
               go_wp2_with fail
               go_roundg q
               case measure=>exact Nat.lt_succ_self _
               case rel=>exact ⟨⟨k + 1,IntKind.u64.wrap (IntKind.u64.wrap (m * bs) + (c - 48)),us,sd,true,nd + 1,nm + 1,dp,tr⟩,(by first|rfl|(simp;done)|exact ivl (by rw [hz1];simp)),(by first|rfl|(simp;done)),by go_num,(by first|rfl|(simp;done)),(by first|rfl|(simp;done)),(by first|rfl|(simp;done)),by go_num,by go_num,(by first|rfl|(simp;done)),⟨by have:=Hk.out;dsimp only;omega⟩,Hr,⟨by have:=Hb.out;have:=Hs.out;dsimp only;exact ⟨by omega,by omega,by omega,by omega,by omega,u64_rng _⟩⟩,⟨at_⟩⟩
              case neg=>
               rw [if_neg hnm] at hr
               have g3:decide (nm < mx)=false:=decide_eq_false (hnm)
               have g3i:decide ((nm:Int) < (mx:Int))=false:=decide_eq_false (by omega)
               clear hnm h48 h57
               by_cases hz:c=48
               case pos=>
                have g5:(c != 48)=false:=bne_eq_false_iff_eq.2 hz;rw [g5,Bool.or_false] at hr;clear hz
                have Hr:=asd_ hr;clear hr
                go_wp2_with fail
                go_roundg q
                case measure=>exact Nat.lt_succ_self _
                case rel=>exact ⟨⟨k + 1,m,us,sd,true,nd + 1,nm,dp,tr⟩,(by first|rfl|(simp;done)|exact ivl (by rw [hz1];simp)),(by first|rfl|(simp;done)),by go_num,(by first|rfl|(simp;done)),(by first|rfl|(simp;done)),(by first|rfl|(simp;done)),by go_num,by go_num,(by first|rfl|(simp;done)),⟨by have:=Hk.out;dsimp only;omega⟩,Hr,⟨by have:=Hb.out;have:=Hs.out;dsimp only;refine ⟨?_,?_,?_,?_,?_,?_,?_⟩<;>omega⟩,⟨at_⟩⟩
               case neg=>
                have g5:(c != 48)=true:=bne_iff_ne.2 hz;rw [g5,Bool.or_true] at hr;clear hz
                have Hr:=asd_ hr;clear hr
                go_wp2_with fail
                go_roundg q
                case measure=>exact Nat.lt_succ_self _
                case rel=>exact ⟨⟨k + 1,m,us,sd,true,nd + 1,nm,dp,true⟩,(by first|rfl|(simp;done)|exact ivl (by rw [hz1];simp)),(by first|rfl|(simp;done)),by go_num,(by first|rfl|(simp;done)),(by first|rfl|(simp;done)),(by first|rfl|(simp;done)),by go_num,by go_num,(by first|rfl|(simp;done)),⟨by have:=Hk.out;dsimp only;omega⟩,Hr,⟨by have:=Hb.out;have:=Hs.out;dsimp only;refine ⟨?_,?_,?_,?_,?_,?_,?_⟩<;>omega⟩,⟨at_⟩⟩
           case false=>
            rw [if_neg (by decide)] at hr;clear hb
            go_upto_region 43 with (fail)
            go_cut [109] from 110 to 122 (fun v109 wc=>v109= .bool b2∧Aside0 (At w [] wc))
            case first=>
             clear hr;have g16:=Hg16.out
             cases hx
             case false=>
              have hb2:false=b2:=(by rw [← hb2];simp [*]);subst hb2;clear hb2
              go_wp2_with (first|((first|((with_reducible refine gd_ 114 ?_);(try (refine gate_guard (by rfl) ?_;dsimp only));refine cl_ #[.int .u8 c] (.int .u8 e) Tryz.func89 (by rw [← He.out];exact lw_ok _ _) ?_)|((with_reducible refine gd_ 119 ?_);(try (refine gate_guard (by rfl) ?_;dsimp only));refine cl_ #[.int .u8 c] (.int .u8 e) Tryz.func89 (by rw [← He.out];exact lw_ok _ _) ?_));intro wc114 HK1;replace HK:=asd_ HK1;clear HK1;skip))
              go_meet
              case rel=>exact ⟨rfl,⟨at_⟩⟩
             case true=>
              by_cases h97:97≤e
              case pos=>
               have g3:decide (97≤e)=true:=decide_eq_true (by omega)
               by_cases h102:e≤102
               case pos=>
                have g4:decide (e≤102)=true:=decide_eq_true (by omega)
                have hb2:true=b2:=(by rw [← hb2];simp [*]);subst hb2;clear hb2
                go_wp2_with (first|((first|((with_reducible refine gd_ 114 ?_);(try (refine gate_guard (by rfl) ?_;dsimp only));refine cl_ #[.int .u8 c] (.int .u8 e) Tryz.func89 (by rw [← He.out];exact lw_ok _ _) ?_)|((with_reducible refine gd_ 119 ?_);(try (refine gate_guard (by rfl) ?_;dsimp only));refine cl_ #[.int .u8 c] (.int .u8 e) Tryz.func89 (by rw [← He.out];exact lw_ok _ _) ?_));intro wc114 HK1;replace HK:=asd_ HK1;clear HK1;skip))
                go_meet
                case rel=>exact ⟨rfl,⟨at_⟩⟩
               case neg=>
                have g4:decide (e≤102)=false:=decide_eq_false (by omega)
                have hb2:false=b2:=(by rw [← hb2];simp [*]);subst hb2;clear hb2
                go_wp2_with (first|((first|((with_reducible refine gd_ 114 ?_);(try (refine gate_guard (by rfl) ?_;dsimp only));refine cl_ #[.int .u8 c] (.int .u8 e) Tryz.func89 (by rw [← He.out];exact lw_ok _ _) ?_)|((with_reducible refine gd_ 119 ?_);(try (refine gate_guard (by rfl) ?_;dsimp only));refine cl_ #[.int .u8 c] (.int .u8 e) Tryz.func89 (by rw [← He.out];exact lw_ok _ _) ?_));intro wc114 HK1;replace HK:=asd_ HK1;clear HK1;skip))
                go_meet
                case rel=>exact ⟨rfl,⟨at_⟩⟩
              case neg=>
               have g3:decide (97≤e)=false:=decide_eq_false (by omega)
               have hb2:false=b2:=(by rw [← hb2];simp [*]);subst hb2;clear hb2
               go_wp2_with (first|((first|((with_reducible refine gd_ 114 ?_);(try (refine gate_guard (by rfl) ?_;dsimp only));refine cl_ #[.int .u8 c] (.int .u8 e) Tryz.func89 (by rw [← He.out];exact lw_ok _ _) ?_)|((with_reducible refine gd_ 119 ?_);(try (refine gate_guard (by rfl) ?_;dsimp only));refine cl_ #[.int .u8 c] (.int .u8 e) Tryz.func89 (by rw [← He.out];exact lw_ok _ _) ?_));intro wc114 HK1;replace HK:=asd_ HK1;clear HK1;skip))
               go_meet
               case rel=>exact ⟨rfl,⟨at_⟩⟩
            case rest=>
             clear HK;obtain ⟨rfl,HK⟩:=hcut;cases b2
             case false=>
              rw [if_neg (by decide)] at hr;clear hb2
              have Hr:=asd_ hr;clear hr
              go_wp2_with fail
              go_meet
              case rel=>exact ⟨⟨k,m,us,sd,sg,nd,nm,dp,tr⟩,rfl,rfl,rfl,rfl,rfl,rfl,rfl,rfl,rfl,Hr,Hb,⟨at_⟩⟩
             case true=>
              rw [if_pos rfl] at hr;have h97:97≤e:=(by simp at hb2;omega);have h102:e≤102:=(by simp at hb2;omega);clear hb2
              have u1:IntKind.u8.wrap (e - 97)=e - 97:=(by rw [IntKind.wrap_u8];omega);have u2:(e - 97) % 256=e - 97:=(by omega);have u3:IntKind.u8.wrap (e - 97 + 10)=e - 97 + 10:=(by rw [IntKind.wrap_u8];omega);have u4:(e - 97 + 10) % 256=e - 97 + 10:=(by omega);have u5:IntKind.u64.wrap (e - 97 + 10)=e - 97 + 10:=u64w _ (by omega) (by omega);clear h97 h102
              by_cases hnm:nm < mx
              case pos=>
               rw [if_pos hnm] at hr
               have g3:decide (nm < mx)=true:=decide_eq_true (hnm)
               have g3i:decide ((nm:Int) < (mx:Int))=true:=decide_eq_true (by omega)
               clear hnm
               have Hr:=asd_ hr;clear hr
               go_wp2_with (first|((with_reducible refine gd_ 132 ?_);refine cl_ #[.int .u8 c] (.int .u8 e) Tryz.func89 (by rw [← He.out];exact lw_ok _ _) ?_;intro wc132 HK1;replace HK:=asd_ HK1;clear HK1;skip))
               go_roundg q
               case measure=>exact Nat.lt_succ_self _
               case rel=>exact ⟨⟨k + 1,IntKind.u64.wrap (IntKind.u64.wrap (m * 16) + (e - 97 + 10)),us,sd,true,nd + 1,nm + 1,dp,tr⟩,(by first|rfl|(simp;done)|exact ivl (by rw [hz1];simp)),(by first|rfl|(simp;done)),by go_num,(by first|rfl|(simp;done)),(by first|rfl|(simp;done)),(by first|rfl|(simp;done)),by go_num,by go_num,(by first|rfl|(simp;done)),⟨by have:=Hk.out;dsimp only;omega⟩,Hr,⟨by have:=Hb.out;have:=Hs.out;dsimp only;exact ⟨by omega,by omega,by omega,by omega,by omega,u64_rng _⟩⟩,⟨at_⟩⟩
              case neg=>
               rw [if_neg hnm] at hr
               have g3:decide (nm < mx)=false:=decide_eq_false (hnm)
               have g3i:decide ((nm:Int) < (mx:Int))=false:=decide_eq_false (by omega)
               clear hnm
               have Hr:=asd_ hr;clear hr
               go_wp2_with (first|((with_reducible refine gd_ 132 ?_);refine cl_ #[.int .u8 c] (.int .u8 e) Tryz.func89 (by rw [← He.out];exact lw_ok _ _) ?_;intro wc132 HK1;replace HK:=asd_ HK1;clear HK1;skip))
               go_roundg q
               case measure=>exact Nat.lt_succ_self _
               case rel=>exact ⟨⟨k + 1,m,us,sd,true,nd + 1,nm,dp,true⟩,(by first|rfl|(simp;done)|exact ivl (by rw [hz1];simp)),(by first|rfl|(simp;done)),by go_num,(by first|rfl|(simp;done)),(by first|rfl|(simp;done)),(by first|rfl|(simp;done)),by go_num,by go_num,(by first|rfl|(simp;done)),⟨by have:=Hk.out;dsimp only;omega⟩,Hr,⟨by have:=Hb.out;have:=Hs.out;dsimp only;refine ⟨?_,?_,?_,?_,?_,?_,?_⟩<;>omega⟩,⟨at_⟩⟩
     case rest=>
      clear HK His Hmx19 HX;obtain ⟨⟨k,m,us,sd,sg,nd,nm,dp,tr⟩,rfl,rfl,rfl,rfl,rfl,rfl,rfl,rfl,rfl,HxX,Hb,HK⟩:=hcut
      have hR:=HR2.out;rw [← HxX.out] at hR;unfold rd2 at hR;dsimp only at hR Hb;clear HR2 HxX;have g16:=Hg16.out
      cases sg
      case false=>
       rw [if_neg (by decide)] at hR
       have Hn:Aside0 (rdF s=none):=⟨by rw [HR.out,← hR]⟩;clear hR
       go_wp2_with fail
       try rw [Exit.noGoto_ret]
       exact bodyPost_ret (v:= .tuple #[.int .u64 (m),.int .i64 (0),.bool ng,.bool tr,.bool hx,.int .i64 (k),.bool false]) (by simp [results,Tryz.results110,go_sem]) rfl ⟨⟨m,0,ng,tr,hx,_,false,rfl,(fun h=>(by cases h)),fun _=>Hn.out⟩,be_⟩
      case true=>
       rw [if_pos rfl] at hR;have HR2:=asd_ hR;clear hR
       go_upto_if 142 with fail
       go_cut [17] from 141 to 143 (fun v17 wc=>∃ dq:Int,v17= .int .i64 dq∧Aside0 ((if sd=true then dp else (nd:Int))=dq)∧Aside0 (-(k:Int)≤dq∧dq≤k)∧Aside0 (At w [] wc))
       case first=>
        cases sd
        case false=>
         go_wp2_with fail
         go_meet
         case rel=>exact ⟨nd,rfl,⟨rfl⟩,⟨by have:=Hb.out;have:=Hs.out;omega⟩,⟨at_⟩⟩
        case true=>
         go_wp2_with fail
         go_meet
         case rel=>exact ⟨dp,rfl,⟨rfl⟩,⟨by have:=Hb.out;have:=Hs.out;omega⟩,⟨at_⟩⟩
       case rest=>
        clear HK;obtain ⟨dq,rfl,Hdq,Hdb,HK⟩:=hcut
        go_upto_if 145 with fail
        go_cut [16,17] from 144 to 149 (fun v16 v17 wc=>∃ n4 d4:Int,v16= .int .i64 n4∧v17= .int .i64 d4∧Aside0 (n4=(nm:Int) * (if hx then 4 else 1))∧Aside0 (d4=dq * (if hx then 4 else 1))∧Aside0 (-4194304≤d4∧d4≤4194304∧0≤n4∧n4≤4194304)∧Aside0 (At w [] wc))
        case first=>
         have e1:IntKind.i64.wrap (dq * 4)=dq * 4:=IntWalk.i64_in _ (by have:=Hdb.out;have:=Hb.out;have:=Hs.out;omega);have e2:IntKind.i64.wrap ((nm:Int) * 4)=(nm:Int) * 4:=IntWalk.i64_in _ (by have:=Hb.out;have:=Hs.out;omega);cases hx
         case false=>
          have gf:¬ (bs == 16)=true:=(by rw [g16];decide);go_wp2_with fail
          go_meet
          case rel=>exact ⟨nm,dq,rfl,rfl,⟨by simp⟩,⟨by simp⟩,⟨by have:=Hdb.out;have:=Hb.out;have:=Hs.out;omega⟩,⟨at_⟩⟩
         case true=>
          have gf:(bs == 16)=true:=g16;go_wp2_with fail
          go_meet
          case rel=>exact ⟨(nm:Int) * 4,dq * 4,rfl,rfl,⟨by simp⟩,⟨by simp⟩,⟨by have:=Hdb.out;have:=Hb.out;have:=Hs.out;omega⟩,⟨at_⟩⟩
        case rest=>
         clear HK;obtain ⟨n4,d4,rfl,rfl,Hn4,Hd4,Hb4,HK⟩:=hcut
         obtain ⟨bx,hbx⟩:∃ b,exB s hx k=b:=⟨_,rfl⟩;have hR:=HR2.out;unfold exq at hR;rw [hbx] at hR;clear HR2;have HR2:=asd_ hR;unfold exB at hbx;rw [← Hec.out] at hbx;clear hR;have Hbx:=asd_ hbx;clear hbx
         go_upto_region 57 with (fail)
         go_cut [161] from 150 to 160 (fun v161 wc=>v161= .bool bx∧Aside0 (At w [] wc))
         case first=>
          have hbx:=Hbx.out;clear Hbx
          by_cases hk:k < s.size
          case pos=>
           have f0:decide (k < s.size)=true:=decide_eq_true (by omega)
           have f1:decide ((k:Int) < (s.size:Int))=true:=decide_eq_true (by omega)
           have q1:k < s.size:=hk;have q2:(k:Int) < s.size:=(by omega);obtain ⟨c,hc⟩:∃ c,ch s k=c:=⟨_,rfl⟩;have x1:((s[k]'q1).toNat:Int)=c:=(ch_at q1).trans hc;obtain ⟨e,he⟩:∃ e,lw c=e:=⟨_,rfl⟩;rw [hc,he] at hbx;have He:=asd_ he;clear hc he
           by_cases hee:e=ec
           case pos=>
            have g1:(e == ec)=true:=beq_iff_eq.2 (hee)
            have hb2:true=bx:=(by rw [← hbx];simp [*]);subst hb2;clear hbx
            go_wp2_with (first|((with_reducible refine gd_ 158 ?_);(try (refine gate_guard (by rfl) ?_;dsimp only));refine cl_ #[.int .u8 c] (.int .u8 e) Tryz.func89 (by rw [← He.out];exact lw_ok _ _) ?_;intro wc158 HK1;replace HK:=asd_ HK1;clear HK1;skip))
            go_meet
            case rel=>exact ⟨rfl,⟨at_⟩⟩
           case neg=>
            have g1:(e == ec)=false:=beq_eq_false_iff_ne.2 (hee)
            have hb2:false=bx:=(by rw [← hbx];simp [*]);subst hb2;clear hbx
            go_wp2_with (first|((with_reducible refine gd_ 158 ?_);(try (refine gate_guard (by rfl) ?_;dsimp only));refine cl_ #[.int .u8 c] (.int .u8 e) Tryz.func89 (by rw [← He.out];exact lw_ok _ _) ?_;intro wc158 HK1;replace HK:=asd_ HK1;clear HK1;skip))
            go_meet
            case rel=>exact ⟨rfl,⟨at_⟩⟩
          case neg=>
           have f0:decide (k < s.size)=false:=decide_eq_false (by omega)
           have f1:decide ((k:Int) < (s.size:Int))=false:=decide_eq_false (by omega)
           have hb2:false=bx:=(by rw [← hbx];simp [*]);subst hb2;clear hbx
           go_wp2_with fail
           go_meet
           case rel=>exact ⟨rfl,⟨at_⟩⟩
         case rest=>
          clear HK;obtain ⟨rfl,HK⟩:=hcut
          go_upto_if 161 with fail
          go_cut [7,9,17,19,20] from 161 to 239 (fun v7 v9 v17 v19 v20 wc=>∃ (j:Nat) (u:Bool) (dv:Int),v7= .int .i64 j∧v9= .bool (us||u)∧v17= .int .i64 dv∧Aside0 (∃ ev:Int,dv=d4 + ev∧rd3 s ng hx ⟨k,m,us,sd,true,nd,nm,dp,tr⟩ j ev u=R)∧Aside0 (-5000000≤dv∧dv≤5000000)∧Aside0 (j≤s.size)∧Aside0 (At w [] wc))
          case first=>
           have hR:=HR2.out;clear HR2;cases bx
           case false=>
            rw [if_neg (by decide)] at hR;clear Hbx;cases hx
            case true=>
             rw [if_pos rfl] at hR;have gf:(bs == 16)=true:=g16
             have Hn:Aside0 (rdF s=none):=⟨by rw [HR.out,← hR]⟩;clear hR
             go_wp2_with fail
             try rw [Exit.noGoto_ret]
             exact bodyPost_ret (v:= .tuple #[.int .u64 (m),.int .i64 (0),.bool ng,.bool tr,.bool true,.int .i64 (k),.bool false]) (by simp [results,Tryz.results110,go_sem]) rfl ⟨⟨m,0,ng,tr,true,_,false,rfl,(fun h=>(by cases h)),fun _=>Hn.out⟩,be_⟩
            case false=>
             rw [if_neg (by decide)] at hR;dsimp only at hR;have Hr3:=asd_ hR;clear hR;have gf:(bs == 16)=false:=g16;go_wp2_with fail
             go_meet
             case rel=>exact ⟨k,false,d4,rfl,bv_ (by simp),rfl,⟨0,by omega,Hr3.out⟩,⟨by have:=Hb4.out;omega⟩,⟨by have:=Hb.out;have:=Hs.out;omega⟩,⟨at_⟩⟩
           case true=>
            rw [if_pos rfl] at hR;have hks:k < s.size:=(by have h9:=Hbx.out;simp at h9;exact h9.1);have Hks:=asd_ hks;clear Hbx hks
            obtain ⟨a,ha⟩:∃ a,k + 1=a:=⟨_,rfl⟩;rw [ha] at hR;have Ha:Aside0 (a≤s.size):=⟨by have:=Hks.out;omega⟩;have e1:IntKind.i64.wrap ((k:Int) + 1)=(a:Int):=by rw [IntWalk.i64_in _ (by have:=Hks.out;have:=Hs.out;omega)];omega
            clear ha;unfold exd at hR
            by_cases has:s.size≤a
            case pos=>
             rw [if_pos has] at hR;dsimp only at hR;have f1:decide (s.size≤a)=true:=decide_eq_true has;have f2:decide ((s.size:Int)≤(a:Int))=true:=decide_eq_true (by omega);clear has
             have Hn:Aside0 (rdF s=none):=⟨by rw [HR.out,← hR]⟩;clear hR
             go_wp2_with fail
             try rw [Exit.noGoto_ret]
             exact bodyPost_ret (v:= .tuple #[.int .u64 (m),.int .i64 (0),.bool ng,.bool tr,.bool hx,.int .i64 (a),.bool false]) (by simp [results,Tryz.results110,go_sem]) rfl ⟨⟨m,0,ng,tr,hx,_,false,rfl,(fun h=>(by cases h)),fun _=>Hn.out⟩,be_⟩
            case neg=>
             rw [if_neg has] at hR;have f1:decide (s.size≤a)=false:=decide_eq_false has;have f2:decide ((s.size:Int)≤(a:Int))=false:=decide_eq_false (by omega);have q1:a < s.size:=(by omega);have q2:(a:Int) < s.size:=(by omega);obtain ⟨c,hc⟩:∃ c,ch s a=c:=⟨_,rfl⟩;have x1:((s[a]'q1).toNat:Int)=c:=(ch_at q1).trans hc;rw [hc] at hR;have Hq:=asd_ q1;clear hc has;have HR2:=asd_ hR;clear hR
             go_upto_block 4 with fail
             go_cut [7,19] from 171 to 178 (fun v7 v19 wc=>∃ (j:Nat) (sv:Int),v7= .int .i64 j∧v19= .int .i64 sv∧Aside0 (j=if c=43∨c=45 then a + 1 else a)∧Aside0 (sv=if c=45 then -1 else 1)∧Aside0 (At w [] wc))
             case first=>
              have e2:IntKind.i64.wrap ((a:Int) + 1)=(a:Int) + 1:=IntWalk.i64_in _ (by have:=Hq.out;have:=Hs.out;omega)
              by_cases h43:c=43
              case pos=>
               have g1:(c == 43)=true:=beq_iff_eq.2 (by omega)
               have Hj1:Aside0 (a + 1=if c=43∨c=45 then a + 1 else a):=⟨by rw [if_pos (.inl h43)]⟩;have Hj2:Aside0 (1=if c=45 then (-1:Int) else 1):=⟨by rw [if_neg (by omega)]⟩;clear h43
               go_wp2_with fail
               go_meet
               case rel=>exact ⟨a + 1,1,by go_num,rfl,Hj1,Hj2,⟨at_⟩⟩
              case neg=>
               have g1:(c == 43)=false:=beq_eq_false_iff_ne.2 (by omega)
               by_cases h45:c=45
               case pos=>
                have g2:(c == 45)=true:=beq_iff_eq.2 (by omega)
                have Hj1:Aside0 (a + 1=if c=43∨c=45 then a + 1 else a):=⟨by rw [if_pos (.inr h45)]⟩;have Hj2:Aside0 (-1=if c=45 then (-1:Int) else 1):=⟨by rw [if_pos h45]⟩;clear h43 h45
                go_wp2_with fail
                go_meet
                case rel=>exact ⟨a + 1,-1,by go_num,rfl,Hj1,Hj2,⟨at_⟩⟩
               case neg=>
                have g2:(c == 45)=false:=beq_eq_false_iff_ne.2 (by omega)
                have Hj1:Aside0 (a=if c=43∨c=45 then a + 1 else a):=⟨by rw [if_neg (by omega)]⟩;have Hj2:Aside0 (1=if c=45 then (-1:Int) else 1):=⟨by rw [if_neg h45]⟩;clear h43 h45
                go_wp2_with fail
                go_meet
                case rel=>exact ⟨a,1,rfl,rfl,Hj1,Hj2,⟨at_⟩⟩
             case rest=>
              clear HK x1 f1 f2 q1 q2 e1;obtain ⟨j,sv,rfl,rfl,Hj,Hsv,HK⟩:=hcut
              have hR:=HR2.out;rw [← Hj.out,← Hsv.out] at hR;clear HR2;obtain ⟨b6,hb6⟩:∃ b:Bool,(decide (j < s.size)&&dig (ch s j))=b:=⟨_,rfl⟩;have hb7:(j < s.size∧dig (ch s j)=true)=(b6=true):=(by rw [← hb6];simp);simp only [hb7] at hR;clear hb7;have HR2:=asd_ hR;clear hR;have Hb6:=asd_ hb6;clear hb6;have Hja:Aside0 (j≤s.size):=⟨by rw [Hj.out];have:=Hq.out;split<;>omega⟩;have Hsv2:Aside0 (sv= -1∨sv=1):=⟨by rw [Hsv.out];split;exact .inl rfl;exact .inr rfl⟩;clear Hj Hsv
              go_upto_region 67 with (fail)
              go_cut [194] from 179 to 193 (fun v194 wc=>v194= .bool (!b6)∧Aside0 (At w [] wc))
              case first=>
               have hb6:=Hb6.out;unfold dig at hb6;clear Hb6
               by_cases hjs:s.size≤j
               case pos=>
                have f1:decide (s.size≤j)=true:=decide_eq_true (by omega)
                have f2:decide ((s.size:Int)≤(j:Int))=true:=decide_eq_true (by omega)
                have q9:¬ j < s.size:=(by omega)
                have hb2:false=b6:=(by rw [← hb6];simp [*]);subst hb2;clear hb6
                go_wp2_with fail
                go_meet
                case rel=>exact ⟨rfl,⟨at_⟩⟩
               case neg=>
                have f1:decide (s.size≤j)=false:=decide_eq_false (by omega)
                have f2:decide ((s.size:Int)≤(j:Int))=false:=decide_eq_false (by omega)
                have q1:j < s.size:=(by omega);have q2:(j:Int) < s.size:=(by omega);obtain ⟨d,hd⟩:∃ d,ch s j=d:=⟨_,rfl⟩;have x1:((s[j]'q1).toNat:Int)=d:=(ch_at q1).trans hd;rw [hd] at hb6;clear hd
                by_cases h48:48≤d
                case pos=>
                 have g1:decide (d < 48)=false:=decide_eq_false (by omega)
                 by_cases h57:d≤57
                 case pos=>
                  have g2:decide (57 < d)=false:=decide_eq_false (by omega)
                  have hb2:true=b6:=(by rw [← hb6];simp [*]);subst hb2;clear hb6
                  go_wp2_with fail
                  go_meet
                  case rel=>exact ⟨rfl,⟨at_⟩⟩
                 case neg=>
                  have g2:decide (57 < d)=true:=decide_eq_true (by omega)
                  have hb2:false=b6:=(by rw [← hb6];simp [*]);subst hb2;clear hb6
                  go_wp2_with fail
                  go_meet
                  case rel=>exact ⟨rfl,⟨at_⟩⟩
                case neg=>
                 have g1:decide (d < 48)=true:=decide_eq_true (by omega)
                 have hb2:false=b6:=(by rw [← hb6];simp [*]);subst hb2;clear hb6
                 go_wp2_with fail
                 go_meet
                 case rel=>exact ⟨rfl,⟨at_⟩⟩
              case rest=>
               clear HK;obtain ⟨rfl,HK⟩:=hcut
               have hR:=HR2.out;clear HR2 Hb6;cases b6
               case false=>
                rw [if_neg (by decide)] at hR;dsimp only at hR
                have Hn:Aside0 (rdF s=none):=⟨by rw [HR.out,← hR]⟩;clear hR
                go_wp2_with fail
                try rw [Exit.noGoto_ret]
                exact bodyPost_ret (v:= .tuple #[.int .u64 (m),.int .i64 (0),.bool ng,.bool tr,.bool hx,.int .i64 (j),.bool false]) (by simp [results,Tryz.results110,go_sem]) rfl ⟨⟨m,0,ng,tr,hx,_,false,rfl,(fun h=>(by cases h)),fun _=>Hn.out⟩,be_⟩
               case true=>
                rw [if_pos rfl] at hR;dsimp only at hR;obtain ⟨E,hE⟩:∃ E,exl s (s.size - j) j 0 false=E:=⟨_,rfl⟩;rw [hE] at hR;obtain ⟨HE,HR2⟩:=as2_ hE hR;clear hE hR
                go_wp2_with fail
                go_loopg [7,9,20] (s.size - j) (fun kq v7 v9 v20 w'=>∃ (a:Nat) (u y:Bool) (e:Int),v7= .int .i64 a∧v9= .bool y∧v20= .int .i64 e∧Aside0 (y=(us||u))∧Aside0 (kq + a=s.size)∧Aside0 (exl s kq a e u=E)∧Aside0 (0≤e∧e≤100000)∧Aside0 (At w [] w'))
                case atStart=>exact ⟨j,false,us,0,rfl,rfl,rfl,⟨by simp⟩,⟨by have:=Hja.out;omega⟩,HE,⟨by omega⟩,⟨at_⟩⟩
                case round=>
                 clear HK HE;obtain ⟨a,u,y,e,rfl,rfl,rfl,Hy,Hk2,HE,He,HK⟩:=hrel
                 cases gk with
                 |zero=>
                  have hE:=HE.out;unfold exl at hE;clear HE
                  have f0:decide (a < s.size)=false:=decide_eq_false (by have:=Hk2.out;omega);have f1:decide ((a:Int) < (s.size:Int))=false:=decide_eq_false (by have:=Hk2.out;omega)
                  have HE2:=asd_ hE;clear hE;obtain ⟨ev,hev⟩:∃ ev,e * sv=ev:=⟨_,rfl⟩;have hevb: -100000≤ev∧ev≤100000:=(by rcases Hsv2.out with h9|h9<;>rw [h9] at hev<;>have:=He.out<;>omega);have e8:IntKind.i64.wrap (e * sv)=ev:=(IntWalk.i64_in _ (by omega)).trans hev;have e9:IntKind.i64.wrap (d4 + ev)=d4 + ev:=IntWalk.i64_in _ (by have:=Hb4.out;omega);obtain ⟨Hev,Hevb⟩:=as2_ hev hevb;clear hev hevb
                  go_wp2_with fail
                  go_meet
                  case rel=>exact ⟨a,u,d4 + ev,rfl,bv_ Hy.out,rfl,⟨ev,rfl,by have h9:=HR2.out;rw [← HE2.out] at h9;dsimp only at h9;rw [Hev.out] at h9;exact h9⟩,⟨by have:=Hb4.out;have:=Hevb.out;omega⟩,⟨by have:=Hk2.out;omega⟩,⟨at_⟩⟩
                 |succ q=>
                  have hE:=HE.out;unfold exl at hE;clear HE;have hk:a < s.size:=(by have:=Hk2.out;omega);have f0:decide (a < s.size)=true:=decide_eq_true (hk);have f1:decide ((a:Int) < (s.size:Int))=true:=decide_eq_true (by omega);have q4:(a:Int) < s.size:=(by omega);obtain ⟨c,hc⟩:∃ c,ch s a=c:=⟨_,rfl⟩;have x1:((s[a]'hk).toNat:Int)=c:=(ch_at hk).trans hc;have cb:=ch_bd s a;rw [hc] at cb hE;obtain ⟨cb0,cb1⟩:=cb;clear hc;have e1:IntKind.i64.wrap ((a:Int) + 1)=(a:Int) + 1:=IntWalk.i64_in _ (by have:=Hs.out;omega)
                  by_cases h48:48≤c
                  case pos=>
                   have g1:decide (48≤c)=true:=decide_eq_true (h48)
                   by_cases h57:c≤57
                   case pos=>
                    have g2:decide (c≤57)=true:=decide_eq_true (h57)
                    rw [show dig c=true by unfold dig;simp;omega,if_pos rfl] at hE
                    have g95:(c == 95)=false:=beq_eq_false_iff_ne.2 (by omega)
                    by_cases he:e < 10000
                    case pos=>
                     rw [if_pos he] at hE
                     have g3:decide (e < 10000)=true:=decide_eq_true (he)
                     have e5:IntKind.i64.wrap (e * 10)=e * 10:=IntWalk.i64_in _ (by have:=He.out;omega);have e6:IntKind.i64.wrap c=c:=IntWalk.i64_in _ (by omega);have e7:IntKind.i64.wrap (e * 10 + c)=e * 10 + c:=IntWalk.i64_in _ (by have:=He.out;omega);have e8:IntKind.i64.wrap (e * 10 + c - 48)=e * 10 + c - 48:=IntWalk.i64_in _ (by have:=He.out;omega);have He2:Aside0 (0≤e * 10 + c - 48∧e * 10 + c - 48≤100000):=⟨by have:=He.out;omega⟩;clear he h48 h57
                     have HE2:=asd_ hE;clear hE;go_wp2_with fail
                     go_roundg q
                     case measure=>exact Nat.lt_succ_self _
                     case rel=>exact ⟨a + 1,u,y,(e * 10 + c - 48),by go_num,rfl,rfl,Hy,⟨by have:=Hk2.out;omega⟩,HE2,He2,⟨at_⟩⟩
                    case neg=>
                     rw [if_neg he] at hE
                     have g3:decide (e < 10000)=false:=decide_eq_false (he)
                     clear he h48 h57
                     have HE2:=asd_ hE;clear hE;go_wp2_with fail
                     go_roundg q
                     case measure=>exact Nat.lt_succ_self _
                     case rel=>exact ⟨a + 1,u,y,e,by go_num,rfl,rfl,Hy,⟨by have:=Hk2.out;omega⟩,HE2,He,⟨at_⟩⟩
                   case neg=>
                    have g2:decide (c≤57)=false:=decide_eq_false (h57)
                    rw [show dig c=false by unfold dig;simp;omega,if_neg (by decide)] at hE
                    by_cases h95:c=95
                    case pos=>
                     rw [if_pos h95] at hE
                     have g95:(c == 95)=true:=beq_iff_eq.2 (by omega)
                     clear h95
                     have HE2:=asd_ hE;clear hE;go_wp2_with fail
                     go_roundg q
                     case measure=>exact Nat.lt_succ_self _
                     case rel=>exact ⟨a + 1,true,true,e,by go_num,rfl,rfl,⟨by simp⟩,⟨by have:=Hk2.out;omega⟩,HE2,He,⟨at_⟩⟩
                    case neg=>
                     rw [if_neg h95] at hE
                     have g95:(c == 95)=false:=beq_eq_false_iff_ne.2 (by omega)
                     clear h95
                     have HE2:=asd_ hE;clear hE;obtain ⟨ev,hev⟩:∃ ev,e * sv=ev:=⟨_,rfl⟩;have hevb: -100000≤ev∧ev≤100000:=(by rcases Hsv2.out with h9|h9<;>rw [h9] at hev<;>have:=He.out<;>omega);have e8:IntKind.i64.wrap (e * sv)=ev:=(IntWalk.i64_in _ (by omega)).trans hev;have e9:IntKind.i64.wrap (d4 + ev)=d4 + ev:=IntWalk.i64_in _ (by have:=Hb4.out;omega);obtain ⟨Hev,Hevb⟩:=as2_ hev hevb;clear hev hevb
                     go_wp2_with fail
                     go_meet
                     case rel=>exact ⟨a,u,d4 + ev,rfl,bv_ Hy.out,rfl,⟨ev,rfl,by have h9:=HR2.out;rw [← HE2.out] at h9;dsimp only at h9;rw [Hev.out] at h9;exact h9⟩,⟨by have:=Hb4.out;have:=Hevb.out;omega⟩,⟨by have:=Hk2.out;omega⟩,⟨at_⟩⟩
                  case neg=>
                   have g1:decide (48≤c)=false:=decide_eq_false (h48)
                   rw [show dig c=false by unfold dig;simp;omega,if_neg (by decide)] at hE
                   by_cases h95:c=95
                   case pos=>
                    rw [if_pos h95] at hE
                    have g95:(c == 95)=true:=beq_iff_eq.2 (by omega)
                    clear h95
                    have HE2:=asd_ hE;clear hE;go_wp2_with fail
                    go_roundg q
                    case measure=>exact Nat.lt_succ_self _
                    case rel=>exact ⟨a + 1,true,true,e,by go_num,rfl,rfl,⟨by simp⟩,⟨by have:=Hk2.out;omega⟩,HE2,He,⟨at_⟩⟩
                   case neg=>
                    rw [if_neg h95] at hE
                    have g95:(c == 95)=false:=beq_eq_false_iff_ne.2 (by omega)
                    clear h95
                    have HE2:=asd_ hE;clear hE;obtain ⟨ev,hev⟩:∃ ev,e * sv=ev:=⟨_,rfl⟩;have hevb: -100000≤ev∧ev≤100000:=(by rcases Hsv2.out with h9|h9<;>rw [h9] at hev<;>have:=He.out<;>omega);have e8:IntKind.i64.wrap (e * sv)=ev:=(IntWalk.i64_in _ (by omega)).trans hev;have e9:IntKind.i64.wrap (d4 + ev)=d4 + ev:=IntWalk.i64_in _ (by have:=Hb4.out;omega);obtain ⟨Hev,Hevb⟩:=as2_ hev hevb;clear hev hevb
                    go_wp2_with fail
                    go_meet
                    case rel=>exact ⟨a,u,d4 + ev,rfl,bv_ Hy.out,rfl,⟨ev,rfl,by have h9:=HR2.out;rw [← HE2.out] at h9;dsimp only at h9;rw [Hev.out] at h9;exact h9⟩,⟨by have:=Hb4.out;have:=Hevb.out;omega⟩,⟨by have:=Hk2.out;omega⟩,⟨at_⟩⟩
          case rest=>
           clear HK HR2 Hbx;obtain ⟨j,u,dv,rfl,rfl,rfl,Hr3,Hdv,Hjs,HK⟩:=hcut
           obtain ⟨ev,hdv,hr3⟩:=Hr3.out;clear Hr3;unfold rd3 at hr3;dsimp only at hr3;rw [Hdq.out,← Hd4.out,← hdv,← Hn4.out] at hr3;have Hr3:=asd_ hr3;clear hr3 hdv
           go_upto_if 241 with fail
           go_cut [3] from 240 to 244 (fun v3 wc=>∃ x:Int,v3= .int .i64 x∧Aside0 ((if m=0 then 0 else dv - n4)=x)∧Aside0 (At w [] wc))
           case first=>
            by_cases hm:m=0
            case pos=>
             have gm:(m != 0)=false:=bne_eq_false_iff_eq.2 hm;have gm2:¬ m≠0:=(fun h=>h hm)
             go_wp2_with fail
             go_meet
             case rel=>exact ⟨0,rfl,⟨by rw [if_pos hm]⟩,⟨at_⟩⟩
            case neg=>
             have gm:(m != 0)=true:=bne_iff_ne.2 hm;have e5:IntKind.i64.wrap (dv - n4)=dv - n4:=IntWalk.i64_in _ (by have:=Hdv.out;have:=Hb4.out;omega)
             go_wp2_with fail
             go_meet
             case rel=>exact ⟨dv - n4,rfl,⟨by rw [if_neg hm]⟩,⟨at_⟩⟩
           case rest=>
            clear HK;obtain ⟨x,rfl,Hx,HK⟩:=hcut
            have hr3:=Hr3.out;rw [Hx.out] at hr3;clear Hr3;obtain ⟨z,hz⟩:∃ z,(us||u)=z:=⟨_,rfl⟩;rw [hz] at hr3 ⊢;obtain ⟨o,ho⟩:∃ o,uok (s.extract 0 j)=o:=⟨_,rfl⟩;rw [ho] at hr3;obtain ⟨Ho,Hr3⟩:=as2_ ho hr3;clear ho hr3 hz;have q1:j≤s.size:=Hjs.out;have q2:(j:Int)≤s.size:=(by omega);have q3:(0:Int)≤(j:Int):=(by omega)
            cases z
            case false=>
             have hr3:=Hr3.out;clear Hr3;rw [if_neg (by simp)] at hr3
             have Hn:Aside0 (rdF s=some (m,x,ng,tr,hx,j)):=⟨by rw [HR.out,← hr3]⟩;clear hr3
             go_wp2_with fail
             try rw [Exit.noGoto_ret]
             exact bodyPost_ret (v:= .tuple #[.int .u64 m,.int .i64 x,.bool ng,.bool tr,.bool hx,.int .i64 j,.bool true]) (by simp [results,Tryz.results110,go_sem]) rfl ⟨⟨m,x,ng,tr,hx,j,true,rfl,(fun _=>⟨Hn.out,by have:=Hb.out;omega,by have:=Hb.out;omega,Hjs.out,by have h9:=Hx.out;have:=Hdv.out;have:=Hb4.out;split at h9<;>omega,by have h9:=Hx.out;have:=Hdv.out;have:=Hb4.out;split at h9<;>omega⟩),(fun h=>(by cases h))⟩,be_⟩
            case true=>
             have hr3:=Hr3.out;clear Hr3;cases o
             case true=>
              rw [if_neg (by simp)] at hr3
              have Hn:Aside0 (rdF s=some (m,x,ng,tr,hx,j)):=⟨by rw [HR.out,← hr3]⟩;clear hr3
              go_wp2_with (first|((with_reducible refine gd_ 250 ?_);(try (refine gate_guard (by rfl) ?_;dsimp only));refine cl_ #[.string (s.extract 0 j)] (.bool true) Tryz.func90 (by rw [← Ho.out];exact uok_ok _ _ (by rw [ByteArray.size_extract];have:=Hs.out;omega)) ?_;intro wc250 HK1;replace HK:=asd_ HK1;clear HK1;skip))
              try rw [Exit.noGoto_ret]
              exact bodyPost_ret (v:= .tuple #[.int .u64 m,.int .i64 x,.bool ng,.bool tr,.bool hx,.int .i64 j,.bool true]) (by simp [results,Tryz.results110,go_sem]) rfl ⟨⟨m,x,ng,tr,hx,j,true,rfl,(fun _=>⟨Hn.out,by have:=Hb.out;omega,by have:=Hb.out;omega,Hjs.out,by have h9:=Hx.out;have:=Hdv.out;have:=Hb4.out;split at h9<;>omega,by have h9:=Hx.out;have:=Hdv.out;have:=Hb4.out;split at h9<;>omega⟩),(fun h=>(by cases h))⟩,be_⟩
             case false=>
              rw [if_pos (by rfl)] at hr3;have Hn:Aside0 (rdF s=none):=⟨by rw [HR.out,← hr3]⟩;clear hr3
              go_wp2_with (first|((with_reducible refine gd_ 250 ?_);(try (refine gate_guard (by rfl) ?_;dsimp only));refine cl_ #[.string (s.extract 0 j)] (.bool false) Tryz.func90 (by rw [← Ho.out];exact uok_ok _ _ (by rw [ByteArray.size_extract];have:=Hs.out;omega)) ?_;intro wc250 HK1;replace HK:=asd_ HK1;clear HK1;skip))
              try rw [Exit.noGoto_ret]
              exact bodyPost_ret (v:= .tuple #[.int .u64 m,.int .i64 x,.bool ng,.bool tr,.bool hx,.int .i64 j,.bool false]) (by simp [results,Tryz.results110,go_sem]) rfl ⟨⟨m,x,ng,tr,hx,j,false,rfl,(fun h=>(by cases h)),fun _=>Hn.out⟩,be_⟩
end Go.Proofs.YtlblbefbbibpaaaGreatDoor.J
