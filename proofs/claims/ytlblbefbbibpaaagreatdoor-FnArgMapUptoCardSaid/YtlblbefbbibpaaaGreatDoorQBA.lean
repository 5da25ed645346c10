/- Part. -/
import Derived.Test.YtlblbefbbibpaaaGreatDoorQAZ
import Derived.Laws.Bits64b
import Derived.Test.YtlblbefbbibpaaaGreatDoorQAI
import GoSem.PinnedTables
set_option linter.unusedVariables false
set_option linter.unusedSimpArgs false
set_option maxHeartbeats 8000000
set_option maxRecDepth 100000
namespace Go.Proofs.YtlblbefbbibpaaaGreatDoor.J
open Go.RowKit Zw Zw.PrintWords Zw.PrintLast Zw.PrintMore PAM
theorem and_mask (n k:Nat) (hn:n < 18446744073709551616) (hk:k≤60):bits .and .u64 (n:Int) ((2 ^ k - 1:Nat):Int)=((n % 2 ^ k:Nat):Int):=by
 have h2:2 ^ k≤2 ^ 60:=Nat.pow_le_pow_right (by omega) hk
 rw [bits_and_u64_nat n _ hn (by omega),Nat.and_two_pow_sub_one_eq_mod]
theorem pw60 {k:Nat} (hk:k≤60):2 ^ k≤1152921504606846976:=Nat.pow_le_pow_right (by omega) hk
theorem ten_lt {a n:Nat} (h:10 ^ a≤n) (hn:n < 18446744073709551616):a < 20:=by
 refine Nat.lt_of_not_le fun h1=> ?_
 have:10 ^ 20≤10 ^ a:=Nat.pow_le_pow_right (by omega) h1
 omega
theorem u64w (n:Int) (h0:0≤n) (h1:n < 18446744073709551616):IntKind.u64.wrap n=n:=by rw [IntKind.wrap_u64];omega
theorem ivl {k:IntKind} {a b:Int} (h:a=b):Value.int k a= .int k b:=by rw [h]
theorem rsh_ok {w0 w:World} {l:List Blk} {g:Nat} {s:Dec.D} (k:Nat) (H:At w0 (.b g (row (dc s) 235)::l) w) (hg:w0.heap.size≤g) (hs:Dec.Good s) (hp:0 < s.nd) (hk1:1≤k) (hk2:k≤60) (hd1: -100000000≤s.dp) (hd2:s.dp≤100000000):
  Calls Tryz.prog 151 #[.pointer (some ⟨g,0,none⟩),.int .u64 k] w fun e w'=>e= .returned (.tuple #[])∧At w0 (.b g (row (dc (Dec.rsh k s)) 235)::l) w':=by
 obtain ⟨Hg,Hgd,HL⟩:=as3_ hg hs hs.len;obtain ⟨Hp,Hk1,Hk2,Hd1,Hd2⟩:=as5_ hp hk1 hk2 hd1 hd2;clear hg hs hp hd1 hd2
 obtain ⟨p,hp⟩:∃ p:Nat,2 ^ k=p:=⟨_,rfl⟩;have hpw:(2:Int) ^ k=(p:Int):=by rw [← hp];simp
 have Hpp:=asd_ hp;have Hp60:Aside0 (p≤1152921504606846976):=⟨by rw [← hp];exact pw60 Hk2.out⟩;have Hp1:Aside0 (1≤p):=⟨by rw [← hp];exact Nat.one_le_two_pow⟩;clear hp
 have Ht0:Aside0 (49≤s.d.getD 0 0):=⟨Hgd.out.top Hp.out⟩;have Hn8:Aside0 (s.nd≤800):=⟨Hgd.out.nd⟩
 have HK:=asd_ H;clear H
 have cnd:=At.dnd (W:=w) HK.out HL.out;have cdp:=At.ddp (W:=w) HK.out HL.out;have cneg:=At.dneg (W:=w) HK.out HL.out;have ctr:=At.dtr (W:=w) HK.out HL.out;have cfr:=At.dfro (W:=w) HK.out
 go_enter Tryz.func151,Tryz.ntmps151
 go_upto_block 0 with fail
 go_cut [4,6,7] from 12 to 48 (fun v4 v6 v7 wc=>∃ i m:Nat,v4= .int .i64 i∧v6= .int .u64 m∧Aside0 ((i,m)=Dec.rd k s)∧Aside0 (i≤820)∧Aside0 (At w0 (.b g (row (dc s) 235)::l) wc))
 case first=>
  go_wp2_with fail
  go_loopg [4,6] s.nd (fun kq r n w'=>∃ i m:Nat,r= .int .i64 i∧n= .int .u64 m∧Aside0 (kq=s.nd - i)∧Aside0 (i≤s.nd)∧Aside0 (Dec.J1 k s.nd s.d i m)∧Aside0 (Dec.q1 k s.nd s.d i m=Dec.rd k s)∧Aside0 (At w0 (.b g (row (dc s) 235)::l) w'))
  case atStart=>exact ⟨0,0,rfl,rfl,⟨rfl⟩,⟨Nat.zero_le _⟩,⟨Dec.J1.start _ _ _⟩,⟨rfl⟩,⟨at_⟩⟩
  case round=>
   clear HK cnd cdp cneg ctr cfr
   obtain ⟨i,m,rfl,rfl,Hkq,Hi,HJ,Hq,HK⟩:=hrel
   have Hm:Aside0 (m < 10 * p):=⟨by rw [← Hpp.out];exact HJ.out.lt⟩
   have cnd:=At.dnd (W:=wr) HK.out HL.out;have cdp:=At.ddp (W:=wr) HK.out HL.out;have cneg:=At.dneg (W:=wr) HK.out HL.out;have ctr:=At.dtr (W:=wr) HK.out HL.out;have cfr:=At.dfro (W:=wr) HK.out
   by_cases hP:p≤m
   case pos=>
    have f0:((m:Int) / (p:Int) == 0)=false:=beq_eq_false_iff_ne.2 (fun e=>by have h9:=Nat.div_pos hP Hp1.out;omega)
    have e:=Hq.out;rw [Dec.q1,if_pos (by rw [Hpp.out];exact hP)] at e;have He:=asd_ e;clear e hP
    go_wp2_with fail
    go_meet
    case rel=>exact ⟨i,m,rfl,rfl,⟨He.out⟩,⟨by have:=Hi.out;have:=Hn8.out;omega⟩,⟨at_⟩⟩
   case neg=>
    have f0:((m:Int) / (p:Int) == 0)=true:=beq_iff_eq.2 (by have h9:=Nat.div_eq_of_lt (Nat.lt_of_not_le hP);omega)
    have HP:=asd_ hP;clear hP
    by_cases hr:i < s.nd
    case pos=>
     have f1:decide (s.nd≤i)=false:=decide_eq_false (by omega)
     have p1n:i < 800:=(by have:=Hn8.out;have:=Hp60.out;have:=Hp1.out;omega);have p0:(0:Int)≤(i:Int):=(by omega);have p1:(i:Int) < 800:=(by omega)
     have e1:IntKind.i64.wrap ((i:Int) + 1)=(i:Int) + 1:=IntWalk.i64_in _ (by omega)
     have ci:=At.dd (W:=wr) HK.out HL.out i p1n;have hdg:=Hgd.out.dg i hr;obtain ⟨c,hc⟩:∃ c,s.d.getD i 0=c:=⟨_,rfl⟩;rw [hc] at ci hdg;obtain ⟨Hdg,Hc,Hr⟩:=as3_ hdg hc hr;clear hdg hc hr
     have c0:(0:Int)≤(c:Int):=(by omega);have c1:(c:Int)≤57:=(by have:=Hn8.out;have:=Hp60.out;have:=Hp1.out;have:=Hdg.out.1;have:=Hdg.out.2;have:=HP.out;have:=Hm.out;omega)
     have e2:IntKind.u64.wrap ((m:Int) * 10)=(m:Int) * 10:=u64w _ (by omega) (by have:=Hn8.out;have:=Hp60.out;have:=Hp1.out;have:=Hdg.out.1;have:=Hdg.out.2;have:=HP.out;have:=Hm.out;omega)
     have e3:IntKind.u64.wrap ((m:Int) * 10 + (c:Int))=(m:Int) * 10 + (c:Int):=u64w _ (by omega) (by have:=Hn8.out;have:=Hp60.out;have:=Hp1.out;have:=Hdg.out.1;have:=Hdg.out.2;have:=HP.out;have:=Hm.out;omega)
     have e4:IntKind.u64.wrap ((m:Int) * 10 + (c:Int) - 48)=(m:Int) * 10 + (c:Int) - 48:=u64w _ (by have:=Hn8.out;have:=Hp60.out;have:=Hp1.out;have:=Hdg.out.1;have:=Hdg.out.2;have:=HP.out;have:=Hm.out;omega) (by have:=Hn8.out;have:=Hp60.out;have:=Hp1.out;have:=Hdg.out.1;have:=Hdg.out.2;have:=HP.out;have:=Hm.out;omega)
     go_wp2_with fail
     go_roundg (s.nd - (i + 1))
     case measure=>have:=Hkq.out;have:=Hr.out;omega
     case rel=>exact ⟨i + 1,m * 10 + (s.d.getD i 0 - 48),by go_num,ivl (by have:=Hdg.out.1;rw [Hc.out];omega),⟨rfl⟩,⟨Hr.out⟩,⟨HJ.out.step (by rw [Hpp.out];exact HP.out) Hr.out (by rw [Hc.out];exact Hdg.out) Ht0.out⟩,⟨by rw [← Hq.out,Dec.q1.eq_def k s.nd s.d i m,if_neg (by rw [Hpp.out];exact HP.out),dif_pos Hr.out]⟩,⟨at_⟩⟩
    case neg=>
     have f1:decide (s.nd≤i)=true:=decide_eq_true (by omega)
     have hm0:0 < m:=HJ.out.pos (by have:=Hp.out;omega)
     have f2:((m:Int) == 0)=false:=beq_eq_false_iff_ne.2 (by omega)
     have Hq0:Aside0 (Dec.q0 k i m=Dec.rd k s):=⟨by rw [← Hq.out,Dec.q1.eq_def k s.nd s.d i m,if_neg (by rw [Hpp.out];exact HP.out),dif_neg hr]⟩;obtain ⟨Hr,Hm0⟩:=as2_ hr hm0;clear hr hm0
     go_wp2_with fail
     go_loopg [4,6] (p - m) (fun kq r n w'=>∃ i m:Nat,r= .int .i64 i∧n= .int .u64 m∧Aside0 (kq=p - m)∧Aside0 (s.nd≤i)∧Aside0 (10 ^ (i - s.nd)≤m)∧Aside0 (m < 10 * p)∧Aside0 (Dec.q0 k i m=Dec.rd k s)∧Aside0 (At w0 (.b g (row (dc s) 235)::l) w'))
     case atStart=>exact ⟨i,m,rfl,rfl,⟨rfl⟩,⟨Nat.le_of_not_lt Hr.out⟩,⟨by rw [show i - s.nd=0 by have:=Hi.out;omega];exact Hm0.out⟩,Hm,Hq0,⟨at_⟩⟩
     case round=>
      clear HK cnd cdp cneg ctr cfr Hkq Hi HJ Hq Hm f0 HP f1 f2 Hq0 Hr Hm0
      obtain ⟨i,m,rfl,rfl,Hkq,Hi,H10,Hm,Hq,HK⟩:=hrel
      have cnd:=At.dnd (W:=wr) HK.out HL.out;have cdp:=At.ddp (W:=wr) HK.out HL.out;have cneg:=At.dneg (W:=wr) HK.out HL.out;have ctr:=At.dtr (W:=wr) HK.out HL.out;have cfr:=At.dfro (W:=wr) HK.out
      have hi20:i < s.nd + 20:=(by have h9:=ten_lt H10.out (by have:=Hm.out;have:=Hn8.out;have:=Hp60.out;have:=Hp1.out;omega);omega);have Hi20:=asd_ hi20;clear hi20
      have hmp:0 < m:=(by have h9:0 < 10 ^ (i - s.nd):=Nat.pow_pos (by omega);have:=H10.out;omega);have Hmp:=asd_ hmp;clear hmp
      by_cases hP:p≤m
      case pos=>
       have f0:((m:Int) / (p:Int) == 0)=false:=beq_eq_false_iff_ne.2 (fun e=>by have h9:=Nat.div_pos hP Hp1.out;omega)
       have e:=Hq.out;rw [Dec.q0,dif_pos (.inl (by rw [Hpp.out];exact hP))] at e;have He:=asd_ e;clear e hP
       go_wp2_with fail
       go_meet
       case rel=>exact ⟨i,m,rfl,rfl,⟨He.out⟩,⟨by have:=Hi20.out;have:=Hn8.out;omega⟩,⟨at_⟩⟩
      case neg=>
       have f0:((m:Int) / (p:Int) == 0)=true:=beq_iff_eq.2 (by have h9:=Nat.div_eq_of_lt (Nat.lt_of_not_le hP);omega)
       have e1:IntKind.i64.wrap ((i:Int) + 1)=(i:Int) + 1:=IntWalk.i64_in _ (by have:=Hi20.out;have:=Hn8.out;have:=Hp60.out;have:=Hp1.out;omega)
       have e2:IntKind.u64.wrap ((m:Int) * 10)=(m:Int) * 10:=u64w _ (by omega) (by have:=Hn8.out;have:=Hp60.out;have:=Hp1.out;omega)
       have HP:=asd_ hP;clear hP
       go_wp2_with fail
       go_roundg (p - m * 10)
       case measure=>have:=Hkq.out;have:=HP.out;have:=Hmp.out;omega
       case rel=>exact ⟨i + 1,m * 10,by go_num,by go_num,⟨rfl⟩,⟨by have:=Hi.out;omega⟩,⟨by rw [show i + 1 - s.nd=(i - s.nd) + 1 by have:=Hi.out;omega,Nat.pow_succ];have:=H10.out;omega⟩,⟨by have:=HP.out;omega⟩,⟨by rw [← Hq.out,Dec.q0.eq_def k i m,dif_neg (fun h=>by rw [Hpp.out] at h;have:=HP.out;have:=Hmp.out;omega)]⟩,⟨at_⟩⟩
 case rest=>
  clear HK cnd cdp cneg ctr cfr
  obtain ⟨r1,n1,rfl,rfl,Hrd,Hr8,HK⟩:=hcut
  obtain ⟨hj,hge,hr1⟩:=Dec.rd_inv Hgd.out Hp.out k;rw [← Hrd.out] at hj hge hr1;dsimp only at hj hge hr1;rw [Hpp.out] at hge;obtain ⟨HJ,Hge,Hr1⟩:=as3_ hj hge hr1;clear hj hge hr1
  have Hn1:Aside0 (n1 < 10 * p):=⟨by rw [← Hpp.out];exact HJ.out.lt⟩
  have cnd:=At.dnd HK.out HL.out;have cdp:=At.ddp HK.out HL.out;have cneg:=At.dneg HK.out HL.out;have ctr:=At.dtr HK.out HL.out;have cfr:=At.dfro HK.out
  have e1:IntKind.i64.wrap ((r1:Int) - 1)=(r1:Int) - 1:=IntWalk.i64_in _ (by have:=Hr8.out;omega)
  obtain ⟨dq,hdq⟩:∃ dq,s.dp - ((r1:Int) - 1)=dq:=⟨_,rfl⟩
  have e2:IntKind.i64.wrap (s.dp - ((r1:Int) - 1))=dq:=(IntWalk.i64_in _ (by have:=Hr8.out;have:=Hd1.out;have:=Hd2.out;omega)).trans hdq;have Hdq:=asd_ hdq;clear hdq
  have e0:IntKind.u64.wrap (p:Int)=(p:Int):=u64w _ (by omega) (by have:=Hp60.out;omega)
  have e3:IntKind.u64.wrap ((p:Int) - 1)=(p:Int) - 1:=u64w _ (by have:=Hp1.out;omega) (by have:=Hp60.out;omega)
  go_wp2_with (first|((with_reducible refine gate_ (.store 3 (.tmp 57) (.tmp 55)) rfl ?_);refine store_at (t:=3) (p:=57) (g:=g) (i:=801) (v:= .int .i64 dq) 0 (dc {s with dp:=dq}) (dc_set_dp HL.out _) at_ rfl Hg.out rfl rfl rfl rfl gs_ ?_;intro ws1 HK1;replace HK:=asd_ HK1;clear HK1;clear cnd cdp cneg ctr cfr;have cnd:=At.dnd (W:=ws1) HK.out HL.out;have cdp:=At.ddp (W:=ws1) HK.out HL.out;have cneg:=At.dneg (W:=ws1) HK.out HL.out;have ctr:=At.dtr (W:=ws1) HK.out HL.out;have cfr:=At.dfro (W:=ws1) HK.out))
  go_loopg [4,5,6] (s.nd - r1) (fun kq r u n w'=>∃ (i x m:Nat) (d:List Nat),r= .int .i64 i∧u= .int .i64 x∧n= .int .u64 m∧Aside0 (kq=s.nd - i)∧Aside0 (Dec.J2 k s.nd r1 n1 s.d i x m d)∧Aside0 (Dec.q2 k s.nd i x m d=Dec.q2 k s.nd r1 0 n1 s.d)∧Aside0 (At w0 (.b g (row (dc {s with d:=d,dp:=dq}) 235)::l) w'))
  case atStart=>exact ⟨r1,0,n1,s.d,rfl,rfl,rfl,⟨rfl⟩,⟨Dec.J2.start Hgd.out HJ.out⟩,⟨rfl⟩,⟨at_⟩⟩
  case round=>
   clear HK cnd cdp cneg ctr cfr
   obtain ⟨i,x,m,d,rfl,rfl,rfl,Hkq,HJ2,Hq,HK⟩:=hrel
   have HLd:Aside0 (d.length=800):=⟨HJ2.out.len⟩;have Hm:Aside0 (m < 10 * p):=⟨by rw [← Hpp.out];exact HJ2.out.lt⟩
   have cnd:=At.dnd (W:=wr) HK.out HLd.out;have cdp:=At.ddp (W:=wr) HK.out HLd.out;have cneg:=At.dneg (W:=wr) HK.out HLd.out;have ctr:=At.dtr (W:=wr) HK.out HLd.out;have cfr:=At.dfro (W:=wr) HK.out
   by_cases hr:i < s.nd
   case pos=>
    have f0:decide (i < s.nd)=true:=decide_eq_true hr
    obtain ⟨hx8,hdi,hJn⟩:=HJ2.out.step hr Hn8.out Hr1.out (Hgd.out.dg i hr)
    have hdg:=Hgd.out.dg i hr;rw [← hdi] at hdg;have ci:=At.dd (W:=wr) HK.out HLd.out i (by have:=Hn8.out;omega)
    obtain ⟨c,hc⟩:∃ c,d.getD i 0=c:=⟨_,rfl⟩;rw [hc] at ci hdg;obtain ⟨Hc,Hdg,HJn,Hr,Hx8⟩:=as5_ hc hdg hJn hr hx8;clear hc hdg hJn hdi
    have p1n:i < 800:=(by have:=Hn8.out;omega);have p0:(0:Int)≤(i:Int):=(by omega);have p1:(i:Int) < 800:=(by omega);have p2:(0:Int)≤(x:Int):=(by omega);have p3:(x:Int) < 800:=(by omega)
    have e1:IntKind.i64.wrap ((i:Int) + 1)=(i:Int) + 1:=IntWalk.i64_in _ (by omega);have e2:IntKind.i64.wrap ((x:Int) + 1)=(x:Int) + 1:=IntWalk.i64_in _ (by omega)
    clear hr
    have c0:(0:Int)≤(c:Int):=(by omega);have c1:(c:Int)≤57:=(by have:=Hdg.out.2;omega)
    obtain ⟨q,hq⟩:∃ q,m / p=q:=⟨_,rfl⟩;obtain ⟨z,hz⟩:∃ z,m % p=z:=⟨_,rfl⟩
    have hq9:q < 10:=(by rw [← hq];exact Nat.div_lt_of_lt_mul (by have:=Hm.out;rw [Nat.mul_comm];exact this));have hzp:z < p:=(by rw [← hz];exact Nat.mod_lt _ Hp1.out)
    have g0:(m:Int) / (p:Int)=(q:Int):=by rw [← hq];simp
    have g1:bits .and .u64 (m:Int) ((p:Int) - 1)=(z:Int):=by rw [← hz,← Hpp.out];have h9:=and_mask m k (by have:=Hm.out;have:=Hn8.out;have:=Hp60.out;have:=Hp1.out;omega) hk2;rw [← h9];congr 1;have:=Nat.one_le_two_pow (n:=k);omega
    have g2:IntKind.u64.wrap ((q:Int) + 48)=(q:Int) + 48:=u64w _ (by omega) (by omega)
    have g3:((q:Int) + 48) % 256=(q:Int) + 48:=by omega
    have g4:IntKind.u8.wrap ((q:Int) + 48)=(q:Int) + 48:=by rw [IntKind.wrap_u8];omega
    have g5:IntKind.u64.wrap ((z:Int) * 10)=(z:Int) * 10:=u64w _ (by omega) (by have:=Hn8.out;have:=Hp60.out;have:=Hp1.out;omega)
    obtain ⟨Hzq,Hzz,Hq9,Hzp⟩:=as4_ hq hz hq9 hzp;clear hq hz hq9 hzp
    have g6:IntKind.u64.wrap ((z:Int) * 10 + (c:Int))=(z:Int) * 10 + (c:Int):=u64w _ (by omega) (by have:=Hzp.out;have:=Hn8.out;have:=Hp60.out;have:=Hp1.out;omega)
    have g7:IntKind.u64.wrap ((z:Int) * 10 + (c:Int) - 48)=(z:Int) * 10 + (c:Int) - 48:=u64w _ (by have:=Hdg.out.1;omega) (by have:=Hzp.out;have:=Hn8.out;have:=Hp60.out;have:=Hp1.out;omega)
    have HLs:Aside0 ((d.set x (q + 48)).length=800):=⟨by rw [List.length_set];exact HLd.out⟩
    have cx:=At.dd (W:=wr) HK.out HLd.out x Hx8.out
    go_wp2_with (first|((with_reducible refine gate_ (.store 5 (.tmp 89) (.tmp 86)) rfl ?_);refine store_at (t:=5) (p:=89) (g:=g) (i:=x) (v:= .int .u8 ((q:Int) + 48)) 0 (dc {s with d:=d.set x (q + 48),dp:=dq}) (dc_set_d (s:={s with d:=d,dp:=dq}) HLd.out Hx8.out (q + 48)) at_ rfl Hg.out rfl rfl rfl rfl gs_ ?_;intro ws2 HK1;replace HK:=asd_ HK1;clear HK1;clear cnd cdp cneg ctr cfr;have cnd:=At.dnd (W:=ws2) HK.out HLs.out;have cdp:=At.ddp (W:=ws2) HK.out HLs.out;have cneg:=At.dneg (W:=ws2) HK.out HLs.out;have ctr:=At.dtr (W:=ws2) HK.out HLs.out;have cfr:=At.dfro (W:=ws2) HK.out))
    go_roundg (s.nd - (i + 1))
    case measure=>have:=Hkq.out;have:=Hr.out;omega
    case rel=>exact ⟨i + 1,x + 1,z * 10 + (d.getD i 0 - 48),d.set x (q + 48),by go_num,by go_num,ivl (by have:=Hdg.out.1;rw [Hc.out];omega),⟨rfl⟩,⟨by have h9:=HJn.out;rw [Hpp.out,Hzz.out,Hzq.out] at h9;exact h9⟩,⟨by rw [← Hq.out,Dec.q2.eq_def k s.nd i x m d,dif_pos Hr.out,Hpp.out,Hzz.out,Hzq.out]⟩,⟨at_⟩⟩
   case neg=>
    have f0:decide (i < s.nd)=false:=decide_eq_false hr
    have e:=Hq.out;rw [Dec.q2.eq_def k s.nd i x m d,dif_neg hr] at e;have He:=asd_ e;have HJ3:=asd_ (Dec.J3.start Hgd.out HJ2.out);clear e hr Hkq Hq HJ2 Hm HLd
    have HLd:Aside0 (d.length=800):=⟨HJ3.out.len⟩
    go_wp2_with fail
    go_loopg [5,6] (k + 1) (fun kq u n w'=>∃ (x' m':Nat) (d':List Nat) (t:Bool),u= .int .i64 x'∧n= .int .u64 m'∧Aside0 (Dec.J3 k n1 kq m' x' d')∧Aside0 (Dec.q3 k kq m' x' d' t=Dec.q3 k (k + 1) m x d s.trunc)∧Aside0 (At w0 (.b g (row (dc {s with d:=d',dp:=dq,trunc:=t}) 235)::l) w'))
    case atStart=>exact ⟨x,m,d,s.trunc,rfl,rfl,HJ3,⟨rfl⟩,⟨at_⟩⟩
    case round=>
     clear HK cnd cdp cneg ctr cfr HJ3 HLd
     obtain ⟨u,v,d',t,rfl,rfl,HJ3,Hq,HK⟩:=hrel
     have HLd:Aside0 (d'.length=800):=⟨HJ3.out.len⟩;have Hm:Aside0 (v < 10 * p):=⟨by rw [← Hpp.out];exact HJ3.out.lt⟩;have Hu8:Aside0 (u≤800):=⟨HJ3.out.ew⟩
     have cnd:=At.dnd (W:=wr) HK.out HLd.out;have cdp:=At.ddp (W:=wr) HK.out HLd.out;have cneg:=At.dneg (W:=wr) HK.out HLd.out;have ctr:=At.dtr (W:=wr) HK.out HLd.out;have cfr:=At.dfro (W:=wr) HK.out
     by_cases hv:v=0
     case pos=>
      have f0:decide (0 < v)=false:=decide_eq_false (by omega)
      subst hv;have e:(u,d',t)=Dec.q3 k (k + 1) m x d s.trunc:=by rw [← Hq.out];cases gk<;>simp [Dec.q3]
      have He3:=asd_ e;clear e
      go_wp2_with (first|((with_reducible refine gate_ (.store 3 (.tmp 127) (.tmp 125)) rfl ?_);refine store_at (t:=3) (p:=127) (g:=g) (i:=800) (v:= .int .i64 u) 0 (dc {s with d:=d',dp:=dq,trunc:=t,nd:=u}) (dc_set_nd (s:={s with d:=d',dp:=dq,trunc:=t}) HLd.out u) at_ rfl Hg.out rfl rfl rfl rfl gs_ ?_;intro ws3 HK1;replace HK:=asd_ HK1;clear HK1;clear cnd cdp cneg ctr cfr;have cnd:=At.dnd (W:=ws3) HK.out HLd.out;have cdp:=At.ddp (W:=ws3) HK.out HLd.out;have cneg:=At.dneg (W:=ws3) HK.out HLd.out;have ctr:=At.dtr (W:=ws3) HK.out HLd.out;have cfr:=At.dfro (W:=ws3) HK.out)|((with_reducible refine gd_ 129 ?_);refine call_to #[.pointer (some ⟨g,0,none⟩)] (.tuple #[]) _ rfl Tryz.func157 kr_ rfl rfl ar_ (trim_ok (s:={s with d:=d',dp:=dq,trunc:=t,nd:=u}) at_ Hg.out HLd.out Hu8.out) ?_;rintro wc129 HK1;replace HK:=asd_ HK1;clear HK1;skip;clear cnd cdp cneg ctr cfr;have cnd:=At.dnd (W:=wc129) HK.out HLd.out;have cdp:=At.ddp (W:=wc129) HK.out HLd.out;have cneg:=At.dneg (W:=wc129) HK.out HLd.out;have ctr:=At.dtr (W:=wc129) HK.out HLd.out;have cfr:=At.dfro (W:=wc129) HK.out))
      go_end0
      have e:Dec.rsh k s=Dec.trim {s with d:=d',dp:=dq,trunc:=t,nd:=u}:=by unfold Dec.rsh;rw [show Dec.q1 k s.nd s.d 0 0=(r1,n1) from Hrd.out.symm];dsimp only;rw [← He.out];dsimp only;rw [← He3.out,Hdq.out]
      rw [e];exact ⟨rfl,at_⟩
     case neg=>
      have f0:decide (0 < v)=true:=decide_eq_true (by omega)
      obtain ⟨f,hf⟩:∃ f,gk=f + 1:=⟨gk - 1,by have:=HJ3.out.fuel (by omega);omega⟩;subst hf
      obtain ⟨_,hJa,hJb⟩:=HJ3.out.step (by omega);rw [Hpp.out] at hJa hJb;obtain ⟨HJa,HJb,Hv⟩:=as3_ hJa hJb hv;clear hJa hJb hv
      have p2:(0:Int)≤(u:Int):=(by omega)
      obtain ⟨q,hq⟩:∃ q,v / p=q:=⟨_,rfl⟩;obtain ⟨z,hz⟩:∃ z,v % p=z:=⟨_,rfl⟩
      have hq9:q < 10:=(by rw [← hq];exact Nat.div_lt_of_lt_mul (by have:=Hm.out;rw [Nat.mul_comm];exact this));have hzp:z < p:=(by rw [← hz];exact Nat.mod_lt _ Hp1.out)
      have g0:(v:Int) / (p:Int)=(q:Int):=by rw [← hq];simp
      have g1:bits .and .u64 (v:Int) ((p:Int) - 1)=(z:Int):=by rw [← hz,← Hpp.out];have h9:=and_mask v k (by have:=Hm.out;have:=Hn8.out;have:=Hp60.out;have:=Hp1.out;omega) hk2;rw [← h9];congr 1;have:=Nat.one_le_two_pow (n:=k);omega
      have g2:IntKind.u64.wrap ((q:Int) + 48)=(q:Int) + 48:=u64w _ (by omega) (by omega)
      have g3:((q:Int) + 48) % 256=(q:Int) + 48:=by omega
      have g4:IntKind.u8.wrap ((q:Int) + 48)=(q:Int) + 48:=by rw [IntKind.wrap_u8];omega
      have g5:IntKind.u64.wrap ((z:Int) * 10)=(z:Int) * 10:=u64w _ (by omega) (by have:=Hn8.out;have:=Hp60.out;have:=Hp1.out;omega)
      obtain ⟨Hzq,Hzz⟩:=as2_ hq hz;clear hq hz hq9 hzp
      by_cases hu:u < 800
      case pos=>
       have f1:decide ((u:Int) < 800)=true:=decide_eq_true (by omega);have f1n:decide (u < 800)=true:=decide_eq_true hu;have p3:(u:Int) < 800:=(by omega);have e2:IntKind.i64.wrap ((u:Int) + 1)=(u:Int) + 1:=IntWalk.i64_in _ (by omega)
       have Hu:=asd_ hu
       have HLs:Aside0 ((d'.set u (q + 48)).length=800):=⟨by rw [List.length_set];exact HLd.out⟩
       have cx:=At.dd (W:=wr) HK.out HLd.out u Hu.out
       go_wp2_with (first|((with_reducible refine gate_ (.store 5 (.tmp 114) (.tmp 111)) rfl ?_);refine store_at (t:=5) (p:=114) (g:=g) (i:=u) (v:= .int .u8 ((q:Int) + 48)) 0 (dc {s with d:=d'.set u (q + 48),dp:=dq,trunc:=t}) (dc_set_d (s:={s with d:=d',dp:=dq,trunc:=t}) HLd.out Hu.out (q + 48)) at_ rfl Hg.out rfl rfl rfl rfl gs_ ?_;intro ws4 HK1;replace HK:=asd_ HK1;clear HK1;clear cnd cdp cneg ctr cfr;have cnd:=At.dnd (W:=ws4) HK.out HLs.out;have cdp:=At.ddp (W:=ws4) HK.out HLs.out;have cneg:=At.dneg (W:=ws4) HK.out HLs.out;have ctr:=At.dtr (W:=ws4) HK.out HLs.out;have cfr:=At.dfro (W:=ws4) HK.out))
       go_roundg f
       case measure=>exact Nat.lt_succ_self _
       case rel=>exact ⟨u + 1,z * 10,d'.set u (q + 48),t,by go_num,by go_num,⟨by have h9:=HJa.out Hu.out;rw [Hzz.out,Hzq.out] at h9;exact h9⟩,⟨by rw [← Hq.out];simp only [Dec.q3];rw [if_neg Hv.out,if_pos Hu.out,Hpp.out,Hzz.out,Hzq.out]⟩,⟨at_⟩⟩
      case neg=>
       have f1:decide ((u:Int) < 800)=false:=decide_eq_false (by omega);have f1n:decide (u < 800)=false:=decide_eq_false hu;have Hu:=asd_ hu;clear hu
       by_cases hq0:q=0
       case pos=>
        have f2:decide (0 < q)=false:=decide_eq_false (by omega);have Hq0:=asd_ hq0;clear hq0
        go_wp2_with fail
        go_roundg f
        case measure=>exact Nat.lt_succ_self _
        case rel=>exact ⟨u,z * 10,d',t,rfl,by go_num,⟨by have h9:=HJb.out Hu.out;rw [Hzz.out] at h9;exact h9⟩,⟨by rw [← Hq.out];simp only [Dec.q3];rw [if_neg Hv.out,if_neg Hu.out,Hpp.out,Hzz.out,Hzq.out,Hq0.out];simp⟩,⟨at_⟩⟩
       case neg=>
        have f2:decide (0 < q)=true:=decide_eq_true (by omega);have Hq0:=asd_ hq0;clear hq0
        go_wp2_with (first|((with_reducible refine gate_ (.store 4 (.tmp 121) (.const (.bool true))) rfl ?_);refine store_at (t:=4) (p:=121) (g:=g) (i:=803) (v:= .bool true) 0 (dc {s with d:=d',dp:=dq,trunc:=true}) (dc_set_trunc (s:={s with d:=d',dp:=dq,trunc:=t}) HLd.out true) at_ rfl Hg.out rfl rfl rfl rfl gs_ ?_;intro ws5 HK1;replace HK:=asd_ HK1;clear HK1;clear cnd cdp cneg ctr cfr;have cnd:=At.dnd (W:=ws5) HK.out HLd.out;have cdp:=At.ddp (W:=ws5) HK.out HLd.out;have cneg:=At.dneg (W:=ws5) HK.out HLd.out;have ctr:=At.dtr (W:=ws5) HK.out HLd.out;have cfr:=At.dfro (W:=ws5) HK.out))
        go_roundg f
        case measure=>exact Nat.lt_succ_self _
        case rel=>exact ⟨u,z * 10,d',true,rfl,by go_num,⟨by have h9:=HJb.out Hu.out;rw [Hzz.out] at h9;exact h9⟩,⟨by rw [← Hq.out];simp only [Dec.q3];rw [if_neg Hv.out,if_neg Hu.out,Hpp.out,Hzz.out,Hzq.out,show (t||q != 0)=true by simp [Hq0.out]]⟩,⟨at_⟩⟩
end Go.Proofs.YtlblbefbbibpaaaGreatDoor.J
namespace Go.Proofs.YtlblbefbbibpaaaGreatDoor.PAM
open Go.RowKit Zw.PrintWords Zw.PrintLast Zw.PrintMore
attribute [local go_sem] max2_int min2_int max_two min_two max_three min_three max_four min_four
def strconv_prefixIsLessThan.l0:Nat→List Int→ByteArray→Int→Option (Bool)
 |0,_,_,_=>none
 |k + 1,x0,x1,x5=>if x5 < (x1.size:Int) then (if x5 ≥ (x0.length:Int) then (some true) else (if 0≤x5 then (if x5 < (x0.length:Int) then (if (rd x0 x5)=(bt x1 x5) then (strconv_prefixIsLessThan.l0 k x0 x1 (wrap64 (x5 + 1))) else (some (decide ((rd x0 x5) < (bt x1 x5))))) else (none)) else (none))) else (some false)
def strconv_prefixIsLessThan.f (k:Nat) (l0:List Int) (a1:ByteArray):Option (Bool):=strconv_prefixIsLessThan.l0 k l0 a1 0
theorem strconv_prefixIsLessThan.calls (k:Nat) (A0:Option Addr) (c0:Nat) (l0:List Int) (a1:ByteArray) (r:Bool) (w:World) (hr0:Kd.C (Kd.int .u8) w A0 l0.length l0) (hc0:l0.length≤c0) (h:strconv_prefixIsLessThan.f k l0 a1=some r):
  Calls Tryz.prog 156 #[.slice A0 l0.length c0,.string a1] w fun e w'=>e= .returned (.bool r)∧Drawn0 w w':=by
 have HR0:=asd_ hr0
 have HC0:=asd_ hc0
 clear hr0 hc0
 have H:(strconv_prefixIsLessThan.l0 k l0 a1 0)=some r:=h
 clear h
 have H':=asd_ H
 clear H
 go_enter Tryz.func156,Tryz.ntmps156
 go_wp2
 repeat (go_quiet (fail);try go_wp2)
 go_loopg [5] k (fun kq v5 w'=>∃ (x5_1:Int),v5= .int .i64 x5_1∧Aside0 (strconv_prefixIsLessThan.l0 kq l0 a1 x5_1=some r)∧Aside0 (kq≤k)∧Drawn0 w w')
 case atStart=>exact ⟨(0),r1_,H',⟨Nat.le_refl _⟩,dr_⟩
 case round=>
  clear H'
  obtain ⟨x5_1,rfl,HA,HK1,⟨m1,rfl⟩⟩:=hrel
  cases gk with
  |zero=>exact absurd HA.out (by simp [strconv_prefixIsLessThan.l0])
  |succ k1=>
   have H:=HA.out
   clear HA
   simp only [strconv_prefixIsLessThan.l0] at H
   by_cases c3:x5_1 < (a1.size:Int)
   ·rw [if_pos c3] at H
    have c3b0:=decide_eq_true c3
    clear c3
    by_cases c4:x5_1 ≥ (l0.length:Int)
    ·rw [if_pos c4] at H
     have c4b0:=decide_eq_true c4
     clear c4
     obtain rfl:=Option.some.inj H
     go_wp2
     repeat (go_quiet (fail);try go_wp2)
     go_ret
     exact ⟨r1_,dr_⟩
    ·rw [if_neg c4] at H
     have c4b0:=decide_eq_false c4
     clear c4
     by_cases c5:0≤x5_1
     ·rw [if_pos c5] at H
      have c5b0:=decide_eq_true c5
      clear c5
      by_cases c6:x5_1 < (l0.length:Int)
      ·rw [if_pos c6] at H
       have c6b0:=decide_eq_true c6
       clear c6
       by_cases c8:(rd l0 x5_1)=(bt a1 x5_1)
       ·rw [if_pos c8] at H
        have c8b0:=beq_iff_eq.mpr c8
        have c8b1:=bne_eq_false_iff_eq.mpr c8
        clear c8
        have H':=asd_ H
        clear H
        have p135:0≤(x5_1:Int):=of_decide_eq_true as_
        have q135:x5_1 < (l0.length:Int):=of_decide_eq_true as_
        obtain ⟨ad135,e135,hx135_0⟩:=Kd.at_int HR0.out x5_1 p135 q135
        cases e135
        replace p135:=eq_true p135
        replace q135:=eq_true q135
        have p7:0≤(x5_1:Int):=of_decide_eq_true as_
        have q7:x5_1 < (a1.size:Int):=of_decide_eq_true as_
        have hx7:=bt_at a1 x5_1
        replace p7:=eq_true p7
        replace q7:=eq_true q7
        go_wp2
        repeat (go_quiet (fail);try go_wp2)
        go_roundg k1
        case measure=>have:=HK1.out;omega
        case rel=>exact ⟨(wrap64 (x5_1 + 1)),r1_,H',⟨by have:=HK1.out;omega⟩,dr_⟩
       ·rw [if_neg c8] at H
        have c8b0:=beq_eq_false_iff_ne.mpr c8
        have c8b1:=bne_iff_ne.mpr c8
        obtain rfl:=Option.some.inj H
        have p135:0≤(x5_1:Int):=of_decide_eq_true as_
        have q135:x5_1 < (l0.length:Int):=of_decide_eq_true as_
        obtain ⟨ad135,e135,hx135_0⟩:=Kd.at_int HR0.out x5_1 p135 q135
        cases e135
        replace p135:=eq_true p135
        replace q135:=eq_true q135
        have p7:0≤(x5_1:Int):=of_decide_eq_true as_
        have q7:x5_1 < (a1.size:Int):=of_decide_eq_true as_
        have hx7:=bt_at a1 x5_1
        replace p7:=eq_true p7
        replace q7:=eq_true q7
        have p136:0≤(x5_1:Int):=of_decide_eq_true as_
        have q136:x5_1 < (l0.length:Int):=of_decide_eq_true as_
        obtain ⟨ad136,e136,hx136_0⟩:=Kd.at_int HR0.out x5_1 p136 q136
        obtain rfl:ad135=ad136:=(by injection e136)
        replace p136:=eq_true p136
        replace q136:=eq_true q136
        have p9:0≤(x5_1:Int):=of_decide_eq_true as_
        have q9:x5_1 < (a1.size:Int):=of_decide_eq_true as_
        have hx9:=bt_at a1 x5_1
        replace p9:=eq_true p9
        replace q9:=eq_true q9
        go_wp2
        repeat (go_quiet (fail);try go_wp2)
        go_ret
        exact ⟨r1_,dr_⟩
      ·rw [if_neg c6] at H
       exact absurd H (by simp)
     ·rw [if_neg c5] at H
      exact absurd H (by simp)
   ·rw [if_neg c3] at H
    have c3b0:=decide_eq_false c3
    clear c3
    obtain rfl:=Option.some.inj H
    go_wp2
    repeat (go_quiet (fail);try go_wp2)
    go_ret
    exact ⟨r1_,dr_⟩
end Go.Proofs.YtlblbefbbibpaaaGreatDoor.PAM
namespace Go.Proofs.YtlblbefbbibpaaaGreatDoor.J
open Go.RowKit Zw Zw.PrintWords Zw.PrintLast Zw.PrintMore PAM
theorem wrap64_in (n:Int) (h0: -9223372036854775808≤n) (h1:n≤9223372036854775807):wrap64 n=n:=by unfold wrap64;omega
def cheat (k:Nat):Nat×List UInt8:=Pinned.cheatRows.getD k (0,[])
def cutOf (k:Nat):List Nat:=(cheat k).2.map fun c=>c.toNat - 48
def endsB:List Nat→Bool
 |[]=>true
 |c::l=>(l.length != 0||c != 0)&&endsB l
theorem endsB_ok:∀ l,endsB l=true→Dec.Ends l
 |[],_=>trivial
 |c::l,h=>by
  simp only [endsB,Bool.and_eq_true,Bool.or_eq_true,bne_iff_ne,ne_eq] at h
  exact ⟨fun e=>by subst e;simpa using h.1,endsB_ok l h.2⟩
def cheatB (k:Nat):Bool:=decide (Dec.num (cutOf k)=5 ^ k)&&decide ((cutOf k).length + (cheat k).1=k + 1)&&decide ((cutOf k).length≤k)&&decide (10 ^ ((cheat k).1 - 1)≤2 ^ k)&&decide (2 ^ k < 10 ^ (cheat k).1)&&endsB (cutOf k)&&(cutOf k).all (fun c=>decide (c≤9))&&(cheat k).2.all (fun c=>decide (48≤c.toNat))&&decide (1≤(cheat k).1)&&decide ((cheat k).1≤19)
theorem cheats_all:(List.range 60).all (fun k=>cheatB (k + 1))=true:=by kernel_rfl
theorem cheat_row {k:Nat} (h1:1≤k) (h2:k≤60):Dec.Cheat k (cheat k).1 (cutOf k)∧(∀ c∈(cheat k).2,48≤c.toNat)∧1≤(cheat k).1∧(cheat k).1≤19:=by
 have h:=List.all_eq_true.1 cheats_all (k - 1) (by simp;omega)
 rw [show k - 1 + 1=k by omega] at h
 simp only [cheatB,Bool.and_eq_true,decide_eq_true_eq,List.all_eq_true] at h
 obtain ⟨⟨⟨⟨⟨⟨⟨⟨⟨h1,h2⟩,h3⟩,h4⟩,h5⟩,h6⟩,h7⟩,h8⟩,h9⟩,h10⟩:=h
 exact ⟨⟨h1,h2,h3,h4,h5,endsB_ok _ h6,h7⟩,h8,h9,h10⟩
def cutS (k:Nat):ByteArray:=⟨(cheat k).2.toArray⟩
theorem rd_in {xs:List Int} {i:Nat} {x:Int} (h:xs[i]? =some x):rd xs i=x:=by simp [rd,List.getD,h]
theorem bt_in {l:List UInt8} {i:Nat} {c:UInt8} (h:l[i]? =some c):bt ⟨l.toArray⟩ i=(c.toNat:Int):=by
 obtain ⟨hi,e⟩:=List.getElem?_eq_some_iff.1 h
 have hi2:((i:Int)).toNat < (⟨l.toArray⟩:ByteArray).size:=by simpa [ByteArray.size] using hi
 rw [bt,dif_pos hi2]
 subst e
 rfl
theorem plt_at (L:List Nat) (T:List UInt8) (hL:∀ c∈L,48≤c) (hT:∀ c∈T,48≤c.toNat) (hs:T.length≤1000):∀ (f i:Nat),i≤T.length→f + i=T.length + 1→
  strconv_prefixIsLessThan.l0 f (L.map fun c:Nat=>(c:Int)) ⟨T.toArray⟩ i=some (Dec.lexLt ((L.drop i).map (· - 48)) ((T.drop i).map fun c=>c.toNat - 48)):=by
 intro f
 induction f with
 |zero=>
  intro i hi0 hi
  exact absurd hi (by omega)
 |succ f ih=>
  intro i hi0 hi
  have hsz:((⟨T.toArray⟩:ByteArray).size:Int)=(T.length:Int):=rfl
  simp only [strconv_prefixIsLessThan.l0,hsz]
  by_cases h1:i < T.length
  ·rw [if_pos (by omega)]
   have hT1:T[i]? =some T[i]:=List.getElem?_eq_getElem h1
   rw [List.drop_eq_getElem_cons h1]
   by_cases h2:L.length≤i
   ·rw [if_pos (by simp;omega),List.drop_of_length_le h2]
    rfl
   ·have hl:i < L.length:=by omega
    rw [if_neg (by simp;omega),if_pos (by omega),if_pos (by simp;omega),List.drop_eq_getElem_cons hl]
    have hL1:(L.map fun c:Nat=>(c:Int))[i]? =some (L[i]:Int):=by simp [hl]
    rw [rd_in hL1,bt_in hT1]
    have a1:=hL L[i] (List.getElem_mem hl)
    have a2:=hT T[i] (List.getElem_mem h1)
    simp only [List.map_cons,Dec.lexLt]
    by_cases h3:L[i]=T[i].toNat
    ·rw [if_pos (by omega),if_pos (by omega),wrap64_in _ (by omega) (by omega),show (i:Int) + 1=((i + 1:Nat):Int) by omega]
     exact ih (i + 1) (by omega) (by omega)
    ·rw [if_neg (by omega),if_neg (by omega)]
     congr 1
     exact decide_eq_decide.2 (by omega)
  ·rw [if_neg (by omega),show T.drop i=[] from List.drop_of_length_le (by omega)]
   cases (L.drop i).map (· - 48)<;>rfl
theorem pw_cell_add {w0 W:World} {l:List Blk} (H:At w0 l W) {p:Addr} {v:Value} (h:w0.cell? p=some v):W.cell? p=some v:=pw_cell_below H.b h
structure Cheats (w:World) (ad:Addr) (c:Nat):Prop where
 v:w.cell? ⟨11,0,none⟩=some (.slice (some ad) 61 c)
 d:∀ k,k≤60→w.cell? (ad.add (k * 2))=some (.int .i64 ((cheat k).1:Nat))
 s:∀ k,k≤60→w.cell? ⟨(ad.add (k * 2)).block,(ad.add (k * 2)).off + 1,none⟩=some (.string (cutS k))
theorem Dec.carry_ub {k:Nat} (hk:k≤60) (l:List Nat) (h:∀ c∈l,c≤9):Dec.carry k l < 1152921504606846976:=Nat.lt_of_lt_of_le (Dec.carry_lt k l h) (pw60 hk)
theorem dslice {w0 W:World} {l:List Blk} {g:Nat} {s:Dec.D} (H:At w0 (.b g (row (dc s) 235)::l) W) (h:Dec.Good s):Kd.C (Kd.int .u8) W (some ⟨g,0,none⟩) ((s.d.take s.nd).map fun c:Nat=>(c:Int)).length ((s.d.take s.nd).map fun c:Nat=>(c:Int)):=by
 have hl:=h.len;have hn:=h.nd
 refine ⟨rfl,by simp;omega,fun h0=>⟨_,rfl,fun j p hj=> ?_⟩⟩
 have hj1:j < s.nd:=by have:=(List.getElem?_eq_some_iff.1 hj).1;simp at this;omega
 rw [List.getElem?_map,List.getElem?_take_of_lt hj1,List.getElem?_eq_getElem (by omega)] at hj
 have hp:(s.d.getD j 0:Int)=p:=by simpa [List.getD,List.getElem?_eq_getElem (show j < s.d.length by omega)] using hj
 refine ⟨[.int .u8 p],rfl,rfl,fun i u hu=> ?_⟩
 cases i with
 |succ i=>simp at hu
 |zero=>
  obtain rfl:Value.int .u8 p=u:=by simpa using hu
  rw [← hp]
  have e:(⟨g,0,none⟩:Addr).add (j * (Kd.int .u8).sz + 0)=⟨g,j,none⟩:=by
   show Addr.add ⟨g,0,none⟩ (j * 1 + 0)=_
   rw [Nat.mul_one,Nat.add_zero]
   by_cases h9:j=0
   ·subst h9;rfl
   ·simp [Addr.add,h9]
  rw [e]
  exact At.dd H hl j (by omega)
theorem plt_ok {w0 W:World} {l:List Blk} {g k:Nat} {s:Dec.D} (H:At w0 (.b g (row (dc s) 235)::l) W) (h:Dec.Good s) (h1:1≤k) (h2:k≤60):
  Calls Tryz.prog 156 #[.slice (some ⟨g,0,none⟩) s.nd 800,.string (cutS k)] W fun e w'=>e= .returned (.bool (Dec.lexLt (Dec.digs s) (cutOf k)))∧Below W.heap.size W w':=by
 obtain ⟨_,hc,_,_⟩:=cheat_row h1 h2
 have hlen:((s.d.take s.nd).map fun c:Nat=>(c:Int)).length=s.nd:=by have:=h.len;have:=h.nd;simp;omega
 have hT:(cheat k).2.length≤1000:=by
  obtain ⟨C,_⟩:=cheat_row h1 h2
  have:=C.le
  simp [cutOf] at this
  omega
 have hL:∀ c∈s.d.take s.nd,48≤c:=by
  intro c hm
  obtain ⟨i,hi,e⟩:=List.getElem_of_mem hm
  have hi2:i < s.nd:=by simp at hi;omega
  have:=(h.dg i hi2).1
  rw [← e,List.getElem_take]
  simpa [List.getD,List.getElem?_eq_getElem (show i < s.d.length by have:=h.len;have:=h.nd;omega)] using this
 have hf:=plt_at (s.d.take s.nd) (cheat k).2 hL hc hT ((cheat k).2.length + 1) 0 (by omega) (by omega)
 have:=strconv_prefixIsLessThan.calls ((cheat k).2.length + 1) (some ⟨g,0,none⟩) 800 _ (cutS k) _ W (dslice H h) (by rw [hlen];exact h.nd) hf
 rw [hlen] at this
 exact this.mono fun _ _ q=>⟨q.1,q.2.below⟩
theorem put_lt {w r:Nat} {d:List Nat} {t:Bool} (h:w < 800):Dec.put w r d t=(d.set w (r + 48),t):=if_pos h
theorem put_ge {w r:Nat} {d:List Nat} {t:Bool} (h:¬ w < 800):Dec.put w r d t=(d,t||r != 0):=if_neg h
theorem lsh_ok {w0 w:World} {l:List Blk} {g:Nat} {s:Dec.D} (k:Nat) {ad:Addr} {c:Nat} (H:At w0 (.b g (row (dc s) 235)::l) w) (hT:Cheats w0 ad c) (hg:w0.heap.size≤g) (hs:Dec.Good s) (hp:0 < s.nd) (hk1:1≤k) (hk2:k≤60) (hd1: -100000000≤s.dp) (hd2:s.dp≤100000000):
  Calls Tryz.prog 150 #[.pointer (some ⟨g,0,none⟩),.int .u64 k] w fun e w'=>e= .returned (.tuple #[])∧At w0 (.b g (row (dc (Dec.lsh k (cheat k).1 (cutOf k) s)) 235)::l) w':=by
 obtain ⟨Hg,Hgd,HL⟩:=as3_ hg hs hs.len;obtain ⟨Hp,Hd1,Hd2,HT⟩:=as4_ hp hd1 hd2 hT;clear hg hs hp hd1 hd2 hT
 obtain ⟨p,hp⟩:∃ p:Nat,2 ^ k=p:=⟨_,rfl⟩;have hpw:(2:Int) ^ k=(p:Int):=by rw [← hp];simp
 have Hpp:=asd_ hp;have Hp60:Aside0 (p≤1152921504606846976):=⟨by rw [← hp];exact pw60 hk2⟩;have Hp1:Aside0 (1≤p):=⟨by rw [← hp];exact Nat.one_le_two_pow⟩;clear hp
 have Hn8:Aside0 (s.nd≤800):=⟨Hgd.out.nd⟩
 obtain ⟨hC,_,hδ1,hδ2⟩:=cheat_row hk1 hk2;have HC:=asd_ hC;clear hC
 obtain ⟨δ,hδ⟩:∃ δ,(cheat k).1=δ:=⟨_,rfl⟩;have hcd:=HT.out.d k hk2;have hcs:=HT.out.s k hk2;have hcv:=HT.out.v;rw [hδ] at hcd hδ1 hδ2 HC ⊢;clear hδ HT
 obtain ⟨Hδ1,Hδ2⟩:=as2_ hδ1 hδ2;clear hδ1 hδ2;obtain ⟨Hcd,Hcs,Hcv⟩:=as3_ hcd hcs hcv;clear hcd hcs hcv
 obtain ⟨a,ha⟩:∃ a,Dec.added δ (cutOf k) s=a:=⟨_,rfl⟩;have Ha:=asd_ ha;clear ha
 have Ha20:Aside0 (a≤19):=⟨by rw [← Ha.out];unfold Dec.added;have:=Hδ2.out;split<;>omega⟩
 have hk3:(k:Int) < 61:=(by omega);have hk4:k < 61:=(by omega)
 have HK:=asd_ H;clear H
 have cnd:=At.dnd (W:=w) HK.out HL.out;have cdp:=At.ddp (W:=w) HK.out HL.out;have cneg:=At.dneg (W:=w) HK.out HL.out;have ctr:=At.dtr (W:=w) HK.out HL.out;have cfr:=At.dfro (W:=w) HK.out;have tcv:World.cell? w ⟨11,0,none⟩=some (.slice (some ad) 61 c):=pw_cell_add HK.out Hcv.out;have tcd:World.cell? w (ad.add (k * 2))=some (.int .i64 (δ:Nat)):=pw_cell_add HK.out Hcd.out;have tcs:World.cell? w ⟨(ad.add (k * 2)).block,(ad.add (k * 2)).off + 1,none⟩=some (.string (cutS k)):=pw_cell_add HK.out Hcs.out
 go_enter Tryz.func150,Tryz.ntmps150
 go_upto_region 1 with (fail)
 obtain ⟨b,hb⟩:∃ b,Dec.lexLt (Dec.digs s) (cutOf k)=b:=⟨_,rfl⟩;have Hb:=asd_ hb;clear hb
 have Hpl:Aside0 (∀ W,At w0 (.b g (row (dc s) 235)::l) W→Calls Tryz.prog 156 #[.slice (some ⟨g,0,none⟩) s.nd 800,.string (cutS k)] W fun e w'=>e= .returned (.bool b)∧Below W.heap.size W w'):=⟨fun W hW=>by rw [← Hb.out];exact plt_ok hW Hgd.out hk1 hk2⟩
 have ex:δ - (if b then 1 else 0)=a:=by rw [← Ha.out];unfold Dec.added;rw [Hb.out];cases b<;>rfl
 have p80:(s.nd:Int)≤800:=(by have:=Hn8.out;omega);have p81:s.nd≤800:=Hn8.out;have p82:(0:Int)≤(s.nd:Int):=(by omega)
 have e1:IntKind.i64.wrap ((δ:Int) - 1)=(δ:Int) - 1:=IntWalk.i64_in _ (by have:=Hδ2.out;omega);have Hex:=asd_ ex;clear ex
 refine st_ 14 (fun w'=>At w0 (.b g (row (dc s) 235)::l) w'∧World.cell? w' ⟨g,800,none⟩=some (.int .i64 s.nd)∧World.cell? w' ⟨11,0,none⟩=some (.slice (some ad) 61 c)∧World.cell? w' ⟨(ad.add (k * 2)).block,(ad.add (k * 2)).off + 1,none⟩=some (.string (cutS k))) [] (fun A=>⟨A,(At.dnd A HL.out),(pw_cell_add A Hcv.out),(pw_cell_add A Hcs.out)⟩) (fun hHeld=> ?_)
 refine pu_ 0 17 1 ?_
 refine pu_ 1 18 3 ?_
 refine pu_ 2 19 7 ?_
 refine pu_ 3 20 15 ?_
 refine pu_ 4 21 31 ?_
 refine pu_ 5 22 63 ?_
 refine pu_ 9 26 575 ?_
 refine ta4_ 6 23 639 hHeld ?_
 refine pu_ 7 24 767 ?_
 refine ta4_ 8 25 1023 hHeld ?_
 refine pu_ 10 27 2047 ?_
 refine pu_ 11 28 4095 ?_
 refine ta4_ 12 29 8191 hHeld ?_
 refine on_ 13 30 16383 (fun K hK=> ?_)
 have HKc:=hHeld.1
 refine ge_ Tryz.func156 #[.slice (some ⟨g,0,none⟩) s.nd 800,.string (cutS k)] ?_
 with_reducible refine (Hpl.out _ HKc).mono ?_
 rintro _ w1 ⟨rfl,hb⟩
 refine ⟨_,rfl,?_⟩
 have HKd:=At.step HKc hb
 refine hK.out _ _ ⟨HKd,(At.dnd HKd HL.out),(pw_cell_add HKd Hcv.out),(pw_cell_add HKd Hcs.out)⟩ (fun hHeld=> ?_)
 clear hK K
 refine nq_ 30 ?_
 refine done_ kr_ ?_
 clear HK;have HK:=asd_ hHeld.1
 clear hHeld
 clear cnd cdp cneg ctr cfr tcv tcd tcs;have cnd:=At.dnd (W:=_) HK.out HL.out;have cdp:=At.ddp (W:=_) HK.out HL.out;have cneg:=At.dneg (W:=_) HK.out HL.out;have ctr:=At.dtr (W:=_) HK.out HL.out;have cfr:=At.dfro (W:=_) HK.out;have tcv:World.cell? _ ⟨11,0,none⟩=some (.slice (some ad) 61 c):=pw_cell_add HK.out Hcv.out;have tcd:World.cell? _ (ad.add (k * 2))=some (.int .i64 (δ:Nat)):=pw_cell_add HK.out Hcd.out;have tcs:World.cell? _ ⟨(ad.add (k * 2)).block,(ad.add (k * 2)).off + 1,none⟩=some (.string (cutS k)):=pw_cell_add HK.out Hcs.out
 go_upto_if 30 with fail
 go_cut [4] from 31 to 32 (fun v4 wc=>v4= .int .i64 (a:Nat)∧Aside0 (At w0 (.b g (row (dc s) 235)::l) wc))
 case first=>
  cases b
  case false=>
   go_wp2_with fail
   go_meet
   case rel=>exact ⟨ivl (by have h8:=Hδ1.out;have h9:=Hex.out;simp at h9;omega),⟨at_⟩⟩
  case true=>
   go_wp2_with fail
   go_meet
   case rel=>exact ⟨ivl (by have h8:=Hδ1.out;have h9:=Hex.out;simp at h9;omega),⟨at_⟩⟩
 case rest=>
  clear HK cnd cdp cneg ctr cfr tcv tcd tcs
  obtain ⟨rfl,HK⟩:=hcut
  have cnd:=At.dnd HK.out HL.out;have cdp:=At.ddp HK.out HL.out;have cneg:=At.dneg HK.out HL.out;have ctr:=At.dtr HK.out HL.out;have cfr:=At.dfro HK.out
  obtain ⟨rv,hrv⟩:∃ rv:Int,(s.nd:Int) - 1=rv:=⟨_,rfl⟩;have Hrv:=asd_ hrv.symm
  have e0:IntKind.i64.wrap ((s.nd:Int) + (a:Int))=(s.nd:Int) + (a:Int):=IntWalk.i64_in _ (by have:=Hn8.out;have:=Hp60.out;have:=Hp1.out;have:=Ha20.out;omega)
  have e1:IntKind.i64.wrap ((s.nd:Int) - 1)=rv:=(IntWalk.i64_in _ (by have:=Hn8.out;have:=Hp60.out;have:=Hp1.out;have:=Ha20.out;omega)).trans hrv;clear hrv
  go_wp2_with fail
  go_loopg [5,6,7] s.nd (fun kq r u n w'=>∃ (r':Int) (x m:Nat) (d:List Nat) (t:Bool),r= .int .i64 r'∧u= .int .i64 x∧n= .int .u64 m∧Aside0 (r'=(kq:Int) - 1)∧Aside0 (Dec.I1 k s.nd a s.d kq m x d)∧Aside0 (Dec.l1 k kq m x d t=Dec.l1 k s.nd 0 (s.nd + a) s.d s.trunc)∧Aside0 (At w0 (.b g (row (dc {s with d:=d,trunc:=t}) 235)::l) w'))
  case atStart=>exact ⟨rv,s.nd + a,0,s.d,s.trunc,rfl,by go_num,rfl,Hrv,⟨Dec.I1.start Hgd.out⟩,⟨rfl⟩,⟨at_⟩⟩
  case round=>
   clear HK cnd cdp cneg ctr cfr
   obtain ⟨r',x,m,d,t,rfl,rfl,rfl,Hr,HI,Hl,HK⟩:=hrel
   have HLd:Aside0 (d.length=800):=⟨HI.out.len⟩
   have Hm:Aside0 (m < 1152921504606846976):=⟨by rw [HI.out.en];exact Dec.carry_ub hk2 _ (fun c hc=>Dec.digs_le Hgd.out c (List.mem_of_mem_drop hc))⟩
   have cnd:=At.dnd (W:=wr) HK.out HLd.out;have cdp:=At.ddp (W:=wr) HK.out HLd.out;have cneg:=At.dneg (W:=wr) HK.out HLd.out;have ctr:=At.dtr (W:=wr) HK.out HLd.out;have cfr:=At.dfro (W:=wr) HK.out
   cases gk with
   |succ j=>
    obtain rfl:r'=(j:Int):=by have:=Hr.out;omega
    have hx:=HI.out.ew;obtain ⟨y,hy⟩:∃ y,x=y + 1:=⟨x - 1,by omega⟩;subst hy
    have hj8:j < 800:=(by have:=HI.out.em;have:=Hn8.out;omega);have hjn:j < s.nd:=(by have:=HI.out.em;omega)
    have hy8:y≤900:=(by have:=Ha20.out;omega);clear hx
    have HIs:=asd_ (HI.out.step (t:=t) Hn8.out Hgd.out.len);have hdg:=Hgd.out.dg j hjn;rw [← HI.out.old j (Nat.lt_succ_self _)] at hdg
    have cj:=At.dd (W:=wr) HK.out HLd.out j hj8;obtain ⟨c,hc⟩:∃ c,d.getD j 0=c:=⟨_,rfl⟩;rw [hc] at cj hdg
    have hle:=HIs.out;rw [hc,show y + 1 - 1=y from rfl,Hpp.out] at hle;clear HIs;have HIs:=asd_ hle;clear hle;obtain ⟨Hc,Hdg⟩:=as2_ hc hdg;clear hc hdg hjn
    obtain ⟨N,hN⟩:∃ N,m + (c - 48) * p=N:=⟨_,rfl⟩
    have hNb:(c - 48) * p≤9 * p:=Nat.mul_le_mul_right _ (by have:=Hdg.out.2;omega)
    have g0:IntKind.u64.wrap ((c:Int) - 48)=((c - 48:Nat):Int):=by rw [u64w _ (by have:=Hdg.out.1;omega) (by have:=Hdg.out.2;omega)];have:=Hdg.out.1;omega
    have g0c:IntKind.u64.wrap (c:Int)=(c:Int):=u64w _ (by omega) (by have:=Hdg.out.2;omega)
    have c0:(0:Int)≤(c:Int):=(by omega);have c1:(c:Int)≤57:=(by have:=Hdg.out.2;omega);have c2:(48:Int)≤(c:Int):=(by have:=Hdg.out.1;omega)
    obtain ⟨v,hv⟩:∃ v,c - 48=v:=⟨_,rfl⟩;rw [hv] at hN hNb g0
    have g0b:(c:Int) - 48=(v:Int):=by omega
    have g1:IntKind.u64.wrap ((v:Int) * (p:Int))=(v:Int) * (p:Int):=u64w _ (by rw [← Int.natCast_mul];omega) (by rw [← Int.natCast_mul];have:=Hp60.out;omega)
    have g2:IntKind.u64.wrap ((m:Int) + (v:Int) * (p:Int))=(N:Int):=by rw [← Int.natCast_mul,u64w _ (by omega) (by have:=Hp60.out;have:=Hm.out;omega)];omega
    have hN2:N < 18446744073709551616:=(by have:=Hp60.out;have:=Hm.out;omega)
    obtain ⟨q,hq⟩:∃ q,N / 10=q:=⟨_,rfl⟩;obtain ⟨z,hz⟩:∃ z,N % 10=z:=⟨_,rfl⟩
    have g3:(N:Int) / 10=(q:Int):=by omega
    have g3t:(N:Int).tdiv 10=(q:Int):=by rw [Int.tdiv_eq_ediv_of_nonneg (by omega)];exact g3
    have gq:IntKind.u64.wrap (q:Int)=(q:Int):=u64w _ (by omega) (by omega)
    have g4:IntKind.u64.wrap (10 * (q:Int))=10 * (q:Int):=u64w _ (by omega) (by omega)
    have g5:IntKind.u64.wrap ((N:Int) - 10 * (q:Int))=(z:Int):=by rw [u64w _ (by omega) (by omega)];omega
    have g6:IntKind.u64.wrap ((z:Int) + 48)=(z:Int) + 48:=u64w _ (by omega) (by omega);have g7:((z:Int) + 48) % 256=(z:Int) + 48:=(by omega);have g8:IntKind.u8.wrap ((z:Int) + 48)=(z:Int) + 48:=(by rw [IntKind.wrap_u8];omega)
    have e2:IntKind.i64.wrap (((y + 1:Nat):Int) - 1)=(y:Int):=by rw [IntWalk.i64_in _ (by omega)];omega
    have e2b:IntKind.i64.wrap ((y:Int) + 1 - 1)=(y:Int):=by rw [IntWalk.i64_in _ (by omega)];omega
    have e2c:IntKind.i64.wrap (y:Int)=(y:Int):=IntWalk.i64_in _ (by omega)
    have e3:IntKind.i64.wrap ((j:Int) - 1)=(j:Int) - 1:=IntWalk.i64_in _ (by omega)
    have p0:(0:Int)≤(j:Int):=(by omega);have p1:(j:Int) < 800:=(by omega)
    have hle:=HIs.out;rw [hv,hN,hq,hz] at hle;clear HIs;have HIs:=asd_ hle;clear hle
    have hls:=Hl.out;simp only [Dec.l1] at hls;rw [Hc.out,hv,Hpp.out,hN,hq,hz,show y + 1 - 1=y from rfl] at hls;have Hls:=asd_ hls;clear hls Hl hNb hN hN2 hq hz hv g0b
    have Hj8:=asd_ hj8;clear hy8
    by_cases hy:y < 800
    case pos=>
     have f1:decide ((y:Int) < 800)=true:=decide_eq_true (by omega);have f1n:decide (y < 800)=true:=decide_eq_true hy;have p2:(0:Int)≤(y:Int):=(by omega);have p3:(y:Int) < 800:=(by omega);have Hy:=asd_ hy
     rw [put_lt hy] at HIs Hls;have HLs:Aside0 ((d.set y (z + 48)).length=800):=⟨by rw [List.length_set];exact HLd.out⟩;have cy:=At.dd (W:=wr) HK.out HLd.out y hy
     go_wp2_with (first|((with_reducible refine gate_ (.store 5 (.tmp 78) (.tmp 75)) rfl ?_);refine store_at (t:=5) (p:=78) (g:=g) (i:=y) (v:= .int .u8 ((z:Int) + 48)) 0 (dc {s with d:=d.set y (z + 48),trunc:=t}) (dc_set_d (s:={s with d:=d,trunc:=t}) HLd.out Hy.out (z + 48)) at_ rfl Hg.out rfl rfl rfl rfl gs_ ?_;intro ws1 HK1;replace HK:=asd_ HK1;clear HK1;clear cnd cdp cneg ctr cfr;have cnd:=At.dnd (W:=ws1) HK.out HLs.out;have cdp:=At.ddp (W:=ws1) HK.out HLs.out;have cneg:=At.dneg (W:=ws1) HK.out HLs.out;have ctr:=At.dtr (W:=ws1) HK.out HLs.out;have cfr:=At.dfro (W:=ws1) HK.out))
     go_roundg j
     case measure=>exact Nat.lt_succ_self _
     case rel=>exact ⟨(j:Int) - 1,y,q,d.set y (z + 48),t,rfl,rfl,rfl,⟨rfl⟩,HIs,Hls,⟨at_⟩⟩
    case neg=>
     have f1:decide ((y:Int) < 800)=false:=decide_eq_false (by omega);have f1n:decide (y < 800)=false:=decide_eq_false hy;rw [put_ge hy] at HIs Hls;clear hy
     by_cases hz0:z=0
     case pos=>
      have f2:((z:Int) != 0)=false:=bne_eq_false_iff_eq.2 (by omega);rw [show (t||z != 0)=t by simp [hz0]] at Hls;rw [show (t||z != 0)=t by simp [hz0]] at HIs;clear hz0
      go_wp2_with fail
      go_roundg j
      case measure=>exact Nat.lt_succ_self _
      case rel=>exact ⟨(j:Int) - 1,y,q,d,t,rfl,rfl,rfl,⟨rfl⟩,HIs,Hls,⟨at_⟩⟩
     case neg=>
      have f2:((z:Int) != 0)=true:=bne_iff_ne.2 (by omega);rw [show (t||z != 0)=true by simp [hz0]] at Hls;rw [show (t||z != 0)=true by simp [hz0]] at HIs;clear hz0
      go_wp2_with (first|((with_reducible refine gate_ (.store 4 (.tmp 83) (.const (.bool true))) rfl ?_);refine store_at (t:=4) (p:=83) (g:=g) (i:=803) (v:= .bool true) 0 (dc {s with d:=d,trunc:=true}) (dc_set_trunc (s:={s with d:=d,trunc:=t}) HLd.out true) at_ rfl Hg.out rfl rfl rfl rfl gs_ ?_;intro ws2 HK1;replace HK:=asd_ HK1;clear HK1;clear cnd cdp cneg ctr cfr;have cnd:=At.dnd (W:=ws2) HK.out HLd.out;have cdp:=At.ddp (W:=ws2) HK.out HLd.out;have cneg:=At.dneg (W:=ws2) HK.out HLd.out;have ctr:=At.dtr (W:=ws2) HK.out HLd.out;have cfr:=At.dfro (W:=ws2) HK.out))
      go_roundg j
      case measure=>exact Nat.lt_succ_self _
      case rel=>exact ⟨(j:Int) - 1,y,q,d,true,rfl,rfl,rfl,⟨rfl⟩,HIs,Hls,⟨at_⟩⟩
   |zero=>
    obtain rfl:r'= -1:=by have:=Hr.out;omega
    have HI2:=asd_ (Dec.I2.start HC.out Hgd.out Hp.out (by rw [Ha.out];exact HI.out));have hi2:=HI2.out;rw [Ha.out] at hi2;clear HI2;have HI2:=asd_ hi2;clear hi2
    have hx0:x≤s.nd + a:=(by have:=HI.out.ew;omega);have Hx0:=asd_ hx0;clear hx0;have Hl0:=Hl;clear Hl Hr HI
    have f0:decide ((0:Int)≤ -1)=false:=by decide
    go_wp2_with fail
    go_loopg [6,7] m (fun kq u n w'=>∃ (x' m':Nat) (d':List Nat) (t':Bool),u= .int .i64 x'∧n= .int .u64 m'∧Aside0 (m'≤kq)∧Aside0 (x'≤s.nd + a)∧Aside0 (m' < 1152921504606846976)∧Aside0 (Dec.I2 (s.nd + a) m' x' d')∧Aside0 (Dec.l2 kq m' x' d' t'=Dec.l2 m m x d t)∧Aside0 (At w0 (.b g (row (dc {s with d:=d',trunc:=t'}) 235)::l) w'))
    case atStart=>exact ⟨x,m,d,t,rfl,rfl,⟨Nat.le_refl _⟩,Hx0,Hm,HI2,⟨rfl⟩,⟨at_⟩⟩
    case round=>
     clear HK cnd cdp cneg ctr cfr HI2 HLd
     obtain ⟨u,N,d',t',rfl,rfl,Hmk,Hx,HNb,HI2,Hl,HK⟩:=hrel
     have HLd:Aside0 (d'.length=800):=⟨HI2.out.len⟩
     have cnd:=At.dnd (W:=wr) HK.out HLd.out;have cdp:=At.ddp (W:=wr) HK.out HLd.out;have cneg:=At.dneg (W:=wr) HK.out HLd.out;have ctr:=At.dtr (W:=wr) HK.out HLd.out;have cfr:=At.dfro (W:=wr) HK.out
     by_cases hv:N=0
     case pos=>
      have f0:decide (0 < N)=false:=decide_eq_false (by omega)
      subst hv;have e9:(d',t')=Dec.l2 m m x d t:=by rw [← Hl.out];cases gk<;>simp [Dec.l2]
      have He3:=asd_ e9;clear e9
      have e5:IntKind.i64.wrap (s.dp + (a:Int))=s.dp + (a:Int):=IntWalk.i64_in _ (by have:=Ha20.out;have:=Hd1.out;have:=Hd2.out;omega)
      have Hlsh:Aside0 (Dec.lsh k δ (cutOf k) s=Dec.trim {s with d:=d',trunc:=t',nd:=if s.nd + a ≥ 800 then 800 else s.nd + a,dp:=s.dp + a}):=⟨by unfold Dec.lsh;rw [Ha.out];dsimp only;rw [← Hl0.out];dsimp only [Dec.l1];rw [← He3.out]⟩
      by_cases h8:800≤s.nd + a
      case pos=>
       have f8:decide ((800:Int)≤(s.nd:Int) + (a:Int))=true:=decide_eq_true (by omega);have f8n:decide (800≤s.nd + a)=true:=decide_eq_true h8
       have hif:=Hlsh.out;rw [if_pos h8] at hif;have Hif:=asd_ hif;clear hif h8;have Hn9:Aside0 (800≤800):=⟨Nat.le_refl _⟩
       go_wp2_with (first|((with_reducible refine gate_ (.store 3 (.tmp 118) (.tmp 116)) rfl ?_);refine store_at (t:=3) (p:=118) (g:=g) (i:=800) (v:= .int .i64 ((s.nd:Int) + (a:Int))) 0 (dc {s with d:=d',trunc:=t',nd:=s.nd + a}) ((show (dc {s with d:=d',trunc:=t'}).setIfInBounds 800 (.int .i64 ((s.nd:Int) + (a:Int)))=dc {s with d:=d',trunc:=t',nd:=s.nd + a} from by rw [← Int.natCast_add];exact dc_set_nd HLd.out _)) at_ rfl Hg.out rfl rfl rfl rfl gs_ ?_;intro ws3 HK1;replace HK:=asd_ HK1;clear HK1;clear cnd cdp cneg ctr cfr;have cnd:=At.dnd (W:=ws3) HK.out HLd.out;have cdp:=At.ddp (W:=ws3) HK.out HLd.out;have cneg:=At.dneg (W:=ws3) HK.out HLd.out;have ctr:=At.dtr (W:=ws3) HK.out HLd.out;have cfr:=At.dfro (W:=ws3) HK.out)|((with_reducible refine gate_ (.store 3 (.tmp 126) (.const (.int .i64 800))) rfl ?_);refine store_at (t:=3) (p:=126) (g:=g) (i:=800) (v:= .int .i64 800) 0 (dc {s with d:=d',trunc:=t',nd:=800}) (dc_set_nd (s:={s with d:=d',trunc:=t',nd:=s.nd + a}) HLd.out 800) at_ rfl Hg.out rfl rfl rfl rfl gs_ ?_;intro ws4 HK1;replace HK:=asd_ HK1;clear HK1;clear cnd cdp cneg ctr cfr;have cnd:=At.dnd (W:=ws4) HK.out HLd.out;have cdp:=At.ddp (W:=ws4) HK.out HLd.out;have cneg:=At.dneg (W:=ws4) HK.out HLd.out;have ctr:=At.dtr (W:=ws4) HK.out HLd.out;have cfr:=At.dfro (W:=ws4) HK.out)|((with_reducible refine gate_ (.store 3 (.tmp 134) (.tmp 132)) rfl ?_);refine store_at (t:=3) (p:=134) (g:=g) (i:=801) (v:= .int .i64 (s.dp + (a:Int))) 0 (dc {s with d:=d',trunc:=t',nd:=800,dp:=s.dp + a}) (dc_set_dp (s:={s with d:=d',trunc:=t',nd:=800}) HLd.out _) at_ rfl Hg.out rfl rfl rfl rfl gs_ ?_;intro ws5 HK1;replace HK:=asd_ HK1;clear HK1;clear cnd cdp cneg ctr cfr;have cnd:=At.dnd (W:=ws5) HK.out HLd.out;have cdp:=At.ddp (W:=ws5) HK.out HLd.out;have cneg:=At.dneg (W:=ws5) HK.out HLd.out;have ctr:=At.dtr (W:=ws5) HK.out HLd.out;have cfr:=At.dfro (W:=ws5) HK.out)|((with_reducible refine gd_ 136 ?_);refine call_to #[.pointer (some ⟨g,0,none⟩)] (.tuple #[]) _ rfl Tryz.func157 kr_ rfl rfl ar_ (trim_ok (s:={s with d:=d',trunc:=t',nd:=800,dp:=s.dp + a}) at_ Hg.out HLd.out Hn9.out) ?_;rintro wc136 HK1;replace HK:=asd_ HK1;clear HK1;skip;clear cnd cdp cneg ctr cfr;have cnd:=At.dnd (W:=wc136) HK.out HLd.out;have cdp:=At.ddp (W:=wc136) HK.out HLd.out;have cneg:=At.dneg (W:=wc136) HK.out HLd.out;have ctr:=At.dtr (W:=wc136) HK.out HLd.out;have cfr:=At.dfro (W:=wc136) HK.out))
       go_end0
       rw [Hif.out];exact ⟨rfl,at_⟩
      case neg=>
       have f8:decide ((800:Int)≤(s.nd:Int) + (a:Int))=false:=decide_eq_false (by omega);have f8n:decide (800≤s.nd + a)=false:=decide_eq_false h8
       have hif:=Hlsh.out;rw [if_neg h8] at hif;have Hif:=asd_ hif;have Hn9:Aside0 (s.nd + a≤800):=⟨by omega⟩;clear hif h8
       go_wp2_with (first|((with_reducible refine gate_ (.store 3 (.tmp 118) (.tmp 116)) rfl ?_);refine store_at (t:=3) (p:=118) (g:=g) (i:=800) (v:= .int .i64 ((s.nd:Int) + (a:Int))) 0 (dc {s with d:=d',trunc:=t',nd:=s.nd + a}) ((show (dc {s with d:=d',trunc:=t'}).setIfInBounds 800 (.int .i64 ((s.nd:Int) + (a:Int)))=dc {s with d:=d',trunc:=t',nd:=s.nd + a} from by rw [← Int.natCast_add];exact dc_set_nd HLd.out _)) at_ rfl Hg.out rfl rfl rfl rfl gs_ ?_;intro ws3 HK1;replace HK:=asd_ HK1;clear HK1;clear cnd cdp cneg ctr cfr;have cnd:=At.dnd (W:=ws3) HK.out HLd.out;have cdp:=At.ddp (W:=ws3) HK.out HLd.out;have cneg:=At.dneg (W:=ws3) HK.out HLd.out;have ctr:=At.dtr (W:=ws3) HK.out HLd.out;have cfr:=At.dfro (W:=ws3) HK.out)|((with_reducible refine gate_ (.store 3 (.tmp 134) (.tmp 132)) rfl ?_);refine store_at (t:=3) (p:=134) (g:=g) (i:=801) (v:= .int .i64 (s.dp + (a:Int))) 0 (dc {s with d:=d',trunc:=t',nd:=s.nd + a,dp:=s.dp + a}) (dc_set_dp (s:={s with d:=d',trunc:=t',nd:=s.nd + a}) HLd.out _) at_ rfl Hg.out rfl rfl rfl rfl gs_ ?_;intro ws6 HK1;replace HK:=asd_ HK1;clear HK1;clear cnd cdp cneg ctr cfr;have cnd:=At.dnd (W:=ws6) HK.out HLd.out;have cdp:=At.ddp (W:=ws6) HK.out HLd.out;have cneg:=At.dneg (W:=ws6) HK.out HLd.out;have ctr:=At.dtr (W:=ws6) HK.out HLd.out;have cfr:=At.dfro (W:=ws6) HK.out)|((with_reducible refine gd_ 136 ?_);refine call_to #[.pointer (some ⟨g,0,none⟩)] (.tuple #[]) _ rfl Tryz.func157 kr_ rfl rfl ar_ (trim_ok (s:={s with d:=d',trunc:=t',nd:=s.nd + a,dp:=s.dp + a}) at_ Hg.out HLd.out Hn9.out) ?_;rintro wc136 HK1;replace HK:=asd_ HK1;clear HK1;skip;clear cnd cdp cneg ctr cfr;have cnd:=At.dnd (W:=wc136) HK.out HLd.out;have cdp:=At.ddp (W:=wc136) HK.out HLd.out;have cneg:=At.dneg (W:=wc136) HK.out HLd.out;have ctr:=At.dtr (W:=wc136) HK.out HLd.out;have cfr:=At.dfro (W:=wc136) HK.out))
       go_end0
       rw [Hif.out];exact ⟨rfl,at_⟩
     case neg=>
      have f0:decide (0 < N)=true:=decide_eq_true (by omega)
      obtain ⟨f,hf⟩:∃ f,gk=f + 1:=⟨gk - 1,by have:=Hmk.out;omega⟩;subst hf
      obtain ⟨hu0,hI2⟩:=HI2.out.step (t:=t') (by omega) Hx.out;obtain ⟨y,hy⟩:∃ y,u=y + 1:=⟨u - 1,by omega⟩;subst hy;clear hu0
      have hN2:N < 18446744073709551616:=(by have:=HNb.out;omega)
      obtain ⟨q,hq⟩:∃ q,N / 10=q:=⟨_,rfl⟩;obtain ⟨z,hz⟩:∃ z,N % 10=z:=⟨_,rfl⟩
      have g3:(N:Int) / 10=(q:Int):=by omega
      have g3t:(N:Int).tdiv 10=(q:Int):=by rw [Int.tdiv_eq_ediv_of_nonneg (by omega)];exact g3
      have gq:IntKind.u64.wrap (q:Int)=(q:Int):=u64w _ (by omega) (by omega)
      have g4:IntKind.u64.wrap (10 * (q:Int))=10 * (q:Int):=u64w _ (by omega) (by omega)
      have g5:IntKind.u64.wrap ((N:Int) - 10 * (q:Int))=(z:Int):=by rw [u64w _ (by omega) (by omega)];omega
      have g6:IntKind.u64.wrap ((z:Int) + 48)=(z:Int) + 48:=u64w _ (by omega) (by omega);have g7:((z:Int) + 48) % 256=(z:Int) + 48:=(by omega);have g8:IntKind.u8.wrap ((z:Int) + 48)=(z:Int) + 48:=(by rw [IntKind.wrap_u8];omega)
      have hy8:y≤900:=(by have:=Ha20.out;have:=Hx.out;have:=Hn8.out;omega)
      have e2:IntKind.i64.wrap (((y + 1:Nat):Int) - 1)=(y:Int):=by rw [IntWalk.i64_in _ (by omega)];omega
      have e2b:IntKind.i64.wrap ((y:Int) + 1 - 1)=(y:Int):=by rw [IntWalk.i64_in _ (by omega)];omega
      have e2c:IntKind.i64.wrap (y:Int)=(y:Int):=IntWalk.i64_in _ (by omega)
      have hqk:q≤f:=(by have:=Hmk.out;omega);have hqb:q < 1152921504606846976:=(by have:=HNb.out;omega);obtain ⟨Hqk,Hqb⟩:=as2_ hqk hqb;have Hy9:Aside0 (y≤s.nd + a):=⟨by have:=Hx.out;omega⟩
      rw [show y + 1 - 1=y from rfl,hq,hz] at hI2;have HIs:=asd_ hI2
      have hls:=Hl.out;simp only [Dec.l2] at hls;rw [if_neg hv,hq,hz,show y + 1 - 1=y from rfl] at hls;have Hls:=asd_ hls;clear hls Hl hq hz hv hI2 hN2 hqk hqb hy8
      by_cases hy:y < 800
      case pos=>
       have f1:decide ((y:Int) < 800)=true:=decide_eq_true (by omega);have f1n:decide (y < 800)=true:=decide_eq_true hy;have p2:(0:Int)≤(y:Int):=(by omega);have p3:(y:Int) < 800:=(by omega);have Hy:=asd_ hy
       rw [put_lt hy] at HIs Hls;have HLs:Aside0 ((d'.set y (z + 48)).length=800):=⟨by rw [List.length_set];exact HLd.out⟩;have cy:=At.dd (W:=wr) HK.out HLd.out y hy
       go_wp2_with (first|((with_reducible refine gate_ (.store 5 (.tmp 104) (.tmp 101)) rfl ?_);refine store_at (t:=5) (p:=104) (g:=g) (i:=y) (v:= .int .u8 ((z:Int) + 48)) 0 (dc {s with d:=d'.set y (z + 48),trunc:=t'}) (dc_set_d (s:={s with d:=d',trunc:=t'}) HLd.out Hy.out (z + 48)) at_ rfl Hg.out rfl rfl rfl rfl gs_ ?_;intro ws7 HK1;replace HK:=asd_ HK1;clear HK1;clear cnd cdp cneg ctr cfr;have cnd:=At.dnd (W:=ws7) HK.out HLs.out;have cdp:=At.ddp (W:=ws7) HK.out HLs.out;have cneg:=At.dneg (W:=ws7) HK.out HLs.out;have ctr:=At.dtr (W:=ws7) HK.out HLs.out;have cfr:=At.dfro (W:=ws7) HK.out))
       go_roundg f
       case measure=>exact Nat.lt_succ_self _
       case rel=>exact ⟨y,q,d'.set y (z + 48),t',rfl,rfl,Hqk,Hy9,Hqb,HIs,Hls,⟨at_⟩⟩
      case neg=>
       have f1:decide ((y:Int) < 800)=false:=decide_eq_false (by omega);have f1n:decide (y < 800)=false:=decide_eq_false hy;rw [put_ge hy] at HIs Hls;clear hy
       by_cases hz0:z=0
       case pos=>
        have f2:((z:Int) != 0)=false:=bne_eq_false_iff_eq.2 (by omega);rw [show (t'||z != 0)=t' by simp [hz0]] at Hls;rw [show (t'||z != 0)=t' by simp [hz0]] at HIs;clear hz0
        go_wp2_with fail
        go_roundg f
        case measure=>exact Nat.lt_succ_self _
        case rel=>exact ⟨y,q,d',t',rfl,rfl,Hqk,Hy9,Hqb,HIs,Hls,⟨at_⟩⟩
       case neg=>
        have f2:((z:Int) != 0)=true:=bne_iff_ne.2 (by omega);rw [show (t'||z != 0)=true by simp [hz0]] at Hls;rw [show (t'||z != 0)=true by simp [hz0]] at HIs;clear hz0
        go_wp2_with (first|((with_reducible refine gate_ (.store 4 (.tmp 109) (.const (.bool true))) rfl ?_);refine store_at (t:=4) (p:=109) (g:=g) (i:=803) (v:= .bool true) 0 (dc {s with d:=d',trunc:=true}) (dc_set_trunc (s:={s with d:=d',trunc:=t'}) HLd.out true) at_ rfl Hg.out rfl rfl rfl rfl gs_ ?_;intro ws8 HK1;replace HK:=asd_ HK1;clear HK1;clear cnd cdp cneg ctr cfr;have cnd:=At.dnd (W:=ws8) HK.out HLd.out;have cdp:=At.ddp (W:=ws8) HK.out HLd.out;have cneg:=At.dneg (W:=ws8) HK.out HLd.out;have ctr:=At.dtr (W:=ws8) HK.out HLd.out;have cfr:=At.dfro (W:=ws8) HK.out))
        go_roundg f
        case measure=>exact Nat.lt_succ_self _
        case rel=>exact ⟨y,q,d',true,rfl,rfl,Hqk,Hy9,Hqb,HIs,Hls,⟨at_⟩⟩
end Go.Proofs.YtlblbefbbibpaaaGreatDoor.J
