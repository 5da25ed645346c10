/- Part. -/
import Derived.Test.YtlblbefbbibpaaaGreatDoorQAN
import Derived.Laws.IdiomStrings
set_option linter.unusedVariables false
set_option linter.unusedSimpArgs false
set_option maxHeartbeats 8000000
set_option maxRecDepth 100000
namespace Go.Proofs.YtlblbefbbibpaaaGreatDoor.J
open Go.RowKit Zw Zw.PrintWords Zw.PrintLast Zw.PrintMore PAM
theorem ite_some {α:Type} {c:Prop} [Decidable c] {x y:Option α} (h1:∃ m,x=some m) (h2:∃ m,y=some m):∃ m,(if c then x else y)=some m:=by split<;>assumption
theorem mark_some (r:Int):∃ m,spec_Mark.f r=some m:=by unfold spec_Mark.f;repeat (first|exact ⟨_,rfl⟩|refine ite_some ⟨_,rfl⟩ ?_)
theorem token_ok {w0 w:World} {l:List Blk} {g n c:Nat} {A:Option Addr} {xs:List Int} {i seen line from_:Int} {v:Value} {sure:Bool} {ts:List Tok} (H:At w0 (.b g (row (LXc A n c i v sure seen line from_) 194):: .f (Toks w0 v ts)::l) w) (hn:n=xs.length) (ht:Txt w0 A xs) (hL:xs.length≤8388608) (hg:w0.heap.size≤g) (hl:offF 162 l) (hr:offF 21 l) (h0:0≤i) (h1:i < xs.length) (hts:ts.length≤i.toNat) (hs0:0≤seen) (hs1:seen≤xs.length) (hc:xs.length≤c):
  Calls Tryz.prog 88 #[.pointer (some ⟨g,0,none⟩)] w fun e w'=>∃ b:Bool,e= .returned (.bool b)∧TokP w0 l g n c A xs i b w':=by
 obtain ⟨Hg_,Ht_,HL_,H0_,H1_,Hts_,Hl_,Hr_,Hs0_,Hs1_,Hc_⟩:=as11_ hg ht hL h0 h1 hts hl hr hs0 hs1 hc;clear hg ht hL h0 h1 hts hl hr hs0 hs1 hc
 obtain rfl:n=xs.length:=hn
 have Gg:=Hg_
 obtain ⟨ad,rfl,hcell⟩:=Txt.at Ht_.out H i H0_.out H1_.out
 have hpk:pk xs (i + 0)=xs.getD i.toNat 0:=by rw [Int.add_zero];exact if_pos H1_.out
 generalize xs.getD i.toNat 0=r at hcell hpk
 have Hpk:=asd_ hpk;clear hpk
 have HK:=asd_ H
 clear H
 replace Bc:=ce1_ HK 0;replace Bf:=fe1_ HK 0
 go_enter Tryz.func88,Tryz.ntmps88
 have hs_1:IntKind.i64.wrap (i + 1)=i + 1:=IntWalk.i64_in _ (by have:=H0_.out;have:=H1_.out;have:=HL_.out;omega)
 have hs_3:IntKind.i64.wrap (i + 3)=i + 3:=IntWalk.i64_in _ (by have:=H0_.out;have:=H1_.out;have:=HL_.out;omega)
 have p0:(0:Int)≤i:=H0_.out;have p1:i < (xs.length:Int):=H1_.out
 obtain ⟨r1,hr1⟩:∃ r,pk xs (i + 1)=r:=⟨_,rfl⟩
 have hp1:∀ W,At w0 (.b g (row (LXc (some ad) xs.length c i v sure seen line from_) 194):: .f (Toks w0 v ts)::l) W→Calls Tryz.prog 104 #[.pointer (some ⟨g,0,none⟩),.int .i64 1] W fun e w'=>e= .returned (.int .i32 r1)∧Below W.heap.size W w':=fun W hW=>by rw [← hr1];exact peek_ok 1 hW rfl Ht_.out HL_.out (by have:=H0_.out;have:=H1_.out;have:=HL_.out;omega) (by have:=H0_.out;have:=H1_.out;have:=HL_.out;omega) (by omega) (by omega)
 obtain ⟨Hr1,Hp1⟩:=as2_ hr1 hp1;clear hr1 hp1
 obtain ⟨r2,hr2⟩:∃ r,pk xs (i + 2)=r:=⟨_,rfl⟩
 have hp2:∀ W,At w0 (.b g (row (LXc (some ad) xs.length c i v sure seen line from_) 194):: .f (Toks w0 v ts)::l) W→Calls Tryz.prog 104 #[.pointer (some ⟨g,0,none⟩),.int .i64 2] W fun e w'=>e= .returned (.int .i32 r2)∧Below W.heap.size W w':=fun W hW=>by rw [← hr2];exact peek_ok 2 hW rfl Ht_.out HL_.out (by have:=H0_.out;have:=H1_.out;have:=HL_.out;omega) (by have:=H0_.out;have:=H1_.out;have:=HL_.out;omega) (by omega) (by omega)
 obtain ⟨Hr2,Hp2⟩:=as2_ hr2 hp2;clear hr2 hp2
 by_cases h_65279:r=65279
 case pos=>
  have f_65279:(r == 65279)=true:=beq_iff_eq.2 h_65279;have Fh_65279:=asd_ h_65279;clear h_65279
  by_cases hi0:0 < i
  case pos=>
   have fi0:decide (0 < i)=true:=decide_eq_true hi0;clear hi0
   go_wp2_with fail
   go_quiet (fail)
   go_wp2_with (first|((first|((with_reducible refine gate_ (.store 4 (.tmp 53) (.const (.bool false))) rfl ?_);refine store_at (t:=4) (p:=53) (g:=g) (i:=3) (v:= .bool false) 0 (LXc (some ad) xs.length c i v false seen line from_) rfl at_ rfl Gg.out rfl rfl rfl rfl gs_ ?_)|((with_reducible refine gate_ (.store 3 (.tmp 60) (.tmp 58)) rfl ?_);refine store_at (t:=3) (p:=60) (g:=g) (i:=1) (v:= .int .i64 (i + 1)) 0 (LXc (some ad) xs.length c (i + 1) v false seen line from_) rfl at_ rfl Gg.out rfl rfl rfl rfl gs_ ?_));intro ws1 HK1;replace HK:=asd_ HK1;clear HK1;replace Bc:=ce1_ HK 0;replace Bf:=fe1_ HK 0))
   go_ret
   exact ⟨true,rfl,i + 1,false,ts,⟨v,seen,line,from_,Hs0_.out,Hs1_.out,at_⟩,fun _=>⟨by omega,by have:=H1_.out;omega,by have:=Hts_.out;omega⟩⟩
  case neg=>
   have fi0:decide (0 < i)=false:=decide_eq_false hi0;clear hi0
   go_wp2_with fail
   go_quiet (fail)
   go_wp2_with (first|((with_reducible refine gate_ (.store 3 (.tmp 60) (.tmp 58)) rfl ?_);refine store_at (t:=3) (p:=60) (g:=g) (i:=1) (v:= .int .i64 (i + 1)) 0 (LXc (some ad) xs.length c (i + 1) v sure seen line from_) rfl at_ rfl Gg.out rfl rfl rfl rfl gs_ ?_;intro ws3 HK1;replace HK:=asd_ HK1;clear HK1;replace Bc:=ce1_ HK 0;replace Bf:=fe1_ HK 0))
   go_ret
   exact ⟨true,rfl,i + 1,sure,ts,⟨v,seen,line,from_,Hs0_.out,Hs1_.out,at_⟩,fun _=>⟨by omega,by have:=H1_.out;omega,by have:=Hts_.out;omega⟩⟩
 case neg=>
  have f_65279:(r == 65279)=false:=beq_eq_false_iff_ne.2 h_65279;have Fh_65279:=asd_ h_65279;clear h_65279
  by_cases h_32:r=32
  case pos=>
   have f_32:(r == 32)=true:=beq_iff_eq.2 h_32;have Fh_32:=asd_ h_32;clear h_32
   go_wp2_with fail
   go_quiet (fail)
   go_wp2_with (first|((with_reducible refine gate_ (.store 3 (.tmp 60) (.tmp 58)) rfl ?_);refine store_at (t:=3) (p:=60) (g:=g) (i:=1) (v:= .int .i64 (i + 1)) 0 (LXc (some ad) xs.length c (i + 1) v sure seen line from_) rfl at_ rfl Gg.out rfl rfl rfl rfl gs_ ?_;intro ws4 HK1;replace HK:=asd_ HK1;clear HK1;replace Bc:=ce1_ HK 0;replace Bf:=fe1_ HK 0))
   go_ret
   exact ⟨true,rfl,i + 1,sure,ts,⟨v,seen,line,from_,Hs0_.out,Hs1_.out,at_⟩,fun _=>⟨by omega,by have:=H1_.out;omega,by have:=Hts_.out;omega⟩⟩
  case neg=>
   have f_32:(r == 32)=false:=beq_eq_false_iff_ne.2 h_32;have Fh_32:=asd_ h_32;clear h_32
   by_cases h_44:r=44
   case pos=>
    have f_44:(r == 44)=true:=beq_iff_eq.2 h_44;have Fh_44:=asd_ h_44;clear h_44
    go_wp2_with fail
    go_quiet (fail)
    go_wp2_with (first|((with_reducible refine gate_ (.store 3 (.tmp 60) (.tmp 58)) rfl ?_);refine store_at (t:=3) (p:=60) (g:=g) (i:=1) (v:= .int .i64 (i + 1)) 0 (LXc (some ad) xs.length c (i + 1) v sure seen line from_) rfl at_ rfl Gg.out rfl rfl rfl rfl gs_ ?_;intro ws5 HK1;replace HK:=asd_ HK1;clear HK1;replace Bc:=ce1_ HK 0;replace Bf:=fe1_ HK 0))
    go_ret
    exact ⟨true,rfl,i + 1,sure,ts,⟨v,seen,line,from_,Hs0_.out,Hs1_.out,at_⟩,fun _=>⟨by omega,by have:=H1_.out;omega,by have:=Hts_.out;omega⟩⟩
   case neg=>
    have f_44:(r == 44)=false:=beq_eq_false_iff_ne.2 h_44;have Fh_44:=asd_ h_44;clear h_44
    by_cases h_9:r=9
    case pos=>
     have f_9:(r == 9)=true:=beq_iff_eq.2 h_9;have Fh_9:=asd_ h_9;clear h_9
     go_wp2_with fail
     go_quiet (fail)
     go_wp2_with (first|((with_reducible refine gate_ (.store 3 (.tmp 60) (.tmp 58)) rfl ?_);refine store_at (t:=3) (p:=60) (g:=g) (i:=1) (v:= .int .i64 (i + 1)) 0 (LXc (some ad) xs.length c (i + 1) v sure seen line from_) rfl at_ rfl Gg.out rfl rfl rfl rfl gs_ ?_;intro ws6 HK1;replace HK:=asd_ HK1;clear HK1;replace Bc:=ce1_ HK 0;replace Bf:=fe1_ HK 0))
     go_ret
     exact ⟨true,rfl,i + 1,sure,ts,⟨v,seen,line,from_,Hs0_.out,Hs1_.out,at_⟩,fun _=>⟨by omega,by have:=H1_.out;omega,by have:=Hts_.out;omega⟩⟩
    case neg=>
     have f_9:(r == 9)=false:=beq_eq_false_iff_ne.2 h_9;have Fh_9:=asd_ h_9;clear h_9
     by_cases h_10:r=10
     case pos=>
      have f_10:(r == 10)=true:=beq_iff_eq.2 h_10;have Fh_10:=asd_ h_10;clear h_10
      go_wp2_with fail
      go_quiet (fail)
      go_wp2_with (first|((with_reducible refine gate_ (.store 3 (.tmp 60) (.tmp 58)) rfl ?_);refine store_at (t:=3) (p:=60) (g:=g) (i:=1) (v:= .int .i64 (i + 1)) 0 (LXc (some ad) xs.length c (i + 1) v sure seen line from_) rfl at_ rfl Gg.out rfl rfl rfl rfl gs_ ?_;intro ws7 HK1;replace HK:=asd_ HK1;clear HK1;replace Bc:=ce1_ HK 0;replace Bf:=fe1_ HK 0))
      go_ret
      exact ⟨true,rfl,i + 1,sure,ts,⟨v,seen,line,from_,Hs0_.out,Hs1_.out,at_⟩,fun _=>⟨by omega,by have:=H1_.out;omega,by have:=Hts_.out;omega⟩⟩
     case neg=>
      have f_10:(r == 10)=false:=beq_eq_false_iff_ne.2 h_10;have Fh_10:=asd_ h_10;clear h_10
      by_cases h_13:r=13
      case pos=>
       have f_13:(r == 13)=true:=beq_iff_eq.2 h_13;have Fh_13:=asd_ h_13;clear h_13
       go_wp2_with fail
       go_quiet (fail)
       go_wp2_with (first|((with_reducible refine gate_ (.store 3 (.tmp 60) (.tmp 58)) rfl ?_);refine store_at (t:=3) (p:=60) (g:=g) (i:=1) (v:= .int .i64 (i + 1)) 0 (LXc (some ad) xs.length c (i + 1) v sure seen line from_) rfl at_ rfl Gg.out rfl rfl rfl rfl gs_ ?_;intro ws8 HK1;replace HK:=asd_ HK1;clear HK1;replace Bc:=ce1_ HK 0;replace Bf:=fe1_ HK 0))
       go_ret
       exact ⟨true,rfl,i + 1,sure,ts,⟨v,seen,line,from_,Hs0_.out,Hs1_.out,at_⟩,fun _=>⟨by omega,by have:=H1_.out;omega,by have:=Hts_.out;omega⟩⟩
      case neg=>
       have f_13:(r == 13)=false:=beq_eq_false_iff_ne.2 h_13;have Fh_13:=asd_ h_13;clear h_13
       by_cases h_35:r=35
       case pos=>
        have f_35:(r == 35)=true:=beq_iff_eq.2 h_35;have Fh_35:=asd_ h_35;clear h_35
        go_wp2_with fail
        go_quiet (fail)
        go_wp2_with fail
        go_loopg [] (xs.length - i).toNat (fun kq w'=>∃ q:Int,Aside0 (i≤q)∧Aside0 (q≤xs.length)∧Aside0 (kq=(xs.length - q).toNat)∧Aside0 (At w0 (.b g (row (LXc (some ad) xs.length c q v sure seen line from_) 194):: .f (Toks w0 v ts)::l) w'))
        case atStart=>exact ⟨i,⟨Int.le_refl _⟩,⟨by have:=H1_.out;omega⟩,⟨rfl⟩,⟨at_⟩⟩
        case round=>
         clear HK;clear hcell p0 p1 hs_1 hs_3 Hp1 Hp2 Hr1 Hr2
         obtain ⟨q,Hiq,Hql,Hk,HK⟩:=hrel
         replace Bc:=ce1_ HK 0;replace Bf:=fe1_ HK 0
         have hs1:IntKind.i64.wrap (q + 1)=q + 1:=IntWalk.i64_in _ (by have:=H0_.out;have:=Hiq.out;have:=Hql.out;have:=HL_.out;omega)
         have p0:(0:Int)≤q:=by have:=H0_.out;have:=Hiq.out;omega
         by_cases hlt:q < (xs.length:Int)
         case neg=>
          have hd:decide (q < (xs.length:Int))=false:=decide_eq_false hlt;have Hlt:Aside0 (i < q):=⟨by have:=H1_.out;omega⟩;clear hlt
          go_wp2_with fail
          go_quiet (fail)
          have c1:i≤q:=by have:=Hiq.out;omega
          have k1:((0:Int)≤q)=True:=eq_true (by have:=H0_.out;omega);have k2:(q≤(c:Int))=True:=eq_true (by have:=Hql.out;have:=Hc_.out;omega);have k3:max q 0=q:=(by have:=H0_.out;omega);have k6:((0:Int)≤i)=True:=eq_true H0_.out;have k4:(i≤q)=True:=eq_true c1;have k5:(c=i.toNat)=False:=eq_false (by have:=H0_.out;have:=H1_.out;have:=Hc_.out;omega)
          clear c1
          go_wp2_with fail
          refine su1_ 14 HK 0 [13] (fun HS hHeld=> ?_)
          refine pu_ 0 120 1 ?_
          refine pu_ 1 121 3 ?_
          refine pu_ 2 122 7 ?_
          refine pu_ 3 123 15 ?_
          refine pu_ 5 125 47 ?_
          refine pu_ 6 126 111 ?_
          refine pu_ 7 127 239 ?_
          refine pu_ 8 128 495 ?_
          refine pu_ 12 132 4591 ?_
          refine ta2_ 4 124 4607 hHeld ?_
          refine ta2_ 9 129 5119 hHeld ?_
          refine pu_ 10 130 6143 ?_
          refine on_ 11 131 8191 (fun K hK=> ?_)
          refine value_ (w1:=_) (v:= .string (runesBytes ((xs.drop i.toNat).take (q.toNat - i.toNat)))) (by rfl) rfl (conv_runes (x:= .tmp 130) (by rfl) (by rfl) ((xs.drop i.toNat).take (q.toNat - i.toNat)) (by simp;have:=Hql.out;have:=Hiq.out;have:=H0_.out;omega) (fun j hj=>Txt.cut Ht_.out hHeld.1 i.toNat q.toNat (by have:=Hiq.out;omega) (by have:=Hql.out;omega) j hj)) ?_
          refine hK.out _ _ ⟨hHeld.1,hHeld.2⟩ (fun hHeld=> ?_)
          clear hK K
          refine nq_ 131 ?_
          refine la_ 13 133 16383 (fun K hK=> ?_)
          have HE:=asd_ (hHeld.1)
          refine ge_ Tryz.func102 #[.pointer (some ⟨g,0,none⟩),.int .i64 20,.string (runesBytes ((xs.drop i.toNat).take (q.toNat - i.toNat))),.int .i64 i] ?_
          with_reducible refine (put_ok (ts:=ts) (xs:=xs) (i:=q) (st:=i) HE.out rfl Ht_.out HL_.out Hg_.out Hl_.out Hs0_.out Hs1_.out H0_.out (by have:=H1_.out;omega) (by have:=Hts_.out;have:=HL_.out;have:=H1_.out;omega)).mono ?_
          rintro e w3 ⟨rfl,v9,tk9,s9,ln9,fr9,h9,h8,HE0⟩
          refine ⟨_,rfl,?_⟩
          have HE1:=asd_ HE0
          clear HE0
          obtain ⟨H9,H8⟩:=as2_ h9 h8;clear h9 h8
          clear HE;have HE:=HE1;clear HE1
          refine hK.out _ _ ?_
          clear hK K
          refine nq_ 133 ?_
          refine done_ kr_ ?_
          clear HK;have HK:=HE;clear HE
          clear hHeld
          replace Bc:=ce1_ HK 0
          replace Bf:=fe1_ HK 0
          go_wp2_with fail
          go_ret
          exact ⟨true,rfl,q,sure,ts ++ [tk9],⟨_,_,_,_,H9.out,H8.out,at_⟩,fun _=>⟨Hlt.out,Hql.out,by have:=Hts_.out;have:=Hlt.out;have:=H0_.out;simp;omega⟩⟩
         case pos=>
          have hd:decide (q < (xs.length:Int))=true:=decide_eq_true hlt;have p1:=hlt;have Hlq:=asd_ hlt;clear hlt
          obtain ⟨ad2,e2,hcell⟩:=Txt.at Ht_.out HK.out q p0 p1;cases e2
          have hpk2:pk xs (q + 0)=xs.getD q.toNat 0:=by rw [Int.add_zero];exact if_pos p1
          generalize xs.getD q.toNat 0=p at hcell hpk2
          have Hpk2:=asd_ hpk2;clear hpk2
          by_cases hp_10:p=10
          case pos=>
           have Hlt:Aside0 (i < q):=⟨by refine (Int.lt_or_eq_of_le Hiq.out).elim id (fun h=>False.elim ?_);subst h;have e1:=Hpk2.out;rw [Hpk.out,Fh_35.out] at e1;subst e1;omega⟩
           have gp_10:(p != 10)=false:=bne_eq_false_iff_eq.mpr hp_10;clear hp_10
           go_wp2_with fail
           go_quiet (fail)
           have c1:i≤q:=by have:=Hiq.out;omega
           have k1:((0:Int)≤q)=True:=eq_true (by have:=H0_.out;omega);have k2:(q≤(c:Int))=True:=eq_true (by have:=Hql.out;have:=Hc_.out;omega);have k3:max q 0=q:=(by have:=H0_.out;omega);have k6:((0:Int)≤i)=True:=eq_true H0_.out;have k4:(i≤q)=True:=eq_true c1;have k5:(c=i.toNat)=False:=eq_false (by have:=H0_.out;have:=H1_.out;have:=Hc_.out;omega)
           clear c1
           go_wp2_with fail
           refine su1_ 14 HK 0 [13] (fun HS hHeld=> ?_)
           refine pu_ 0 120 1 ?_
           refine pu_ 1 121 3 ?_
           refine pu_ 2 122 7 ?_
           refine pu_ 3 123 15 ?_
           refine pu_ 5 125 47 ?_
           refine pu_ 6 126 111 ?_
           refine pu_ 7 127 239 ?_
           refine pu_ 8 128 495 ?_
           refine pu_ 12 132 4591 ?_
           refine ta2_ 4 124 4607 hHeld ?_
           refine ta2_ 9 129 5119 hHeld ?_
           refine pu_ 10 130 6143 ?_
           refine on_ 11 131 8191 (fun K hK=> ?_)
           refine value_ (w1:=_) (v:= .string (runesBytes ((xs.drop i.toNat).take (q.toNat - i.toNat)))) (by rfl) rfl (conv_runes (x:= .tmp 130) (by rfl) (by rfl) ((xs.drop i.toNat).take (q.toNat - i.toNat)) (by simp;have:=Hql.out;have:=Hiq.out;have:=H0_.out;omega) (fun j hj=>Txt.cut Ht_.out hHeld.1 i.toNat q.toNat (by have:=Hiq.out;omega) (by have:=Hql.out;omega) j hj)) ?_
           refine hK.out _ _ ⟨hHeld.1,hHeld.2⟩ (fun hHeld=> ?_)
           clear hK K
           refine nq_ 131 ?_
           refine la_ 13 133 16383 (fun K hK=> ?_)
           have HE:=asd_ (hHeld.1)
           refine ge_ Tryz.func102 #[.pointer (some ⟨g,0,none⟩),.int .i64 20,.string (runesBytes ((xs.drop i.toNat).take (q.toNat - i.toNat))),.int .i64 i] ?_
           with_reducible refine (put_ok (ts:=ts) (xs:=xs) (i:=q) (st:=i) HE.out rfl Ht_.out HL_.out Hg_.out Hl_.out Hs0_.out Hs1_.out H0_.out (by have:=H1_.out;omega) (by have:=Hts_.out;have:=HL_.out;have:=H1_.out;omega)).mono ?_
           rintro e w3 ⟨rfl,v9,tk9,s9,ln9,fr9,h9,h8,HE0⟩
           refine ⟨_,rfl,?_⟩
           have HE1:=asd_ HE0
           clear HE0
           obtain ⟨H9,H8⟩:=as2_ h9 h8;clear h9 h8
           clear HE;have HE:=HE1;clear HE1
           refine hK.out _ _ ?_
           clear hK K
           refine nq_ 133 ?_
           refine done_ kr_ ?_
           clear HK;have HK:=HE;clear HE
           clear hHeld
           replace Bc:=ce1_ HK 0
           replace Bf:=fe1_ HK 0
           go_wp2_with fail
           go_ret
           exact ⟨true,rfl,q,sure,ts ++ [tk9],⟨_,_,_,_,H9.out,H8.out,at_⟩,fun _=>⟨Hlt.out,Hql.out,by have:=Hts_.out;have:=Hlt.out;have:=H0_.out;simp;omega⟩⟩
          case neg=>
           have gp_10:(p != 10)=true:=bne_iff_ne.mpr hp_10;clear hp_10
           by_cases hp_13:p=13
           case pos=>
            have Hlt:Aside0 (i < q):=⟨by refine (Int.lt_or_eq_of_le Hiq.out).elim id (fun h=>False.elim ?_);subst h;have e1:=Hpk2.out;rw [Hpk.out,Fh_35.out] at e1;subst e1;omega⟩
            have gp_13:(p != 13)=false:=bne_eq_false_iff_eq.mpr hp_13;clear hp_13
            go_wp2_with fail
            go_quiet (fail)
            have c1:i≤q:=by have:=Hiq.out;omega
            have k1:((0:Int)≤q)=True:=eq_true (by have:=H0_.out;omega);have k2:(q≤(c:Int))=True:=eq_true (by have:=Hql.out;have:=Hc_.out;omega);have k3:max q 0=q:=(by have:=H0_.out;omega);have k6:((0:Int)≤i)=True:=eq_true H0_.out;have k4:(i≤q)=True:=eq_true c1;have k5:(c=i.toNat)=False:=eq_false (by have:=H0_.out;have:=H1_.out;have:=Hc_.out;omega)
            clear c1
            go_wp2_with fail
            refine su1_ 14 HK 0 [13] (fun HS hHeld=> ?_)
            refine pu_ 0 120 1 ?_
            refine pu_ 1 121 3 ?_
            refine pu_ 2 122 7 ?_
            refine pu_ 3 123 15 ?_
            refine pu_ 5 125 47 ?_
            refine pu_ 6 126 111 ?_
            refine pu_ 7 127 239 ?_
            refine pu_ 8 128 495 ?_
            refine pu_ 12 132 4591 ?_
            refine ta2_ 4 124 4607 hHeld ?_
            refine ta2_ 9 129 5119 hHeld ?_
            refine pu_ 10 130 6143 ?_
            refine on_ 11 131 8191 (fun K hK=> ?_)
            refine value_ (w1:=_) (v:= .string (runesBytes ((xs.drop i.toNat).take (q.toNat - i.toNat)))) (by rfl) rfl (conv_runes (x:= .tmp 130) (by rfl) (by rfl) ((xs.drop i.toNat).take (q.toNat - i.toNat)) (by simp;have:=Hql.out;have:=Hiq.out;have:=H0_.out;omega) (fun j hj=>Txt.cut Ht_.out hHeld.1 i.toNat q.toNat (by have:=Hiq.out;omega) (by have:=Hql.out;omega) j hj)) ?_
            refine hK.out _ _ ⟨hHeld.1,hHeld.2⟩ (fun hHeld=> ?_)
            clear hK K
            refine nq_ 131 ?_
            refine la_ 13 133 16383 (fun K hK=> ?_)
            have HE:=asd_ (hHeld.1)
            refine ge_ Tryz.func102 #[.pointer (some ⟨g,0,none⟩),.int .i64 20,.string (runesBytes ((xs.drop i.toNat).take (q.toNat - i.toNat))),.int .i64 i] ?_
            with_reducible refine (put_ok (ts:=ts) (xs:=xs) (i:=q) (st:=i) HE.out rfl Ht_.out HL_.out Hg_.out Hl_.out Hs0_.out Hs1_.out H0_.out (by have:=H1_.out;omega) (by have:=Hts_.out;have:=HL_.out;have:=H1_.out;omega)).mono ?_
            rintro e w3 ⟨rfl,v9,tk9,s9,ln9,fr9,h9,h8,HE0⟩
            refine ⟨_,rfl,?_⟩
            have HE1:=asd_ HE0
            clear HE0
            obtain ⟨H9,H8⟩:=as2_ h9 h8;clear h9 h8
            clear HE;have HE:=HE1;clear HE1
            refine hK.out _ _ ?_
            clear hK K
            refine nq_ 133 ?_
            refine done_ kr_ ?_
            clear HK;have HK:=HE;clear HE
            clear hHeld
            replace Bc:=ce1_ HK 0
            replace Bf:=fe1_ HK 0
            go_wp2_with fail
            go_ret
            exact ⟨true,rfl,q,sure,ts ++ [tk9],⟨_,_,_,_,H9.out,H8.out,at_⟩,fun _=>⟨Hlt.out,Hql.out,by have:=Hts_.out;have:=Hlt.out;have:=H0_.out;simp;omega⟩⟩
           case neg=>
            have gp_13:(p != 13)=true:=bne_iff_ne.mpr hp_13;clear hp_13
            obtain ⟨bs,hbs⟩:=isSource_some p;have Hbs:=asd_ hbs;clear hbs
            cases bs
            case false=>
             have Hlt:Aside0 (i < q):=⟨by refine (Int.lt_or_eq_of_le Hiq.out).elim id (fun h=>False.elim ?_);subst h;have e1:=Hpk2.out;rw [Hpk.out,Fh_35.out] at e1;subst e1;have e2:=Hbs.out;simp [spec_IsSource.f] at e2⟩
             go_wp2_with fail
             go_quiet ((go_at_call 101;exact Calls.quiet_of ((spec_IsSource.calls p false _ Hbs.out).mono fun _ _ h=>⟨h.1,h.2.out⟩)))
             have c1:i≤q:=by have:=Hiq.out;omega
             have k1:((0:Int)≤q)=True:=eq_true (by have:=H0_.out;omega);have k2:(q≤(c:Int))=True:=eq_true (by have:=Hql.out;have:=Hc_.out;omega);have k3:max q 0=q:=(by have:=H0_.out;omega);have k6:((0:Int)≤i)=True:=eq_true H0_.out;have k4:(i≤q)=True:=eq_true c1;have k5:(c=i.toNat)=False:=eq_false (by have:=H0_.out;have:=H1_.out;have:=Hc_.out;omega)
             clear c1
             go_wp2_with fail
             refine su1_ 14 HK 0 [13] (fun HS hHeld=> ?_)
             refine pu_ 0 120 1 ?_
             refine pu_ 1 121 3 ?_
             refine pu_ 2 122 7 ?_
             refine pu_ 3 123 15 ?_
             refine pu_ 5 125 47 ?_
             refine pu_ 6 126 111 ?_
             refine pu_ 7 127 239 ?_
             refine pu_ 8 128 495 ?_
             refine pu_ 12 132 4591 ?_
             refine ta2_ 4 124 4607 hHeld ?_
             refine ta2_ 9 129 5119 hHeld ?_
             refine pu_ 10 130 6143 ?_
             refine on_ 11 131 8191 (fun K hK=> ?_)
             refine value_ (w1:=_) (v:= .string (runesBytes ((xs.drop i.toNat).take (q.toNat - i.toNat)))) (by rfl) rfl (conv_runes (x:= .tmp 130) (by rfl) (by rfl) ((xs.drop i.toNat).take (q.toNat - i.toNat)) (by simp;have:=Hql.out;have:=Hiq.out;have:=H0_.out;omega) (fun j hj=>Txt.cut Ht_.out hHeld.1 i.toNat q.toNat (by have:=Hiq.out;omega) (by have:=Hql.out;omega) j hj)) ?_
             refine hK.out _ _ ⟨hHeld.1,hHeld.2⟩ (fun hHeld=> ?_)
             clear hK K
             refine nq_ 131 ?_
             refine la_ 13 133 16383 (fun K hK=> ?_)
             have HE:=asd_ (hHeld.1)
             refine ge_ Tryz.func102 #[.pointer (some ⟨g,0,none⟩),.int .i64 20,.string (runesBytes ((xs.drop i.toNat).take (q.toNat - i.toNat))),.int .i64 i] ?_
             with_reducible refine (put_ok (ts:=ts) (xs:=xs) (i:=q) (st:=i) HE.out rfl Ht_.out HL_.out Hg_.out Hl_.out Hs0_.out Hs1_.out H0_.out (by have:=H1_.out;omega) (by have:=Hts_.out;have:=HL_.out;have:=H1_.out;omega)).mono ?_
             rintro e w3 ⟨rfl,v9,tk9,s9,ln9,fr9,h9,h8,HE0⟩
             refine ⟨_,rfl,?_⟩
             have HE1:=asd_ HE0
             clear HE0
             obtain ⟨H9,H8⟩:=as2_ h9 h8;clear h9 h8
             clear HE;have HE:=HE1;clear HE1
             refine hK.out _ _ ?_
             clear hK K
             refine nq_ 133 ?_
             refine done_ kr_ ?_
             clear HK;have HK:=HE;clear HE
             clear hHeld
             replace Bc:=ce1_ HK 0
             replace Bf:=fe1_ HK 0
             go_wp2_with fail
             go_ret
             exact ⟨true,rfl,q,sure,ts ++ [tk9],⟨_,_,_,_,H9.out,H8.out,at_⟩,fun _=>⟨Hlt.out,Hql.out,by have:=Hts_.out;have:=Hlt.out;have:=H0_.out;simp;omega⟩⟩
            case true=>
             go_wp2_with fail
             go_quiet ((go_at_call 101;exact Calls.quiet_of ((spec_IsSource.calls p true _ Hbs.out).mono fun _ _ h=>⟨h.1,h.2.out⟩)))
             go_wp2_with (first|((with_reducible refine gate_ (.store 3 (.tmp 119) (.tmp 117)) rfl ?_);refine store_at (t:=3) (p:=119) (g:=g) (i:=1) (v:= .int .i64 (q + 1)) 0 (LXc (some ad) xs.length c (q + 1) v sure seen line from_) rfl at_ rfl Gg.out rfl rfl rfl rfl gs_ ?_;intro ws9 HK1;replace HK:=asd_ HK1;clear HK1;replace Bc:=ce1_ HK 0;replace Bf:=fe1_ HK 0))
             go_roundg (xs.length - (q + 1)).toNat
             case measure=>have:=Hk.out;have:=Hlq.out;omega
             case rel=>exact ⟨q + 1,⟨by have:=Hiq.out;omega⟩,⟨by have:=Hlq.out;omega⟩,⟨rfl⟩,⟨at_⟩⟩
       case neg=>
        have f_35:(r == 35)=false:=beq_eq_false_iff_ne.2 h_35;have Fh_35:=asd_ h_35;clear h_35
        obtain ⟨m,hm⟩:=mark_some r
        have Hm:=asd_ hm;clear hm
        by_cases hm0:0 < m
        case pos=>
         have fm0:decide (0 < m)=true:=decide_eq_true hm0;clear hm0
         go_wp2_with fail
         go_quiet (fail)
         go_wp2_with (first|((with_reducible refine gd_ 149 ?_);refine call_to #[.pointer (some ⟨g,0,none⟩),.int .i64 m,.string ⟨#[]⟩,.int .i64 i] (.tuple #[]) _ rfl Tryz.func102 kr_ rfl rfl ar_ (put_ok (ts:=ts) (xs:=xs) (i:=i + 1) (st:=i) at_ rfl Ht_.out HL_.out Hg_.out Hl_.out Hs0_.out Hs1_.out H0_.out (by have:=H0_.out;have:=H1_.out;have:=HL_.out;omega) (by have:=Hts_.out;have:=H0_.out;have:=H1_.out;have:=HL_.out;omega)) ?_;rintro wc149 ⟨v9,tk9,s9,ln9,fr9,h9,h8,HK1⟩;obtain ⟨H9,H8⟩:=as2_ h9 h8;clear h9 h8;replace HK:=asd_ HK1;clear HK1)|((first|((with_reducible refine gd_ 136 ?_);refine cl_ #[.int .i32 r] (.int .i64 m) Tryz.func103 ((spec_Mark.calls r m _ Hm.out).mono (fun _ _ h=>⟨h.1,h.2.below⟩)) ?_)|((with_reducible refine gate_ (.store 3 (.tmp 144) (.tmp 142)) rfl ?_);refine store_at (t:=3) (p:=144) (g:=g) (i:=1) (v:= .int .i64 (i + 1)) 0 (LXc (some ad) xs.length c (i + 1) v sure seen line from_) rfl at_ rfl Gg.out rfl rfl rfl rfl gs_ ?_)|((with_reducible refine gd_ 147 ?_);refine cl_ #[.int .i32 r] (.int .i64 m) Tryz.func103 ((spec_Mark.calls r m _ Hm.out).mono (fun _ _ h=>⟨h.1,h.2.below⟩)) ?_));intro wc136 HK1;replace HK:=asd_ HK1;clear HK1;replace Bc:=ce1_ HK 0;replace Bf:=fe1_ HK 0))
         go_ret
         exact ⟨true,rfl,i + 1,sure,ts ++ [tk9],⟨_,_,_,_,H9.out,H8.out,at_⟩,fun _=>⟨by omega,by have:=H1_.out;omega,by have:=Hts_.out;have:=H0_.out;simp;omega⟩⟩
        case neg=>
         have fm0:decide (0 < m)=false:=decide_eq_false hm0;clear hm0
         by_cases h_46:r=46
         case pos=>
          have f_46:(r == 46)=true:=beq_iff_eq.2 h_46;have Fh_46:=asd_ h_46;clear h_46
          by_cases h1_46:r1=46
          case pos=>
           have f1_46:(r1 == 46)=true:=beq_iff_eq.2 h1_46;have Fh1_46:=asd_ h1_46;clear h1_46
           have g1_46:(r1 != 46)=false:=by simp only [bne,f1_46];rfl
           by_cases h2_46:r2=46
           case pos=>
            have f2_46:(r2 == 46)=true:=beq_iff_eq.2 h2_46;have Fh2_46:=asd_ h2_46;clear h2_46
            have g2_46:(r2 != 46)=false:=by simp only [bne,f2_46];rfl
            have H2in:Aside0 (i + 2 < xs.length):=⟨pk_in (by rw [Hr2.out,Fh2_46.out];omega)⟩
            go_wp2_with fail
            go_quiet (fail)
            go_wp2_with (first|((with_reducible refine gd_ 170 ?_);refine call_to #[.pointer (some ⟨g,0,none⟩),.int .i64 6,.string ⟨#[]⟩,.int .i64 i] (.tuple #[]) _ rfl Tryz.func102 kr_ rfl rfl ar_ (put_ok (ts:=ts) (xs:=xs) (i:=i + 3) (st:=i) at_ rfl Ht_.out HL_.out Hg_.out Hl_.out Hs0_.out Hs1_.out H0_.out (by have:=H0_.out;have:=H1_.out;have:=HL_.out;omega) (by have:=Hts_.out;have:=H0_.out;have:=H1_.out;have:=HL_.out;omega)) ?_;rintro wc170 ⟨v9,tk9,s9,ln9,fr9,h9,h8,HK1⟩;obtain ⟨H9,H8⟩:=as2_ h9 h8;clear h9 h8;replace HK:=asd_ HK1;clear HK1)|((first|((with_reducible refine gd_ 136 ?_);refine cl_ #[.int .i32 r] (.int .i64 m) Tryz.func103 ((spec_Mark.calls r m _ Hm.out).mono (fun _ _ h=>⟨h.1,h.2.below⟩)) ?_)|((with_reducible refine gd_ 154 ?_);refine cl_ #[.pointer (some ⟨g,0,none⟩),.int .i64 1] (.int .i32 r1) Tryz.func104 (Hp1.out _ at_) ?_)|((with_reducible refine gd_ 158 ?_);(try (refine gate_guard (by rfl) ?_;dsimp only));refine cl_ #[.pointer (some ⟨g,0,none⟩),.int .i64 2] (.int .i32 r2) Tryz.func104 (Hp2.out _ at_) ?_)|((with_reducible refine gate_ (.store 3 (.tmp 167) (.tmp 165)) rfl ?_);refine store_at (t:=3) (p:=167) (g:=g) (i:=1) (v:= .int .i64 (i + 3)) 0 (LXc (some ad) xs.length c (i + 3) v sure seen line from_) rfl at_ rfl Gg.out rfl rfl rfl rfl gs_ ?_));intro wc136 HK1;replace HK:=asd_ HK1;clear HK1;replace Bc:=ce1_ HK 0;replace Bf:=fe1_ HK 0))
            go_ret
            exact ⟨true,rfl,i + 3,sure,ts ++ [tk9],⟨_,_,_,_,H9.out,H8.out,at_⟩,fun _=>⟨by omega,by have:=H2in.out;omega,by have:=Hts_.out;have:=H0_.out;simp;omega⟩⟩
           case neg=>
            have f2_46:(r2 == 46)=false:=beq_eq_false_iff_ne.2 h2_46;have Fh2_46:=asd_ h2_46;clear h2_46
            have g2_46:(r2 != 46)=true:=by simp only [bne,f2_46];rfl
            go_wp2_with fail
            go_quiet (fail)
            go_wp2_with (first|((first|((with_reducible refine gd_ 136 ?_);refine cl_ #[.int .i32 r] (.int .i64 m) Tryz.func103 ((spec_Mark.calls r m _ Hm.out).mono (fun _ _ h=>⟨h.1,h.2.below⟩)) ?_)|((with_reducible refine gd_ 154 ?_);refine cl_ #[.pointer (some ⟨g,0,none⟩),.int .i64 1] (.int .i32 r1) Tryz.func104 (Hp1.out _ at_) ?_)|((with_reducible refine gd_ 158 ?_);(try (refine gate_guard (by rfl) ?_;dsimp only));refine cl_ #[.pointer (some ⟨g,0,none⟩),.int .i64 2] (.int .i32 r2) Tryz.func104 (Hp2.out _ at_) ?_));intro wc136 HK1;replace HK:=asd_ HK1;clear HK1;replace Bc:=ce1_ HK 0;replace Bf:=fe1_ HK 0))
            go_ret
            exact ⟨false,rfl,i,sure,ts,⟨v,seen,line,from_,Hs0_.out,Hs1_.out,at_⟩,fun h=>by cases h⟩
          case neg=>
           have f1_46:(r1 == 46)=false:=beq_eq_false_iff_ne.2 h1_46;have Fh1_46:=asd_ h1_46;clear h1_46
           have g1_46:(r1 != 46)=true:=by simp only [bne,f1_46];rfl
           go_wp2_with fail
           go_quiet (fail)
           go_wp2_with (first|((first|((with_reducible refine gd_ 136 ?_);refine cl_ #[.int .i32 r] (.int .i64 m) Tryz.func103 ((spec_Mark.calls r m _ Hm.out).mono (fun _ _ h=>⟨h.1,h.2.below⟩)) ?_)|((with_reducible refine gd_ 154 ?_);refine cl_ #[.pointer (some ⟨g,0,none⟩),.int .i64 1] (.int .i32 r1) Tryz.func104 (Hp1.out _ at_) ?_));intro wc136 HK1;replace HK:=asd_ HK1;clear HK1;replace Bc:=ce1_ HK 0;replace Bf:=fe1_ HK 0))
           go_ret
           exact ⟨false,rfl,i,sure,ts,⟨v,seen,line,from_,Hs0_.out,Hs1_.out,at_⟩,fun h=>by cases h⟩
         case neg=>
          have f_46:(r == 46)=false:=beq_eq_false_iff_ne.2 h_46;have Fh_46:=asd_ h_46;clear h_46
          obtain ⟨bst,hst⟩:∃ b,spec_IsStart.f r=some b:=by unfold spec_IsStart.f;(repeat' split)<;>exact ⟨_,rfl⟩
          have Hst:=asd_ hst;clear hst
          cases bst
          case true=>
           go_wp2_with fail
           go_quiet (fail)
           go_wp2_with (first|((first|((with_reducible refine gd_ 136 ?_);refine cl_ #[.int .i32 r] (.int .i64 m) Tryz.func103 ((spec_Mark.calls r m _ Hm.out).mono (fun _ _ h=>⟨h.1,h.2.below⟩)) ?_)|((with_reducible refine gd_ 173 ?_);refine cl_ #[.int .i32 r] (.bool true) Tryz.func43 ((spec_IsStart.calls r true _ Hst.out).mono (fun _ _ h=>⟨h.1,h.2.below⟩)) ?_));intro wc136 HK1;replace HK:=asd_ HK1;clear HK1;replace Bc:=ce1_ HK 0;replace Bf:=fe1_ HK 0))
           go_loopg [] (xs.length - i).toNat (fun kq w'=>∃ q:Int,Aside0 (i≤q)∧Aside0 (q≤xs.length)∧Aside0 (kq=(xs.length - q).toNat)∧Aside0 (At w0 (.b g (row (LXc (some ad) xs.length c q v sure seen line from_) 194):: .f (Toks w0 v ts)::l) w'))
           case atStart=>exact ⟨i,⟨Int.le_refl _⟩,⟨by have:=H1_.out;omega⟩,⟨rfl⟩,⟨at_⟩⟩
           case round=>
            clear HK;clear hcell p0 p1 hs_1 hs_3 Hp1 Hp2 Hr1 Hr2
            obtain ⟨q,Hiq,Hql,Hk,HK⟩:=hrel
            replace Bc:=ce1_ HK 0;replace Bf:=fe1_ HK 0
            obtain ⟨p,hp⟩:∃ p,pk xs (q + 0)=p:=⟨_,rfl⟩
            have hpc:∀ W,At w0 (.b g (row (LXc (some ad) xs.length c q v sure seen line from_) 194):: .f (Toks w0 v ts)::l) W→Calls Tryz.prog 104 #[.pointer (some ⟨g,0,none⟩),.int .i64 0] W fun e w'=>e= .returned (.int .i32 p)∧Below W.heap.size W w':=fun W hW=>by rw [← hp];exact peek_ok 0 hW rfl Ht_.out HL_.out (by have:=H0_.out;have:=Hiq.out;have:=Hql.out;have:=HL_.out;omega) (by have:=H0_.out;have:=Hiq.out;have:=Hql.out;have:=HL_.out;omega) (by omega) (by omega)
            obtain ⟨Hp,Hpc⟩:=as2_ hp hpc;clear hp hpc
            obtain ⟨bs,hbs⟩:∃ b,spec_IsStart.f p=some b:=by unfold spec_IsStart.f;(repeat' split)<;>exact ⟨_,rfl⟩
            obtain ⟨bd,hbd⟩:∃ b,spec_IsDigit.f p=some b:=by unfold spec_IsDigit.f;split<;>exact ⟨_,rfl⟩
            obtain ⟨Hbs,Hbd⟩:=as2_ hbs hbd;clear hbs hbd
            have hs1:IntKind.i64.wrap (q + 1)=q + 1:=IntWalk.i64_in _ (by have:=H0_.out;have:=Hiq.out;have:=Hql.out;have:=HL_.out;omega)
            cases bs
            case true=>
             have Hlt:Aside0 (q + 0 < xs.length):=⟨pk_in (by rw [Hp.out];rintro rfl;have h0:=Hbs.out;simp [spec_IsStart.f] at h0)⟩
             go_wp2_with (first|((first|((with_reducible refine gd_ 175 ?_);refine cl_ #[.pointer (some ⟨g,0,none⟩),.int .i64 0] (.int .i32 p) Tryz.func104 (Hpc.out _ at_) ?_)|((with_reducible refine gd_ 176 ?_);refine cl_ #[.int .i32 p] (.bool true) Tryz.func43 ((spec_IsStart.calls p true _ Hbs.out).mono (fun _ _ h=>⟨h.1,h.2.below⟩)) ?_)|((with_reducible refine gate_ (.store 3 (.tmp 188) (.tmp 186)) rfl ?_);refine store_at (t:=3) (p:=188) (g:=g) (i:=1) (v:= .int .i64 (q + 1)) 0 (LXc (some ad) xs.length c (q + 1) v sure seen line from_) rfl at_ rfl Gg.out rfl rfl rfl rfl gs_ ?_));intro wc175 HK1;replace HK:=asd_ HK1;clear HK1;replace Bc:=ce1_ HK 0;replace Bf:=fe1_ HK 0))
             go_roundg (xs.length - (q + 1)).toNat
             case measure=>have:=Hk.out;have:=Hlt.out;omega
             case rel=>exact ⟨q + 1,⟨by have:=Hiq.out;omega⟩,⟨by have:=Hlt.out;omega⟩,⟨rfl⟩,⟨at_⟩⟩
            case false=>
             cases bd
             case true=>
              have Hlt:Aside0 (q + 0 < xs.length):=⟨pk_in (by rw [Hp.out];rintro rfl;have h0:=Hbd.out;simp [spec_IsDigit.f] at h0)⟩
              go_wp2_with (first|((first|((with_reducible refine gd_ 175 ?_);refine cl_ #[.pointer (some ⟨g,0,none⟩),.int .i64 0] (.int .i32 p) Tryz.func104 (Hpc.out _ at_) ?_)|((with_reducible refine gd_ 176 ?_);refine cl_ #[.int .i32 p] (.bool false) Tryz.func43 ((spec_IsStart.calls p false _ Hbs.out).mono (fun _ _ h=>⟨h.1,h.2.below⟩)) ?_)|((with_reducible refine gd_ 179 ?_);(try (refine gate_guard (by rfl) ?_;dsimp only));refine cl_ #[.pointer (some ⟨g,0,none⟩),.int .i64 0] (.int .i32 p) Tryz.func104 (Hpc.out _ at_) ?_)|((with_reducible refine gd_ 180 ?_);(try (refine gate_guard (by rfl) ?_;dsimp only));refine cl_ #[.int .i32 p] (.bool true) Tryz.func44 ((spec_IsDigit.calls p true _ Hbd.out).mono (fun _ _ h=>⟨h.1,h.2.below⟩)) ?_)|((with_reducible refine gate_ (.store 3 (.tmp 188) (.tmp 186)) rfl ?_);refine store_at (t:=3) (p:=188) (g:=g) (i:=1) (v:= .int .i64 (q + 1)) 0 (LXc (some ad) xs.length c (q + 1) v sure seen line from_) rfl at_ rfl Gg.out rfl rfl rfl rfl gs_ ?_));intro wc175 HK1;replace HK:=asd_ HK1;clear HK1;replace Bc:=ce1_ HK 0;replace Bf:=fe1_ HK 0))
              go_roundg (xs.length - (q + 1)).toNat
              case measure=>have:=Hk.out;have:=Hlt.out;omega
              case rel=>exact ⟨q + 1,⟨by have:=Hiq.out;omega⟩,⟨by have:=Hlt.out;omega⟩,⟨rfl⟩,⟨at_⟩⟩
             case false=>
              have Hlt:Aside0 (i < q):=⟨by refine (Int.lt_or_eq_of_le Hiq.out).elim id (fun h=>False.elim ?_);subst h;have e1:=Hp.out;rw [Hpk.out] at e1;subst e1;have e2:=Hbs.out;rw [Hst.out] at e2;cases e2⟩
              go_wp2_with (first|((first|((with_reducible refine gd_ 175 ?_);refine cl_ #[.pointer (some ⟨g,0,none⟩),.int .i64 0] (.int .i32 p) Tryz.func104 (Hpc.out _ at_) ?_)|((with_reducible refine gd_ 176 ?_);refine cl_ #[.int .i32 p] (.bool false) Tryz.func43 ((spec_IsStart.calls p false _ Hbs.out).mono (fun _ _ h=>⟨h.1,h.2.below⟩)) ?_)|((with_reducible refine gd_ 179 ?_);(try (refine gate_guard (by rfl) ?_;dsimp only));refine cl_ #[.pointer (some ⟨g,0,none⟩),.int .i64 0] (.int .i32 p) Tryz.func104 (Hpc.out _ at_) ?_)|((with_reducible refine gd_ 180 ?_);(try (refine gate_guard (by rfl) ?_;dsimp only));refine cl_ #[.int .i32 p] (.bool false) Tryz.func44 ((spec_IsDigit.calls p false _ Hbd.out).mono (fun _ _ h=>⟨h.1,h.2.below⟩)) ?_));intro wc175 HK1;replace HK:=asd_ HK1;clear HK1;replace Bc:=ce1_ HK 0;replace Bf:=fe1_ HK 0))
              have c1:i≤q:=by have:=Hiq.out;omega
              have k1:((0:Int)≤q)=True:=eq_true (by have:=H0_.out;omega);have k2:(q≤(c:Int))=True:=eq_true (by have:=Hql.out;have:=Hc_.out;omega);have k3:max q 0=q:=(by have:=H0_.out;omega);have k6:((0:Int)≤i)=True:=eq_true H0_.out;have k4:(i≤q)=True:=eq_true c1;have k5:(c=i.toNat)=False:=eq_false (by have:=H0_.out;have:=H1_.out;have:=Hc_.out;omega)
              clear c1
              go_wp2_with fail
              refine su1_ 14 HK 0 [13] (fun HS hHeld=> ?_)
              refine pu_ 0 189 1 ?_
              refine pu_ 1 190 3 ?_
              refine pu_ 2 191 7 ?_
              refine pu_ 3 192 15 ?_
              refine pu_ 5 194 47 ?_
              refine pu_ 6 195 111 ?_
              refine pu_ 7 196 239 ?_
              refine pu_ 8 197 495 ?_
              refine pu_ 12 201 4591 ?_
              refine ta2_ 4 193 4607 hHeld ?_
              refine ta2_ 9 198 5119 hHeld ?_
              refine pu_ 10 199 6143 ?_
              refine on_ 11 200 8191 (fun K hK=> ?_)
              refine value_ (w1:=_) (v:= .string (runesBytes ((xs.drop i.toNat).take (q.toNat - i.toNat)))) (by rfl) rfl (conv_runes (x:= .tmp 199) (by rfl) (by rfl) ((xs.drop i.toNat).take (q.toNat - i.toNat)) (by simp;have:=Hql.out;have:=Hiq.out;have:=H0_.out;omega) (fun j hj=>Txt.cut Ht_.out hHeld.1 i.toNat q.toNat (by have:=Hiq.out;omega) (by have:=Hql.out;omega) j hj)) ?_
              refine hK.out _ _ ⟨hHeld.1,hHeld.2⟩ (fun hHeld=> ?_)
              clear hK K
              refine nq_ 200 ?_
              refine la_ 13 202 16383 (fun K hK=> ?_)
              have HE:=asd_ (hHeld.1)
              refine ge_ Tryz.func102 #[.pointer (some ⟨g,0,none⟩),.int .i64 15,.string (runesBytes ((xs.drop i.toNat).take (q.toNat - i.toNat))),.int .i64 i] ?_
              with_reducible refine (put_ok (ts:=ts) (xs:=xs) (i:=q) (st:=i) HE.out rfl Ht_.out HL_.out Hg_.out Hl_.out Hs0_.out Hs1_.out H0_.out (by have:=H1_.out;omega) (by have:=Hts_.out;have:=HL_.out;have:=H1_.out;omega)).mono ?_
              rintro e w3 ⟨rfl,v9,tk9,s9,ln9,fr9,h9,h8,HE0⟩
              refine ⟨_,rfl,?_⟩
              have HE1:=asd_ HE0
              clear HE0
              obtain ⟨H9,H8⟩:=as2_ h9 h8;clear h9 h8
              clear HE;have HE:=HE1;clear HE1
              refine hK.out _ _ ?_
              clear hK K
              refine nq_ 202 ?_
              refine done_ kr_ ?_
              clear HK;have HK:=HE;clear HE
              clear hHeld
              replace Bc:=ce1_ HK 0
              replace Bf:=fe1_ HK 0
              go_wp2_with fail
              go_ret
              exact ⟨true,rfl,q,sure,ts ++ [tk9],⟨_,_,_,_,H9.out,H8.out,at_⟩,fun _=>⟨Hlt.out,Hql.out,by have:=Hts_.out;have:=Hlt.out;have:=H0_.out;simp;omega⟩⟩
          case false=>
           by_cases h_45:r=45
           case pos=>
            have f_45:(r == 45)=true:=beq_iff_eq.2 h_45;have Fh_45:=asd_ h_45;clear h_45
            go_wp2_with fail
            go_quiet (fail)
            go_wp2_with (first|((first|((with_reducible refine gd_ 136 ?_);refine cl_ #[.int .i32 r] (.int .i64 m) Tryz.func103 ((spec_Mark.calls r m _ Hm.out).mono (fun _ _ h=>⟨h.1,h.2.below⟩)) ?_)|((with_reducible refine gd_ 173 ?_);refine cl_ #[.int .i32 r] (.bool false) Tryz.func43 ((spec_IsStart.calls r false _ Hst.out).mono (fun _ _ h=>⟨h.1,h.2.below⟩)) ?_));intro wc136 HK1;replace HK:=asd_ HK1;clear HK1;replace Bc:=ce1_ HK 0;replace Bf:=fe1_ HK 0))
            refine (number_ok at_ rfl Ht_.out HL_.out Hg_.out Hl_.out H0_.out H1_.out Hts_.out Hs0_.out Hs1_.out Hc_.out).mono ?_
            rintro _ w9 ⟨b,rfl,HT⟩
            have HT_:=asd_ HT;clear HT
            go_wp2_with fail
            go_ret
            exact ⟨b,rfl,HT_.out⟩
           case neg=>
            have f_45:(r == 45)=false:=beq_eq_false_iff_ne.2 h_45;have Fh_45:=asd_ h_45;clear h_45
            obtain ⟨bdg,hdg⟩:∃ b,spec_IsDigit.f r=some b:=by unfold spec_IsDigit.f;split<;>exact ⟨_,rfl⟩
            have Hdg:=asd_ hdg;clear hdg
            cases bdg
            case true=>
             go_wp2_with fail
             go_quiet (fail)
             go_wp2_with (first|((first|((with_reducible refine gd_ 136 ?_);refine cl_ #[.int .i32 r] (.int .i64 m) Tryz.func103 ((spec_Mark.calls r m _ Hm.out).mono (fun _ _ h=>⟨h.1,h.2.below⟩)) ?_)|((with_reducible refine gd_ 173 ?_);refine cl_ #[.int .i32 r] (.bool false) Tryz.func43 ((spec_IsStart.calls r false _ Hst.out).mono (fun _ _ h=>⟨h.1,h.2.below⟩)) ?_)|((with_reducible refine gd_ 208 ?_);(try (refine gate_guard (by rfl) ?_;dsimp only));refine cl_ #[.int .i32 r] (.bool true) Tryz.func44 ((spec_IsDigit.calls r true _ Hdg.out).mono (fun _ _ h=>⟨h.1,h.2.below⟩)) ?_));intro wc136 HK1;replace HK:=asd_ HK1;clear HK1;replace Bc:=ce1_ HK 0;replace Bf:=fe1_ HK 0))
             refine (number_ok at_ rfl Ht_.out HL_.out Hg_.out Hl_.out H0_.out H1_.out Hts_.out Hs0_.out Hs1_.out Hc_.out).mono ?_
             rintro _ w9 ⟨b,rfl,HT⟩
             have HT_:=asd_ HT;clear HT
             go_wp2_with fail
             go_ret
             exact ⟨b,rfl,HT_.out⟩
            case false=>
             by_cases h_34:r=34
             case pos=>
              have f_34:(r == 34)=true:=beq_iff_eq.2 h_34;have Fh_34:=asd_ h_34;clear h_34
              by_cases h1_34:r1=34
              case pos=>
               have f1_34:(r1 == 34)=true:=beq_iff_eq.2 h1_34;have Fh1_34:=asd_ h1_34;clear h1_34
               by_cases h2_34:r2=34
               case pos=>
                have f2_34:(r2 == 34)=true:=beq_iff_eq.2 h2_34;have Fh2_34:=asd_ h2_34;clear h2_34
                have H2in:Aside0 (i + 2 < xs.length):=⟨pk_in (by rw [Hr2.out,Fh2_34.out];omega)⟩
                go_wp2_with fail
                go_quiet (fail)
                go_wp2_with (first|((first|((with_reducible refine gd_ 136 ?_);refine cl_ #[.int .i32 r] (.int .i64 m) Tryz.func103 ((spec_Mark.calls r m _ Hm.out).mono (fun _ _ h=>⟨h.1,h.2.below⟩)) ?_)|((with_reducible refine gd_ 173 ?_);refine cl_ #[.int .i32 r] (.bool false) Tryz.func43 ((spec_IsStart.calls r false _ Hst.out).mono (fun _ _ h=>⟨h.1,h.2.below⟩)) ?_)|((with_reducible refine gd_ 208 ?_);(try (refine gate_guard (by rfl) ?_;dsimp only));refine cl_ #[.int .i32 r] (.bool false) Tryz.func44 ((spec_IsDigit.calls r false _ Hdg.out).mono (fun _ _ h=>⟨h.1,h.2.below⟩)) ?_)|((with_reducible refine gd_ 217 ?_);(try (refine gate_guard (by rfl) ?_;dsimp only));refine cl_ #[.pointer (some ⟨g,0,none⟩),.int .i64 1] (.int .i32 r1) Tryz.func104 (Hp1.out _ at_) ?_)|((with_reducible refine gd_ 222 ?_);(try (refine gate_guard (by rfl) ?_;dsimp only));refine cl_ #[.pointer (some ⟨g,0,none⟩),.int .i64 2] (.int .i32 r2) Tryz.func104 (Hp2.out _ at_) ?_));intro wc136 HK1;replace HK:=asd_ HK1;clear HK1;replace Bc:=ce1_ HK 0;replace Bf:=fe1_ HK 0))
                refine (block_ok at_ rfl Ht_.out HL_.out Hg_.out Hl_.out Hr_.out H0_.out (by have:=H2in.out;omega) Hts_.out Hs0_.out Hs1_.out).mono ?_
                rintro _ w9 ⟨b,rfl,HT⟩
                have HT_:=asd_ HT;clear HT
                go_wp2_with fail
                go_ret
                exact ⟨b,rfl,HT_.out⟩
               case neg=>
                have f2_34:(r2 == 34)=false:=beq_eq_false_iff_ne.2 h2_34;have Fh2_34:=asd_ h2_34;clear h2_34
                go_wp2_with fail
                go_quiet (fail)
                go_wp2_with (first|((first|((with_reducible refine gd_ 136 ?_);refine cl_ #[.int .i32 r] (.int .i64 m) Tryz.func103 ((spec_Mark.calls r m _ Hm.out).mono (fun _ _ h=>⟨h.1,h.2.below⟩)) ?_)|((with_reducible refine gd_ 173 ?_);refine cl_ #[.int .i32 r] (.bool false) Tryz.func43 ((spec_IsStart.calls r false _ Hst.out).mono (fun _ _ h=>⟨h.1,h.2.below⟩)) ?_)|((with_reducible refine gd_ 208 ?_);(try (refine gate_guard (by rfl) ?_;dsimp only));refine cl_ #[.int .i32 r] (.bool false) Tryz.func44 ((spec_IsDigit.calls r false _ Hdg.out).mono (fun _ _ h=>⟨h.1,h.2.below⟩)) ?_)|((with_reducible refine gd_ 217 ?_);(try (refine gate_guard (by rfl) ?_;dsimp only));refine cl_ #[.pointer (some ⟨g,0,none⟩),.int .i64 1] (.int .i32 r1) Tryz.func104 (Hp1.out _ at_) ?_)|((with_reducible refine gd_ 222 ?_);(try (refine gate_guard (by rfl) ?_;dsimp only));refine cl_ #[.pointer (some ⟨g,0,none⟩),.int .i64 2] (.int .i32 r2) Tryz.func104 (Hp2.out _ at_) ?_));intro wc136 HK1;replace HK:=asd_ HK1;clear HK1;replace Bc:=ce1_ HK 0;replace Bf:=fe1_ HK 0))
                refine (quoted_ok at_ rfl Ht_.out HL_.out Hg_.out Hl_.out Hr_.out H0_.out H1_.out Hts_.out Hs0_.out Hs1_.out).mono ?_
                rintro _ w9 ⟨b,rfl,HT⟩
                have HT_:=asd_ HT;clear HT
                go_wp2_with fail
                go_ret
                exact ⟨b,rfl,HT_.out⟩
              case neg=>
               have f1_34:(r1 == 34)=false:=beq_eq_false_iff_ne.2 h1_34;have Fh1_34:=asd_ h1_34;clear h1_34
               go_wp2_with fail
               go_quiet (fail)
               go_wp2_with (first|((first|((with_reducible refine gd_ 136 ?_);refine cl_ #[.int .i32 r] (.int .i64 m) Tryz.func103 ((spec_Mark.calls r m _ Hm.out).mono (fun _ _ h=>⟨h.1,h.2.below⟩)) ?_)|((with_reducible refine gd_ 173 ?_);refine cl_ #[.int .i32 r] (.bool false) Tryz.func43 ((spec_IsStart.calls r false _ Hst.out).mono (fun _ _ h=>⟨h.1,h.2.below⟩)) ?_)|((with_reducible refine gd_ 208 ?_);(try (refine gate_guard (by rfl) ?_;dsimp only));refine cl_ #[.int .i32 r] (.bool false) Tryz.func44 ((spec_IsDigit.calls r false _ Hdg.out).mono (fun _ _ h=>⟨h.1,h.2.below⟩)) ?_)|((with_reducible refine gd_ 217 ?_);(try (refine gate_guard (by rfl) ?_;dsimp only));refine cl_ #[.pointer (some ⟨g,0,none⟩),.int .i64 1] (.int .i32 r1) Tryz.func104 (Hp1.out _ at_) ?_));intro wc136 HK1;replace HK:=asd_ HK1;clear HK1;replace Bc:=ce1_ HK 0;replace Bf:=fe1_ HK 0))
               refine (quoted_ok at_ rfl Ht_.out HL_.out Hg_.out Hl_.out Hr_.out H0_.out H1_.out Hts_.out Hs0_.out Hs1_.out).mono ?_
               rintro _ w9 ⟨b,rfl,HT⟩
               have HT_:=asd_ HT;clear HT
               go_wp2_with fail
               go_ret
               exact ⟨b,rfl,HT_.out⟩
             case neg=>
              have f_34:(r == 34)=false:=beq_eq_false_iff_ne.2 h_34;have Fh_34:=asd_ h_34;clear h_34
              go_wp2_with fail
              go_quiet (fail)
              go_wp2_with (first|((first|((with_reducible refine gd_ 136 ?_);refine cl_ #[.int .i32 r] (.int .i64 m) Tryz.func103 ((spec_Mark.calls r m _ Hm.out).mono (fun _ _ h=>⟨h.1,h.2.below⟩)) ?_)|((with_reducible refine gd_ 173 ?_);refine cl_ #[.int .i32 r] (.bool false) Tryz.func43 ((spec_IsStart.calls r false _ Hst.out).mono (fun _ _ h=>⟨h.1,h.2.below⟩)) ?_)|((with_reducible refine gd_ 208 ?_);(try (refine gate_guard (by rfl) ?_;dsimp only));refine cl_ #[.int .i32 r] (.bool false) Tryz.func44 ((spec_IsDigit.calls r false _ Hdg.out).mono (fun _ _ h=>⟨h.1,h.2.below⟩)) ?_));intro wc136 HK1;replace HK:=asd_ HK1;clear HK1;replace Bc:=ce1_ HK 0;replace Bf:=fe1_ HK 0))
              go_ret
              exact ⟨false,rfl,i,sure,ts,⟨v,seen,line,from_,Hs0_.out,Hs1_.out,at_⟩,fun h=>by cases h⟩
theorem runesFrom_ints (s:ByteArray):∀ (bound i:Nat) (acc:Array Value),∃ xs:List Int,(Conv.runesFrom s bound i acc).toList=acc.toList ++ xs.map (Value.int .i32)
 |0,_,acc=>⟨[],by simp [Conv.runesFrom]⟩
 |bound + 1,i,acc=>by
  unfold Conv.runesFrom
  split
  ·obtain ⟨xs,h⟩:=runesFrom_ints s bound (i + (Utf8.decode s i).2) (acc.push (.int .i32 (Int.ofNat (Utf8.decode s i).1)))
   exact ⟨Int.ofNat (Utf8.decode s i).1::xs,by rw [h];simp⟩
  ·exact ⟨[],by simp⟩
theorem runes_at {ops:Array Oper} {rest:List Oper} {o:Oper} {a:Act} {Q:Exit→Act→World→Prop} {W:World} {x:Operand} (s:ByteArray) (hs:s.size≤8388608) (hgd:o.guard=none) (ho:o.op= .convert 9 192 x) (hx:a.eval x= .string s)
  (h:∀ (A:Option Addr) (c:Nat) (xs:List Int) (W1:World),xs.length≤8388608→xs.length≤c→Txt W1 A xs→Aside0 (Below W.heap.size W W1)→wpList Tryz.prog ops Q rest (a.put o.dst (.slice A xs.length c)) W1):wpList Tryz.prog ops Q (o::rest) a W:=by
 obtain ⟨xs,hxs⟩:=runesFrom_ints s s.size 0 #[]
 have hsz:=size_runesFrom s s.size 0 #[]
 have hr:=run_runes_of_string (P:=Tryz.prog) W 9 192 21 s Tryz.underlying9 Tryz.underlying192 Tryz.underlying21 (by simp at hsz;omega)
 have hl:(Conv.runesFrom s s.size 0 #[]).size=xs.length:=by rw [← Array.length_toList,hxs];simp
 rw [hl] at hr
 have hrun:(execOp a.eval o).run Tryz.prog W= .ok (.value (.slice (some ⟨W.heap.size,0,none⟩) xs.length (grownCap W xs.length 0 21))) (W.drew.alloc (.cells (Conv.runesFrom s s.size 0 #[] ++ Array.replicate (grownCap W xs.length 0 21 - xs.length) (.int .i32 0)) 21)):=by
  unfold execOp
  rw [ho]
  simp only [hx]
  first|(rw [hr];rfl)|(simp [Sem.run_bind,hr,Result.andThen,Sem.run_pure];done)|(simp [Sem.run_bind,hr,Result.andThen,Sem.run_pure];rfl)
 refine Kd.event_run hgd hrun (h _ _ xs _ (by simp at hsz;omega) (grownCap_ge W xs.length 0 21) ?_ ⟨below_alloc (below_drew (Below.refl W.heap.size W)) _⟩)
 refine ⟨rfl,by simp at hsz;omega,fun _=>⟨⟨W.heap.size,0,none⟩,rfl,fun j p hj=>⟨[.int .i32 p],rfl,rfl,fun i u hu=> ?_⟩⟩⟩
 cases i with
 |succ i=>simp at hu
 |zero=>
  obtain rfl:Value.int .i32 p=u:=by simpa using hu
  have hb:(W.drew.alloc (.cells (Conv.runesFrom s s.size 0 #[] ++ Array.replicate (grownCap W xs.length 0 21 - xs.length) (.int .i32 0)) 21)).heap[W.heap.size]? =some (.cells (Conv.runesFrom s s.size 0 #[] ++ Array.replicate (grownCap W xs.length 0 21 - xs.length) (.int .i32 0)) 21 (0,0)):=blk_new W.drew _
  have hc:=blk_cell hb j
  have ea:Addr.add (⟨W.heap.size,0,none⟩:Addr) (j * 1 + 0)=⟨W.heap.size,j,none⟩:=by rw [add_plain];simp
  show World.cell? _ (Addr.add _ (j * 1 + 0))=_
  rw [ea,hc]
  have hj2:j < xs.length:=(List.getElem?_eq_some_iff.1 hj).1
  rw [Array.getElem?_append_left (by omega),← Array.getElem?_toList,hxs]
  simp [hj]
theorem Fact.low {w W1 W:World} {v:Value} {ts:List Tok} (hb:Below w.heap.size w W1) (h:(Toks W1 v ts).P W):(Toks w v ts).P W:=Kd.R_lower h hb.size
theorem lex_ok (s:ByteArray) (hs:s.size≤8388608) (w:World):
  Calls Tryz.prog 59 #[.string s] w fun e w'=>∃ (v:Value) (b c:Bool) (ts:List Tok),e= .returned (.tuple #[v,.bool b,.bool c])∧(Toks w v ts).P w'∧Below w.heap.size w w':=by
 have Hs:=asd_ hs;clear hs
 go_enter Tryz.func59,Tryz.ntmps59
 go_wp2_with (first|((with_reducible refine gd_ 7 ?_);refine runes_at s Hs.out rfl rfl rfl ?_;intro A c xs W1 hL hc ht HB;obtain ⟨HL,Hc,Ht⟩:=as3_ hL hc ht;clear hL hc ht;have HK:Aside0 (At W1 [] W1):=asd_ (At.start W1))|((with_reducible refine gd_ 9 ?_);refine bx_ (LXc A xs.length c 0 nilS true 0 1 0) 194 ?_;clear HK;intro g wb9 HK Gg;replace Bc:=ce1_ HK 0;replace Bf:=fe1_ HK 0))
 have HK2:Aside0 (At W1 [.b g (row (LXc A xs.length c 0 nilS true 0 1 0) 194),.f (Toks W1 nilS [])] _):=asd_ (At.front 1 (At.fact (Toks W1 nilS []) HK.out (Kd.R_nil _ _ _ _ _)) rfl)
 clear HK;have HK:=HK2;clear HK2
 go_loopg [] xs.length (fun kq w'=>∃ (q:Int) (sure:Bool) (ts:List Tok),Aside0 (0≤q)∧Aside0 (q≤xs.length)∧Aside0 (kq=(xs.length - q).toNat)∧Aside0 (ts.length≤q.toNat)∧Aside0 (LS W1 [] g xs.length c A xs q sure ts w'))
 case atStart=>exact ⟨0,true,[],⟨Int.le_refl _⟩,⟨by omega⟩,⟨by simp⟩,⟨Nat.zero_le _⟩,⟨nilS,0,1,0,Int.le_refl _,by omega,HK.out⟩⟩
 case round=>
  clear HK
  obtain ⟨q,sure,ts,H0,H1,Hk,Hts,⟨⟨v,seen,line,from_,hs0,hs1,hA⟩⟩⟩:=hrel
  obtain ⟨HK,Hs0,Hs1⟩:=as3_ hA hs0 hs1;clear hA hs0 hs1
  replace Bc:=ce1_ HK 0;replace Bf:=fe1_ HK 0
  by_cases hlt:q < (xs.length:Int)
  case neg=>
   have hd:decide (q < (xs.length:Int))=false:=decide_eq_false hlt;clear hlt
   go_wp2_with fail
   go_quiet (fail)
   go_wp2_with fail
   go_quiet (fail)
   go_wp2_with fail
   go_ret3
   exact ⟨v,true,sure,ts,rfl,Fact.low HB.out (show At W1 [.b g (row (LXc A xs.length c q v sure seen line from_) 194),.f (Toks W1 v ts)] _ from by repeat (first|exact HK.out|apply At.drewN|apply At.drew|apply At.alloc)).k.2.1,below_step HB.out (show At W1 [.b g (row (LXc A xs.length c q v sure seen line from_) 194),.f (Toks W1 v ts)] _ from by repeat (first|exact HK.out|apply At.drewN|apply At.drew|apply At.alloc)).b⟩
  case pos=>
   have hd:decide (q < (xs.length:Int))=true:=decide_eq_true hlt;have Hlt:=asd_ hlt;clear hlt
   go_wp2_with fail
   go_quiet (fail)
   go_wp2_with fail
   refine (token_ok (l:=[]) at_ rfl Ht.out HL.out (Aside0.out Gg) trivial trivial H0.out Hlt.out Hts.out Hs0.out Hs1.out Hc.out).mono ?_
   rintro _ w9 ⟨b,rfl,q2,sure2,ts2,⟨v2,seen2,line2,from2,hs0,hs1,hA⟩,hq⟩
   clear HK;obtain ⟨HK,Hq,Hs2,Hs3⟩:=as4_ hA hq hs0 hs1;clear hA hq hs0 hs1
   replace Bc:=ce1_ HK 0;replace Bf:=fe1_ HK 0
   cases b
   case false=>
    go_wp2_with fail
    go_quiet (fail)
    go_wp2_with fail
    go_ret3
    exact ⟨nilS,false,sure2,[],rfl,Kd.R_nil _ _ _ _ _,below_step HB.out (show At W1 [.b g (row (LXc A xs.length c q2 v2 sure2 seen2 line2 from2) 194),.f (Toks W1 v2 ts2)] _ from by repeat (first|exact HK.out|apply At.drewN|apply At.drew|apply At.alloc)).b⟩
   case true=>
    go_wp2_with fail
    go_roundg (xs.length - q2).toNat
    case measure=>have:=Hk.out;have:=(Hq.out (by first|trivial|rfl)).1;have:=Hlt.out;omega
    case rel=>exact ⟨q2,sure2,ts2,⟨by have:=(Hq.out (by first|trivial|rfl)).1;have:=H0.out;omega⟩,⟨(Hq.out (by first|trivial|rfl)).2.1⟩,⟨rfl⟩,⟨(Hq.out (by first|trivial|rfl)).2.2⟩,⟨⟨v2,seen2,line2,from2,Hs2.out,Hs3.out,at_⟩⟩⟩
theorem isNumber_ok (s:ByteArray) (hs:s.size≤8388608) (fl:Bool) (w:World):
  Calls Tryz.prog 45 #[.string s,.bool fl] w fun e w'=>∃ b:Bool,e= .returned (.bool b)∧Below w.heap.size w w':=by
 have Hs:=asd_ hs
 clear hs
 go_enter Tryz.func45,Tryz.ntmps45
 go_wp2_with fail
 refine (lex_ok s Hs.out _).mono ?_
 rintro _ w1 ⟨v,b,c,ts,rfl,hT,hB⟩
 obtain ⟨A,cap,rfl,hcap,hC⟩:=Kd.R_reads (show Kd.R kTok 162 w1 w.heap.size (fun _=>True) v ts from hT)
 have HB:=asd_ hB
 clear hB hT hcap
 cases b
 case false=>
  go_wp2_with fail
  go_ret
  exact ⟨false,rfl,by repeat (first|exact HB.out|apply below_alloc|apply pw_below_drewN|apply below_drew1)⟩
 case true=>
  by_cases hl:ts.length=1
  case neg=>
   have hd:((ts.length:Int) != 1)=true:=bne_iff_ne.mpr (by omega)
   clear hC hl
   generalize ts.length=m at hd ⊢
   go_wp2_with fail
   go_ret
   exact ⟨false,rfl,by repeat (first|exact HB.out|apply below_alloc|apply pw_below_drewN|apply below_drew1)⟩
  case pos=>
   have hd:((ts.length:Int) != 1)=false:=bne_eq_false_iff_eq.mpr (by omega)
   have hi:decide ((0:Nat) < ts.length)=true:=decide_eq_true (by omega)
   have hi':decide ((0:Int) < (ts.length:Int))=true:=decide_eq_true (by omega)
   obtain ⟨t0,rfl⟩:=List.length_eq_one_iff.1 hl
   obtain ⟨ad,cs,rfl,_,hK,hc⟩:=Kd.C_get hC t0 0 (by omega) (by simp)
   have hK':cs=t0.cells:=hK
   subst hK'
   have c0:w1.cell? (ad.add 0)=some (.int .i64 t0.kind):=hc 0 _ rfl
   have c1:w1.cell? (ad.add 1)=some (.string t0.val):=hc 1 _ rfl
   have e1:ad.add 1=⟨ad.block,ad.off + 1,none⟩:=by have:=add_field ad 0 1 (by omega);rw [show ad.add 0=ad from by simp [Addr.add]] at this;exact this
   have e0:ad.add 0=ad:=by simp [Addr.add]
   rw [e1] at c1
   rw [e0] at c0
   clear hc hC hK hl e1 e0
   cases fl
   all_goals
    go_wp2_with fail
    all_goals
     go_ret
     exact ⟨_,rfl,by repeat (first|exact HB.out|apply below_alloc|apply pw_below_drewN|apply below_drew1)⟩
end Go.Proofs.YtlblbefbbibpaaaGreatDoor.J
