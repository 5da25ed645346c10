/- Part. -/
import Derived.Test.YtlblbefbbibpaaaGreatDoorQAM
set_option linter.unusedVariables false
set_option linter.unusedSimpArgs false
set_option maxHeartbeats 8000000
set_option maxRecDepth 100000
namespace Go.Proofs.YtlblbefbbibpaaaGreatDoor.J
open Go.RowKit Zw Zw.PrintWords Zw.PrintLast Zw.PrintMore PAM
theorem own_strR {W w0:World} {v:Value} {os:List Int} (h:(Runes w0 v os).P W):∀ {a:Act} {o:Oper} {x:Operand},o.op= .convert 192 9 x→a.eval x=v→(execOp a.eval o).run Tryz.prog W= .ok (.value (.string (runesBytes os))) W:=by
 have h':Kd.R kI32 21 W w0.heap.size (fun _=>True) v os:=h
 obtain ⟨A,c,e,hl,hC⟩:=Kd.R_reads h'
 obtain ⟨_,inner,⟨_,ho⟩,_⟩:=h'
 rcases ho with ⟨rfl,e0⟩|⟨g,cap,cur,rfl,hg,hh,r⟩
 ·obtain rfl:=List.eq_nil_of_length_eq_zero e0
  intro a o x ho hx
  have h1:=run_convert_runes_nil (P:=Tryz.prog) W 192 9 21 0 0 Tryz.underlying192 Tryz.underlying21 Tryz.underlying9
  unfold execOp
  rw [ho]
  simp only [hx]
  first|(rw [h1];rfl)|(simp [Sem.run_bind,h1,Result.andThen,Sem.run_pure];done)|(simp [Sem.run_bind,h1,Result.andThen,Sem.run_pure];rfl)
 ·cases e
  intro a o x ho hx
  refine conv_runes ho hx os rfl (fun j hj=> ?_)
  obtain ⟨ad2,e,hc⟩:=Kd.at_int (show Kd.C (Kd.int .i32) W (some ⟨g,0,none⟩) os.length os from hC) (j:Int) (by omega) (by omega)
  cases e
  simpa [rd] using hc
theorem conv_atR {ops:Array Oper} {rest:List Oper} {o:Oper} {a:Act} {Q:Exit→Act→World→Prop} {w0 W:World} {l:List Blk} {v:Value} {os:List Int} {x:Operand} (k:Nat) (H:At w0 l W) (hk:l[k]? =some (.f (Runes w0 v os))) (hgd:o.guard=none) (ho:o.op= .convert 192 9 x) (hx:a.eval x=v)
  (h:wpList Tryz.prog ops Q rest (a.put o.dst (.string (runesBytes os))) W):wpList Tryz.prog ops Q (o::rest) a W:=
 Kd.event_run hgd (own_strR (At.front k H hk).k.1 ho hx) h
theorem bv_calls (s:ByteArray) (hs:s.size≤33554432) (w:World):Calls Tryz.prog 126 #[.string s] w fun e w'=>∃ v,e= .returned v∧(∃ r:ByteArray,v= .string r)∧Below w.heap.size w w':=
 (blockValue_ok s hs w).mono fun _ _ ⟨r,h,hb⟩=>⟨_,h,⟨r,rfl⟩,hb⟩
theorem block_ok {w0 w:World} {l:List Blk} {g n c:Nat} {A:Option Addr} {xs:List Int} {i seen line from_:Int} {v:Value} {sure:Bool} {ts:List Tok} (H:At w0 (.b g (row (LXc A n c i v sure seen line from_) 194):: .f (Toks w0 v ts)::l) w) (hn:n=xs.length) (ht:Txt w0 A xs) (hL:xs.length≤8388608) (hg:w0.heap.size≤g) (hl:offF 162 l) (hr:offF 21 l) (h0:0≤i) (h1:i + 3≤xs.length) (hts:ts.length≤i.toNat) (hs0:0≤seen) (hs1:seen≤xs.length):
  Calls Tryz.prog 106 #[.pointer (some ⟨g,0,none⟩)] w fun e w'=>∃ b:Bool,e= .returned (.bool b)∧TokP w0 l g n c A xs i b w':=by
 obtain ⟨Hg_,Ht_,HL_,H0_,H1_,Hts_,Hl_,Hr_,Hs0_,Hs1_⟩:=as10_ hg ht hL h0 h1 hts hl hr hs0 hs1;clear hg ht hL h0 h1 hts hl hr hs0 hs1
 obtain rfl:n=xs.length:=hn
 have Gg:=Hg_
 obtain ⟨ad,rfl,_⟩:=Txt.at Ht_.out H i H0_.out (by have:=H1_.out;omega)
 have HK:=asd_ H
 clear H
 replace Bc:=ce1_ HK 0;replace Bf:=fe1_ HK 0
 go_enter Tryz.func106,Tryz.ntmps106
 have hs:IntKind.i64.wrap (i + 3)=i + 3:=IntWalk.i64_in _ (by have:=H0_.out;have:=H1_.out;have:=HL_.out;omega)
 go_wp2_with (first|((with_reducible refine gate_ (.store 3 (.tmp 17) (.tmp 15)) rfl ?_);refine store_at (t:=3) (p:=17) (g:=g) (i:=1) (v:= .int .i64 (i + 3)) 0 (LXc (some ad) xs.length c (i + 3) v sure seen line from_) rfl at_ rfl Gg.out rfl rfl rfl rfl gs_ ?_;intro ws1 HK1;replace HK:=asd_ HK1;clear HK1;replace Bc:=ce1_ HK 0;replace Bf:=fe1_ HK 0))
 have HK2:Aside0 (At w0 (.f (Runes w0 nilS []):: .b g (row (LXc (some ad) xs.length c (i + 3) v sure seen line from_) 194):: .f (Toks w0 v ts)::l) _):=asd_ (At.fact (Runes w0 nilS []) at_ (Kd.R_nil _ _ _ _ _))
 clear HK;have HK:=HK2;clear HK2
 go_loopg [4] (xs.length - (i + 3)).toNat (fun kq v4 w'=>∃ (q:Int) (os:List Int),Aside0 (i + 3≤q)∧Aside0 (q≤xs.length)∧Aside0 (kq=(xs.length - q).toNat)∧Aside0 (os.length≤q.toNat)∧Aside0 (At w0 (.b g (row (LXc (some ad) xs.length c q v sure seen line from_) 194):: .f (Runes w0 v4 os):: .f (Toks w0 v ts)::l) w'))
 case atStart=>exact ⟨i + 3,[],⟨by omega⟩,⟨by have:=H0_.out;have:=H1_.out;have:=HL_.out;omega⟩,⟨rfl⟩,⟨Nat.zero_le _⟩,⟨At.front 1 at_ rfl⟩⟩
 case round=>
  clear HK
  obtain ⟨q,os,Hiq,Hql,Hk,Hos,HK⟩:=hrel
  replace Bc:=ce1_ HK 0;replace Bf:=fe1_ HK 0
  by_cases hlt:q < xs.length
  case neg=>
   have hd:decide (q < (xs.length:Int))=false:=decide_eq_false hlt;clear hlt
   go_wp2_with fail
   go_quiet (fail)
   go_wp2_with fail
   go_ret
   exact ⟨false,rfl,q,sure,ts,⟨v,seen,line,from_,Hs0_.out,Hs1_.out,At.cut1 at_⟩,fun h=>by cases h⟩
  case pos=>
   have hd:decide (q < (xs.length:Int))=true:=decide_eq_true hlt;have Hlt:=asd_ hlt;clear hlt
   obtain ⟨ad2,e2,hcell⟩:=Txt.at Ht_.out HK.out q (by have:=H0_.out;have:=Hiq.out;omega) Hlt.out;cases e2
   generalize xs.getD q.toNat 0=r at hcell
   have hs_1:IntKind.i64.wrap (q + 1)=q + 1:=IntWalk.i64_in _ (by have:=H0_.out;have:=H1_.out;have:=HL_.out;have:=Hiq.out;have:=Hlt.out;omega)
   have hs_3:IntKind.i64.wrap (q + 3)=q + 3:=IntWalk.i64_in _ (by have:=H0_.out;have:=H1_.out;have:=HL_.out;have:=Hiq.out;have:=Hlt.out;omega)
   have hs_4:IntKind.i64.wrap (q + 4)=q + 4:=IntWalk.i64_in _ (by have:=H0_.out;have:=H1_.out;have:=HL_.out;have:=Hiq.out;have:=Hlt.out;omega)
   have p0:(0:Int)≤q:=by have:=H0_.out;have:=Hiq.out;omega
   have p1:q < (xs.length:Int):=Hlt.out
   obtain ⟨r1,hr1⟩:∃ r,pk xs (q + 1)=r:=⟨_,rfl⟩
   have hp1:∀ W,At w0 (.b g (row (LXc (some ad) xs.length c q v sure seen line from_) 194):: .f (Runes w0 u4 os):: .f (Toks w0 v ts)::l) W→Calls Tryz.prog 104 #[.pointer (some ⟨g,0,none⟩),.int .i64 1] W fun e w'=>e= .returned (.int .i32 r1)∧Below W.heap.size W w':=fun W hW=>by rw [← hr1];exact peek_ok 1 hW rfl Ht_.out HL_.out (by have:=H0_.out;have:=H1_.out;have:=HL_.out;have:=Hiq.out;have:=Hlt.out;omega) (by have:=H0_.out;have:=H1_.out;have:=HL_.out;have:=Hiq.out;have:=Hlt.out;omega) (by omega) (by omega)
   obtain ⟨Hr1,Hp1⟩:=as2_ hr1 hp1;clear hr1 hp1
   obtain ⟨r2,hr2⟩:∃ r,pk xs (q + 2)=r:=⟨_,rfl⟩
   have hp2:∀ W,At w0 (.b g (row (LXc (some ad) xs.length c q v sure seen line from_) 194):: .f (Runes w0 u4 os):: .f (Toks w0 v ts)::l) W→Calls Tryz.prog 104 #[.pointer (some ⟨g,0,none⟩),.int .i64 2] W fun e w'=>e= .returned (.int .i32 r2)∧Below W.heap.size W w':=fun W hW=>by rw [← hr2];exact peek_ok 2 hW rfl Ht_.out HL_.out (by have:=H0_.out;have:=H1_.out;have:=HL_.out;have:=Hiq.out;have:=Hlt.out;omega) (by have:=H0_.out;have:=H1_.out;have:=HL_.out;have:=Hiq.out;have:=Hlt.out;omega) (by omega) (by omega)
   obtain ⟨Hr2,Hp2⟩:=as2_ hr2 hp2;clear hr2 hp2
   obtain ⟨r3,hr3⟩:∃ r,pk xs (q + 3)=r:=⟨_,rfl⟩
   have hp3:∀ W,At w0 (.b g (row (LXc (some ad) xs.length c q v sure seen line from_) 194):: .f (Runes w0 u4 os):: .f (Toks w0 v ts)::l) W→Calls Tryz.prog 104 #[.pointer (some ⟨g,0,none⟩),.int .i64 3] W fun e w'=>e= .returned (.int .i32 r3)∧Below W.heap.size W w':=fun W hW=>by rw [← hr3];exact peek_ok 3 hW rfl Ht_.out HL_.out (by have:=H0_.out;have:=H1_.out;have:=HL_.out;have:=Hiq.out;have:=Hlt.out;omega) (by have:=H0_.out;have:=H1_.out;have:=HL_.out;have:=Hiq.out;have:=Hlt.out;omega) (by omega) (by omega)
   obtain ⟨Hr3,Hp3⟩:=as2_ hr3 hp3;clear hr3 hp3
   obtain ⟨bs,hbs⟩:=isSource_some r;have Hbs:=asd_ hbs;clear hbs
   by_cases h_34:r=34
   case neg=>
    have f_34:(r == 34)=false:=beq_eq_false_iff_ne.2 h_34;clear h_34
    by_cases h_92:r=92
    case neg=>
     have f_92:(r == 92)=false:=beq_eq_false_iff_ne.2 h_92;clear h_92
     cases bs
     case false=>
      go_wp2_with fail
      go_quiet (fail)
      go_wp2_with fail
      go_quiet (fail)
      go_wp2_with (first|((with_reducible refine gd_ 123 ?_);refine cl_ #[.int .i32 r] (.bool false) Tryz.func101 ((spec_IsSource.calls r false _ Hbs.out).mono (fun _ _ h=>⟨h.1,h.2.below⟩)) ?_;intro wc123 HK1;replace HK:=asd_ HK1;clear HK1;replace Bc:=ce1_ HK 0;replace Bf:=fe1_ HK 0))
      go_ret
      exact ⟨false,rfl,q,sure,ts,⟨v,seen,line,from_,Hs0_.out,Hs1_.out,At.cut1 at_⟩,fun h=>by cases h⟩
     case true=>
      go_wp2_with fail
      go_quiet (fail)
      go_wp2_with fail
      go_quiet (fail)
      go_wp2_with (first|((with_reducible refine gd_ 52 ?_);refine nw_ (row #[.int .i32 r] 21) (fun b=> .slice (some ⟨b,0,none⟩) 1 1) ?_;clear HK;intro gr wb52 HK Ggr;replace Bc:=ce1_ HK 1;replace Bf:=fe1_ HK 1)|((with_reducible refine gate_builtin (b:= .append) (xs:=#[.tmp 50,.tmp 52]) rfl ?_);at_builtin;refine appendk_at (d:=kI32) (p:=r) (xs:=os) (g:=gr) (kc:=#[.int .i32 r]) (t:=192) (s:= .tmp 50) (x:= .tmp 52) (fun _=>rfl) (At.front 1 (At.front 2 HK.out rfl) rfl) ⟨by decide,rows_stays 21 (by simp [kTok]),Hr_.out⟩ rfl rfl Tryz.underlying192 info21 rfl (by decide) rfl (by decide) rfl rfl (by have:=Hos.out;have:=HL_.out;have:=Hlt.out;omega) ?_;intro v53 wa53 HK1;replace HK:=asd_ HK1;clear HK1;replace Bc:=ce1_ HK 1;replace Bf:=fe1_ HK 1)|((with_reducible refine gd_ 123 ?_);refine cl_ #[.int .i32 r] (.bool true) Tryz.func101 ((spec_IsSource.calls r true _ Hbs.out).mono (fun _ _ h=>⟨h.1,h.2.below⟩)) ?_;intro wc123 HK1;replace HK:=asd_ HK1;clear HK1;replace Bc:=ce1_ HK 0;replace Bf:=fe1_ HK 0)|((with_reducible refine gate_ (.store 3 (.tmp 60) (.tmp 58)) rfl ?_);refine store_at (t:=3) (p:=60) (g:=g) (i:=1) (v:= .int .i64 (q + 1)) 1 (LXc (some ad) xs.length c (q + 1) v sure seen line from_) rfl at_ rfl Gg.out rfl rfl rfl rfl gs_ ?_;intro ws2 HK1;replace HK:=asd_ HK1;clear HK1;replace Bc:=ce1_ HK 1;replace Bf:=fe1_ HK 1))
      go_roundg (xs.length - (q + 1)).toNat
      case measure=>have:=Hk.out;have:=Hlt.out;have:=p1;omega
      case rel=>exact ⟨q + 1,os ++ [r],⟨by have:=Hiq.out;omega⟩,⟨by have:=Hlt.out;omega⟩,⟨rfl⟩,⟨by have:=Hos.out;have:=H0_.out;have:=Hiq.out;simp;omega⟩,⟨At.front 1 at_ rfl⟩⟩
    case pos=>
     have f_92:(r == 92)=true:=beq_iff_eq.2 h_92;have Fh_92:=asd_ h_92;clear h_92
     by_cases h1_34:r1=34
     case neg=>
      have f1_34:(r1 == 34)=false:=beq_eq_false_iff_ne.2 h1_34;clear h1_34
      cases bs
      case false=>
       go_wp2_with fail
       go_quiet (fail)
       go_wp2_with fail
       go_quiet (fail)
       go_wp2_with (first|((first|((with_reducible refine gd_ 98 ?_);(try (refine gate_guard (by rfl) ?_;dsimp only));refine cl_ #[.pointer (some ⟨g,0,none⟩),.int .i64 1] (.int .i32 r1) Tryz.func104 (Hp1.out _ at_) ?_)|((with_reducible refine gd_ 123 ?_);refine cl_ #[.int .i32 r] (.bool false) Tryz.func101 ((spec_IsSource.calls r false _ Hbs.out).mono (fun _ _ h=>⟨h.1,h.2.below⟩)) ?_));intro wc98 HK1;replace HK:=asd_ HK1;clear HK1;replace Bc:=ce1_ HK 0;replace Bf:=fe1_ HK 0))
       go_ret
       exact ⟨false,rfl,q,sure,ts,⟨v,seen,line,from_,Hs0_.out,Hs1_.out,At.cut1 at_⟩,fun h=>by cases h⟩
      case true=>
       go_wp2_with fail
       go_quiet (fail)
       go_wp2_with fail
       go_quiet (fail)
       go_wp2_with (first|((with_reducible refine gd_ 52 ?_);refine nw_ (row #[.int .i32 r] 21) (fun b=> .slice (some ⟨b,0,none⟩) 1 1) ?_;clear HK;intro gr wb52 HK Ggr;replace Bc:=ce1_ HK 1;replace Bf:=fe1_ HK 1)|((with_reducible refine gate_builtin (b:= .append) (xs:=#[.tmp 50,.tmp 52]) rfl ?_);at_builtin;refine appendk_at (d:=kI32) (p:=r) (xs:=os) (g:=gr) (kc:=#[.int .i32 r]) (t:=192) (s:= .tmp 50) (x:= .tmp 52) (fun _=>rfl) (At.front 1 (At.front 2 HK.out rfl) rfl) ⟨by decide,rows_stays 21 (by simp [kTok]),Hr_.out⟩ rfl rfl Tryz.underlying192 info21 rfl (by decide) rfl (by decide) rfl rfl (by have:=Hos.out;have:=HL_.out;have:=Hlt.out;omega) ?_;intro v53 wa53 HK1;replace HK:=asd_ HK1;clear HK1;replace Bc:=ce1_ HK 1;replace Bf:=fe1_ HK 1)|((first|((with_reducible refine gd_ 98 ?_);(try (refine gate_guard (by rfl) ?_;dsimp only));refine cl_ #[.pointer (some ⟨g,0,none⟩),.int .i64 1] (.int .i32 r1) Tryz.func104 (Hp1.out _ at_) ?_)|((with_reducible refine gd_ 123 ?_);refine cl_ #[.int .i32 r] (.bool true) Tryz.func101 ((spec_IsSource.calls r true _ Hbs.out).mono (fun _ _ h=>⟨h.1,h.2.below⟩)) ?_));intro wc98 HK1;replace HK:=asd_ HK1;clear HK1;replace Bc:=ce1_ HK 0;replace Bf:=fe1_ HK 0)|((with_reducible refine gate_ (.store 3 (.tmp 60) (.tmp 58)) rfl ?_);refine store_at (t:=3) (p:=60) (g:=g) (i:=1) (v:= .int .i64 (q + 1)) 1 (LXc (some ad) xs.length c (q + 1) v sure seen line from_) rfl at_ rfl Gg.out rfl rfl rfl rfl gs_ ?_;intro ws3 HK1;replace HK:=asd_ HK1;clear HK1;replace Bc:=ce1_ HK 1;replace Bf:=fe1_ HK 1))
       go_roundg (xs.length - (q + 1)).toNat
       case measure=>have:=Hk.out;have:=Hlt.out;have:=p1;omega
       case rel=>exact ⟨q + 1,os ++ [r],⟨by have:=Hiq.out;omega⟩,⟨by have:=Hlt.out;omega⟩,⟨rfl⟩,⟨by have:=Hos.out;have:=H0_.out;have:=Hiq.out;simp;omega⟩,⟨At.front 1 at_ rfl⟩⟩
     case pos=>
      have f1_34:(r1 == 34)=true:=beq_iff_eq.2 h1_34;have Fh1_34:=asd_ h1_34;clear h1_34
      by_cases h2_34:r2=34
      case neg=>
       have f2_34:(r2 == 34)=false:=beq_eq_false_iff_ne.2 h2_34;clear h2_34
       cases bs
       case false=>
        go_wp2_with fail
        go_quiet (fail)
        go_wp2_with fail
        go_quiet (fail)
        go_wp2_with (first|((first|((with_reducible refine gd_ 98 ?_);(try (refine gate_guard (by rfl) ?_;dsimp only));refine cl_ #[.pointer (some ⟨g,0,none⟩),.int .i64 1] (.int .i32 r1) Tryz.func104 (Hp1.out _ at_) ?_)|((with_reducible refine gd_ 103 ?_);(try (refine gate_guard (by rfl) ?_;dsimp only));refine cl_ #[.pointer (some ⟨g,0,none⟩),.int .i64 2] (.int .i32 r2) Tryz.func104 (Hp2.out _ at_) ?_)|((with_reducible refine gd_ 123 ?_);refine cl_ #[.int .i32 r] (.bool false) Tryz.func101 ((spec_IsSource.calls r false _ Hbs.out).mono (fun _ _ h=>⟨h.1,h.2.below⟩)) ?_));intro wc98 HK1;replace HK:=asd_ HK1;clear HK1;replace Bc:=ce1_ HK 0;replace Bf:=fe1_ HK 0))
        go_ret
        exact ⟨false,rfl,q,sure,ts,⟨v,seen,line,from_,Hs0_.out,Hs1_.out,At.cut1 at_⟩,fun h=>by cases h⟩
       case true=>
        go_wp2_with fail
        go_quiet (fail)
        go_wp2_with fail
        go_quiet (fail)
        go_wp2_with (first|((with_reducible refine gd_ 52 ?_);refine nw_ (row #[.int .i32 r] 21) (fun b=> .slice (some ⟨b,0,none⟩) 1 1) ?_;clear HK;intro gr wb52 HK Ggr;replace Bc:=ce1_ HK 1;replace Bf:=fe1_ HK 1)|((with_reducible refine gate_builtin (b:= .append) (xs:=#[.tmp 50,.tmp 52]) rfl ?_);at_builtin;refine appendk_at (d:=kI32) (p:=r) (xs:=os) (g:=gr) (kc:=#[.int .i32 r]) (t:=192) (s:= .tmp 50) (x:= .tmp 52) (fun _=>rfl) (At.front 1 (At.front 2 HK.out rfl) rfl) ⟨by decide,rows_stays 21 (by simp [kTok]),Hr_.out⟩ rfl rfl Tryz.underlying192 info21 rfl (by decide) rfl (by decide) rfl rfl (by have:=Hos.out;have:=HL_.out;have:=Hlt.out;omega) ?_;intro v53 wa53 HK1;replace HK:=asd_ HK1;clear HK1;replace Bc:=ce1_ HK 1;replace Bf:=fe1_ HK 1)|((first|((with_reducible refine gd_ 98 ?_);(try (refine gate_guard (by rfl) ?_;dsimp only));refine cl_ #[.pointer (some ⟨g,0,none⟩),.int .i64 1] (.int .i32 r1) Tryz.func104 (Hp1.out _ at_) ?_)|((with_reducible refine gd_ 103 ?_);(try (refine gate_guard (by rfl) ?_;dsimp only));refine cl_ #[.pointer (some ⟨g,0,none⟩),.int .i64 2] (.int .i32 r2) Tryz.func104 (Hp2.out _ at_) ?_)|((with_reducible refine gd_ 123 ?_);refine cl_ #[.int .i32 r] (.bool true) Tryz.func101 ((spec_IsSource.calls r true _ Hbs.out).mono (fun _ _ h=>⟨h.1,h.2.below⟩)) ?_));intro wc98 HK1;replace HK:=asd_ HK1;clear HK1;replace Bc:=ce1_ HK 0;replace Bf:=fe1_ HK 0)|((with_reducible refine gate_ (.store 3 (.tmp 60) (.tmp 58)) rfl ?_);refine store_at (t:=3) (p:=60) (g:=g) (i:=1) (v:= .int .i64 (q + 1)) 1 (LXc (some ad) xs.length c (q + 1) v sure seen line from_) rfl at_ rfl Gg.out rfl rfl rfl rfl gs_ ?_;intro ws4 HK1;replace HK:=asd_ HK1;clear HK1;replace Bc:=ce1_ HK 1;replace Bf:=fe1_ HK 1))
        go_roundg (xs.length - (q + 1)).toNat
        case measure=>have:=Hk.out;have:=Hlt.out;have:=p1;omega
        case rel=>exact ⟨q + 1,os ++ [r],⟨by have:=Hiq.out;omega⟩,⟨by have:=Hlt.out;omega⟩,⟨rfl⟩,⟨by have:=Hos.out;have:=H0_.out;have:=Hiq.out;simp;omega⟩,⟨At.front 1 at_ rfl⟩⟩
      case pos=>
       have f2_34:(r2 == 34)=true:=beq_iff_eq.2 h2_34;have Fh2_34:=asd_ h2_34;clear h2_34
       by_cases h3_34:r3=34
       case neg=>
        have f3_34:(r3 == 34)=false:=beq_eq_false_iff_ne.2 h3_34;clear h3_34
        cases bs
        case false=>
         go_wp2_with fail
         go_quiet (fail)
         go_wp2_with fail
         go_quiet (fail)
         go_wp2_with (first|((first|((with_reducible refine gd_ 98 ?_);(try (refine gate_guard (by rfl) ?_;dsimp only));refine cl_ #[.pointer (some ⟨g,0,none⟩),.int .i64 1] (.int .i32 r1) Tryz.func104 (Hp1.out _ at_) ?_)|((with_reducible refine gd_ 103 ?_);(try (refine gate_guard (by rfl) ?_;dsimp only));refine cl_ #[.pointer (some ⟨g,0,none⟩),.int .i64 2] (.int .i32 r2) Tryz.func104 (Hp2.out _ at_) ?_)|((with_reducible refine gd_ 108 ?_);(try (refine gate_guard (by rfl) ?_;dsimp only));refine cl_ #[.pointer (some ⟨g,0,none⟩),.int .i64 3] (.int .i32 r3) Tryz.func104 (Hp3.out _ at_) ?_)|((with_reducible refine gd_ 123 ?_);refine cl_ #[.int .i32 r] (.bool false) Tryz.func101 ((spec_IsSource.calls r false _ Hbs.out).mono (fun _ _ h=>⟨h.1,h.2.below⟩)) ?_));intro wc98 HK1;replace HK:=asd_ HK1;clear HK1;replace Bc:=ce1_ HK 0;replace Bf:=fe1_ HK 0))
         go_ret
         exact ⟨false,rfl,q,sure,ts,⟨v,seen,line,from_,Hs0_.out,Hs1_.out,At.cut1 at_⟩,fun h=>by cases h⟩
        case true=>
         go_wp2_with fail
         go_quiet (fail)
         go_wp2_with fail
         go_quiet (fail)
         go_wp2_with (first|((with_reducible refine gd_ 52 ?_);refine nw_ (row #[.int .i32 r] 21) (fun b=> .slice (some ⟨b,0,none⟩) 1 1) ?_;clear HK;intro gr wb52 HK Ggr;replace Bc:=ce1_ HK 1;replace Bf:=fe1_ HK 1)|((with_reducible refine gate_builtin (b:= .append) (xs:=#[.tmp 50,.tmp 52]) rfl ?_);at_builtin;refine appendk_at (d:=kI32) (p:=r) (xs:=os) (g:=gr) (kc:=#[.int .i32 r]) (t:=192) (s:= .tmp 50) (x:= .tmp 52) (fun _=>rfl) (At.front 1 (At.front 2 HK.out rfl) rfl) ⟨by decide,rows_stays 21 (by simp [kTok]),Hr_.out⟩ rfl rfl Tryz.underlying192 info21 rfl (by decide) rfl (by decide) rfl rfl (by have:=Hos.out;have:=HL_.out;have:=Hlt.out;omega) ?_;intro v53 wa53 HK1;replace HK:=asd_ HK1;clear HK1;replace Bc:=ce1_ HK 1;replace Bf:=fe1_ HK 1)|((first|((with_reducible refine gd_ 98 ?_);(try (refine gate_guard (by rfl) ?_;dsimp only));refine cl_ #[.pointer (some ⟨g,0,none⟩),.int .i64 1] (.int .i32 r1) Tryz.func104 (Hp1.out _ at_) ?_)|((with_reducible refine gd_ 103 ?_);(try (refine gate_guard (by rfl) ?_;dsimp only));refine cl_ #[.pointer (some ⟨g,0,none⟩),.int .i64 2] (.int .i32 r2) Tryz.func104 (Hp2.out _ at_) ?_)|((with_reducible refine gd_ 108 ?_);(try (refine gate_guard (by rfl) ?_;dsimp only));refine cl_ #[.pointer (some ⟨g,0,none⟩),.int .i64 3] (.int .i32 r3) Tryz.func104 (Hp3.out _ at_) ?_)|((with_reducible refine gd_ 123 ?_);refine cl_ #[.int .i32 r] (.bool true) Tryz.func101 ((spec_IsSource.calls r true _ Hbs.out).mono (fun _ _ h=>⟨h.1,h.2.below⟩)) ?_));intro wc98 HK1;replace HK:=asd_ HK1;clear HK1;replace Bc:=ce1_ HK 0;replace Bf:=fe1_ HK 0)|((with_reducible refine gate_ (.store 3 (.tmp 60) (.tmp 58)) rfl ?_);refine store_at (t:=3) (p:=60) (g:=g) (i:=1) (v:= .int .i64 (q + 1)) 1 (LXc (some ad) xs.length c (q + 1) v sure seen line from_) rfl at_ rfl Gg.out rfl rfl rfl rfl gs_ ?_;intro ws5 HK1;replace HK:=asd_ HK1;clear HK1;replace Bc:=ce1_ HK 1;replace Bf:=fe1_ HK 1))
         go_roundg (xs.length - (q + 1)).toNat
         case measure=>have:=Hk.out;have:=Hlt.out;have:=p1;omega
         case rel=>exact ⟨q + 1,os ++ [r],⟨by have:=Hiq.out;omega⟩,⟨by have:=Hlt.out;omega⟩,⟨rfl⟩,⟨by have:=Hos.out;have:=H0_.out;have:=Hiq.out;simp;omega⟩,⟨At.front 1 at_ rfl⟩⟩
       case pos=>
        have f3_34:(r3 == 34)=true:=beq_iff_eq.2 h3_34;have Fh3_34:=asd_ h3_34;clear h3_34
        have h3in:q + 3 < xs.length:=pk_in (by rw [Hr3.out,Fh3_34.out];omega)
        have H3in:=asd_ h3in;clear h3in
        go_wp2_with fail
        go_quiet (fail)
        go_wp2_with fail
        go_quiet (fail)
        go_wp2_with (first|((with_reducible refine gd_ 112 ?_);refine nw_ (row #[.int .i32 34,.int .i32 34,.int .i32 34] 21) (fun b=> .slice (some ⟨b,0,none⟩) 3 3) ?_;clear HK;intro gr wb112 HK Ggr;replace Bc:=ce1_ HK 1;replace Bf:=fe1_ HK 1)|((with_reducible refine gate_builtin (b:= .append) (xs:=#[.tmp 111,.tmp 112]) rfl ?_);at_builtin;refine appends_at (enc:=Value.int .i32) [34,34,34] (xs:=os) (g:=gr) (kc:=#[.int .i32 34,.int .i32 34,.int .i32 34]) (t:=192) (s:= .tmp 111) (x:= .tmp 112) (At.front 1 (At.front 2 HK.out rfl) rfl) rfl (by decide) ⟨by decide,rows_stays 21 (by simp [kTok]),Hr_.out⟩ rfl rfl Tryz.underlying192 info21 rfl (by decide) rfl rfl (by have:=Hos.out;have:=HL_.out;have:=Hlt.out;simp;omega) ?_;intro v113 wa113 HK1;replace HK:=asd_ HK1;clear HK1;replace Bc:=ce1_ HK 1;replace Bf:=fe1_ HK 1)|((first|((with_reducible refine gd_ 98 ?_);(try (refine gate_guard (by rfl) ?_;dsimp only));refine cl_ #[.pointer (some ⟨g,0,none⟩),.int .i64 1] (.int .i32 r1) Tryz.func104 (Hp1.out _ at_) ?_)|((with_reducible refine gd_ 103 ?_);(try (refine gate_guard (by rfl) ?_;dsimp only));refine cl_ #[.pointer (some ⟨g,0,none⟩),.int .i64 2] (.int .i32 r2) Tryz.func104 (Hp2.out _ at_) ?_)|((with_reducible refine gd_ 108 ?_);(try (refine gate_guard (by rfl) ?_;dsimp only));refine cl_ #[.pointer (some ⟨g,0,none⟩),.int .i64 3] (.int .i32 r3) Tryz.func104 (Hp3.out _ at_) ?_));intro wc98 HK1;replace HK:=asd_ HK1;clear HK1;replace Bc:=ce1_ HK 0;replace Bf:=fe1_ HK 0)|((with_reducible refine gate_ (.store 3 (.tmp 120) (.tmp 118)) rfl ?_);refine store_at (t:=3) (p:=120) (g:=g) (i:=1) (v:= .int .i64 (q + 4)) 1 (LXc (some ad) xs.length c (q + 4) v sure seen line from_) rfl at_ rfl Gg.out rfl rfl rfl rfl gs_ ?_;intro ws6 HK1;replace HK:=asd_ HK1;clear HK1;replace Bc:=ce1_ HK 1;replace Bf:=fe1_ HK 1))
        go_roundg (xs.length - (q + 4)).toNat
        case measure=>have:=Hk.out;have:=Hlt.out;have:=p1;have:=H3in.out;omega
        case rel=>exact ⟨q + 4,os ++ [34,34,34],⟨by have:=Hiq.out;omega⟩,⟨by have:=Hlt.out;have:=H3in.out;omega⟩,⟨rfl⟩,⟨by have:=Hos.out;have:=H0_.out;have:=Hiq.out;simp;omega⟩,⟨At.front 1 at_ rfl⟩⟩
   case pos=>
    have f_34:(r == 34)=true:=beq_iff_eq.2 h_34;have Fh_34:=asd_ h_34;clear h_34
    have f_92:(r == 92)=false:=beq_eq_false_iff_ne.2 (by have:=Fh_34.out;omega)
    by_cases h1_34:r1=34
    case neg=>
     have f1_34:(r1 == 34)=false:=beq_eq_false_iff_ne.2 h1_34;clear h1_34
     cases bs
     case false=>
      go_wp2_with fail
      go_quiet (fail)
      go_wp2_with fail
      go_quiet (fail)
      go_wp2_with (first|((first|((with_reducible refine gd_ 42 ?_);(try (refine gate_guard (by rfl) ?_;dsimp only));refine cl_ #[.pointer (some ⟨g,0,none⟩),.int .i64 1] (.int .i32 r1) Tryz.func104 (Hp1.out _ at_) ?_)|((with_reducible refine gd_ 123 ?_);refine cl_ #[.int .i32 r] (.bool false) Tryz.func101 ((spec_IsSource.calls r false _ Hbs.out).mono (fun _ _ h=>⟨h.1,h.2.below⟩)) ?_));intro wc42 HK1;replace HK:=asd_ HK1;clear HK1;replace Bc:=ce1_ HK 0;replace Bf:=fe1_ HK 0))
      go_ret
      exact ⟨false,rfl,q,sure,ts,⟨v,seen,line,from_,Hs0_.out,Hs1_.out,At.cut1 at_⟩,fun h=>by cases h⟩
     case true=>
      go_wp2_with fail
      go_quiet (fail)
      go_wp2_with fail
      go_quiet (fail)
      go_wp2_with (first|((with_reducible refine gd_ 52 ?_);refine nw_ (row #[.int .i32 r] 21) (fun b=> .slice (some ⟨b,0,none⟩) 1 1) ?_;clear HK;intro gr wb52 HK Ggr;replace Bc:=ce1_ HK 1;replace Bf:=fe1_ HK 1)|((with_reducible refine gate_builtin (b:= .append) (xs:=#[.tmp 50,.tmp 52]) rfl ?_);at_builtin;refine appendk_at (d:=kI32) (p:=r) (xs:=os) (g:=gr) (kc:=#[.int .i32 r]) (t:=192) (s:= .tmp 50) (x:= .tmp 52) (fun _=>rfl) (At.front 1 (At.front 2 HK.out rfl) rfl) ⟨by decide,rows_stays 21 (by simp [kTok]),Hr_.out⟩ rfl rfl Tryz.underlying192 info21 rfl (by decide) rfl (by decide) rfl rfl (by have:=Hos.out;have:=HL_.out;have:=Hlt.out;omega) ?_;intro v53 wa53 HK1;replace HK:=asd_ HK1;clear HK1;replace Bc:=ce1_ HK 1;replace Bf:=fe1_ HK 1)|((first|((with_reducible refine gd_ 42 ?_);(try (refine gate_guard (by rfl) ?_;dsimp only));refine cl_ #[.pointer (some ⟨g,0,none⟩),.int .i64 1] (.int .i32 r1) Tryz.func104 (Hp1.out _ at_) ?_)|((with_reducible refine gd_ 123 ?_);refine cl_ #[.int .i32 r] (.bool true) Tryz.func101 ((spec_IsSource.calls r true _ Hbs.out).mono (fun _ _ h=>⟨h.1,h.2.below⟩)) ?_));intro wc42 HK1;replace HK:=asd_ HK1;clear HK1;replace Bc:=ce1_ HK 0;replace Bf:=fe1_ HK 0)|((with_reducible refine gate_ (.store 3 (.tmp 60) (.tmp 58)) rfl ?_);refine store_at (t:=3) (p:=60) (g:=g) (i:=1) (v:= .int .i64 (q + 1)) 1 (LXc (some ad) xs.length c (q + 1) v sure seen line from_) rfl at_ rfl Gg.out rfl rfl rfl rfl gs_ ?_;intro ws7 HK1;replace HK:=asd_ HK1;clear HK1;replace Bc:=ce1_ HK 1;replace Bf:=fe1_ HK 1))
      go_roundg (xs.length - (q + 1)).toNat
      case measure=>have:=Hk.out;have:=Hlt.out;have:=p1;omega
      case rel=>exact ⟨q + 1,os ++ [r],⟨by have:=Hiq.out;omega⟩,⟨by have:=Hlt.out;omega⟩,⟨rfl⟩,⟨by have:=Hos.out;have:=H0_.out;have:=Hiq.out;simp;omega⟩,⟨At.front 1 at_ rfl⟩⟩
    case pos=>
     have f1_34:(r1 == 34)=true:=beq_iff_eq.2 h1_34;have Fh1_34:=asd_ h1_34;clear h1_34
     by_cases h2_34:r2=34
     case neg=>
      have f2_34:(r2 == 34)=false:=beq_eq_false_iff_ne.2 h2_34;clear h2_34
      cases bs
      case false=>
       go_wp2_with fail
       go_quiet (fail)
       go_wp2_with fail
       go_quiet (fail)
       go_wp2_with (first|((first|((with_reducible refine gd_ 42 ?_);(try (refine gate_guard (by rfl) ?_;dsimp only));refine cl_ #[.pointer (some ⟨g,0,none⟩),.int .i64 1] (.int .i32 r1) Tryz.func104 (Hp1.out _ at_) ?_)|((with_reducible refine gd_ 47 ?_);(try (refine gate_guard (by rfl) ?_;dsimp only));refine cl_ #[.pointer (some ⟨g,0,none⟩),.int .i64 2] (.int .i32 r2) Tryz.func104 (Hp2.out _ at_) ?_)|((with_reducible refine gd_ 123 ?_);refine cl_ #[.int .i32 r] (.bool false) Tryz.func101 ((spec_IsSource.calls r false _ Hbs.out).mono (fun _ _ h=>⟨h.1,h.2.below⟩)) ?_));intro wc42 HK1;replace HK:=asd_ HK1;clear HK1;replace Bc:=ce1_ HK 0;replace Bf:=fe1_ HK 0))
       go_ret
       exact ⟨false,rfl,q,sure,ts,⟨v,seen,line,from_,Hs0_.out,Hs1_.out,At.cut1 at_⟩,fun h=>by cases h⟩
      case true=>
       go_wp2_with fail
       go_quiet (fail)
       go_wp2_with fail
       go_quiet (fail)
       go_wp2_with (first|((with_reducible refine gd_ 52 ?_);refine nw_ (row #[.int .i32 r] 21) (fun b=> .slice (some ⟨b,0,none⟩) 1 1) ?_;clear HK;intro gr wb52 HK Ggr;replace Bc:=ce1_ HK 1;replace Bf:=fe1_ HK 1)|((with_reducible refine gate_builtin (b:= .append) (xs:=#[.tmp 50,.tmp 52]) rfl ?_);at_builtin;refine appendk_at (d:=kI32) (p:=r) (xs:=os) (g:=gr) (kc:=#[.int .i32 r]) (t:=192) (s:= .tmp 50) (x:= .tmp 52) (fun _=>rfl) (At.front 1 (At.front 2 HK.out rfl) rfl) ⟨by decide,rows_stays 21 (by simp [kTok]),Hr_.out⟩ rfl rfl Tryz.underlying192 info21 rfl (by decide) rfl (by decide) rfl rfl (by have:=Hos.out;have:=HL_.out;have:=Hlt.out;omega) ?_;intro v53 wa53 HK1;replace HK:=asd_ HK1;clear HK1;replace Bc:=ce1_ HK 1;replace Bf:=fe1_ HK 1)|((first|((with_reducible refine gd_ 42 ?_);(try (refine gate_guard (by rfl) ?_;dsimp only));refine cl_ #[.pointer (some ⟨g,0,none⟩),.int .i64 1] (.int .i32 r1) Tryz.func104 (Hp1.out _ at_) ?_)|((with_reducible refine gd_ 47 ?_);(try (refine gate_guard (by rfl) ?_;dsimp only));refine cl_ #[.pointer (some ⟨g,0,none⟩),.int .i64 2] (.int .i32 r2) Tryz.func104 (Hp2.out _ at_) ?_)|((with_reducible refine gd_ 123 ?_);refine cl_ #[.int .i32 r] (.bool true) Tryz.func101 ((spec_IsSource.calls r true _ Hbs.out).mono (fun _ _ h=>⟨h.1,h.2.below⟩)) ?_));intro wc42 HK1;replace HK:=asd_ HK1;clear HK1;replace Bc:=ce1_ HK 0;replace Bf:=fe1_ HK 0)|((with_reducible refine gate_ (.store 3 (.tmp 60) (.tmp 58)) rfl ?_);refine store_at (t:=3) (p:=60) (g:=g) (i:=1) (v:= .int .i64 (q + 1)) 1 (LXc (some ad) xs.length c (q + 1) v sure seen line from_) rfl at_ rfl Gg.out rfl rfl rfl rfl gs_ ?_;intro ws8 HK1;replace HK:=asd_ HK1;clear HK1;replace Bc:=ce1_ HK 1;replace Bf:=fe1_ HK 1))
       go_roundg (xs.length - (q + 1)).toNat
       case measure=>have:=Hk.out;have:=Hlt.out;have:=p1;omega
       case rel=>exact ⟨q + 1,os ++ [r],⟨by have:=Hiq.out;omega⟩,⟨by have:=Hlt.out;omega⟩,⟨rfl⟩,⟨by have:=Hos.out;have:=H0_.out;have:=Hiq.out;simp;omega⟩,⟨At.front 1 at_ rfl⟩⟩
     case pos=>
      have f2_34:(r2 == 34)=true:=beq_iff_eq.2 h2_34;have Fh2_34:=asd_ h2_34;clear h2_34
      have h2in:q + 2 < xs.length:=pk_in (by rw [Hr2.out,Fh2_34.out];omega)
      have H2in:=asd_ h2in;clear h2in
      obtain ⟨bl,hbl⟩:=level_calls (runesBytes os) (by have:=runesBytes_size_le os;have:=Hos.out;have:=HL_.out;have:=Hlt.out;omega);have Hbl:=asd_ hbl;clear hbl
      obtain ⟨r0,hr0⟩:∃ r,pk xs (q + 3 + 0)=r:=⟨_,rfl⟩
      have hp0:∀ W,At w0 (.b g (row (LXc (some ad) xs.length c (q + 3) v true seen line from_) 194):: .f (Runes w0 u4 os):: .f (Toks w0 v ts)::l) W→Calls Tryz.prog 104 #[.pointer (some ⟨g,0,none⟩),.int .i64 0] W fun e w'=>e= .returned (.int .i32 r0)∧Below W.heap.size W w':=fun W hW=>by rw [← hr0];exact peek_ok 0 hW rfl Ht_.out HL_.out (by have:=H0_.out;have:=H1_.out;have:=HL_.out;have:=Hiq.out;have:=Hlt.out;omega) (by have:=H2in.out;have:=H0_.out;have:=H1_.out;have:=HL_.out;have:=Hiq.out;have:=Hlt.out;omega) (by omega) (by omega)
      have Hp0:=asd_ hp0;clear hr0 hp0
      cases sure
      case false=>
       go_wp2_with fail
       go_quiet (fail)
       go_wp2_with fail
       go_quiet (fail)
       go_wp2_with (first|((with_reducible refine gd_ 89 ?_);refine conv_atR 1 at_ rfl rfl rfl rfl ?_)|((with_reducible refine gd_ 90 ?_);refine cw_ #[.string (runesBytes os)] Tryz.func126 (bv_calls (runesBytes os) (by have:=runesBytes_size_le os;have:=Hos.out;have:=HL_.out;have:=Hlt.out;omega) _) ?_;intro v90 wc90 HK1 hF hB;obtain ⟨rb,rfl⟩:=hF;replace HK:=asd_ HK1;clear HK1;replace Bc:=ce1_ HK 0;replace Bf:=fe1_ HK 0;skip)|((with_reducible refine gd_ 92 ?_);refine call_to #[.pointer (some ⟨g,0,none⟩),.int .i64 19,.string rb,.int .i64 i] (.tuple #[]) _ rfl Tryz.func102 kr_ rfl rfl ar_ (put_ok (ts:=ts) (xs:=xs) (i:=q + 3) (st:=i) (At.cut1 at_) rfl Ht_.out HL_.out Hg_.out Hl_.out Hs0_.out Hs1_.out H0_.out (by have:=H0_.out;have:=H1_.out;have:=HL_.out;have:=Hts_.out;omega) (by have:=H0_.out;have:=H1_.out;have:=HL_.out;have:=Hts_.out;omega)) ?_;rintro wc92 ⟨v9,tk9,s9,ln9,fr9,h9,h8,HK1⟩;obtain ⟨H9,H8⟩:=as2_ h9 h8;clear h9 h8;replace HK:=asd_ HK1;clear HK1)|((first|((with_reducible refine gd_ 42 ?_);(try (refine gate_guard (by rfl) ?_;dsimp only));refine cl_ #[.pointer (some ⟨g,0,none⟩),.int .i64 1] (.int .i32 r1) Tryz.func104 (Hp1.out _ at_) ?_)|((with_reducible refine gd_ 47 ?_);(try (refine gate_guard (by rfl) ?_;dsimp only));refine cl_ #[.pointer (some ⟨g,0,none⟩),.int .i64 2] (.int .i32 r2) Tryz.func104 (Hp2.out _ at_) ?_)|((with_reducible refine gate_ (.store 3 (.tmp 69) (.tmp 67)) rfl ?_);refine store_at (t:=3) (p:=69) (g:=g) (i:=1) (v:= .int .i64 (q + 3)) 0 (LXc (some ad) xs.length c (q + 3) v false seen line from_) rfl at_ rfl Gg.out rfl rfl rfl rfl gs_ ?_)|((with_reducible refine gate_ (.store 4 (.tmp 86) (.tmp 84)) rfl ?_);refine store_at (t:=4) (p:=86) (g:=g) (i:=3) (v:= .bool false) 0 (LXc (some ad) xs.length c (q + 3) v false seen line from_) rfl at_ rfl Gg.out rfl rfl rfl rfl gs_ ?_));intro wc42 HK1;replace HK:=asd_ HK1;clear HK1;replace Bc:=ce1_ HK 0;replace Bf:=fe1_ HK 0))
       go_ret
       exact ⟨true,rfl,q + 3,_,ts ++ [tk9],⟨_,_,_,_,H9.out,H8.out,at_⟩,fun _=>⟨by have:=Hiq.out;omega,by have:=H2in.out;omega,by have:=Hts_.out;have:=Hiq.out;have:=H0_.out;simp;omega⟩⟩
      case true=>
       cases bl
       case false=>
        go_wp2_with fail
        go_quiet (fail)
        go_wp2_with fail
        go_quiet (fail)
        go_wp2_with (first|((with_reducible refine gd_ 77 ?_);(try (refine gate_guard (by rfl) ?_;dsimp only));refine conv_atR 1 at_ rfl rfl rfl rfl ?_)|((with_reducible refine gd_ 89 ?_);refine conv_atR 1 at_ rfl rfl rfl rfl ?_)|((with_reducible refine gd_ 90 ?_);refine cw_ #[.string (runesBytes os)] Tryz.func126 (bv_calls (runesBytes os) (by have:=runesBytes_size_le os;have:=Hos.out;have:=HL_.out;have:=Hlt.out;omega) _) ?_;intro v90 wc90 HK1 hF hB;obtain ⟨rb,rfl⟩:=hF;replace HK:=asd_ HK1;clear HK1;replace Bc:=ce1_ HK 0;replace Bf:=fe1_ HK 0;skip)|((with_reducible refine gd_ 92 ?_);refine call_to #[.pointer (some ⟨g,0,none⟩),.int .i64 19,.string rb,.int .i64 i] (.tuple #[]) _ rfl Tryz.func102 kr_ rfl rfl ar_ (put_ok (ts:=ts) (xs:=xs) (i:=q + 3) (st:=i) (At.cut1 at_) rfl Ht_.out HL_.out Hg_.out Hl_.out Hs0_.out Hs1_.out H0_.out (by have:=H0_.out;have:=H1_.out;have:=HL_.out;have:=Hts_.out;omega) (by have:=H0_.out;have:=H1_.out;have:=HL_.out;have:=Hts_.out;omega)) ?_;rintro wc92 ⟨v9,tk9,s9,ln9,fr9,h9,h8,HK1⟩;obtain ⟨H9,H8⟩:=as2_ h9 h8;clear h9 h8;replace HK:=asd_ HK1;clear HK1)|((first|((with_reducible refine gd_ 42 ?_);(try (refine gate_guard (by rfl) ?_;dsimp only));refine cl_ #[.pointer (some ⟨g,0,none⟩),.int .i64 1] (.int .i32 r1) Tryz.func104 (Hp1.out _ at_) ?_)|((with_reducible refine gd_ 47 ?_);(try (refine gate_guard (by rfl) ?_;dsimp only));refine cl_ #[.pointer (some ⟨g,0,none⟩),.int .i64 2] (.int .i32 r2) Tryz.func104 (Hp2.out _ at_) ?_)|((with_reducible refine gate_ (.store 3 (.tmp 69) (.tmp 67)) rfl ?_);refine store_at (t:=3) (p:=69) (g:=g) (i:=1) (v:= .int .i64 (q + 3)) 0 (LXc (some ad) xs.length c (q + 3) v true seen line from_) rfl at_ rfl Gg.out rfl rfl rfl rfl gs_ ?_)|((with_reducible refine gd_ 78 ?_);(try (refine gate_guard (by rfl) ?_;dsimp only));refine cl_ #[.string (runesBytes os)] (.bool false) Tryz.func125 (Hbl.out _) ?_)|((with_reducible refine gate_ (.store 4 (.tmp 86) (.tmp 84)) rfl ?_);refine store_at (t:=4) (p:=86) (g:=g) (i:=3) (v:= .bool false) 0 (LXc (some ad) xs.length c (q + 3) v false seen line from_) rfl at_ rfl Gg.out rfl rfl rfl rfl gs_ ?_));intro wc42 HK1;replace HK:=asd_ HK1;clear HK1;replace Bc:=ce1_ HK 0;replace Bf:=fe1_ HK 0))
        go_ret
        exact ⟨true,rfl,q + 3,_,ts ++ [tk9],⟨_,_,_,_,H9.out,H8.out,at_⟩,fun _=>⟨by have:=Hiq.out;omega,by have:=H2in.out;omega,by have:=Hts_.out;have:=Hiq.out;have:=H0_.out;simp;omega⟩⟩
       case true=>
        go_wp2_with fail
        go_quiet (fail)
        go_wp2_with fail
        go_quiet (fail)
        go_wp2_with (first|((with_reducible refine gd_ 77 ?_);(try (refine gate_guard (by rfl) ?_;dsimp only));refine conv_atR 1 at_ rfl rfl rfl rfl ?_)|((with_reducible refine gd_ 89 ?_);refine conv_atR 1 at_ rfl rfl rfl rfl ?_)|((with_reducible refine gd_ 90 ?_);refine cw_ #[.string (runesBytes os)] Tryz.func126 (bv_calls (runesBytes os) (by have:=runesBytes_size_le os;have:=Hos.out;have:=HL_.out;have:=Hlt.out;omega) _) ?_;intro v90 wc90 HK1 hF hB;obtain ⟨rb,rfl⟩:=hF;replace HK:=asd_ HK1;clear HK1;replace Bc:=ce1_ HK 0;replace Bf:=fe1_ HK 0;skip)|((with_reducible refine gd_ 92 ?_);refine call_to #[.pointer (some ⟨g,0,none⟩),.int .i64 19,.string rb,.int .i64 i] (.tuple #[]) _ rfl Tryz.func102 kr_ rfl rfl ar_ (put_ok (ts:=ts) (xs:=xs) (i:=q + 3) (st:=i) (At.cut1 at_) rfl Ht_.out HL_.out Hg_.out Hl_.out Hs0_.out Hs1_.out H0_.out (by have:=H0_.out;have:=H1_.out;have:=HL_.out;have:=Hts_.out;omega) (by have:=H0_.out;have:=H1_.out;have:=HL_.out;have:=Hts_.out;omega)) ?_;rintro wc92 ⟨v9,tk9,s9,ln9,fr9,h9,h8,HK1⟩;obtain ⟨H9,H8⟩:=as2_ h9 h8;clear h9 h8;replace HK:=asd_ HK1;clear HK1)|((first|((with_reducible refine gd_ 42 ?_);(try (refine gate_guard (by rfl) ?_;dsimp only));refine cl_ #[.pointer (some ⟨g,0,none⟩),.int .i64 1] (.int .i32 r1) Tryz.func104 (Hp1.out _ at_) ?_)|((with_reducible refine gd_ 47 ?_);(try (refine gate_guard (by rfl) ?_;dsimp only));refine cl_ #[.pointer (some ⟨g,0,none⟩),.int .i64 2] (.int .i32 r2) Tryz.func104 (Hp2.out _ at_) ?_)|((with_reducible refine gate_ (.store 3 (.tmp 69) (.tmp 67)) rfl ?_);refine store_at (t:=3) (p:=69) (g:=g) (i:=1) (v:= .int .i64 (q + 3)) 0 (LXc (some ad) xs.length c (q + 3) v true seen line from_) rfl at_ rfl Gg.out rfl rfl rfl rfl gs_ ?_)|((with_reducible refine gd_ 78 ?_);(try (refine gate_guard (by rfl) ?_;dsimp only));refine cl_ #[.string (runesBytes os)] (.bool true) Tryz.func125 (Hbl.out _) ?_)|((with_reducible refine gd_ 82 ?_);(try (refine gate_guard (by rfl) ?_;dsimp only));refine cl_ #[.pointer (some ⟨g,0,none⟩),.int .i64 0] (.int .i32 r0) Tryz.func104 (Hp0.out _ at_) ?_)|((with_reducible refine gate_ (.store 4 (.tmp 86) (.tmp 84)) rfl ?_);refine store_at (t:=4) (p:=86) (g:=g) (i:=3) (v:= .bool (r0 != 34)) 0 (LXc (some ad) xs.length c (q + 3) v (r0 != 34) seen line from_) rfl at_ rfl Gg.out rfl rfl rfl rfl gs_ ?_));intro wc42 HK1;replace HK:=asd_ HK1;clear HK1;replace Bc:=ce1_ HK 0;replace Bf:=fe1_ HK 0))
        go_ret
        exact ⟨true,rfl,q + 3,_,ts ++ [tk9],⟨_,_,_,_,H9.out,H8.out,at_⟩,fun _=>⟨by have:=Hiq.out;omega,by have:=H2in.out;omega,by have:=Hts_.out;have:=Hiq.out;have:=H0_.out;simp;omega⟩⟩
end Go.Proofs.YtlblbefbbibpaaaGreatDoor.J
namespace Go.Proofs.YtlblbefbbibpaaaGreatDoor.PAM
open Go.RowKit Zw.PrintWords Zw.PrintLast Zw.PrintMore
attribute [local go_sem] max2_int min2_int max_two min_two max_three min_three max_four min_four
def spec_Mark.f (a0:Int):Option (Int):=if a0=33 then (some 1) else (if a0=36 then (some 2) else (if a0=38 then (some 3) else (if a0=40 then (some 4) else (if a0=41 then (some 5) else (if a0=58 then (some 7) else (if a0=61 then (some 8) else (if a0=64 then (some 9) else (if a0=91 then (some 10) else (if a0=93 then (some 11) else (if a0=123 then (some 12) else (if a0=125 then (some 13) else (if a0=124 then (some 14) else (some 0)))))))))))))
theorem spec_Mark.calls (a0:Int) (r:Int) (w:World) (h:spec_Mark.f a0=some r):
  Calls Tryz.prog 103 #[.int .i32 a0] w fun e w'=>e= .returned (.int .i64 r)∧Drawn0 w w':=by
 have H:(if a0=33 then (some 1) else (if a0=36 then (some 2) else (if a0=38 then (some 3) else (if a0=40 then (some 4) else (if a0=41 then (some 5) else (if a0=58 then (some 7) else (if a0=61 then (some 8) else (if a0=64 then (some 9) else (if a0=91 then (some 10) else (if a0=93 then (some 11) else (if a0=123 then (some 12) else (if a0=125 then (some 13) else (if a0=124 then (some 14) else (some 0))))))))))))))=some r:=h
 clear h
 by_cases c2:a0=33
 ·rw [if_pos c2] at H
  have c2b0:=beq_iff_eq.mpr c2
  have c2b1:=bne_eq_false_iff_eq.mpr c2
  clear c2
  obtain rfl:=Option.some.inj H
  go_enter Tryz.func103,Tryz.ntmps103
  go_wp2
  go_ret
  exact ⟨r1_,dr_⟩
 ·rw [if_neg c2] at H
  have c2b0:=beq_eq_false_iff_ne.mpr c2
  have c2b1:=bne_iff_ne.mpr c2
  by_cases c3:a0=36
  ·rw [if_pos c3] at H
   have c3b0:=beq_iff_eq.mpr c3
   have c3b1:=bne_eq_false_iff_eq.mpr c3
   clear c3
   obtain rfl:=Option.some.inj H
   go_enter Tryz.func103,Tryz.ntmps103
   go_wp2
   go_ret
   exact ⟨r1_,dr_⟩
  ·rw [if_neg c3] at H
   have c3b0:=beq_eq_false_iff_ne.mpr c3
   have c3b1:=bne_iff_ne.mpr c3
   by_cases c4:a0=38
   ·rw [if_pos c4] at H
    have c4b0:=beq_iff_eq.mpr c4
    have c4b1:=bne_eq_false_iff_eq.mpr c4
    clear c4
    obtain rfl:=Option.some.inj H
    go_enter Tryz.func103,Tryz.ntmps103
    go_wp2
    go_ret
    exact ⟨r1_,dr_⟩
   ·rw [if_neg c4] at H
    have c4b0:=beq_eq_false_iff_ne.mpr c4
    have c4b1:=bne_iff_ne.mpr c4
    by_cases c5:a0=40
    ·rw [if_pos c5] at H
     have c5b0:=beq_iff_eq.mpr c5
     have c5b1:=bne_eq_false_iff_eq.mpr c5
     clear c5
     obtain rfl:=Option.some.inj H
     go_enter Tryz.func103,Tryz.ntmps103
     go_wp2
     go_ret
     exact ⟨r1_,dr_⟩
    ·rw [if_neg c5] at H
     have c5b0:=beq_eq_false_iff_ne.mpr c5
     have c5b1:=bne_iff_ne.mpr c5
     by_cases c6:a0=41
     ·rw [if_pos c6] at H
      have c6b0:=beq_iff_eq.mpr c6
      have c6b1:=bne_eq_false_iff_eq.mpr c6
      clear c6
      obtain rfl:=Option.some.inj H
      go_enter Tryz.func103,Tryz.ntmps103
      go_wp2
      go_ret
      exact ⟨r1_,dr_⟩
     ·rw [if_neg c6] at H
      have c6b0:=beq_eq_false_iff_ne.mpr c6
      have c6b1:=bne_iff_ne.mpr c6
      by_cases c7:a0=58
      ·rw [if_pos c7] at H
       have c7b0:=beq_iff_eq.mpr c7
       have c7b1:=bne_eq_false_iff_eq.mpr c7
       clear c7
       obtain rfl:=Option.some.inj H
       go_enter Tryz.func103,Tryz.ntmps103
       go_wp2
       go_ret
       exact ⟨r1_,dr_⟩
      ·rw [if_neg c7] at H
       have c7b0:=beq_eq_false_iff_ne.mpr c7
       have c7b1:=bne_iff_ne.mpr c7
       by_cases c8:a0=61
       ·rw [if_pos c8] at H
        have c8b0:=beq_iff_eq.mpr c8
        have c8b1:=bne_eq_false_iff_eq.mpr c8
        clear c8
        obtain rfl:=Option.some.inj H
        go_enter Tryz.func103,Tryz.ntmps103
        go_wp2
        go_ret
        exact ⟨r1_,dr_⟩
       ·rw [if_neg c8] at H
        have c8b0:=beq_eq_false_iff_ne.mpr c8
        have c8b1:=bne_iff_ne.mpr c8
        by_cases c9:a0=64
        ·rw [if_pos c9] at H
         have c9b0:=beq_iff_eq.mpr c9
         have c9b1:=bne_eq_false_iff_eq.mpr c9
         clear c9
         obtain rfl:=Option.some.inj H
         go_enter Tryz.func103,Tryz.ntmps103
         go_wp2
         go_ret
         exact ⟨r1_,dr_⟩
        ·rw [if_neg c9] at H
         have c9b0:=beq_eq_false_iff_ne.mpr c9
         have c9b1:=bne_iff_ne.mpr c9
         by_cases c10:a0=91
         ·rw [if_pos c10] at H
          have c10b0:=beq_iff_eq.mpr c10
          have c10b1:=bne_eq_false_iff_eq.mpr c10
          clear c10
          obtain rfl:=Option.some.inj H
          go_enter Tryz.func103,Tryz.ntmps103
          go_wp2
          go_ret
          exact ⟨r1_,dr_⟩
         ·rw [if_neg c10] at H
          have c10b0:=beq_eq_false_iff_ne.mpr c10
          have c10b1:=bne_iff_ne.mpr c10
          by_cases c11:a0=93
          ·rw [if_pos c11] at H
           have c11b0:=beq_iff_eq.mpr c11
           have c11b1:=bne_eq_false_iff_eq.mpr c11
           clear c11
           obtain rfl:=Option.some.inj H
           go_enter Tryz.func103,Tryz.ntmps103
           go_wp2
           go_ret
           exact ⟨r1_,dr_⟩
          ·rw [if_neg c11] at H
           have c11b0:=beq_eq_false_iff_ne.mpr c11
           have c11b1:=bne_iff_ne.mpr c11
           by_cases c12:a0=123
           ·rw [if_pos c12] at H
            have c12b0:=beq_iff_eq.mpr c12
            have c12b1:=bne_eq_false_iff_eq.mpr c12
            clear c12
            obtain rfl:=Option.some.inj H
            go_enter Tryz.func103,Tryz.ntmps103
            go_wp2
            go_ret
            exact ⟨r1_,dr_⟩
           ·rw [if_neg c12] at H
            have c12b0:=beq_eq_false_iff_ne.mpr c12
            have c12b1:=bne_iff_ne.mpr c12
            by_cases c13:a0=125
            ·rw [if_pos c13] at H
             have c13b0:=beq_iff_eq.mpr c13
             have c13b1:=bne_eq_false_iff_eq.mpr c13
             clear c13
             obtain rfl:=Option.some.inj H
             go_enter Tryz.func103,Tryz.ntmps103
             go_wp2
             go_ret
             exact ⟨r1_,dr_⟩
            ·rw [if_neg c13] at H
             have c13b0:=beq_eq_false_iff_ne.mpr c13
             have c13b1:=bne_iff_ne.mpr c13
             by_cases c14:a0=124
             ·rw [if_pos c14] at H
              have c14b0:=beq_iff_eq.mpr c14
              have c14b1:=bne_eq_false_iff_eq.mpr c14
              clear c14
              obtain rfl:=Option.some.inj H
              go_enter Tryz.func103,Tryz.ntmps103
              go_wp2
              go_ret
              exact ⟨r1_,dr_⟩
             ·rw [if_neg c14] at H
              have c14b0:=beq_eq_false_iff_ne.mpr c14
              have c14b1:=bne_iff_ne.mpr c14
              obtain rfl:=Option.some.inj H
              go_enter Tryz.func103,Tryz.ntmps103
              go_wp2
              go_ret
              exact ⟨r1_,dr_⟩
end Go.Proofs.YtlblbefbbibpaaaGreatDoor.PAM
