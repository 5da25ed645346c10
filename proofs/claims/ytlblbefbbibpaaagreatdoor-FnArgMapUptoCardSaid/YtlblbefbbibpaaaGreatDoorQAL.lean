/- Part. -/
import Derived.Test.YtlblbefbbibpaaaGreatDoorQAK
set_option linter.unusedVariables false
set_option linter.unusedSimpArgs false
set_option maxHeartbeats 8000000
set_option maxRecDepth 100000
namespace Go.Proofs.YtlblbefbbibpaaaGreatDoor.J
open Go.RowKit Zw Zw.PrintWords Zw.PrintLast Zw.PrintMore PAM
abbrev kI32:Kd Int:=Kd.scalar (Value.int .i32) (fun _=>rfl)
theorem E21:∀ q,q∈21::kI32.E→datT q=true:=by
 intro q hq
 obtain rfl:q=21:=by simpa [kI32,Kd.scalar] using hq
 rfl
theorem info21:(Tryz.prog.info? 21).map (fun i=>(i.zero,i.size,i.bytes))=some (some (.int .i32 0),1,4):=by kernel_rfl
abbrev Runes (w0:World) (v:Value) (os:List Int):Fact:=Fact.rows kI32 21 w0.heap.size E21 v os
theorem own_str {W w0:World} {v:Value} {os:List Int} (h:(Runes w0 v os).P W):∃ s:ByteArray,∀ {a:Act} {o:Oper} {x:Operand},o.op= .convert 192 9 x→a.eval x=v→(execOp a.eval o).run Tryz.prog W= .ok (.value (.string s)) W:=by
 obtain ⟨A,c,rfl,hl,hC⟩:=Kd.R_reads (show Kd.R kI32 21 W _ _ v os from h)
 cases A with
 |none=>
  refine ⟨.empty,fun {a o x} ho hx=> ?_⟩
  have h1:=run_convert_runes_nil (P:=Tryz.prog) W 192 9 21 os.length c Tryz.underlying192 Tryz.underlying21 Tryz.underlying9
  unfold execOp
  rw [ho]
  simp only [hx]
  first|(rw [h1];rfl)|(simp [Sem.run_bind,h1,Result.andThen,Sem.run_pure];done)|(simp [Sem.run_bind,h1,Result.andThen,Sem.run_pure];rfl)
 |some ad=>
  refine ⟨runesBytes os,fun {a o x} ho hx=>conv_runes ho hx os rfl (fun j hj=> ?_)⟩
  obtain ⟨ad2,e,hc⟩:=Kd.at_int (show Kd.C (Kd.int .i32) W (some ad) os.length os from hC) (j:Int) (by omega) (by omega)
  cases e
  simpa [rd] using hc
theorem At.cut1 {w W:World} {b0:Blk} {F:Fact} {l:List Blk} (H:At w (b0:: .f F::l) W):At w (b0::l) W:=(At.front 1 H rfl).drop
theorem isSource_some (r:Int):∃ b,spec_IsSource.f r=some b:=by unfold spec_IsSource.f;(repeat' split)<;>exact ⟨_,rfl⟩
theorem conv_at {ops:Array Oper} {rest:List Oper} {o:Oper} {a:Act} {Q:Exit→Act→World→Prop} {w0 W:World} {l:List Blk} {v:Value} {os:List Int} {x:Operand} (k:Nat) (H:At w0 l W) (hk:l[k]? =some (.f (Runes w0 v os))) (hgd:o.guard=none) (ho:o.op= .convert 192 9 x) (hx:a.eval x=v)
  (h:∀ s:ByteArray,wpList Tryz.prog ops Q rest (a.put o.dst (.string s)) W):wpList Tryz.prog ops Q (o::rest) a W:=by
 obtain ⟨s,hs⟩:=own_str (At.front k H hk).k.1
 exact Kd.event_run hgd (hs ho hx) (h s)
theorem quoted_ok {w0 w:World} {l:List Blk} {g n c:Nat} {A:Option Addr} {xs:List Int} {i seen line from_:Int} {v:Value} {sure:Bool} {ts:List Tok} (H:At w0 (.b g (row (LXc A n c i v sure seen line from_) 194):: .f (Toks w0 v ts)::l) w) (hn:n=xs.length) (ht:Txt w0 A xs) (hL:xs.length≤8388608) (hg:w0.heap.size≤g) (hl:offF 162 l) (hr:offF 21 l) (h0:0≤i) (h1:i < xs.length) (hts:ts.length≤i.toNat) (hs0:0≤seen) (hs1:seen≤xs.length):
  Calls Tryz.prog 107 #[.pointer (some ⟨g,0,none⟩)] w fun e w'=>∃ b:Bool,e= .returned (.bool b)∧TokP w0 l g n c A xs i b w':=by
 obtain ⟨Hg_,Ht_,HL_,H0_,H1_,Hts_,Hl_,Hr_,Hs0_,Hs1_⟩:=as10_ hg ht hL h0 h1 hts hl hr hs0 hs1;clear hg ht hL h0 h1 hts hl hr hs0 hs1
 obtain rfl:n=xs.length:=hn
 have Gg:=Hg_
 obtain ⟨ad,rfl,_⟩:=Txt.at Ht_.out H i H0_.out H1_.out
 have HK:=asd_ H
 clear H
 replace Bc:=ce1_ HK 0;replace Bf:=fe1_ HK 0
 go_enter Tryz.func107,Tryz.ntmps107
 have hs:IntKind.i64.wrap (i + 1)=i + 1:=IntWalk.i64_in _ (by have:=H0_.out;have:=H1_.out;have:=HL_.out;omega)
 go_wp2_with (first|((with_reducible refine gate_ (.store 3 (.tmp 18) (.tmp 16)) rfl ?_);refine store_at (t:=3) (p:=18) (g:=g) (i:=1) (v:= .int .i64 (i + 1)) 0 (LXc (some ad) xs.length c (i + 1) v sure seen line from_) rfl at_ rfl Gg.out rfl rfl rfl rfl gs_ ?_;intro ws1 HK1;replace HK:=asd_ HK1;clear HK1;replace Bc:=ce1_ HK 0;replace Bf:=fe1_ HK 0))
 have HK2:Aside0 (At w0 (.f (Runes w0 nilS []):: .b g (row (LXc (some ad) xs.length c (i + 1) v sure seen line from_) 194):: .f (Toks w0 v ts)::l) _):=asd_ (At.fact (Runes w0 nilS []) at_ (Kd.R_nil _ _ _ _ _))
 clear HK;have HK:=HK2;clear HK2
 go_loopg [4] (xs.length - (i + 1)).toNat (fun kq v4 w'=>∃ (q:Int) (os:List Int) (sure:Bool),Aside0 (i < q)∧Aside0 (q≤xs.length)∧Aside0 (kq=(xs.length - q).toNat)∧Aside0 (os.length≤q.toNat)∧Aside0 (At w0 (.b g (row (LXc (some ad) xs.length c q v sure seen line from_) 194):: .f (Runes w0 v4 os):: .f (Toks w0 v ts)::l) w'))
 case atStart=>exact ⟨i + 1,[],sure,⟨by omega⟩,⟨by have:=H0_.out;have:=H1_.out;have:=HL_.out;omega⟩,⟨rfl⟩,⟨Nat.zero_le _⟩,⟨At.front 1 at_ rfl⟩⟩
 case round=>
  clear HK
  obtain ⟨q,os,sure,Hiq,Hql,Hk,Hos,HK⟩:=hrel
  replace Bc:=ce1_ HK 0;replace Bf:=fe1_ HK 0
  by_cases hlt:q < xs.length
  case neg=>
   have hd:decide (q < (xs.length:Int))=false:=decide_eq_false hlt;clear hlt
   go_wp2_with fail
   go_quiet (fail)
   go_wp2_with fail
   go_ret
   exact ⟨false,rfl,q,sure,ts,⟨v,seen,line,from_,Hs0_.out,Hs1_.out,At.cut1 at_⟩,fun h=>by cases h⟩
  case pos=>
   have hd:decide (q < (xs.length:Int))=true:=decide_eq_true hlt;have Hlt:=asd_ hlt;clear hlt
   obtain ⟨ad2,e2,hcell⟩:=Txt.at Ht_.out HK.out q (by have:=H0_.out;have:=Hiq.out;omega) Hlt.out;cases e2
   generalize xs.getD q.toNat 0=r at hcell
   have hs2:IntKind.i64.wrap (q + 1)=q + 1:=IntWalk.i64_in _ (by have:=H0_.out;have:=H1_.out;have:=HL_.out;have:=Hiq.out;have:=Hlt.out;omega)
   have p0:(0:Int)≤q:=by have:=H0_.out;have:=Hiq.out;omega
   have p1:q < (xs.length:Int):=Hlt.out
   by_cases h_34:r=34
   case pos=>
    have f_34:(r == 34)=true:=beq_iff_eq.2 h_34;clear h_34
    go_wp2_with fail
    go_quiet (fail)
    go_wp2_with fail
    go_quiet (fail)
    go_wp2_with (first|((with_reducible refine gd_ 55 ?_);refine conv_at 1 at_ rfl rfl rfl rfl ?_;intro s55)|((with_reducible refine gd_ 57 ?_);refine call_to #[.pointer (some ⟨g,0,none⟩),.int .i64 18,.string s55,.int .i64 i] (.tuple #[]) _ rfl Tryz.func102 kr_ rfl rfl ar_ (put_ok (ts:=ts) (xs:=xs) (i:=q + 1) (st:=i) (At.cut1 at_) rfl Ht_.out HL_.out Hg_.out Hl_.out Hs0_.out Hs1_.out H0_.out (by have:=H0_.out;have:=H1_.out;have:=HL_.out;have:=Hts_.out;omega) (by have:=H0_.out;have:=H1_.out;have:=HL_.out;have:=Hts_.out;omega)) ?_;rintro wc57 ⟨v9,tk9,s9,ln9,fr9,h9,h8,HK1⟩;obtain ⟨H9,H8⟩:=as2_ h9 h8;clear h9 h8;replace HK:=asd_ HK1;clear HK1)|((with_reducible refine gate_ (.store 3 (.tmp 45) (.tmp 43)) rfl ?_);refine store_at (t:=3) (p:=45) (g:=g) (i:=1) (v:= .int .i64 (q + 1)) 0 (LXc (some ad) xs.length c (q + 1) v sure seen line from_) rfl at_ rfl Gg.out rfl rfl rfl rfl gs_ ?_;intro ws2 HK1;replace HK:=asd_ HK1;clear HK1;replace Bc:=ce1_ HK 0;replace Bf:=fe1_ HK 0))
    go_ret
    exact ⟨true,rfl,q + 1,sure,ts ++ [tk9],⟨_,_,_,_,H9.out,H8.out,at_⟩,fun _=>⟨by have:=Hiq.out;omega,by have:=Hlt.out;omega,by have:=Hts_.out;have:=Hiq.out;have:=H0_.out;simp;omega⟩⟩
   case neg=>
    have f_34:(r == 34)=false:=beq_eq_false_iff_ne.2 h_34;clear h_34
    by_cases h_10:r=10
    case pos=>
     have f_10:(r == 10)=true:=beq_iff_eq.2 h_10;clear h_10
     go_wp2_with fail
     go_quiet (fail)
     go_wp2_with fail
     go_quiet (fail)
     go_wp2_with (first|((with_reducible refine gate_ (.store 3 (.tmp 45) (.tmp 43)) rfl ?_);refine store_at (t:=3) (p:=45) (g:=g) (i:=1) (v:= .int .i64 (q + 1)) 0 (LXc (some ad) xs.length c (q + 1) v sure seen line from_) rfl at_ rfl Gg.out rfl rfl rfl rfl gs_ ?_;intro ws3 HK1;replace HK:=asd_ HK1;clear HK1;replace Bc:=ce1_ HK 0;replace Bf:=fe1_ HK 0))
     go_ret
     exact ⟨false,rfl,(q + 1),sure,ts,⟨v,seen,line,from_,Hs0_.out,Hs1_.out,At.cut1 at_⟩,fun h=>by cases h⟩
    case neg=>
     have f_10:(r == 10)=false:=beq_eq_false_iff_ne.2 h_10;clear h_10
     by_cases h_13:r=13
     case pos=>
      have f_13:(r == 13)=true:=beq_iff_eq.2 h_13;clear h_13
      go_wp2_with fail
      go_quiet (fail)
      go_wp2_with fail
      go_quiet (fail)
      go_wp2_with (first|((with_reducible refine gate_ (.store 3 (.tmp 45) (.tmp 43)) rfl ?_);refine store_at (t:=3) (p:=45) (g:=g) (i:=1) (v:= .int .i64 (q + 1)) 0 (LXc (some ad) xs.length c (q + 1) v sure seen line from_) rfl at_ rfl Gg.out rfl rfl rfl rfl gs_ ?_;intro ws4 HK1;replace HK:=asd_ HK1;clear HK1;replace Bc:=ce1_ HK 0;replace Bf:=fe1_ HK 0))
      go_ret
      exact ⟨false,rfl,(q + 1),sure,ts,⟨v,seen,line,from_,Hs0_.out,Hs1_.out,At.cut1 at_⟩,fun h=>by cases h⟩
     case neg=>
      have f_13:(r == 13)=false:=beq_eq_false_iff_ne.2 h_13;clear h_13
      obtain ⟨bs,hbs⟩:=isSource_some r;have Hbs:=asd_ hbs;clear hbs
      cases bs
      case false=>
       go_wp2_with fail
       go_quiet (fail)
       go_wp2_with fail
       go_quiet (fail)
       go_wp2_with (first|((first|((with_reducible refine gate_ (.store 3 (.tmp 45) (.tmp 43)) rfl ?_);refine store_at (t:=3) (p:=45) (g:=g) (i:=1) (v:= .int .i64 (q + 1)) 0 (LXc (some ad) xs.length c (q + 1) v sure seen line from_) rfl at_ rfl Gg.out rfl rfl rfl rfl gs_ ?_)|((with_reducible refine gd_ 67 ?_);(try (refine gate_guard (by rfl) ?_;dsimp only));refine cl_ #[.int .i32 r] (.bool false) Tryz.func101 ((spec_IsSource.calls r false _ Hbs.out).mono (fun _ _ h=>⟨h.1,h.2.below⟩)) ?_));intro ws5 HK1;replace HK:=asd_ HK1;clear HK1;replace Bc:=ce1_ HK 0;replace Bf:=fe1_ HK 0))
       go_ret
       exact ⟨false,rfl,(q + 1),sure,ts,⟨v,seen,line,from_,Hs0_.out,Hs1_.out,At.cut1 at_⟩,fun h=>by cases h⟩
      case true=>
       by_cases h_92:r=92
       case neg=>
        have f_92:(r == 92)=false:=beq_eq_false_iff_ne.2 h_92;clear h_92
        go_wp2_with fail
        go_quiet (fail)
        go_wp2_with fail
        go_quiet (fail)
        go_wp2_with (first|((with_reducible refine gd_ 48 ?_);refine nw_ (row #[.int .i32 r] 21) (fun b=> .slice (some ⟨b,0,none⟩) 1 1) ?_;clear HK;intro gr wb48 HK Ggr;replace Bc:=ce1_ HK 1;replace Bf:=fe1_ HK 1)|((with_reducible refine gate_builtin (b:= .append) (xs:=#[.tmp 46,.tmp 48]) rfl ?_);at_builtin;refine appendk_at (d:=kI32) (p:=r) (xs:=os) (g:=gr) (kc:=#[.int .i32 r]) (t:=192) (s:= .tmp 46) (x:= .tmp 48) (fun _=>rfl) (At.front 1 (At.front 2 HK.out rfl) rfl) ⟨by decide,rows_stays 21 (by simp [kTok]),Hr_.out⟩ rfl rfl Tryz.underlying192 info21 rfl (by decide) rfl (by decide) rfl rfl (by have:=Hos.out;have:=HL_.out;have:=Hlt.out;omega) ?_;intro v49 wa49 HK1;replace HK:=asd_ HK1;clear HK1;replace Bc:=ce1_ HK 1;replace Bf:=fe1_ HK 1)|((first|((with_reducible refine gate_ (.store 3 (.tmp 45) (.tmp 43)) rfl ?_);refine store_at (t:=3) (p:=45) (g:=g) (i:=1) (v:= .int .i64 (q + 1)) 0 (LXc (some ad) xs.length c (q + 1) v sure seen line from_) rfl at_ rfl Gg.out rfl rfl rfl rfl gs_ ?_)|((with_reducible refine gd_ 67 ?_);(try (refine gate_guard (by rfl) ?_;dsimp only));refine cl_ #[.int .i32 r] (.bool true) Tryz.func101 ((spec_IsSource.calls r true _ Hbs.out).mono (fun _ _ h=>⟨h.1,h.2.below⟩)) ?_));intro ws6 HK1;replace HK:=asd_ HK1;clear HK1;replace Bc:=ce1_ HK 0;replace Bf:=fe1_ HK 0))
        go_roundg (xs.length - (q + 1)).toNat
        case measure=>have:=Hk.out;have:=Hlt.out;omega
        case rel=>exact ⟨q + 1,os ++ [r],sure,⟨by have:=Hiq.out;omega⟩,⟨by have:=Hlt.out;omega⟩,⟨rfl⟩,⟨by have:=Hos.out;have:=H0_.out;have:=Hiq.out;simp;omega⟩,⟨At.front 1 at_ rfl⟩⟩
       case pos=>
        have f_92:(r == 92)=true:=beq_iff_eq.2 h_92;clear h_92
        go_wp2_with fail
        go_quiet (fail)
        go_wp2_with fail
        go_quiet (fail)
        go_wp2_with (first|((first|((with_reducible refine gate_ (.store 3 (.tmp 45) (.tmp 43)) rfl ?_);refine store_at (t:=3) (p:=45) (g:=g) (i:=1) (v:= .int .i64 (q + 1)) 0 (LXc (some ad) xs.length c (q + 1) v sure seen line from_) rfl at_ rfl Gg.out rfl rfl rfl rfl gs_ ?_)|((with_reducible refine gd_ 67 ?_);(try (refine gate_guard (by rfl) ?_;dsimp only));refine cl_ #[.int .i32 r] (.bool true) Tryz.func101 ((spec_IsSource.calls r true _ Hbs.out).mono (fun _ _ h=>⟨h.1,h.2.below⟩)) ?_));intro ws7 HK1;replace HK:=asd_ HK1;clear HK1;replace Bc:=ce1_ HK 0;replace Bf:=fe1_ HK 0))
        refine (escape_ok (i:=q + 1) at_ rfl Ht_.out HL_.out Hg_.out (by have:=H0_.out;have:=H1_.out;have:=HL_.out;have:=Hiq.out;have:=Hlt.out;omega) (by have:=H0_.out;have:=H1_.out;have:=HL_.out;have:=Hiq.out;have:=Hlt.out;omega)).mono ?_
        rintro _ w9 ⟨re,be,qe,sure2,rfl,hbe,HK1⟩
        clear HK;have HK:=asd_ HK1;clear HK1;have Hbe:=asd_ hbe;clear hbe
        replace Bc:=ce1_ HK 0;replace Bf:=fe1_ HK 0
        cases be
        case false=>
         go_wp2_with fail
         go_ret
         exact ⟨false,rfl,qe,sure2,ts,⟨v,seen,line,from_,Hs0_.out,Hs1_.out,At.cut1 at_⟩,fun h=>by cases h⟩
        case true=>
         go_wp2_with (first|((with_reducible refine gd_ 82 ?_);refine nw_ (row #[.int .i32 re] 21) (fun b=> .slice (some ⟨b,0,none⟩) 1 1) ?_;clear HK;intro gr wb82 HK Ggr;replace Bc:=ce1_ HK 1;replace Bf:=fe1_ HK 1)|((with_reducible refine gate_builtin (b:= .append) (xs:=#[.tmp 80,.tmp 82]) rfl ?_);at_builtin;refine appendk_at (d:=kI32) (p:=re) (xs:=os) (g:=gr) (kc:=#[.int .i32 re]) (t:=192) (s:= .tmp 80) (x:= .tmp 82) (fun _=>rfl) (At.front 1 (At.front 2 HK.out rfl) rfl) ⟨by decide,rows_stays 21 (by simp [kTok]),Hr_.out⟩ rfl rfl Tryz.underlying192 info21 rfl (by decide) rfl (by decide) rfl rfl (by have:=Hos.out;have:=HL_.out;have:=Hlt.out;omega) ?_;intro v83 wa83 HK1;replace HK:=asd_ HK1;clear HK1;replace Bc:=ce1_ HK 1;replace Bf:=fe1_ HK 1))
         go_roundg (xs.length - qe).toNat
         case measure=>have:=Hk.out;have:=Hlt.out;have:=(Hbe.out (by trivial)).1;have:=(Hbe.out (by trivial)).2;omega
         case rel=>exact ⟨qe,os ++ [re],sure2,⟨by have:=(Hbe.out (by trivial)).1;have:=Hiq.out;omega⟩,⟨(Hbe.out (by trivial)).2⟩,⟨rfl⟩,⟨by have:=(Hbe.out (by trivial)).1;have:=Hos.out;have:=H0_.out;have:=Hiq.out;simp;omega⟩,⟨At.front 1 at_ rfl⟩⟩
def LinesP (b g n M:Nat) (W:World):Prop:=b≤g∧∃ arr:Array Value,W.heap[g]? =some (row arr 9)∧∀ j:Nat,j < n→∃ s:ByteArray,arr[j]? =some (.string s)∧s.size≤M
def Fact.lines (b g n M:Nat):Fact where
 P W:=LinesP b g n M W
 below:=by
  rintro W W1 ⟨h0,arr,h,h2⟩ hb
  exact ⟨h0,arr,by rw [hb.block g (Array.getElem?_eq_some_iff.1 h).1];exact h,h2⟩
 far:=by
  rintro W W1 g' o ⟨h0,arr,h,h2⟩ hg ht ho
  refine ⟨h0,arr,?_,h2⟩
  rw [ho g]
  ·exact h
  ·rintro rfl
   rw [h] at hg;cases hg
   simp [noData,datT] at ht
theorem LinesP.cell {b g n M:Nat} {W:World} (h:LinesP b g n M W) (i:Int) (h0:0≤i) (h1:i < n):∃ s:ByteArray,W.cell? ⟨g,i.toNat,none⟩=some (.string s)∧s.size≤M:=by
 obtain ⟨_,arr,ha,hs⟩:=h
 obtain ⟨s,e,l⟩:=hs i.toNat (by omega)
 exact ⟨s,(blk_cell ha _).trans e,l⟩
theorem LinesP.frozen {b g n M:Nat} {W:World} (h:LinesP b g n M W) (i:Nat):W.frozen? ⟨g,i,none⟩=false:=by
 obtain ⟨_,arr,ha,_⟩:=h
 exact blk_frozen ha _
theorem lines_put {w W:World} {g n M:Nat} (H:At w [.f (Fact.lines w.heap.size g n M)] W) (i:Nat) (s:ByteArray) (hs:s.size≤M):At w [.f (Fact.lines w.heap.size g n M)] (W.setCell ⟨g,i,none⟩ (.string s)):=by
 obtain ⟨h0,arr,ha,h2⟩:=H.k.1
 refine ⟨below_set H.b h0,⟨⟨h0,_,blk_set ha i (.string s),fun j hj=> ?_⟩,trivial⟩,H.d⟩
 obtain ⟨t,e,l⟩:=h2 j hj
 have hlt:=(Array.getElem?_eq_some_iff.1 e).1
 by_cases hij:i=j
 ·subst hij;exact ⟨s,Array.getElem?_setIfInBounds_self_of_lt hlt,hs⟩
 ·exact ⟨t,by rw [Array.getElem?_setIfInBounds_ne hij];exact e,l⟩
theorem lines_calls (s:ByteArray) (hs:s.size≤1099511627776) (w:World):Calls Tryz.prog 142 #[.string s] w fun e w'=>∃ v,e= .returned v∧(∃ (g n cap:Nat),v= .slice (some ⟨g,0,none⟩) n cap∧1≤n∧n≤s.size + 1∧n≤cap∧cap≤maxLen∧LinesP w.heap.size g n s.size w')∧Below w.heap.size w w':=by
 obtain ⟨k,r,⟨h1,h2,h3⟩,hr⟩:=lines_some s hs
 refine (spec_Lines.calls k s r w hr).mono ?_
 rintro e w' ⟨v,rfl,hR,hB⟩
 refine ⟨v,rfl,?_,hB⟩
 obtain ⟨_,inner,⟨hl,ho⟩,hrow⟩:=hR
 have hpos:0 < r.length:=by cases r with|nil=>exact absurd rfl h1|cons _ _=>simp
 rcases ho with ⟨_,e0⟩|⟨g,cap,cur,rfl,hg,hh,hc1,hc2,hc3,hc4⟩
 ·omega
 ·refine ⟨g,r.length,cap,rfl,hpos,h2,hc1,hc2,hg,cur,hh,fun j hj=> ?_⟩
  refine ⟨r[j],?_,h3 _ (List.getElem_mem hj)⟩
  have hm:=hrow.2 j r[j] (List.getElem?_eq_getElem hj)
  have e1:(inner.drop (j * 1)).take 1=[.string r[j]]:=hm
  have e2:inner[j]? =some (.string r[j]):=by
   have:=congrArg (·[0]?) e1
   simpa [List.getElem?_take,List.getElem?_drop] using this
  rw [← hc4,List.getElem?_take] at e2
  have hsz:Kd.string.sz=1:=rfl
  rw [hsz,Nat.mul_one,if_pos hj] at e2
  simpa using e2
theorem lead_calls (s:ByteArray) (hs:s.size≤1099511627776):∃ r:Int,0≤r∧r≤s.size∧∀ w,Calls Tryz.prog 143 #[.string s] w fun e w'=>e= .returned (.int .i64 r)∧Drawn0 w w':=by
 obtain ⟨k,r,h0,h1,hr⟩:=lead_some s hs
 exact ⟨r,h0,h1,fun w=>spec_leading.calls k s r w hr⟩
end Go.Proofs.YtlblbefbbibpaaaGreatDoor.J
namespace Go.Proofs.YtlblbefbbibpaaaGreatDoor.J
open Go.RowKit Zw Zw.PrintWords Zw.PrintLast Zw.PrintMore PAM
attribute [local go_sem] max2_int min2_int max_two min_two
theorem blockValue_ok (s:ByteArray) (hs:s.size≤33554432) (w:World):
  Calls Tryz.prog 126 #[.string s] w fun e w'=>∃ r:ByteArray,e= .returned (.string r)∧Below w.heap.size w w':=by
 have Hs:=asd_ hs;clear hs
 have HK:=asd_ (At.start w)
 go_enter Tryz.func126,Tryz.ntmps126
 go_wp2_with (first|((with_reducible refine gd_ 14 ?_);refine cw_ #[.string s] Tryz.func142 (lines_calls s (by have:=Hs.out;omega) _) ?_;intro v14 wc14 HK1 hF hB;obtain ⟨g,n,cap,rfl,n1_,n2_,n3_,n4_,h5⟩:=hF;obtain ⟨N1,N2,N3,N4⟩:=as4_ n1_ n2_ n3_ n4_;clear n1_ n2_ n3_ n4_;replace HK1:=At.fact (Fact.lines w.heap.size g n s.size) HK1 h5;clear h5 hB;replace HK:=asd_ HK1;clear HK1;skip;skip))
 go_loopg [4,17] n (fun kq v4 v17 w'=>∃ (cm i:Int),v4= .int .i64 cm∧v17= .int .i64 i∧Aside0 (-1≤cm)∧Aside0 (cm≤s.size)∧Aside0 (0≤i)∧Aside0 (i≤n)∧Aside0 (kq=(n - i).toNat)∧Aside0 (At w [.f (Fact.lines w.heap.size g n s.size)] w'))
 case atStart=>exact ⟨-1,0,rfl,rfl,⟨by omega⟩,⟨by omega⟩,⟨by omega⟩,⟨by omega⟩,⟨by omega⟩,⟨at_⟩⟩
 case round=>
  clear HK
  obtain ⟨cm,i,rfl,rfl,Hc0,Hc1,Hi0,Hi1,Hk,HK⟩:=hrel
  by_cases hlt:i < (n:Int)
  case pos=>
   have hd:decide (i < (n:Int))=true:=decide_eq_true hlt;have Hlt:=asd_ hlt;clear hlt
   obtain ⟨t,hcell,ht⟩:=LinesP.cell (show LinesP _ g n s.size _ from HK.out.k.1) i Hi0.out Hlt.out;have Ht:=asd_ ht;clear ht
   obtain ⟨r,r0,r1,hr⟩:=lead_calls t (by have:=Ht.out;have:=Hs.out;omega);obtain ⟨R0,R1,Hr⟩:=as3_ r0 r1 hr;clear r0 r1 hr
   have hs1:IntKind.i64.wrap (i + 1)=i + 1:=IntWalk.i64_in _ (by have:=Hi0.out;have:=Hlt.out;have:=N1.out;have:=N2.out;have:=N3.out;have:=Hs.out;omega)
   have p0:0≤i:=Hi0.out;have p1:i < (n:Int):=Hlt.out
   by_cases q1:0 < i
   case pos=>
    have fq1:decide (0 < i)=true:=decide_eq_true q1;clear q1
    by_cases q2:r < (t.size:Int)
    case pos=>
     have fq2:decide (r < (t.size:Int))=true:=decide_eq_true q2;clear q2
     by_cases q3:cm < 0
     case pos=>
      have fq3:decide (cm < 0)=true:=decide_eq_true q3;clear q3
      go_wp2_with (first|((with_reducible refine gd_ 23 ?_);refine cl_ #[.string t] (.int .i64 r) Tryz.func143 ((Hr.out _).mono (fun _ _ h=>⟨h.1,h.2.below⟩)) ?_;intro wc23 HK1;replace HK:=asd_ HK1;clear HK1;skip))
      go_roundg (n - (i + 1)).toNat
      case measure=>have:=Hk.out;have:=Hlt.out;have:=Hi0.out;omega
      case rel=>exact ⟨r,i + 1,rfl,rfl,⟨by have:=R0.out;omega⟩,⟨by have:=R1.out;have:=Ht.out;omega⟩,⟨by have:=Hi0.out;omega⟩,⟨by have:=Hlt.out;omega⟩,⟨rfl⟩,⟨at_⟩⟩
     case neg=>
      have fq3:decide (cm < 0)=false:=decide_eq_false q3;clear q3
      by_cases q4:r < cm
      case pos=>
       have fq4:decide (r < cm)=true:=decide_eq_true q4;clear q4
       go_wp2_with (first|((with_reducible refine gd_ 23 ?_);refine cl_ #[.string t] (.int .i64 r) Tryz.func143 ((Hr.out _).mono (fun _ _ h=>⟨h.1,h.2.below⟩)) ?_;intro wc23 HK1;replace HK:=asd_ HK1;clear HK1;skip))
       go_roundg (n - (i + 1)).toNat
       case measure=>have:=Hk.out;have:=Hlt.out;have:=Hi0.out;omega
       case rel=>exact ⟨r,i + 1,rfl,rfl,⟨by have:=R0.out;omega⟩,⟨by have:=R1.out;have:=Ht.out;omega⟩,⟨by have:=Hi0.out;omega⟩,⟨by have:=Hlt.out;omega⟩,⟨rfl⟩,⟨at_⟩⟩
      case neg=>
       have fq4:decide (r < cm)=false:=decide_eq_false q4;clear q4
       go_wp2_with (first|((with_reducible refine gd_ 23 ?_);refine cl_ #[.string t] (.int .i64 r) Tryz.func143 ((Hr.out _).mono (fun _ _ h=>⟨h.1,h.2.below⟩)) ?_;intro wc23 HK1;replace HK:=asd_ HK1;clear HK1;skip))
       go_roundg (n - (i + 1)).toNat
       case measure=>have:=Hk.out;have:=Hlt.out;have:=Hi0.out;omega
       case rel=>exact ⟨cm,i + 1,rfl,rfl,Hc0,Hc1,⟨by have:=Hi0.out;omega⟩,⟨by have:=Hlt.out;omega⟩,⟨rfl⟩,⟨at_⟩⟩
    case neg=>
     have fq2:decide (r < (t.size:Int))=false:=decide_eq_false q2;clear q2
     go_wp2_with (first|((with_reducible refine gd_ 23 ?_);refine cl_ #[.string t] (.int .i64 r) Tryz.func143 ((Hr.out _).mono (fun _ _ h=>⟨h.1,h.2.below⟩)) ?_;intro wc23 HK1;replace HK:=asd_ HK1;clear HK1;skip))
     go_roundg (n - (i + 1)).toNat
     case measure=>have:=Hk.out;have:=Hlt.out;have:=Hi0.out;omega
     case rel=>exact ⟨cm,i + 1,rfl,rfl,Hc0,Hc1,⟨by have:=Hi0.out;omega⟩,⟨by have:=Hlt.out;omega⟩,⟨rfl⟩,⟨at_⟩⟩
   case neg=>
    have fq1:decide (0 < i)=false:=decide_eq_false q1;clear q1
    go_wp2_with (first|((with_reducible refine gd_ 23 ?_);refine cl_ #[.string t] (.int .i64 r) Tryz.func143 ((Hr.out _).mono (fun _ _ h=>⟨h.1,h.2.below⟩)) ?_;intro wc23 HK1;replace HK:=asd_ HK1;clear HK1;skip))
    go_roundg (n - (i + 1)).toNat
    case measure=>have:=Hk.out;have:=Hlt.out;have:=Hi0.out;omega
    case rel=>exact ⟨cm,i + 1,rfl,rfl,Hc0,Hc1,⟨by have:=Hi0.out;omega⟩,⟨by have:=Hlt.out;omega⟩,⟨rfl⟩,⟨at_⟩⟩
  case neg=>
   have hd:decide (i < (n:Int))=false:=decide_eq_false hlt;clear hlt Hi0 Hi1 Hk
   go_wp2_with fail
   go_loopg [45] n (fun kq v45 w'=>∃ (i:Int),v45= .int .i64 i∧Aside0 (0≤i)∧Aside0 (i≤n)∧Aside0 (kq=(n - i).toNat)∧Aside0 (At w [.f (Fact.lines w.heap.size g n s.size)] w'))
   case atStart=>exact ⟨0,rfl,⟨by omega⟩,⟨by omega⟩,⟨by omega⟩,⟨at_⟩⟩
   case round=>
    clear HK
    obtain ⟨i,rfl,Hi0,Hi1,Hk,HK⟩:=hrel
    by_cases hlt:i < (n:Int)
    case pos=>
     have hd:decide (i < (n:Int))=true:=decide_eq_true hlt;have Hlt:=asd_ hlt;clear hlt
     obtain ⟨t,hcell,ht⟩:=LinesP.cell (show LinesP _ g n s.size _ from HK.out.k.1) i Hi0.out Hlt.out;have Ht:=asd_ ht;clear ht
     have hfr:=LinesP.frozen (show LinesP _ g n s.size _ from HK.out.k.1) i.toNat
     have hs1:IntKind.i64.wrap (i + 1)=i + 1:=IntWalk.i64_in _ (by have:=Hi0.out;have:=Hlt.out;have:=N1.out;have:=N2.out;have:=N3.out;have:=Hs.out;omega)
     have p0:0≤i:=Hi0.out;have p1:i < (n:Int):=Hlt.out
     by_cases q1:0 < i
     case pos=>
      have fq1:decide (0 < i)=true:=decide_eq_true q1;clear q1
      by_cases q2:0 < cm
      case pos=>
       have fq2:decide (0 < cm)=true:=decide_eq_true q2;clear q2
       obtain ⟨lo,hlo⟩:∃ lo,(if (t.size:Int) < cm then (t.size:Int) else cm)=lo:=⟨_,rfl⟩
       have hlo0:0≤lo:=by have:=of_decide_eq_true fq2;subst hlo;split<;>omega
       have hlo1:lo≤(t.size:Int):=by subst hlo;split<;>omega
       replace hlo0:=eq_true hlo0;replace hlo1:=eq_true hlo1
       go_wp2_with fail
       go_roundg (n - (i + 1)).toNat
       case measure=>have:=Hk.out;have:=Hlt.out;have:=Hi0.out;omega
       case rel=>exact ⟨i + 1,rfl,⟨by have:=Hi0.out;omega⟩,⟨by have:=Hlt.out;omega⟩,⟨rfl⟩,⟨lines_put HK.out _ _ (by rw [ByteArray.size_extract];have:=Ht.out;omega)⟩⟩
      case neg=>
       have fq2:decide (0 < cm)=false:=decide_eq_false q2;clear q2
       go_wp2_with fail
       go_roundg (n - (i + 1)).toNat
       case measure=>have:=Hk.out;have:=Hlt.out;have:=Hi0.out;omega
       case rel=>exact ⟨i + 1,rfl,⟨by have:=Hi0.out;omega⟩,⟨by have:=Hlt.out;omega⟩,⟨rfl⟩,⟨at_⟩⟩
     case neg=>
      have fq1:decide (0 < i)=false:=decide_eq_false q1;clear q1
      go_wp2_with fail
      go_roundg (n - (i + 1)).toNat
      case measure=>have:=Hk.out;have:=Hlt.out;have:=Hi0.out;omega
      case rel=>exact ⟨i + 1,rfl,⟨by have:=Hi0.out;omega⟩,⟨by have:=Hlt.out;omega⟩,⟨rfl⟩,⟨at_⟩⟩
    case neg=>
     have hd:decide (i < (n:Int))=false:=decide_eq_false hlt;clear hlt Hi0 Hi1 Hk
     go_wp2_with fail
     have Om:Aside0 (0 + n≤n):=⟨by omega⟩;have Mc:=N3
     go_loopg [3] n (fun kq v3 w'=>∃ (o m c:Nat),v3= .slice (some ⟨g,o,none⟩) m c∧Aside0 (o + m≤n)∧Aside0 (m≤c)∧Aside0 (kq=m)∧Aside0 (At w [.f (Fact.lines w.heap.size g n s.size)] w'))
     case atStart=>exact ⟨0,n,cap,rfl,Om,Mc,⟨rfl⟩,⟨at_⟩⟩
     case round=>
      clear HK Om Mc
      obtain ⟨o,m,c,rfl,Om,Mc,Hk,HK⟩:=hrel
      rcases Nat.eq_zero_or_pos m with hm|hm
      case inl=>
       have hd:decide ((0:Int) < (m:Int))=false:=decide_eq_false (by omega);have hdn:decide (0 < m)=false:=decide_eq_false (by omega)
       clear hm
       go_wp2_with fail
       go_quiet (fail)
       go_wp2_with fail
       clear hd hdn
       go_loopg [3] m (fun kq v3 w'=>∃ (o m c:Nat),v3= .slice (some ⟨g,o,none⟩) m c∧Aside0 (o + m≤n)∧Aside0 (m≤c)∧Aside0 (kq=m)∧Aside0 (At w [.f (Fact.lines w.heap.size g n s.size)] w'))
       case atStart=>exact ⟨o,m,c,rfl,Om,Mc,⟨rfl⟩,⟨at_⟩⟩
       case round=>
        clear HK Om Mc
        obtain ⟨o,m,c,rfl,Om,Mc,Hk,HK⟩:=hrel
        rcases Nat.eq_zero_or_pos m with hm|hm
        case inl=>
         have hd:decide ((0:Int) < (m:Int))=false:=decide_eq_false (by omega);have hdn:decide (0 < m)=false:=decide_eq_false (by omega)
         clear hm
         go_wp2_with fail
         go_quiet (fail)
         go_wp2_with fail
         go_loopg [10,109] m (fun kq v10 v109 w'=>∃ (u:ByteArray) (i:Int),v10= .string u∧v109= .int .i64 i∧Aside0 ((u.size:Int)≤i * 67108864)∧Aside0 (0≤i)∧Aside0 (i≤m)∧Aside0 (kq=(m - i).toNat)∧Aside0 (At w [.f (Fact.lines w.heap.size g n s.size)] w'))
         case atStart=>exact ⟨_,0,rfl,rfl,⟨by decide⟩,⟨by omega⟩,⟨by omega⟩,⟨by omega⟩,⟨at_⟩⟩
         case round=>
          clear HK
          obtain ⟨u,i,rfl,rfl,Hu,Hi0,Hi1,Hk,HK⟩:=hrel
          by_cases hlt:i < (m:Int)
          case pos=>
           have hd:decide (i < (m:Int))=true:=decide_eq_true hlt;have Hlt:=asd_ hlt;clear hlt
           obtain ⟨t,hcell,ht⟩:=LinesP.cell (show LinesP _ g n s.size _ from HK.out.k.1) ((o:Int) + i) (by have:=Hi0.out;omega) (by have:=Hlt.out;have:=Om.out;omega);have Ht:=asd_ ht;clear ht
           rw [show ((o:Int) + i).toNat=o + i.toNat by (have:=Hi0.out;omega)] at hcell
           have hs1:IntKind.i64.wrap (i + 1)=i + 1:=IntWalk.i64_in _ (by have:=Hi0.out;have:=Hlt.out;have:=Om.out;have:=N1.out;have:=N2.out;have:=N3.out;have:=Hs.out;omega)
           have p0:0≤i:=Hi0.out;have p1:i < (m:Int):=Hlt.out
           have z0:¬ (9223372036854775807 < u.size + 1):=by have:=Hu.out;have:=Ht.out;have:=Hs.out;have:=Hi0.out;have:=Hlt.out;have:=Om.out;have:=N2.out;omega
           have z1:¬ (9223372036854775807 < u.size + t.size):=by have:=Hu.out;have:=Ht.out;have:=Hs.out;have:=Hi0.out;have:=Hlt.out;have:=Om.out;have:=N2.out;omega
           have z2:¬ (9223372036854775807 < u.size + 1 + t.size):=by have:=Hu.out;have:=Ht.out;have:=Hs.out;have:=Hi0.out;have:=Hlt.out;have:=Om.out;have:=N2.out;omega
           replace z0:=eq_false z0;replace z1:=eq_false z1;replace z2:=eq_false z2
           by_cases q1:0 < i
           case pos=>
            have fq1:decide (0 < i)=true:=decide_eq_true q1;clear q1
            go_wp2_with fail
            go_roundg (m - (i + 1)).toNat
            case measure=>have:=Hk.out;have:=Hlt.out;have:=Hi0.out;omega
            case rel=>exact ⟨_,i + 1,rfl,rfl,⟨by have:=Hu.out;have:=Ht.out;have:=Hs.out;simp only [ByteArray.size_append];first|(show ((u.size + 1 + t.size:Nat):Int)≤(i + 1) * 67108864;omega)|omega⟩,⟨by have:=Hi0.out;omega⟩,⟨by have:=Hlt.out;omega⟩,⟨rfl⟩,⟨at_⟩⟩
           case neg=>
            have fq1:decide (0 < i)=false:=decide_eq_false q1;clear q1
            go_wp2_with fail
            go_roundg (m - (i + 1)).toNat
            case measure=>have:=Hk.out;have:=Hlt.out;have:=Hi0.out;omega
            case rel=>exact ⟨_,i + 1,rfl,rfl,⟨by have:=Hu.out;have:=Ht.out;have:=Hs.out;simp only [ByteArray.size_append];first|(show ((u.size + 1 + t.size:Nat):Int)≤(i + 1) * 67108864;omega)|omega⟩,⟨by have:=Hi0.out;omega⟩,⟨by have:=Hlt.out;omega⟩,⟨rfl⟩,⟨at_⟩⟩
          case neg=>
           have hd:decide (i < (m:Int))=false:=decide_eq_false hlt;clear hlt Hi0 Hi1 Hk
           go_wp2_with fail
           go_ret
           exact ⟨_,rfl,(show At w [.f (Fact.lines w.heap.size g n s.size)] _ from at_).b⟩
        case inr=>
         have hd:decide ((0:Int) < (m:Int))=true:=decide_eq_true (by omega);have hdn:decide (0 < m)=true:=decide_eq_true hm
         have Hm:=asd_ hm;clear hm
         obtain ⟨t,hcell,ht⟩:=LinesP.cell (show LinesP _ g n s.size _ from HK.out.k.1) ((o + (m - 1):Nat):Int) (by omega) (by have:=Om.out;have:=Hm.out;omega);have Ht:=asd_ ht;clear ht
         obtain ⟨r,r0,r1,hr⟩:=lead_calls t (by have:=Ht.out;have:=Hs.out;omega);have Hr:=asd_ hr;clear r0 r1 hr
         have p0:(0:Int) < (m:Int):=by have:=Hm.out;omega
         rw [Int.toNat_natCast] at hcell
         have hs1:IntKind.i64.wrap ((m:Int) - 1)=((m - 1:Nat):Int):=by have e:((m:Int) - 1)=((m - 1:Nat):Int):=(by have:=Hm.out;omega);rw [e];exact IntWalk.i64_in _ (by have:=Om.out;have:=N2.out;have:=Hs.out;omega)
         have p2:((m - 1:Nat):Int) < (m:Int):=by have:=Hm.out;omega
         have p3:(0:Int)≤((m - 1:Nat):Int):=by omega
         by_cases h3:r=(t.size:Int)
         case neg=>
          have f3:(r == (t.size:Int))=false:=beq_eq_false_iff_ne.2 h3;clear h3
          go_wp2_with fail
          go_quiet ((go_at_call 143;exact Calls.quiet_of ((Hr.out _).mono fun _ _ h=>⟨h.1,h.2.out⟩)))
          go_wp2_with fail
          go_loopg [10,109] m (fun kq v10 v109 w'=>∃ (u:ByteArray) (i:Int),v10= .string u∧v109= .int .i64 i∧Aside0 ((u.size:Int)≤i * 67108864)∧Aside0 (0≤i)∧Aside0 (i≤m)∧Aside0 (kq=(m - i).toNat)∧Aside0 (At w [.f (Fact.lines w.heap.size g n s.size)] w'))
          case atStart=>exact ⟨_,0,rfl,rfl,⟨by decide⟩,⟨by omega⟩,⟨by omega⟩,⟨by omega⟩,⟨at_⟩⟩
          case round=>
           clear HK
           obtain ⟨u,i,rfl,rfl,Hu,Hi0,Hi1,Hk,HK⟩:=hrel
           by_cases hlt:i < (m:Int)
           case pos=>
            have hd:decide (i < (m:Int))=true:=decide_eq_true hlt;have Hlt:=asd_ hlt;clear hlt
            obtain ⟨t,hcell,ht⟩:=LinesP.cell (show LinesP _ g n s.size _ from HK.out.k.1) ((o:Int) + i) (by have:=Hi0.out;omega) (by have:=Hlt.out;have:=Om.out;omega);have Ht:=asd_ ht;clear ht
            rw [show ((o:Int) + i).toNat=o + i.toNat by (have:=Hi0.out;omega)] at hcell
            have hs1:IntKind.i64.wrap (i + 1)=i + 1:=IntWalk.i64_in _ (by have:=Hi0.out;have:=Hlt.out;have:=Om.out;have:=N1.out;have:=N2.out;have:=N3.out;have:=Hs.out;omega)
            have p0:0≤i:=Hi0.out;have p1:i < (m:Int):=Hlt.out
            have z0:¬ (9223372036854775807 < u.size + 1):=by have:=Hu.out;have:=Ht.out;have:=Hs.out;have:=Hi0.out;have:=Hlt.out;have:=Om.out;have:=N2.out;omega
            have z1:¬ (9223372036854775807 < u.size + t.size):=by have:=Hu.out;have:=Ht.out;have:=Hs.out;have:=Hi0.out;have:=Hlt.out;have:=Om.out;have:=N2.out;omega
            have z2:¬ (9223372036854775807 < u.size + 1 + t.size):=by have:=Hu.out;have:=Ht.out;have:=Hs.out;have:=Hi0.out;have:=Hlt.out;have:=Om.out;have:=N2.out;omega
            replace z0:=eq_false z0;replace z1:=eq_false z1;replace z2:=eq_false z2
            by_cases q1:0 < i
            case pos=>
             have fq1:decide (0 < i)=true:=decide_eq_true q1;clear q1
             go_wp2_with fail
             go_roundg (m - (i + 1)).toNat
             case measure=>have:=Hk.out;have:=Hlt.out;have:=Hi0.out;omega
             case rel=>exact ⟨_,i + 1,rfl,rfl,⟨by have:=Hu.out;have:=Ht.out;have:=Hs.out;simp only [ByteArray.size_append];first|(show ((u.size + 1 + t.size:Nat):Int)≤(i + 1) * 67108864;omega)|omega⟩,⟨by have:=Hi0.out;omega⟩,⟨by have:=Hlt.out;omega⟩,⟨rfl⟩,⟨at_⟩⟩
            case neg=>
             have fq1:decide (0 < i)=false:=decide_eq_false q1;clear q1
             go_wp2_with fail
             go_roundg (m - (i + 1)).toNat
             case measure=>have:=Hk.out;have:=Hlt.out;have:=Hi0.out;omega
             case rel=>exact ⟨_,i + 1,rfl,rfl,⟨by have:=Hu.out;have:=Ht.out;have:=Hs.out;simp only [ByteArray.size_append];first|(show ((u.size + 1 + t.size:Nat):Int)≤(i + 1) * 67108864;omega)|omega⟩,⟨by have:=Hi0.out;omega⟩,⟨by have:=Hlt.out;omega⟩,⟨rfl⟩,⟨at_⟩⟩
           case neg=>
            have hd:decide (i < (m:Int))=false:=decide_eq_false hlt;clear hlt Hi0 Hi1 Hk
            go_wp2_with fail
            go_ret
            exact ⟨_,rfl,(show At w [.f (Fact.lines w.heap.size g n s.size)] _ from at_).b⟩
         case pos=>
          have f3:(r == (t.size:Int))=true:=beq_iff_eq.2 h3;clear h3
          have q1:((m - 1:Nat):Int)≤(c:Int):=by have:=Mc.out;omega
          replace q1:=eq_true q1;have q3:=eq_true p3
          go_wp2_with fail
          go_quiet ((go_at_call 143;exact Calls.quiet_of ((Hr.out _).mono fun _ _ h=>⟨h.1,h.2.out⟩)))
          go_wp2_with fail
          go_roundg (m - 1)
          case measure=>have:=Hk.out;have:=Hm.out;omega
          case rel=>exact ⟨o,m - 1,c,rfl,⟨by have:=Om.out;have:=Hm.out;omega⟩,⟨by have:=Mc.out;have:=Hm.out;omega⟩,⟨rfl⟩,⟨at_⟩⟩
      case inr=>
       have hd:decide ((0:Int) < (m:Int))=true:=decide_eq_true (by omega);have hdn:decide (0 < m)=true:=decide_eq_true hm
       have Hm:=asd_ hm;clear hm
       obtain ⟨t,hcell,ht⟩:=LinesP.cell (show LinesP _ g n s.size _ from HK.out.k.1) (o:Int) (by omega) (by have:=Om.out;have:=Hm.out;omega);have Ht:=asd_ ht;clear ht
       obtain ⟨r,r0,r1,hr⟩:=lead_calls t (by have:=Ht.out;have:=Hs.out;omega);have Hr:=asd_ hr;clear r0 r1 hr
       have p0:(0:Int) < (m:Int):=by have:=Hm.out;omega
       rw [Int.toNat_natCast] at hcell
       by_cases h3:r=(t.size:Int)
       case neg=>
        have f3:(r == (t.size:Int))=false:=beq_eq_false_iff_ne.2 h3;clear h3
        go_wp2_with fail
        go_quiet ((go_at_call 143;exact Calls.quiet_of ((Hr.out _).mono fun _ _ h=>⟨h.1,h.2.out⟩)))
        go_wp2_with fail
        clear hd hdn
        go_loopg [3] m (fun kq v3 w'=>∃ (o m c:Nat),v3= .slice (some ⟨g,o,none⟩) m c∧Aside0 (o + m≤n)∧Aside0 (m≤c)∧Aside0 (kq=m)∧Aside0 (At w [.f (Fact.lines w.heap.size g n s.size)] w'))
        case atStart=>exact ⟨o,m,c,rfl,Om,Mc,⟨rfl⟩,⟨at_⟩⟩
        case round=>
         clear HK Om Mc
         obtain ⟨o,m,c,rfl,Om,Mc,Hk,HK⟩:=hrel
         rcases Nat.eq_zero_or_pos m with hm|hm
         case inl=>
          have hd:decide ((0:Int) < (m:Int))=false:=decide_eq_false (by omega);have hdn:decide (0 < m)=false:=decide_eq_false (by omega)
          clear hm
          go_wp2_with fail
          go_quiet (fail)
          go_wp2_with fail
          go_loopg [10,109] m (fun kq v10 v109 w'=>∃ (u:ByteArray) (i:Int),v10= .string u∧v109= .int .i64 i∧Aside0 ((u.size:Int)≤i * 67108864)∧Aside0 (0≤i)∧Aside0 (i≤m)∧Aside0 (kq=(m - i).toNat)∧Aside0 (At w [.f (Fact.lines w.heap.size g n s.size)] w'))
          case atStart=>exact ⟨_,0,rfl,rfl,⟨by decide⟩,⟨by omega⟩,⟨by omega⟩,⟨by omega⟩,⟨at_⟩⟩
          case round=>
           clear HK
           obtain ⟨u,i,rfl,rfl,Hu,Hi0,Hi1,Hk,HK⟩:=hrel
           by_cases hlt:i < (m:Int)
           case pos=>
            have hd:decide (i < (m:Int))=true:=decide_eq_true hlt;have Hlt:=asd_ hlt;clear hlt
            obtain ⟨t,hcell,ht⟩:=LinesP.cell (show LinesP _ g n s.size _ from HK.out.k.1) ((o:Int) + i) (by have:=Hi0.out;omega) (by have:=Hlt.out;have:=Om.out;omega);have Ht:=asd_ ht;clear ht
            rw [show ((o:Int) + i).toNat=o + i.toNat by (have:=Hi0.out;omega)] at hcell
            have hs1:IntKind.i64.wrap (i + 1)=i + 1:=IntWalk.i64_in _ (by have:=Hi0.out;have:=Hlt.out;have:=Om.out;have:=N1.out;have:=N2.out;have:=N3.out;have:=Hs.out;omega)
            have p0:0≤i:=Hi0.out;have p1:i < (m:Int):=Hlt.out
            have z0:¬ (9223372036854775807 < u.size + 1):=by have:=Hu.out;have:=Ht.out;have:=Hs.out;have:=Hi0.out;have:=Hlt.out;have:=Om.out;have:=N2.out;omega
            have z1:¬ (9223372036854775807 < u.size + t.size):=by have:=Hu.out;have:=Ht.out;have:=Hs.out;have:=Hi0.out;have:=Hlt.out;have:=Om.out;have:=N2.out;omega
            have z2:¬ (9223372036854775807 < u.size + 1 + t.size):=by have:=Hu.out;have:=Ht.out;have:=Hs.out;have:=Hi0.out;have:=Hlt.out;have:=Om.out;have:=N2.out;omega
            replace z0:=eq_false z0;replace z1:=eq_false z1;replace z2:=eq_false z2
            by_cases q1:0 < i
            case pos=>
             have fq1:decide (0 < i)=true:=decide_eq_true q1;clear q1
             go_wp2_with fail
             go_roundg (m - (i + 1)).toNat
             case measure=>have:=Hk.out;have:=Hlt.out;have:=Hi0.out;omega
             case rel=>exact ⟨_,i + 1,rfl,rfl,⟨by have:=Hu.out;have:=Ht.out;have:=Hs.out;simp only [ByteArray.size_append];first|(show ((u.size + 1 + t.size:Nat):Int)≤(i + 1) * 67108864;omega)|omega⟩,⟨by have:=Hi0.out;omega⟩,⟨by have:=Hlt.out;omega⟩,⟨rfl⟩,⟨at_⟩⟩
            case neg=>
             have fq1:decide (0 < i)=false:=decide_eq_false q1;clear q1
             go_wp2_with fail
             go_roundg (m - (i + 1)).toNat
             case measure=>have:=Hk.out;have:=Hlt.out;have:=Hi0.out;omega
             case rel=>exact ⟨_,i + 1,rfl,rfl,⟨by have:=Hu.out;have:=Ht.out;have:=Hs.out;simp only [ByteArray.size_append];first|(show ((u.size + 1 + t.size:Nat):Int)≤(i + 1) * 67108864;omega)|omega⟩,⟨by have:=Hi0.out;omega⟩,⟨by have:=Hlt.out;omega⟩,⟨rfl⟩,⟨at_⟩⟩
           case neg=>
            have hd:decide (i < (m:Int))=false:=decide_eq_false hlt;clear hlt Hi0 Hi1 Hk
            go_wp2_with fail
            go_ret
            exact ⟨_,rfl,(show At w [.f (Fact.lines w.heap.size g n s.size)] _ from at_).b⟩
         case inr=>
          have hd:decide ((0:Int) < (m:Int))=true:=decide_eq_true (by omega);have hdn:decide (0 < m)=true:=decide_eq_true hm
          have Hm:=asd_ hm;clear hm
          obtain ⟨t,hcell,ht⟩:=LinesP.cell (show LinesP _ g n s.size _ from HK.out.k.1) ((o + (m - 1):Nat):Int) (by omega) (by have:=Om.out;have:=Hm.out;omega);have Ht:=asd_ ht;clear ht
          obtain ⟨r,r0,r1,hr⟩:=lead_calls t (by have:=Ht.out;have:=Hs.out;omega);have Hr:=asd_ hr;clear r0 r1 hr
          have p0:(0:Int) < (m:Int):=by have:=Hm.out;omega
          rw [Int.toNat_natCast] at hcell
          have hs1:IntKind.i64.wrap ((m:Int) - 1)=((m - 1:Nat):Int):=by have e:((m:Int) - 1)=((m - 1:Nat):Int):=(by have:=Hm.out;omega);rw [e];exact IntWalk.i64_in _ (by have:=Om.out;have:=N2.out;have:=Hs.out;omega)
          have p2:((m - 1:Nat):Int) < (m:Int):=by have:=Hm.out;omega
          have p3:(0:Int)≤((m - 1:Nat):Int):=by omega
          by_cases h3:r=(t.size:Int)
          case neg=>
           have f3:(r == (t.size:Int))=false:=beq_eq_false_iff_ne.2 h3;clear h3
           go_wp2_with fail
           go_quiet ((go_at_call 143;exact Calls.quiet_of ((Hr.out _).mono fun _ _ h=>⟨h.1,h.2.out⟩)))
           go_wp2_with fail
           go_loopg [10,109] m (fun kq v10 v109 w'=>∃ (u:ByteArray) (i:Int),v10= .string u∧v109= .int .i64 i∧Aside0 ((u.size:Int)≤i * 67108864)∧Aside0 (0≤i)∧Aside0 (i≤m)∧Aside0 (kq=(m - i).toNat)∧Aside0 (At w [.f (Fact.lines w.heap.size g n s.size)] w'))
           case atStart=>exact ⟨_,0,rfl,rfl,⟨by decide⟩,⟨by omega⟩,⟨by omega⟩,⟨by omega⟩,⟨at_⟩⟩
           case round=>
            clear HK
            obtain ⟨u,i,rfl,rfl,Hu,Hi0,Hi1,Hk,HK⟩:=hrel
            by_cases hlt:i < (m:Int)
            case pos=>
             have hd:decide (i < (m:Int))=true:=decide_eq_true hlt;have Hlt:=asd_ hlt;clear hlt
             obtain ⟨t,hcell,ht⟩:=LinesP.cell (show LinesP _ g n s.size _ from HK.out.k.1) ((o:Int) + i) (by have:=Hi0.out;omega) (by have:=Hlt.out;have:=Om.out;omega);have Ht:=asd_ ht;clear ht
             rw [show ((o:Int) + i).toNat=o + i.toNat by (have:=Hi0.out;omega)] at hcell
             have hs1:IntKind.i64.wrap (i + 1)=i + 1:=IntWalk.i64_in _ (by have:=Hi0.out;have:=Hlt.out;have:=Om.out;have:=N1.out;have:=N2.out;have:=N3.out;have:=Hs.out;omega)
             have p0:0≤i:=Hi0.out;have p1:i < (m:Int):=Hlt.out
             have z0:¬ (9223372036854775807 < u.size + 1):=by have:=Hu.out;have:=Ht.out;have:=Hs.out;have:=Hi0.out;have:=Hlt.out;have:=Om.out;have:=N2.out;omega
             have z1:¬ (9223372036854775807 < u.size + t.size):=by have:=Hu.out;have:=Ht.out;have:=Hs.out;have:=Hi0.out;have:=Hlt.out;have:=Om.out;have:=N2.out;omega
             have z2:¬ (9223372036854775807 < u.size + 1 + t.size):=by have:=Hu.out;have:=Ht.out;have:=Hs.out;have:=Hi0.out;have:=Hlt.out;have:=Om.out;have:=N2.out;omega
             replace z0:=eq_false z0;replace z1:=eq_false z1;replace z2:=eq_false z2
             by_cases q1:0 < i
             case pos=>
              have fq1:decide (0 < i)=true:=decide_eq_true q1;clear q1
              go_wp2_with fail
              go_roundg (m - (i + 1)).toNat
              case measure=>have:=Hk.out;have:=Hlt.out;have:=Hi0.out;omega
              case rel=>exact ⟨_,i + 1,rfl,rfl,⟨by have:=Hu.out;have:=Ht.out;have:=Hs.out;simp only [ByteArray.size_append];first|(show ((u.size + 1 + t.size:Nat):Int)≤(i + 1) * 67108864;omega)|omega⟩,⟨by have:=Hi0.out;omega⟩,⟨by have:=Hlt.out;omega⟩,⟨rfl⟩,⟨at_⟩⟩
             case neg=>
              have fq1:decide (0 < i)=false:=decide_eq_false q1;clear q1
              go_wp2_with fail
              go_roundg (m - (i + 1)).toNat
              case measure=>have:=Hk.out;have:=Hlt.out;have:=Hi0.out;omega
              case rel=>exact ⟨_,i + 1,rfl,rfl,⟨by have:=Hu.out;have:=Ht.out;have:=Hs.out;simp only [ByteArray.size_append];first|(show ((u.size + 1 + t.size:Nat):Int)≤(i + 1) * 67108864;omega)|omega⟩,⟨by have:=Hi0.out;omega⟩,⟨by have:=Hlt.out;omega⟩,⟨rfl⟩,⟨at_⟩⟩
            case neg=>
             have hd:decide (i < (m:Int))=false:=decide_eq_false hlt;clear hlt Hi0 Hi1 Hk
             go_wp2_with fail
             go_ret
             exact ⟨_,rfl,(show At w [.f (Fact.lines w.heap.size g n s.size)] _ from at_).b⟩
          case pos=>
           have f3:(r == (t.size:Int))=true:=beq_iff_eq.2 h3;clear h3
           have q1:((m - 1:Nat):Int)≤(c:Int):=by have:=Mc.out;omega
           replace q1:=eq_true q1;have q3:=eq_true p3
           go_wp2_with fail
           go_quiet ((go_at_call 143;exact Calls.quiet_of ((Hr.out _).mono fun _ _ h=>⟨h.1,h.2.out⟩)))
           go_wp2_with fail
           go_roundg (m - 1)
           case measure=>have:=Hk.out;have:=Hm.out;omega
           case rel=>exact ⟨o,m - 1,c,rfl,⟨by have:=Om.out;have:=Hm.out;omega⟩,⟨by have:=Mc.out;have:=Hm.out;omega⟩,⟨rfl⟩,⟨at_⟩⟩
       case pos=>
        have f3:(r == (t.size:Int))=true:=beq_iff_eq.2 h3;clear h3
        have q0:(1:Int)≤(m:Int):=by have:=Hm.out;omega
        have q1:(m:Int)≤(c:Int):=by have:=Mc.out;omega
        have q2:(1:Int)≤(c:Int):=by have:=Mc.out;have:=Hm.out;omega
        replace q0:=eq_true q0;replace q1:=eq_true q1;replace q2:=eq_true q2
        go_wp2_with fail
        go_quiet ((go_at_call 143;exact Calls.quiet_of ((Hr.out _).mono fun _ _ h=>⟨h.1,h.2.out⟩)))
        go_wp2_with fail
        ·go_roundg (m - 1)
         case measure=>have:=Hk.out;have:=Hm.out;omega
         case rel=>first|exact ⟨o + 1,m - 1,c - 1,rfl,⟨by have:=Om.out;have:=Hm.out;omega⟩,⟨by have:=Mc.out;have:=Hm.out;omega⟩,⟨rfl⟩,⟨at_⟩⟩|exact ⟨o,m - 1,0,rfl,⟨by have:=Om.out;have:=Hm.out;omega⟩,⟨by have:=Mc.out;have:=Hm.out;omega⟩,⟨rfl⟩,⟨at_⟩⟩
        ·go_roundg (m - 1)
         case measure=>have:=Hk.out;have:=Hm.out;omega
         case rel=>first|exact ⟨o + 1,m - 1,c - 1,rfl,⟨by have:=Om.out;have:=Hm.out;omega⟩,⟨by have:=Mc.out;have:=Hm.out;omega⟩,⟨rfl⟩,⟨at_⟩⟩|exact ⟨o,m - 1,0,rfl,⟨by have:=Om.out;have:=Hm.out;omega⟩,⟨by have:=Mc.out;have:=Hm.out;omega⟩,⟨rfl⟩,⟨at_⟩⟩
end Go.Proofs.YtlblbefbbibpaaaGreatDoor.J
