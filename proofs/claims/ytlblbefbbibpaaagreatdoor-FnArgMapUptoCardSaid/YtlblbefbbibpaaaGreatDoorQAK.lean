/- Part. -/
import Derived.Test.YtlblbefbbibpaaaGreatDoorQAJ
import Derived.Laws.Cover4
import Derived.Deep.CutRange
import Derived.DataElems
set_option linter.unusedVariables false
set_option linter.unusedSimpArgs false
set_option maxHeartbeats 8000000
set_option maxRecDepth 100000
namespace Go.Proofs.YtlblbefbbibpaaaGreatDoor.J
open Go.RowKit Zw Zw.PrintWords Zw.PrintLast Zw.PrintMore PAM
def LS (w0:World) (l:List Blk) (g n c:Nat) (A:Option Addr) (xs:List Int) (i:Int) (sure:Bool) (ts:List Tok) (W:World):Prop:=
 ∃ (v:Value) (seen line from_:Int),0≤seen∧seen≤xs.length∧At w0 (.b g (row (LXc A n c i v sure seen line from_) 194):: .f (Toks w0 v ts)::l) W
def TokP (w0:World) (l:List Blk) (g n c:Nat) (A:Option Addr) (xs:List Int) (i:Int) (b:Bool) (W:World):Prop:=
 ∃ (q:Int) (sure:Bool) (ts:List Tok),LS w0 l g n c A xs q sure ts W∧(b=true→i < q∧q≤xs.length∧ts.length≤q.toNat)
theorem conv_runes {a:Act} {w:World} {o:Oper} {x:Operand} {ad:Addr} {k c:Nat} (ho:o.op= .convert 192 9 x) (hx:a.eval x= .slice (some ad) k c) (zs:List Int) (hk:k=zs.length) (hc:∀ j,j < zs.length→w.cell? (ad.add j)=some (.int .i32 (zs.getD j 0))):(execOp a.eval o).run Tryz.prog w= .ok (.value (.string (runesBytes zs))) w:=by
 subst hk
 have h1:=run_convert_runes (P:=Tryz.prog) w 192 9 21 ad zs.length c zs (Nat.le_refl _) Tryz.underlying192 Tryz.underlying21 Tryz.underlying9 hc
 rw [List.take_length] at h1
 unfold execOp
 rw [ho]
 simp only [hx]
 first|(rw [h1];rfl)|(simp [Sem.run_bind,h1,Result.andThen,Sem.run_pure];done)|(simp [Sem.run_bind,h1,Result.andThen,Sem.run_pure];rfl)
theorem Txt.cut {w0 W:World} {l:List Blk} {ad:Addr} {xs:List Int} (h:Txt w0 (some ad) xs) (H:At w0 l W) (a b:Nat) (hab:a≤b) (hb:b≤xs.length) (j:Nat) (hj:j < ((xs.drop a).take (b - a)).length):W.cell? ((ad.add a).add j)=some (.int .i32 (((xs.drop a).take (b - a)).getD j 0)):=by
 have hj2:j < b - a:=by simp at hj;omega
 obtain ⟨ad2,e,hc⟩:=Txt.at h H ((a + j:Nat):Int) (by omega) (by omega)
 cases e
 have e1:(ad.add a).add j=ad.add ((a + j:Nat):Int).toNat:=by rw [Int.toNat_natCast];exact Addr.add_add ad a j
 rw [Int.toNat_natCast] at hc
 rw [e1,Int.toNat_natCast,hc]
 congr 2
 simp [List.getD_eq_getElem?_getD,List.getElem?_take,hj2,List.getElem?_drop]
theorem number_ok {w0 w:World} {l:List Blk} {g n c:Nat} {A:Option Addr} {xs:List Int} {i seen line from_:Int} {v:Value} {sure:Bool} {ts:List Tok} (H:At w0 (.b g (row (LXc A n c i v sure seen line from_) 194):: .f (Toks w0 v ts)::l) w) (hn:n=xs.length) (ht:Txt w0 A xs) (hL:xs.length≤8388608) (hg:w0.heap.size≤g) (hl:offF 162 l) (h0:0≤i) (h1:i < xs.length) (hts:ts.length≤i.toNat) (hs0:0≤seen) (hs1:seen≤xs.length) (hc:xs.length≤c):
  Calls Tryz.prog 105 #[.pointer (some ⟨g,0,none⟩)] w fun e w'=>∃ b:Bool,e= .returned (.bool b)∧TokP w0 l g n c A xs i b w':=by
 obtain ⟨Hg_,Ht_,Hn_,HL_,H0_,H1_,Hts_,Hl_,Hs0_,Hs1_,Hc_⟩:=as11_ hg ht hn hL h0 h1 hts hl hs0 hs1 hc;clear hg ht hn hL h0 h1 hts hl hs0 hs1 hc
 have Gg:=Hg_
 have HK:=asd_ H
 clear H
 replace Bc:=ce1_ HK 0;replace Bf:=fe1_ HK 0
 go_enter Tryz.func105,Tryz.ntmps105
 obtain ⟨r0,hr0⟩:∃ r,pk xs (i + 0)=r:=⟨_,rfl⟩
 have hp0:∀ W,At w0 (.b g (row (LXc A n c i v sure seen line from_) 194):: .f (Toks w0 v ts)::l) W→Calls Tryz.prog 104 #[.pointer (some ⟨g,0,none⟩),.int .i64 0] W fun e w'=>e= .returned (.int .i32 r0)∧Below W.heap.size W w':=fun W hW=>by rw [← hr0];exact peek_ok 0 hW Hn_.out Ht_.out HL_.out (by have:=H0_.out;have:=H1_.out;have:=HL_.out;omega) (by have:=H0_.out;have:=H1_.out;have:=HL_.out;omega) (by omega) (by omega)
 obtain ⟨Hr0,Hp0⟩:=as2_ hr0 hp0;clear hr0 hp0
 go_upto_if 11 with (first|((with_reducible refine gd_ 10 ?_);refine cl_ #[.pointer (some ⟨g,0,none⟩),.int .i64 0] (.int .i32 r0) Tryz.func104 (Hp0.out _ at_) ?_;intro wc10 HK1;replace HK:=asd_ HK1;clear HK1;replace Bc:=ce1_ HK 0;replace Bf:=fe1_ HK 0))
 go_cut [] from 9 to 18 (fun wc=>∃ q:Int,Aside0 (i≤q)∧Aside0 (q≤xs.length)∧Aside0 (At w0 (.b g (row (LXc A n c q v sure seen line from_) 194):: .f (Toks w0 v ts)::l) wc))
 case first=>
  by_cases h0_45:r0=45
  case neg=>
   have f0_45:(r0 == 45)=false:=beq_eq_false_iff_ne.2 h0_45
   have Fh0_45:=asd_ h0_45;clear h0_45
   go_wp2_with fail
   go_meet
   case rel=>exact ⟨i,⟨Int.le_refl _⟩,⟨by have:=H0_.out;have:=H1_.out;have:=HL_.out;omega⟩,⟨at_⟩⟩
  case pos=>
   have f0_45:(r0 == 45)=true:=beq_iff_eq.2 h0_45
   have Fh0_45:=asd_ h0_45;clear h0_45
   have hil:i + 0 < xs.length:=pk_in (by rw [Hr0.out,Fh0_45.out];omega)
   have Hil:=asd_ hil;clear hil
   have hs:IntKind.i64.wrap (i + 1)=i + 1:=IntWalk.i64_in _ (by have:=H0_.out;have:=H1_.out;have:=HL_.out;omega)
   go_wp2_with (first|((with_reducible refine gate_ (.store 3 (.tmp 18) (.tmp 16)) rfl ?_);refine store_at (t:=3) (p:=18) (g:=g) (i:=1) (v:= .int .i64 (i + 1)) 0 (LXc A n c (i + 1) v sure seen line from_) rfl at_ rfl Gg.out rfl rfl rfl rfl gs_ ?_;intro ws1 HK1;replace HK:=asd_ HK1;clear HK1;replace Bc:=ce1_ HK 0;replace Bf:=fe1_ HK 0))
   go_meet
   case rel=>exact ⟨i + 1,⟨by omega⟩,⟨by have:=Hil.out;omega⟩,⟨at_⟩⟩
 case rest=>
  clear HK
  obtain ⟨q,Hiq,Hql,HK⟩:=hcut
  replace Bc:=ce1_ HK 0;replace Bf:=fe1_ HK 0
  obtain ⟨r1,hr1⟩:∃ r,pk xs (q + 0)=r:=⟨_,rfl⟩
  have hp1:∀ W,At w0 (.b g (row (LXc A n c q v sure seen line from_) 194):: .f (Toks w0 v ts)::l) W→Calls Tryz.prog 104 #[.pointer (some ⟨g,0,none⟩),.int .i64 0] W fun e w'=>e= .returned (.int .i32 r1)∧Below W.heap.size W w':=fun W hW=>by rw [← hr1];exact peek_ok 0 hW Hn_.out Ht_.out HL_.out (by have:=H0_.out;have:=H1_.out;have:=HL_.out;have:=Hiq.out;have:=Hql.out;omega) (by have:=H0_.out;have:=H1_.out;have:=HL_.out;have:=Hiq.out;have:=Hql.out;omega) (by omega) (by omega)
  obtain ⟨Hr1,Hp1⟩:=as2_ hr1 hp1;clear hr1 hp1
  obtain ⟨r2,hr2⟩:∃ r,pk xs (q + 1)=r:=⟨_,rfl⟩
  have hp2:∀ W,At w0 (.b g (row (LXc A n c q v sure seen line from_) 194):: .f (Toks w0 v ts)::l) W→Calls Tryz.prog 104 #[.pointer (some ⟨g,0,none⟩),.int .i64 1] W fun e w'=>e= .returned (.int .i32 r2)∧Below W.heap.size W w':=fun W hW=>by rw [← hr2];exact peek_ok 1 hW Hn_.out Ht_.out HL_.out (by have:=H0_.out;have:=H1_.out;have:=HL_.out;have:=Hiq.out;have:=Hql.out;omega) (by have:=H0_.out;have:=H1_.out;have:=HL_.out;have:=Hiq.out;have:=Hql.out;omega) (by omega) (by omega)
  obtain ⟨Hr2,Hp2⟩:=as2_ hr2 hp2;clear hr2 hp2
  obtain ⟨b2,hb2⟩:∃ b,spec_IsDigit.f r2=some b:=by unfold spec_IsDigit.f;split<;>exact ⟨_,rfl⟩
  have Hb2:=asd_ hb2;clear hb2
  go_upto_region 4 with (fail)
  go_cut [31] from 19 to 31 (fun v31 wc=>∃ (b:Bool) (q1:Int),v31= .bool b∧Aside0 (b=false→q < q1∧q1≤xs.length)∧Aside0 (At w0 (.b g (row (LXc A n c q1 v sure seen line from_) 194):: .f (Toks w0 v ts)::l) wc))
  case first=>
   by_cases h1_48:r1=48
   case pos=>
    have f1_48:(r1 == 48)=true:=beq_iff_eq.2 h1_48
    have Fh1_48:=asd_ h1_48;clear h1_48
    cases b2
    case true=>
     go_wp2_with (first|((first|((with_reducible refine gd_ 20 ?_);refine cl_ #[.pointer (some ⟨g,0,none⟩),.int .i64 0] (.int .i32 r1) Tryz.func104 (Hp1.out _ at_) ?_)|((with_reducible refine gd_ 24 ?_);(try (refine gate_guard (by rfl) ?_;dsimp only));refine cl_ #[.pointer (some ⟨g,0,none⟩),.int .i64 1] (.int .i32 r2) Tryz.func104 (Hp2.out _ at_) ?_)|((with_reducible refine gd_ 25 ?_);(try (refine gate_guard (by rfl) ?_;dsimp only));refine cl_ #[.int .i32 r2] (.bool true) Tryz.func44 ((spec_IsDigit.calls r2 true _ Hb2.out).mono (fun _ _ h=>⟨h.1,h.2.below⟩)) ?_));intro wc20 HK1;replace HK:=asd_ HK1;clear HK1;replace Bc:=ce1_ HK 0;replace Bf:=fe1_ HK 0))
     go_meet
     case rel=>exact ⟨true,q,rfl,⟨fun h=>by cases h⟩,⟨at_⟩⟩
    case false=>
     go_wp2_with (first|((first|((with_reducible refine gd_ 20 ?_);refine cl_ #[.pointer (some ⟨g,0,none⟩),.int .i64 0] (.int .i32 r1) Tryz.func104 (Hp1.out _ at_) ?_)|((with_reducible refine gd_ 24 ?_);(try (refine gate_guard (by rfl) ?_;dsimp only));refine cl_ #[.pointer (some ⟨g,0,none⟩),.int .i64 1] (.int .i32 r2) Tryz.func104 (Hp2.out _ at_) ?_)|((with_reducible refine gd_ 25 ?_);(try (refine gate_guard (by rfl) ?_;dsimp only));refine cl_ #[.int .i32 r2] (.bool false) Tryz.func44 ((spec_IsDigit.calls r2 false _ Hb2.out).mono (fun _ _ h=>⟨h.1,h.2.below⟩)) ?_));intro wc20 HK1;replace HK:=asd_ HK1;clear HK1;replace Bc:=ce1_ HK 0;replace Bf:=fe1_ HK 0))
     refine (digits_more (i:=q) at_ Hn_.out Ht_.out HL_.out Hg_.out (by have:=H0_.out;have:=H1_.out;have:=HL_.out;have:=Hiq.out;have:=Hql.out;omega) (by have:=H0_.out;have:=H1_.out;have:=HL_.out;have:=Hiq.out;have:=Hql.out;omega)).mono ?_
     rintro _ w9 ⟨bd,q9,rfl,h91,h92,h93,HK1⟩
     clear HK;have HK:=asd_ HK1;clear HK1;obtain ⟨H91,H92,H93⟩:=as3_ h91 h92 h93;clear h91 h92 h93
     replace Bc:=ce1_ HK 0;replace Bf:=fe1_ HK 0
     cases bd
     case false=>
      go_wp2_with fail
      go_meet
      case rel=>exact ⟨true,q9,rfl,⟨fun h=>by cases h⟩,⟨at_⟩⟩
     case true=>
      go_wp2_with fail
      go_meet
      case rel=>exact ⟨false,q9,rfl,⟨fun _=>⟨H93.out (by trivial),H92.out⟩⟩,⟨at_⟩⟩
   case neg=>
    have f1_48:(r1 == 48)=false:=beq_eq_false_iff_ne.2 h1_48
    have Fh1_48:=asd_ h1_48;clear h1_48
    go_wp2_with (first|((with_reducible refine gd_ 20 ?_);refine cl_ #[.pointer (some ⟨g,0,none⟩),.int .i64 0] (.int .i32 r1) Tryz.func104 (Hp1.out _ at_) ?_;intro wc20 HK1;replace HK:=asd_ HK1;clear HK1;replace Bc:=ce1_ HK 0;replace Bf:=fe1_ HK 0))
    refine (digits_more (i:=q) at_ Hn_.out Ht_.out HL_.out Hg_.out (by have:=H0_.out;have:=H1_.out;have:=HL_.out;have:=Hiq.out;have:=Hql.out;omega) (by have:=H0_.out;have:=H1_.out;have:=HL_.out;have:=Hiq.out;have:=Hql.out;omega)).mono ?_
    rintro _ w9 ⟨bd,q9,rfl,h91,h92,h93,HK1⟩
    clear HK;have HK:=asd_ HK1;clear HK1;obtain ⟨H91,H92,H93⟩:=as3_ h91 h92 h93;clear h91 h92 h93
    replace Bc:=ce1_ HK 0;replace Bf:=fe1_ HK 0
    cases bd
    case false=>
     go_wp2_with fail
     go_meet
     case rel=>exact ⟨true,q9,rfl,⟨fun h=>by cases h⟩,⟨at_⟩⟩
    case true=>
     go_wp2_with fail
     go_meet
     case rel=>exact ⟨false,q9,rfl,⟨fun _=>⟨H93.out (by trivial),H92.out⟩⟩,⟨at_⟩⟩
  case rest=>
   clear HK
   obtain ⟨b,q1,rfl,Hb,HK⟩:=hcut
   replace Bc:=ce1_ HK 0;replace Bf:=fe1_ HK 0
   cases b
   case true=>
    go_wp2_with fail
    go_ret
    exact ⟨false,rfl,q1,sure,ts,⟨v,seen,line,from_,Hs0_.out,Hs1_.out,at_⟩,fun h=>by cases h⟩
   case false=>
    have Hiq1:Aside0 (i < q1):=⟨by have:=Hb.out (by trivial);have:=Hiq.out;omega⟩;have Hql1:Aside0 (q1≤xs.length):=⟨(Hb.out (by trivial)).2⟩;clear Hb Hiq Hql
    obtain ⟨r3,hr3⟩:∃ r,pk xs (q1 + 0)=r:=⟨_,rfl⟩
    have hp3:∀ W,At w0 (.b g (row (LXc A n c q1 v sure seen line from_) 194):: .f (Toks w0 v ts)::l) W→Calls Tryz.prog 104 #[.pointer (some ⟨g,0,none⟩),.int .i64 0] W fun e w'=>e= .returned (.int .i32 r3)∧Below W.heap.size W w':=fun W hW=>by rw [← hr3];exact peek_ok 0 hW Hn_.out Ht_.out HL_.out (by have:=H0_.out;have:=H1_.out;have:=HL_.out;have:=Hiq1.out;have:=Hql1.out;omega) (by have:=H0_.out;have:=H1_.out;have:=HL_.out;have:=Hiq1.out;have:=Hql1.out;omega) (by omega) (by omega)
    obtain ⟨Hr3,Hp3⟩:=as2_ hr3 hp3;clear hr3 hp3
    go_upto_if 34 with (first|((with_reducible refine gd_ 33 ?_);refine cl_ #[.pointer (some ⟨g,0,none⟩),.int .i64 0] (.int .i32 r3) Tryz.func104 (Hp3.out _ at_) ?_;intro wc33 HK1;replace HK:=asd_ HK1;clear HK1;replace Bc:=ce1_ HK 0;replace Bf:=fe1_ HK 0))
    go_cut [4] from 32 to 44 (fun v4 wc=>∃ (kind q2:Int),v4= .int .i64 kind∧Aside0 (i < q2)∧Aside0 (q2≤xs.length)∧Aside0 (At w0 (.b g (row (LXc A n c q2 v sure seen line from_) 194):: .f (Toks w0 v ts)::l) wc))
    case first=>
     by_cases h3_46:r3=46
     case neg=>
      have f3_46:(r3 == 46)=false:=beq_eq_false_iff_ne.2 h3_46
      have Fh3_46:=asd_ h3_46;clear h3_46
      go_wp2_with fail
      go_meet
      case rel=>exact ⟨16,q1,rfl,Hiq1,Hql1,⟨at_⟩⟩
     case pos=>
      have f3_46:(r3 == 46)=true:=beq_iff_eq.2 h3_46
      have Fh3_46:=asd_ h3_46;clear h3_46
      have Hlt:Aside0 (q1 + 0 < xs.length):=⟨pk_in (by rw [Hr3.out,Fh3_46.out];omega)⟩
      have hs:IntKind.i64.wrap (q1 + 1)=q1 + 1:=IntWalk.i64_in _ (by have:=H0_.out;have:=H1_.out;have:=HL_.out;have:=Hiq1.out;have:=Hql1.out;omega)
      go_wp2_with (first|((with_reducible refine gate_ (.store 3 (.tmp 41) (.tmp 39)) rfl ?_);refine store_at (t:=3) (p:=41) (g:=g) (i:=1) (v:= .int .i64 (q1 + 1)) 0 (LXc A n c (q1 + 1) v sure seen line from_) rfl at_ rfl Gg.out rfl rfl rfl rfl gs_ ?_;intro ws2 HK1;replace HK:=asd_ HK1;clear HK1;replace Bc:=ce1_ HK 0;replace Bf:=fe1_ HK 0))
      refine (digits_more (i:=(q1 + 1)) at_ Hn_.out Ht_.out HL_.out Hg_.out (by have:=H0_.out;have:=H1_.out;have:=HL_.out;have:=Hiq1.out;have:=Hlt.out;omega) (by have:=H0_.out;have:=H1_.out;have:=HL_.out;have:=Hiq1.out;have:=Hlt.out;omega)).mono ?_
      rintro _ w9 ⟨bd,q9,rfl,h91,h92,h93,HK1⟩
      clear HK;have HK:=asd_ HK1;clear HK1;obtain ⟨H91,H92,H93⟩:=as3_ h91 h92 h93;clear h91 h92 h93
      replace Bc:=ce1_ HK 0;replace Bf:=fe1_ HK 0
      cases bd
      case false=>
       go_wp2_with fail
       go_ret
       exact ⟨false,rfl,q9,sure,ts,⟨v,seen,line,from_,Hs0_.out,Hs1_.out,at_⟩,fun h=>by cases h⟩
      case true=>
       go_wp2_with fail
       go_meet
       case rel=>exact ⟨17,q9,rfl,⟨by have:=H91.out;have:=Hiq1.out;omega⟩,H92,⟨at_⟩⟩
    case rest=>
     clear HK
     obtain ⟨kind,q2,rfl,Hiq2,Hql2,HK⟩:=hcut
     replace Bc:=ce1_ HK 0;replace Bf:=fe1_ HK 0
     obtain ⟨r4,hr4⟩:∃ r,pk xs (q2 + 0)=r:=⟨_,rfl⟩
     have hp4:∀ W,At w0 (.b g (row (LXc A n c q2 v sure seen line from_) 194):: .f (Toks w0 v ts)::l) W→Calls Tryz.prog 104 #[.pointer (some ⟨g,0,none⟩),.int .i64 0] W fun e w'=>e= .returned (.int .i32 r4)∧Below W.heap.size W w':=fun W hW=>by rw [← hr4];exact peek_ok 0 hW Hn_.out Ht_.out HL_.out (by have:=H0_.out;have:=H1_.out;have:=HL_.out;have:=Hiq2.out;have:=Hql2.out;omega) (by have:=H0_.out;have:=H1_.out;have:=HL_.out;have:=Hiq2.out;have:=Hql2.out;omega) (by omega) (by omega)
     obtain ⟨Hr4,Hp4⟩:=as2_ hr4 hp4;clear hr4 hp4
     go_upto_region 11 with (fail)
     go_cut [52] from 45 to 52 (fun v52 wc=>∃ b:Bool,v52= .bool b∧Aside0 (b=true→q2 < xs.length)∧Aside0 (At w0 (.b g (row (LXc A n c q2 v sure seen line from_) 194):: .f (Toks w0 v ts)::l) wc))
     case first=>
      by_cases h4_101:r4=101
      case pos=>
       have f4_101:(r4 == 101)=true:=beq_iff_eq.2 h4_101
       have Fh4_101:=asd_ h4_101;clear h4_101
       have Hlt:Aside0 (q2 + 0 < xs.length):=⟨pk_in (by rw [Hr4.out,Fh4_101.out];omega)⟩
       go_wp2_with (first|((with_reducible refine gd_ 46 ?_);refine cl_ #[.pointer (some ⟨g,0,none⟩),.int .i64 0] (.int .i32 r4) Tryz.func104 (Hp4.out _ at_) ?_;intro wc46 HK1;replace HK:=asd_ HK1;clear HK1;replace Bc:=ce1_ HK 0;replace Bf:=fe1_ HK 0))
       go_meet
       case rel=>exact ⟨true,rfl,⟨fun _=>by have:=Hlt.out;omega⟩,⟨at_⟩⟩
      case neg=>
       have f4_101:(r4 == 101)=false:=beq_eq_false_iff_ne.2 h4_101
       have Fh4_101:=asd_ h4_101;clear h4_101
       by_cases h4_69:r4=69
       case pos=>
        have f4_69:(r4 == 69)=true:=beq_iff_eq.2 h4_69
        have Fh4_69:=asd_ h4_69;clear h4_69
        have Hlt:Aside0 (q2 + 0 < xs.length):=⟨pk_in (by rw [Hr4.out,Fh4_69.out];omega)⟩
        go_wp2_with (first|((first|((with_reducible refine gd_ 46 ?_);refine cl_ #[.pointer (some ⟨g,0,none⟩),.int .i64 0] (.int .i32 r4) Tryz.func104 (Hp4.out _ at_) ?_)|((with_reducible refine gd_ 50 ?_);(try (refine gate_guard (by rfl) ?_;dsimp only));refine cl_ #[.pointer (some ⟨g,0,none⟩),.int .i64 0] (.int .i32 r4) Tryz.func104 (Hp4.out _ at_) ?_));intro wc46 HK1;replace HK:=asd_ HK1;clear HK1;replace Bc:=ce1_ HK 0;replace Bf:=fe1_ HK 0))
        go_meet
        case rel=>exact ⟨true,rfl,⟨fun _=>by have:=Hlt.out;omega⟩,⟨at_⟩⟩
       case neg=>
        have f4_69:(r4 == 69)=false:=beq_eq_false_iff_ne.2 h4_69
        have Fh4_69:=asd_ h4_69;clear h4_69
        go_wp2_with (first|((first|((with_reducible refine gd_ 46 ?_);refine cl_ #[.pointer (some ⟨g,0,none⟩),.int .i64 0] (.int .i32 r4) Tryz.func104 (Hp4.out _ at_) ?_)|((with_reducible refine gd_ 50 ?_);(try (refine gate_guard (by rfl) ?_;dsimp only));refine cl_ #[.pointer (some ⟨g,0,none⟩),.int .i64 0] (.int .i32 r4) Tryz.func104 (Hp4.out _ at_) ?_));intro wc46 HK1;replace HK:=asd_ HK1;clear HK1;replace Bc:=ce1_ HK 0;replace Bf:=fe1_ HK 0))
        go_meet
        case rel=>exact ⟨false,rfl,⟨fun h=>by cases h⟩,⟨at_⟩⟩
     case rest=>
      clear HK
      obtain ⟨b,rfl,Hb4,HK⟩:=hcut
      replace Bc:=ce1_ HK 0;replace Bf:=fe1_ HK 0
      go_upto_if 52 with (fail)
      go_cut [4] from 53 to 77 (fun v4 wc=>∃ (kind q3:Int),v4= .int .i64 kind∧Aside0 (i < q3)∧Aside0 (q3≤xs.length)∧Aside0 (At w0 (.b g (row (LXc A n c q3 v sure seen line from_) 194):: .f (Toks w0 v ts)::l) wc))
      case first=>
       cases b
       case false=>
        go_wp2_with fail
        go_meet
        case rel=>exact ⟨kind,q2,rfl,Hiq2,Hql2,⟨at_⟩⟩
       case true=>
        have Hlt:Aside0 (q2 < xs.length):=⟨Hb4.out (by trivial)⟩;clear Hb4
        have hs:IntKind.i64.wrap (q2 + 1)=q2 + 1:=IntWalk.i64_in _ (by have:=H0_.out;have:=H1_.out;have:=HL_.out;have:=Hiq2.out;have:=Hql2.out;omega)
        obtain ⟨q5,hq5⟩:∃ q5,q2 + 1=q5:=⟨_,rfl⟩
        have hs5:IntKind.i64.wrap (q2 + 1)=q5:=hs.trans hq5;clear hs
        have Hiq5:Aside0 (i < q5):=⟨by have:=Hiq2.out;omega⟩;have Hql5:Aside0 (q5≤xs.length):=⟨by have:=Hlt.out;omega⟩;have Hq5:=asd_ hq5;clear hq5
        obtain ⟨r5,hr5⟩:∃ r,pk xs (q5 + 0)=r:=⟨_,rfl⟩
        have hp5:∀ W,At w0 (.b g (row (LXc A n c q5 v sure seen line from_) 194):: .f (Toks w0 v ts)::l) W→Calls Tryz.prog 104 #[.pointer (some ⟨g,0,none⟩),.int .i64 0] W fun e w'=>e= .returned (.int .i32 r5)∧Below W.heap.size W w':=fun W hW=>by rw [← hr5];exact peek_ok 0 hW Hn_.out Ht_.out HL_.out (by have:=H0_.out;have:=H1_.out;have:=HL_.out;have:=Hiq5.out;have:=Hql5.out;omega) (by have:=H0_.out;have:=H1_.out;have:=HL_.out;have:=Hiq5.out;have:=Hql5.out;omega) (by omega) (by omega)
        obtain ⟨Hr5,Hp5⟩:=as2_ hr5 hp5;clear hr5 hp5
        go_upto_region 14 with (first|((with_reducible refine gate_ (.store 3 (.tmp 59) (.tmp 57)) rfl ?_);refine store_at (t:=3) (p:=59) (g:=g) (i:=1) (v:= .int .i64 q5) 0 (LXc A n c q5 v sure seen line from_) rfl at_ rfl Gg.out rfl rfl rfl rfl gs_ ?_;intro ws3 HK1;replace HK:=asd_ HK1;clear HK1;replace Bc:=ce1_ HK 0;replace Bf:=fe1_ HK 0))
        go_cut [67] from 60 to 67 (fun v67 wc=>∃ b:Bool,v67= .bool b∧Aside0 (b=true→q5 < xs.length)∧Aside0 (At w0 (.b g (row (LXc A n c q5 v sure seen line from_) 194):: .f (Toks w0 v ts)::l) wc))
        case first=>
         by_cases h5_43:r5=43
         case pos=>
          have f5_43:(r5 == 43)=true:=beq_iff_eq.2 h5_43
          have Fh5_43:=asd_ h5_43;clear h5_43
          have Hlt:Aside0 (q5 + 0 < xs.length):=⟨pk_in (by rw [Hr5.out,Fh5_43.out];omega)⟩
          go_wp2_with (first|((with_reducible refine gd_ 61 ?_);refine cl_ #[.pointer (some ⟨g,0,none⟩),.int .i64 0] (.int .i32 r5) Tryz.func104 (Hp5.out _ at_) ?_;intro wc61 HK1;replace HK:=asd_ HK1;clear HK1;replace Bc:=ce1_ HK 0;replace Bf:=fe1_ HK 0))
          go_meet
          case rel=>exact ⟨true,rfl,⟨fun _=>by have:=Hlt.out;omega⟩,⟨at_⟩⟩
         case neg=>
          have f5_43:(r5 == 43)=false:=beq_eq_false_iff_ne.2 h5_43
          have Fh5_43:=asd_ h5_43;clear h5_43
          by_cases h5_45:r5=45
          case pos=>
           have f5_45:(r5 == 45)=true:=beq_iff_eq.2 h5_45
           have Fh5_45:=asd_ h5_45;clear h5_45
           have Hlt:Aside0 (q5 + 0 < xs.length):=⟨pk_in (by rw [Hr5.out,Fh5_45.out];omega)⟩
           go_wp2_with (first|((first|((with_reducible refine gd_ 61 ?_);refine cl_ #[.pointer (some ⟨g,0,none⟩),.int .i64 0] (.int .i32 r5) Tryz.func104 (Hp5.out _ at_) ?_)|((with_reducible refine gd_ 65 ?_);(try (refine gate_guard (by rfl) ?_;dsimp only));refine cl_ #[.pointer (some ⟨g,0,none⟩),.int .i64 0] (.int .i32 r5) Tryz.func104 (Hp5.out _ at_) ?_));intro wc61 HK1;replace HK:=asd_ HK1;clear HK1;replace Bc:=ce1_ HK 0;replace Bf:=fe1_ HK 0))
           go_meet
           case rel=>exact ⟨true,rfl,⟨fun _=>by have:=Hlt.out;omega⟩,⟨at_⟩⟩
          case neg=>
           have f5_45:(r5 == 45)=false:=beq_eq_false_iff_ne.2 h5_45
           have Fh5_45:=asd_ h5_45;clear h5_45
           go_wp2_with (first|((first|((with_reducible refine gd_ 61 ?_);refine cl_ #[.pointer (some ⟨g,0,none⟩),.int .i64 0] (.int .i32 r5) Tryz.func104 (Hp5.out _ at_) ?_)|((with_reducible refine gd_ 65 ?_);(try (refine gate_guard (by rfl) ?_;dsimp only));refine cl_ #[.pointer (some ⟨g,0,none⟩),.int .i64 0] (.int .i32 r5) Tryz.func104 (Hp5.out _ at_) ?_));intro wc61 HK1;replace HK:=asd_ HK1;clear HK1;replace Bc:=ce1_ HK 0;replace Bf:=fe1_ HK 0))
           go_meet
           case rel=>exact ⟨false,rfl,⟨fun h=>by cases h⟩,⟨at_⟩⟩
        case rest=>
         clear HK
         obtain ⟨b5,rfl,Hb5,HK⟩:=hcut
         replace Bc:=ce1_ HK 0;replace Bf:=fe1_ HK 0
         cases b5
         case false=>
          go_wp2_with fail
          refine (digits_more (i:=q5) at_ Hn_.out Ht_.out HL_.out Hg_.out (by have:=H0_.out;have:=H1_.out;have:=HL_.out;have:=Hiq5.out;have:=Hql5.out;omega) (by have:=H0_.out;have:=H1_.out;have:=HL_.out;have:=Hiq5.out;have:=Hql5.out;omega)).mono ?_
          rintro _ w9 ⟨bd,q9,rfl,h91,h92,h93,HK1⟩
          clear HK;have HK:=asd_ HK1;clear HK1;obtain ⟨H91,H92,H93⟩:=as3_ h91 h92 h93;clear h91 h92 h93
          replace Bc:=ce1_ HK 0;replace Bf:=fe1_ HK 0
          cases bd
          case false=>
           go_wp2_with fail
           go_ret
           exact ⟨false,rfl,q9,sure,ts,⟨v,seen,line,from_,Hs0_.out,Hs1_.out,at_⟩,fun h=>by cases h⟩
          case true=>
           go_wp2_with fail
           go_meet
           case rel=>exact ⟨17,q9,rfl,⟨by have:=H91.out;have:=Hiq5.out;omega⟩,H92,⟨at_⟩⟩
         case true=>
          have Hlt5:Aside0 (q5 < xs.length):=⟨Hb5.out (by trivial)⟩;clear Hb5
          have hs6:IntKind.i64.wrap (q5 + 1)=q5 + 1:=IntWalk.i64_in _ (by have:=H0_.out;have:=H1_.out;have:=HL_.out;have:=Hiq5.out;have:=Hql5.out;omega)
          go_wp2_with (first|((with_reducible refine gate_ (.store 3 (.tmp 74) (.tmp 72)) rfl ?_);refine store_at (t:=3) (p:=74) (g:=g) (i:=1) (v:= .int .i64 (q5 + 1)) 0 (LXc A n c (q5 + 1) v sure seen line from_) rfl at_ rfl Gg.out rfl rfl rfl rfl gs_ ?_;intro ws4 HK1;replace HK:=asd_ HK1;clear HK1;replace Bc:=ce1_ HK 0;replace Bf:=fe1_ HK 0))
          refine (digits_more (i:=(q5 + 1)) at_ Hn_.out Ht_.out HL_.out Hg_.out (by have:=H0_.out;have:=H1_.out;have:=HL_.out;have:=Hiq5.out;have:=Hlt5.out;omega) (by have:=H0_.out;have:=H1_.out;have:=HL_.out;have:=Hiq5.out;have:=Hlt5.out;omega)).mono ?_
          rintro _ w9 ⟨bd,q9,rfl,h91,h92,h93,HK1⟩
          clear HK;have HK:=asd_ HK1;clear HK1;obtain ⟨H91,H92,H93⟩:=as3_ h91 h92 h93;clear h91 h92 h93
          replace Bc:=ce1_ HK 0;replace Bf:=fe1_ HK 0
          cases bd
          case false=>
           go_wp2_with fail
           go_ret
           exact ⟨false,rfl,q9,sure,ts,⟨v,seen,line,from_,Hs0_.out,Hs1_.out,at_⟩,fun h=>by cases h⟩
          case true=>
           go_wp2_with fail
           go_meet
           case rel=>exact ⟨17,q9,rfl,⟨by have:=H91.out;have:=Hiq5.out;omega⟩,H92,⟨at_⟩⟩
      case rest=>
       clear Hb4
       clear HK
       obtain ⟨kind3,q3,rfl,Hiq3,Hql3,HK⟩:=hcut
       replace Bc:=ce1_ HK 0;replace Bf:=fe1_ HK 0
       obtain ⟨r6,hr6⟩:∃ r,pk xs (q3 + 0)=r:=⟨_,rfl⟩
       have hp6:∀ W,At w0 (.b g (row (LXc A n c q3 v sure seen line from_) 194):: .f (Toks w0 v ts)::l) W→Calls Tryz.prog 104 #[.pointer (some ⟨g,0,none⟩),.int .i64 0] W fun e w'=>e= .returned (.int .i32 r6)∧Below W.heap.size W w':=fun W hW=>by rw [← hr6];exact peek_ok 0 hW Hn_.out Ht_.out HL_.out (by have:=H0_.out;have:=H1_.out;have:=HL_.out;have:=Hiq3.out;have:=Hql3.out;omega) (by have:=H0_.out;have:=H1_.out;have:=HL_.out;have:=Hiq3.out;have:=Hql3.out;omega) (by omega) (by omega)
       obtain ⟨Hr6,Hp6⟩:=as2_ hr6 hp6;clear hr6 hp6
       obtain ⟨b6,hb6⟩:∃ b,spec_IsStart.f r6=some b:=by unfold spec_IsStart.f;(repeat' split)<;>exact ⟨_,rfl⟩
       have Hb6:=asd_ hb6;clear hb6
       go_upto_region 18 with (fail)
       go_cut [85] from 78 to 85 (fun v85 wc=>∃ b:Bool,v85= .bool b∧Aside0 (At w0 (.b g (row (LXc A n c q3 v sure seen line from_) 194):: .f (Toks w0 v ts)::l) wc))
       case first=>
        cases b6
        case true=>
         go_wp2_with (first|((first|((with_reducible refine gd_ 79 ?_);refine cl_ #[.pointer (some ⟨g,0,none⟩),.int .i64 0] (.int .i32 r6) Tryz.func104 (Hp6.out _ at_) ?_)|((with_reducible refine gd_ 80 ?_);refine cl_ #[.int .i32 r6] (.bool true) Tryz.func43 ((spec_IsStart.calls r6 true _ Hb6.out).mono (fun _ _ h=>⟨h.1,h.2.below⟩)) ?_));intro wc79 HK1;replace HK:=asd_ HK1;clear HK1;replace Bc:=ce1_ HK 0;replace Bf:=fe1_ HK 0))
         go_meet
         case rel=>exact ⟨true,rfl,⟨at_⟩⟩
        case false=>
         by_cases h6_46:r6=46
         case pos=>
          have f6_46:(r6 == 46)=true:=beq_iff_eq.2 h6_46
          have Fh6_46:=asd_ h6_46;clear h6_46
          go_wp2_with (first|((first|((with_reducible refine gd_ 79 ?_);refine cl_ #[.pointer (some ⟨g,0,none⟩),.int .i64 0] (.int .i32 r6) Tryz.func104 (Hp6.out _ at_) ?_)|((with_reducible refine gd_ 80 ?_);refine cl_ #[.int .i32 r6] (.bool false) Tryz.func43 ((spec_IsStart.calls r6 false _ Hb6.out).mono (fun _ _ h=>⟨h.1,h.2.below⟩)) ?_)|((with_reducible refine gd_ 83 ?_);(try (refine gate_guard (by rfl) ?_;dsimp only));refine cl_ #[.pointer (some ⟨g,0,none⟩),.int .i64 0] (.int .i32 r6) Tryz.func104 (Hp6.out _ at_) ?_));intro wc79 HK1;replace HK:=asd_ HK1;clear HK1;replace Bc:=ce1_ HK 0;replace Bf:=fe1_ HK 0))
          go_meet
          case rel=>exact ⟨true,rfl,⟨at_⟩⟩
         case neg=>
          have f6_46:(r6 == 46)=false:=beq_eq_false_iff_ne.2 h6_46
          have Fh6_46:=asd_ h6_46;clear h6_46
          go_wp2_with (first|((first|((with_reducible refine gd_ 79 ?_);refine cl_ #[.pointer (some ⟨g,0,none⟩),.int .i64 0] (.int .i32 r6) Tryz.func104 (Hp6.out _ at_) ?_)|((with_reducible refine gd_ 80 ?_);refine cl_ #[.int .i32 r6] (.bool false) Tryz.func43 ((spec_IsStart.calls r6 false _ Hb6.out).mono (fun _ _ h=>⟨h.1,h.2.below⟩)) ?_)|((with_reducible refine gd_ 83 ?_);(try (refine gate_guard (by rfl) ?_;dsimp only));refine cl_ #[.pointer (some ⟨g,0,none⟩),.int .i64 0] (.int .i32 r6) Tryz.func104 (Hp6.out _ at_) ?_));intro wc79 HK1;replace HK:=asd_ HK1;clear HK1;replace Bc:=ce1_ HK 0;replace Bf:=fe1_ HK 0))
          go_meet
          case rel=>exact ⟨false,rfl,⟨at_⟩⟩
       case rest=>
        clear HK
        obtain ⟨b7,rfl,HK⟩:=hcut
        replace Bc:=ce1_ HK 0;replace Bf:=fe1_ HK 0
        go_upto_if 85 with (fail)
        go_cut [] from 86 to 88 (fun wc=>∃ sure1:Bool,Aside0 (At w0 (.b g (row (LXc A n c q3 v sure1 seen line from_) 194):: .f (Toks w0 v ts)::l) wc))
        case first=>
         cases b7
         case false=>
          go_wp2_with fail
          go_meet
          case rel=>exact ⟨sure,⟨at_⟩⟩
         case true=>
          go_wp2_with (first|((with_reducible refine gate_ (.store 4 (.tmp 88) (.const (.bool false))) rfl ?_);refine store_at (t:=4) (p:=88) (g:=g) (i:=3) (v:= .bool false) 0 (LXc A n c q3 v false seen line from_) rfl at_ rfl Gg.out rfl rfl rfl rfl gs_ ?_;intro ws5 HK1;replace HK:=asd_ HK1;clear HK1;replace Bc:=ce1_ HK 0;replace Bf:=fe1_ HK 0))
          go_meet
          case rel=>exact ⟨false,⟨at_⟩⟩
        case rest=>
         clear HK
         obtain ⟨sure1,HK⟩:=hcut
         replace Bc:=ce1_ HK 0;replace Bf:=fe1_ HK 0
         obtain rfl:n=xs.length:=Hn_.out;clear Hn_
         obtain ⟨ad,rfl,_⟩:=Txt.at Ht_.out HK.out i H0_.out H1_.out
         have c1:i≤q3:=by have:=Hiq3.out;omega
         have k1:((0:Int)≤q3)=True:=eq_true (by have:=H0_.out;omega);have k2:(q3≤(c:Int))=True:=eq_true (by have:=Hql3.out;have:=Hc_.out;omega);have k3:max q3 0=q3:=(by have:=H0_.out;omega);have k6:((0:Int)≤i)=True:=eq_true H0_.out;have k4:(i≤q3)=True:=eq_true c1;have k5:(c=i.toNat)=False:=eq_false (by have:=H0_.out;have:=H1_.out;have:=Hc_.out;omega)
         clear c1
         go_wp2_with fail
         refine su1_ 15 HK 0 [14] (fun HS hHeld=> ?_)
         refine pu_ 0 89 1 ?_
         refine pu_ 1 90 3 ?_
         refine pu_ 2 91 7 ?_
         refine pu_ 3 92 15 ?_
         refine pu_ 4 93 31 ?_
         refine pu_ 6 95 95 ?_
         refine pu_ 7 96 223 ?_
         refine pu_ 8 97 479 ?_
         refine pu_ 9 98 991 ?_
         refine pu_ 13 102 9183 ?_
         refine ta2_ 5 94 9215 hHeld ?_
         refine ta2_ 10 99 10239 hHeld ?_
         refine pu_ 11 100 12287 ?_
         refine on_ 12 101 16383 (fun K hK=> ?_)
         refine value_ (w1:=_) (v:= .string (runesBytes ((xs.drop i.toNat).take (q3.toNat - i.toNat)))) (by rfl) rfl (conv_runes (x:= .tmp 100) (by rfl) (by rfl) ((xs.drop i.toNat).take (q3.toNat - i.toNat)) (by simp;have:=Hql3.out;have:=Hiq3.out;have:=H0_.out;omega) (fun j hj=>Txt.cut Ht_.out hHeld.1 i.toNat q3.toNat (by have:=Hiq3.out;omega) (by have:=Hql3.out;omega) j hj)) ?_
         refine hK.out _ _ ⟨hHeld.1,hHeld.2⟩ (fun hHeld=> ?_)
         clear hK K
         refine nq_ 101 ?_
         refine la_ 14 103 32767 (fun K hK=> ?_)
         have HE:=asd_ (hHeld.1)
         refine ge_ Tryz.func102 #[.pointer (some ⟨g,0,none⟩),.int .i64 kind3,.string (runesBytes ((xs.drop i.toNat).take (q3.toNat - i.toNat))),.int .i64 i] ?_
         with_reducible refine (put_ok (ts:=ts) (xs:=xs) (i:=q3) (st:=i) HE.out rfl Ht_.out HL_.out Hg_.out Hl_.out Hs0_.out Hs1_.out H0_.out (by have:=H1_.out;omega) (by have:=Hts_.out;have:=HL_.out;have:=H1_.out;omega)).mono ?_
         rintro e w3 ⟨rfl,v9,tk9,s9,ln9,fr9,h9,h8,HE0⟩
         refine ⟨_,rfl,?_⟩
         have HE1:=asd_ HE0
         clear HE0
         obtain ⟨H9,H8⟩:=as2_ h9 h8;clear h9 h8
         clear HE;have HE:=HE1;clear HE1
         refine hK.out _ _ ?_
         clear hK K
         refine nq_ 103 ?_
         refine done_ kr_ ?_
         clear HK;have HK:=HE;clear HE
         clear hHeld
         replace Bc:=ce1_ HK 0
         replace Bf:=fe1_ HK 0
         go_wp2_with fail
         go_ret
         exact ⟨true,rfl,q3,sure1,ts ++ [tk9],⟨_,_,_,_,H9.out,H8.out,at_⟩,fun _=>⟨Hiq3.out,Hql3.out,by have:=Hts_.out;have:=Hiq3.out;have:=H0_.out;simp;omega⟩⟩
end Go.Proofs.YtlblbefbbibpaaaGreatDoor.J
namespace Go.Proofs.YtlblbefbbibpaaaGreatDoor.PAM
open Go.RowKit Zw.PrintWords Zw.PrintLast Zw.PrintMore
attribute [local go_sem] max2_int min2_int max_two min_two max_three min_three max_four min_four
def spec_Hex.j0:Nat→Int→Bool→Option (Int)
 |0,_,_=>none
 |k + 1,x0,x9=>if x9=true then (some (wrap64 ((wrap64 (wrap32 (x0 - 97))) + 10))) else (if x0 ≥ 65 then (if x0≤70 then (some (wrap64 ((wrap64 (wrap32 (x0 - 65))) + 10))) else (some (-1))) else (some (-1)))
def spec_Hex.f (k:Nat) (a0:Int):Option (Int):=(spec_IsDigit.f a0).bind fun t128=>(if t128=true then (some (wrap64 (wrap32 (a0 - 48)))) else (if a0 ≥ 97 then (spec_Hex.j0 k a0 (decide (a0≤102))) else (spec_Hex.j0 k a0 false)))
theorem spec_Hex.calls (k:Nat) (a0:Int) (r:Int) (w:World) (h:spec_Hex.f k a0=some r):
  Calls Tryz.prog 144 #[.int .i32 a0] w fun e w'=>e= .returned (.int .i64 r)∧Drawn0 w w':=by
 have H:((spec_IsDigit.f a0).bind fun t128=>(if t128=true then (some (wrap64 (wrap32 (a0 - 48)))) else (if a0 ≥ 97 then (spec_Hex.j0 k a0 (decide (a0≤102))) else (spec_Hex.j0 k a0 false))))=some r:=h
 clear h
 replace H:=Option.bind_eq_some_iff.mp H
 obtain ⟨t128,A20,H⟩:=H
 replace H:(if t128=true then (some (wrap64 (wrap32 (a0 - 48)))) else (if a0 ≥ 97 then (spec_Hex.j0 k a0 (decide (a0≤102))) else (spec_Hex.j0 k a0 false)))=some r:=H
 have A2:=asd_ A20
 clear A20
 by_cases c3:t128=true
 ·subst c3
  have H1:(some (wrap64 (wrap32 (a0 - 48))))=some r:=by rw [if_pos rfl] at H;exact H
  clear H
  have H:=H1
  clear H1
  obtain rfl:=Option.some.inj H
  go_enter Tryz.func144,Tryz.ntmps144
  go_wp2_with (first|((with_reducible refine gate_callee (f:=44) rfl ?_);refine goesL_ (some 5) rfl rfl Tryz.func44 kr_ rfl #[.int .i32 a0] rfl ap_ ?_;(with_reducible refine (spec_IsDigit.calls a0 true _ A2.out).mono ?_);rintro e w' ⟨rfl,⟨nd,rfl⟩⟩;refine ⟨_,rfl,?_⟩))
  go_ret
  exact ⟨r1_,dr_⟩
 ·replace c3:=Bool.eq_false_iff.mpr c3
  subst c3
  have H1:(if a0 ≥ 97 then (spec_Hex.j0 k a0 (decide (a0≤102))) else (spec_Hex.j0 k a0 false))=some r:=by rw [if_neg (show ¬ (false=true) by decide)] at H;exact H
  clear H
  have H:=H1
  clear H1
  have HC4:=asd_ H
  clear H
  go_enter Tryz.func144,Tryz.ntmps144
  go_upto_region 3 with (first|((with_reducible refine gate_callee (f:=44) rfl ?_);refine goesL_ (some 5) rfl rfl Tryz.func44 kr_ rfl #[.int .i32 a0] rfl ap_ ?_;(with_reducible refine (spec_IsDigit.calls a0 false _ A2.out).mono ?_);rintro e w' ⟨rfl,⟨nd,rfl⟩⟩;refine ⟨_,rfl,?_⟩))
  (try simp only [Act.put,List.setIfInBounds_toArray,List.set_cons_zero,List.set_cons_succ])
  go_cut [9] (fun v9 wc=>∃ (kq:Nat) (x9_3:Bool),v9= .bool x9_3∧Aside0 (spec_Hex.j0 kq a0 x9_3=some r)∧Aside0 (kq≤k)∧Drawn0 w wc)
  case first=>
   have H:=HC4.out
   clear HC4
   by_cases c5:a0 ≥ 97
   ·rw [if_pos c5] at H
    have c5b0:=decide_eq_true c5
    clear c5
    (first|rw [c5b0]|(simp only [i64_w,i32_w];rw [c5b0])|skip)
    have H':=asd_ H
    clear H
    go_wp2
    go_meet
    case rel=>exact ⟨_,(decide (a0≤102)),r1_,H',⟨by first|omega|exact Nat.le_refl _⟩,dr_⟩
   ·rw [if_neg c5] at H
    have c5b0:=decide_eq_false c5
    clear c5
    (first|rw [c5b0]|(simp only [i64_w,i32_w];rw [c5b0])|skip)
    have H':=asd_ H
    clear H
    go_wp2
    go_meet
    case rel=>exact ⟨_,(false),r1_,H',⟨by first|omega|exact Nat.le_refl _⟩,dr_⟩
  case rest=>
   clear HC4
   obtain ⟨kq,x9_3,rfl,HA,HJ3,⟨mc3,rfl⟩⟩:=hcut
   cases kq with
   |zero=>exact absurd HA.out (by simp [spec_Hex.j0])
   |succ kj3=>
    have H:=HA.out
    clear HA
    simp only [spec_Hex.j0] at H
    by_cases c6:x9_3=true
    ·subst c6
     have H1:(some (wrap64 ((wrap64 (wrap32 (a0 - 97))) + 10)))=some r:=by rw [if_pos rfl] at H;exact H
     clear H
     have H:=H1
     clear H1
     obtain rfl:=Option.some.inj H
     go_wp2
     go_ret
     exact ⟨r1_,dr_⟩
    ·replace c6:=Bool.eq_false_iff.mpr c6
     subst c6
     have H1:(if a0 ≥ 65 then (if a0≤70 then (some (wrap64 ((wrap64 (wrap32 (a0 - 65))) + 10))) else (some (-1))) else (some (-1)))=some r:=by rw [if_neg (show ¬ (false=true) by decide)] at H;exact H
     clear H
     have H:=H1
     clear H1
     by_cases c7:a0 ≥ 65
     ·rw [if_pos c7] at H
      have c7b0:=decide_eq_true c7
      clear c7
      by_cases c8:a0≤70
      ·rw [if_pos c8] at H
       have c8b0:=decide_eq_true c8
       clear c8
       obtain rfl:=Option.some.inj H
       go_wp2
       go_ret
       exact ⟨r1_,dr_⟩
      ·rw [if_neg c8] at H
       have c8b0:=decide_eq_false c8
       clear c8
       obtain rfl:=Option.some.inj H
       go_wp2
       go_ret
       exact ⟨r1_,dr_⟩
     ·rw [if_neg c7] at H
      have c7b0:=decide_eq_false c7
      clear c7
      obtain rfl:=Option.some.inj H
      go_wp2
      go_ret
      exact ⟨r1_,dr_⟩
end Go.Proofs.YtlblbefbbibpaaaGreatDoor.PAM
namespace Go.Proofs.YtlblbefbbibpaaaGreatDoor.J
open Go.RowKit Zw Zw.PrintWords Zw.PrintLast Zw.PrintMore PAM
theorem hex_ok (r:Int):∃ h,spec_Hex.f 1 r=some h∧(0≤h→r≠0):=by
 by_cases e:r=0
 ·subst e
  refine ⟨-1,?_,fun h=>by omega⟩
  simp [spec_Hex.f,spec_IsDigit.f,spec_Hex.j0]
 ·have:∃ h,spec_Hex.f 1 r=some h:=by
   unfold spec_Hex.f spec_IsDigit.f spec_Hex.j0
   split<;>simp only [Option.bind_some]
   ·split
    ·exact ⟨_,rfl⟩
    ·(repeat' split)<;>exact ⟨_,rfl⟩
   ·(repeat' split)<;>first|exact ⟨_,rfl⟩|simp_all
  obtain ⟨h,hh⟩:=this
  exact ⟨h,hh,fun _=>e⟩
theorem escape_ok {w0 w:World} {l:List Blk} {g n c:Nat} {A:Option Addr} {xs:List Int} {i seen line from_:Int} {v:Value} {sure:Bool} (H:At w0 (.b g (row (LXc A n c i v sure seen line from_) 194)::l) w) (hn:n=xs.length) (ht:Txt w0 A xs) (hL:xs.length≤8388608) (hg:w0.heap.size≤g) (h0:0≤i) (h1:i≤xs.length):
  Calls Tryz.prog 127 #[.pointer (some ⟨g,0,none⟩)] w fun e w'=>∃ (r:Int) (b:Bool) (q:Int) (sure1:Bool),e= .returned (.tuple #[.int .i32 r,.bool b])∧(b=true→i < q∧q≤xs.length)∧At w0 (.b g (row (LXc A n c q v sure1 seen line from_) 194)::l) w':=by
 obtain ⟨Hg_,Ht_,Hn_,HL_,H0_,H1_⟩:=as6_ hg ht hn hL h0 h1;clear hg ht hn hL h0 h1
 have Gg:=Hg_
 have HK:=asd_ H
 clear H
 replace Bc:=ce1_ HK 0;replace Bf:=fe1_ HK 0
 go_enter Tryz.func127,Tryz.ntmps127
 obtain ⟨r0,hr0⟩:∃ r,pk xs (i + 0)=r:=⟨_,rfl⟩
 have hp0:∀ W,At w0 (.b g (row (LXc A n c i v sure seen line from_) 194)::l) W→Calls Tryz.prog 104 #[.pointer (some ⟨g,0,none⟩),.int .i64 0] W fun e w'=>e= .returned (.int .i32 r0)∧Below W.heap.size W w':=fun W hW=>by rw [← hr0];exact peek_ok 0 hW Hn_.out Ht_.out HL_.out (by have:=H0_.out;have:=H1_.out;have:=HL_.out;omega) (by have:=H0_.out;have:=H1_.out;have:=HL_.out;omega) (by omega) (by omega)
 obtain ⟨Hr0,Hp0⟩:=as2_ hr0 hp0;clear hr0 hp0
 have hs:IntKind.i64.wrap (i + 1)=i + 1:=IntWalk.i64_in _ (by have:=H0_.out;have:=H1_.out;have:=HL_.out;omega)
 obtain ⟨q,hq⟩:∃ q,i + 1=q:=⟨_,rfl⟩
 have hs1:IntKind.i64.wrap (i + 1)=q:=hs.trans hq;clear hs
 have Hq:=asd_ hq;clear hq
 by_cases h0_34:r0=34
 case pos=>
  have f0_34:(r0 == 34)=true:=beq_iff_eq.2 h0_34
  have Fh0_34:=asd_ h0_34;clear h0_34
  have Hlt:Aside0 (i + 0 < xs.length):=⟨pk_in (by rw [Hr0.out,Fh0_34.out];omega)⟩
  go_wp2_with (first|((first|((with_reducible refine gd_ 8 ?_);refine cl_ #[.pointer (some ⟨g,0,none⟩),.int .i64 0] (.int .i32 r0) Tryz.func104 (Hp0.out _ at_) ?_)|((with_reducible refine gate_ (.store 3 (.tmp 15) (.tmp 13)) rfl ?_);refine store_at (t:=3) (p:=15) (g:=g) (i:=1) (v:= .int .i64 q) 0 (LXc A n c q v sure seen line from_) rfl at_ rfl Gg.out rfl rfl rfl rfl gs_ ?_));intro wc8 HK1;replace HK:=asd_ HK1;clear HK1;replace Bc:=ce1_ HK 0;replace Bf:=fe1_ HK 0))
  go_ret2
  exact ⟨_,true,q,sure,rfl,fun _=>⟨by have:=Hq.out;omega,by have:=Hq.out;have:=Hlt.out;omega⟩,at_⟩
 have f0_34:(r0 == 34)=false:=beq_eq_false_iff_ne.2 h0_34;clear h0_34
 by_cases h0_92:r0=92
 case pos=>
  have f0_92:(r0 == 92)=true:=beq_iff_eq.2 h0_92
  have Fh0_92:=asd_ h0_92;clear h0_92
  have Hlt:Aside0 (i + 0 < xs.length):=⟨pk_in (by rw [Hr0.out,Fh0_92.out];omega)⟩
  go_wp2_with (first|((first|((with_reducible refine gd_ 8 ?_);refine cl_ #[.pointer (some ⟨g,0,none⟩),.int .i64 0] (.int .i32 r0) Tryz.func104 (Hp0.out _ at_) ?_)|((with_reducible refine gate_ (.store 3 (.tmp 15) (.tmp 13)) rfl ?_);refine store_at (t:=3) (p:=15) (g:=g) (i:=1) (v:= .int .i64 q) 0 (LXc A n c q v sure seen line from_) rfl at_ rfl Gg.out rfl rfl rfl rfl gs_ ?_));intro wc8 HK1;replace HK:=asd_ HK1;clear HK1;replace Bc:=ce1_ HK 0;replace Bf:=fe1_ HK 0))
  go_ret2
  exact ⟨_,true,q,sure,rfl,fun _=>⟨by have:=Hq.out;omega,by have:=Hq.out;have:=Hlt.out;omega⟩,at_⟩
 have f0_92:(r0 == 92)=false:=beq_eq_false_iff_ne.2 h0_92;clear h0_92
 by_cases h0_47:r0=47
 case pos=>
  have f0_47:(r0 == 47)=true:=beq_iff_eq.2 h0_47
  have Fh0_47:=asd_ h0_47;clear h0_47
  have Hlt:Aside0 (i + 0 < xs.length):=⟨pk_in (by rw [Hr0.out,Fh0_47.out];omega)⟩
  go_wp2_with (first|((first|((with_reducible refine gd_ 8 ?_);refine cl_ #[.pointer (some ⟨g,0,none⟩),.int .i64 0] (.int .i32 r0) Tryz.func104 (Hp0.out _ at_) ?_)|((with_reducible refine gate_ (.store 3 (.tmp 15) (.tmp 13)) rfl ?_);refine store_at (t:=3) (p:=15) (g:=g) (i:=1) (v:= .int .i64 q) 0 (LXc A n c q v sure seen line from_) rfl at_ rfl Gg.out rfl rfl rfl rfl gs_ ?_));intro wc8 HK1;replace HK:=asd_ HK1;clear HK1;replace Bc:=ce1_ HK 0;replace Bf:=fe1_ HK 0))
  go_ret2
  exact ⟨_,true,q,sure,rfl,fun _=>⟨by have:=Hq.out;omega,by have:=Hq.out;have:=Hlt.out;omega⟩,at_⟩
 have f0_47:(r0 == 47)=false:=beq_eq_false_iff_ne.2 h0_47;clear h0_47
 by_cases h0_98:r0=98
 case pos=>
  have f0_98:(r0 == 98)=true:=beq_iff_eq.2 h0_98
  have Fh0_98:=asd_ h0_98;clear h0_98
  have Hlt:Aside0 (i + 0 < xs.length):=⟨pk_in (by rw [Hr0.out,Fh0_98.out];omega)⟩
  go_wp2_with (first|((first|((with_reducible refine gd_ 8 ?_);refine cl_ #[.pointer (some ⟨g,0,none⟩),.int .i64 0] (.int .i32 r0) Tryz.func104 (Hp0.out _ at_) ?_)|((with_reducible refine gate_ (.store 3 (.tmp 15) (.tmp 13)) rfl ?_);refine store_at (t:=3) (p:=15) (g:=g) (i:=1) (v:= .int .i64 q) 0 (LXc A n c q v sure seen line from_) rfl at_ rfl Gg.out rfl rfl rfl rfl gs_ ?_));intro wc8 HK1;replace HK:=asd_ HK1;clear HK1;replace Bc:=ce1_ HK 0;replace Bf:=fe1_ HK 0))
  go_ret2
  exact ⟨_,true,q,sure,rfl,fun _=>⟨by have:=Hq.out;omega,by have:=Hq.out;have:=Hlt.out;omega⟩,at_⟩
 have f0_98:(r0 == 98)=false:=beq_eq_false_iff_ne.2 h0_98;clear h0_98
 by_cases h0_102:r0=102
 case pos=>
  have f0_102:(r0 == 102)=true:=beq_iff_eq.2 h0_102
  have Fh0_102:=asd_ h0_102;clear h0_102
  have Hlt:Aside0 (i + 0 < xs.length):=⟨pk_in (by rw [Hr0.out,Fh0_102.out];omega)⟩
  go_wp2_with (first|((first|((with_reducible refine gd_ 8 ?_);refine cl_ #[.pointer (some ⟨g,0,none⟩),.int .i64 0] (.int .i32 r0) Tryz.func104 (Hp0.out _ at_) ?_)|((with_reducible refine gate_ (.store 3 (.tmp 15) (.tmp 13)) rfl ?_);refine store_at (t:=3) (p:=15) (g:=g) (i:=1) (v:= .int .i64 q) 0 (LXc A n c q v sure seen line from_) rfl at_ rfl Gg.out rfl rfl rfl rfl gs_ ?_));intro wc8 HK1;replace HK:=asd_ HK1;clear HK1;replace Bc:=ce1_ HK 0;replace Bf:=fe1_ HK 0))
  go_ret2
  exact ⟨_,true,q,sure,rfl,fun _=>⟨by have:=Hq.out;omega,by have:=Hq.out;have:=Hlt.out;omega⟩,at_⟩
 have f0_102:(r0 == 102)=false:=beq_eq_false_iff_ne.2 h0_102;clear h0_102
 by_cases h0_110:r0=110
 case pos=>
  have f0_110:(r0 == 110)=true:=beq_iff_eq.2 h0_110
  have Fh0_110:=asd_ h0_110;clear h0_110
  have Hlt:Aside0 (i + 0 < xs.length):=⟨pk_in (by rw [Hr0.out,Fh0_110.out];omega)⟩
  go_wp2_with (first|((first|((with_reducible refine gd_ 8 ?_);refine cl_ #[.pointer (some ⟨g,0,none⟩),.int .i64 0] (.int .i32 r0) Tryz.func104 (Hp0.out _ at_) ?_)|((with_reducible refine gate_ (.store 3 (.tmp 15) (.tmp 13)) rfl ?_);refine store_at (t:=3) (p:=15) (g:=g) (i:=1) (v:= .int .i64 q) 0 (LXc A n c q v sure seen line from_) rfl at_ rfl Gg.out rfl rfl rfl rfl gs_ ?_));intro wc8 HK1;replace HK:=asd_ HK1;clear HK1;replace Bc:=ce1_ HK 0;replace Bf:=fe1_ HK 0))
  go_ret2
  exact ⟨_,true,q,sure,rfl,fun _=>⟨by have:=Hq.out;omega,by have:=Hq.out;have:=Hlt.out;omega⟩,at_⟩
 have f0_110:(r0 == 110)=false:=beq_eq_false_iff_ne.2 h0_110;clear h0_110
 by_cases h0_114:r0=114
 case pos=>
  have f0_114:(r0 == 114)=true:=beq_iff_eq.2 h0_114
  have Fh0_114:=asd_ h0_114;clear h0_114
  have Hlt:Aside0 (i + 0 < xs.length):=⟨pk_in (by rw [Hr0.out,Fh0_114.out];omega)⟩
  go_wp2_with (first|((first|((with_reducible refine gd_ 8 ?_);refine cl_ #[.pointer (some ⟨g,0,none⟩),.int .i64 0] (.int .i32 r0) Tryz.func104 (Hp0.out _ at_) ?_)|((with_reducible refine gate_ (.store 3 (.tmp 15) (.tmp 13)) rfl ?_);refine store_at (t:=3) (p:=15) (g:=g) (i:=1) (v:= .int .i64 q) 0 (LXc A n c q v sure seen line from_) rfl at_ rfl Gg.out rfl rfl rfl rfl gs_ ?_));intro wc8 HK1;replace HK:=asd_ HK1;clear HK1;replace Bc:=ce1_ HK 0;replace Bf:=fe1_ HK 0))
  go_ret2
  exact ⟨_,true,q,sure,rfl,fun _=>⟨by have:=Hq.out;omega,by have:=Hq.out;have:=Hlt.out;omega⟩,at_⟩
 have f0_114:(r0 == 114)=false:=beq_eq_false_iff_ne.2 h0_114;clear h0_114
 by_cases h0_116:r0=116
 case pos=>
  have f0_116:(r0 == 116)=true:=beq_iff_eq.2 h0_116
  have Fh0_116:=asd_ h0_116;clear h0_116
  have Hlt:Aside0 (i + 0 < xs.length):=⟨pk_in (by rw [Hr0.out,Fh0_116.out];omega)⟩
  go_wp2_with (first|((first|((with_reducible refine gd_ 8 ?_);refine cl_ #[.pointer (some ⟨g,0,none⟩),.int .i64 0] (.int .i32 r0) Tryz.func104 (Hp0.out _ at_) ?_)|((with_reducible refine gate_ (.store 3 (.tmp 15) (.tmp 13)) rfl ?_);refine store_at (t:=3) (p:=15) (g:=g) (i:=1) (v:= .int .i64 q) 0 (LXc A n c q v sure seen line from_) rfl at_ rfl Gg.out rfl rfl rfl rfl gs_ ?_));intro wc8 HK1;replace HK:=asd_ HK1;clear HK1;replace Bc:=ce1_ HK 0;replace Bf:=fe1_ HK 0))
  go_ret2
  exact ⟨_,true,q,sure,rfl,fun _=>⟨by have:=Hq.out;omega,by have:=Hq.out;have:=Hlt.out;omega⟩,at_⟩
 have f0_116:(r0 == 116)=false:=beq_eq_false_iff_ne.2 h0_116;clear h0_116
 by_cases h0_117:r0=117
 case neg=>
  have f0_117:(r0 == 117)=false:=beq_eq_false_iff_ne.2 h0_117
  have Fh0_117:=asd_ h0_117;clear h0_117
  go_wp2_with (first|((first|((with_reducible refine gd_ 8 ?_);refine cl_ #[.pointer (some ⟨g,0,none⟩),.int .i64 0] (.int .i32 r0) Tryz.func104 (Hp0.out _ at_) ?_)|((with_reducible refine gate_ (.store 3 (.tmp 15) (.tmp 13)) rfl ?_);refine store_at (t:=3) (p:=15) (g:=g) (i:=1) (v:= .int .i64 q) 0 (LXc A n c q v sure seen line from_) rfl at_ rfl Gg.out rfl rfl rfl rfl gs_ ?_));intro wc8 HK1;replace HK:=asd_ HK1;clear HK1;replace Bc:=ce1_ HK 0;replace Bf:=fe1_ HK 0))
  go_ret2
  exact ⟨_,false,q,sure,rfl,(fun h=>by cases h),at_⟩
 case pos=>
  have f0_117:(r0 == 117)=true:=beq_iff_eq.2 h0_117
  have Fh0_117:=asd_ h0_117;clear h0_117
  have Hlt:Aside0 (i + 0 < xs.length):=⟨pk_in (by rw [Hr0.out,Fh0_117.out];omega)⟩
  obtain ⟨r1,hr1⟩:∃ r,pk xs (q + 0)=r:=⟨_,rfl⟩
  have hp1:∀ W,At w0 (.b g (row (LXc A n c q v sure seen line from_) 194)::l) W→Calls Tryz.prog 104 #[.pointer (some ⟨g,0,none⟩),.int .i64 0] W fun e w'=>e= .returned (.int .i32 r1)∧Below W.heap.size W w':=fun W hW=>by rw [← hr1];exact peek_ok 0 hW Hn_.out Ht_.out HL_.out (by have:=H0_.out;have:=H1_.out;have:=HL_.out;have:=Hq.out;have:=Hlt.out;omega) (by have:=H0_.out;have:=H1_.out;have:=HL_.out;have:=Hq.out;have:=Hlt.out;omega) (by omega) (by omega)
  obtain ⟨Hr1,Hp1⟩:=as2_ hr1 hp1;clear hr1 hp1
  by_cases h1_123:r1=123
  case pos=>
   have f1_123:(r1 == 123)=true:=beq_iff_eq.2 h1_123
   have Fh1_123:=asd_ h1_123;clear h1_123
   go_wp2_with (first|((first|((with_reducible refine gd_ 8 ?_);refine cl_ #[.pointer (some ⟨g,0,none⟩),.int .i64 0] (.int .i32 r0) Tryz.func104 (Hp0.out _ at_) ?_)|((with_reducible refine gate_ (.store 3 (.tmp 15) (.tmp 13)) rfl ?_);refine store_at (t:=3) (p:=15) (g:=g) (i:=1) (v:= .int .i64 q) 0 (LXc A n c q v sure seen line from_) rfl at_ rfl Gg.out rfl rfl rfl rfl gs_ ?_)|((with_reducible refine gd_ 35 ?_);refine cl_ #[.pointer (some ⟨g,0,none⟩),.int .i64 0] (.int .i32 r1) Tryz.func104 (Hp1.out _ at_) ?_)|((with_reducible refine gate_ (.store 4 (.tmp 39) (.const (.bool false))) rfl ?_);refine store_at (t:=4) (p:=39) (g:=g) (i:=3) (v:= .bool false) 0 (LXc A n c q v false seen line from_) rfl at_ rfl Gg.out rfl rfl rfl rfl gs_ ?_));intro wc8 HK1;replace HK:=asd_ HK1;clear HK1;replace Bc:=ce1_ HK 0;replace Bf:=fe1_ HK 0))
   go_ret2
   exact ⟨_,false,q,false,rfl,(fun h=>by cases h),at_⟩
  case neg=>
   have f1_123:(r1 == 123)=false:=beq_eq_false_iff_ne.2 h1_123
   have Fh1_123:=asd_ h1_123;clear h1_123
   go_wp2_with (first|((first|((with_reducible refine gd_ 8 ?_);refine cl_ #[.pointer (some ⟨g,0,none⟩),.int .i64 0] (.int .i32 r0) Tryz.func104 (Hp0.out _ at_) ?_)|((with_reducible refine gate_ (.store 3 (.tmp 15) (.tmp 13)) rfl ?_);refine store_at (t:=3) (p:=15) (g:=g) (i:=1) (v:= .int .i64 q) 0 (LXc A n c q v sure seen line from_) rfl at_ rfl Gg.out rfl rfl rfl rfl gs_ ?_)|((with_reducible refine gd_ 35 ?_);refine cl_ #[.pointer (some ⟨g,0,none⟩),.int .i64 0] (.int .i32 r1) Tryz.func104 (Hp1.out _ at_) ?_));intro wc8 HK1;replace HK:=asd_ HK1;clear HK1;replace Bc:=ce1_ HK 0;replace Bf:=fe1_ HK 0))
   go_loopg [5,40] 4 (fun kq v5 v40 w'=>∃ nn m p:Int,v5= .int .i64 nn∧v40= .int .i64 m∧Aside0 (0≤m)∧Aside0 (m + kq=4)∧Aside0 (i < p)∧Aside0 (p≤xs.length)∧Aside0 (At w0 (.b g (row (LXc A n c p v sure seen line from_) 194)::l) w'))
   case atStart=>exact ⟨0,0,q,rfl,rfl,⟨Int.le_refl _⟩,⟨by omega⟩,⟨by have:=H0_.out;have:=H1_.out;have:=HL_.out;have:=Hq.out;have:=Hlt.out;omega⟩,⟨by have:=H0_.out;have:=H1_.out;have:=HL_.out;have:=Hq.out;have:=Hlt.out;omega⟩,⟨at_⟩⟩
   case round=>
    clear HK
    obtain ⟨nn,m,p,rfl,rfl,Hm0,Hmk,Hip,Hpl,HK⟩:=hrel
    replace Bc:=ce1_ HK 0;replace Bf:=fe1_ HK 0
    by_cases hm:m < 4
    case neg=>
     have hd:decide (m < 4)=false:=decide_eq_false hm;clear hm
     by_cases hA:nn ≥ 55296
     case neg=>
      have dA:decide (nn < 55296)=true:=decide_eq_true (by omega);have dA2:decide (55296≤nn)=false:=decide_eq_false (by omega);clear hA
      go_wp2_with fail
      go_ret2
      exact ⟨_,true,p,sure,rfl,fun _=>⟨Hip.out,Hpl.out⟩,at_⟩
     case pos=>
      have dA:decide (nn < 55296)=false:=decide_eq_false (by omega);have dA2:decide (55296≤nn)=true:=decide_eq_true (by omega);clear hA
      by_cases hB:nn < 57344
      case neg=>
       have dB:decide (nn < 57344)=false:=decide_eq_false hB;clear hB
       go_wp2_with fail
       go_ret2
       exact ⟨_,true,p,sure,rfl,fun _=>⟨Hip.out,Hpl.out⟩,at_⟩
      case pos=>
       have dB:decide (nn < 57344)=true:=decide_eq_true hB;clear hB
       go_wp2_with (first|((with_reducible refine gate_ (.store 4 (.tmp 67) (.const (.bool false))) rfl ?_);refine store_at (t:=4) (p:=67) (g:=g) (i:=3) (v:= .bool false) 0 (LXc A n c p v false seen line from_) rfl at_ rfl Gg.out rfl rfl rfl rfl gs_ ?_;intro ws13 HK1;replace HK:=asd_ HK1;clear HK1;replace Bc:=ce1_ HK 0;replace Bf:=fe1_ HK 0))
       go_ret2
       exact ⟨_,true,p,false,rfl,fun _=>⟨Hip.out,Hpl.out⟩,at_⟩
    case pos=>
     have hd:decide (m < 4)=true:=decide_eq_true hm;have Hm4:=asd_ hm;clear hm
     obtain ⟨r2,hr2⟩:∃ r,pk xs (p + 0)=r:=⟨_,rfl⟩
     have hp2:∀ W,At w0 (.b g (row (LXc A n c p v sure seen line from_) 194)::l) W→Calls Tryz.prog 104 #[.pointer (some ⟨g,0,none⟩),.int .i64 0] W fun e w'=>e= .returned (.int .i32 r2)∧Below W.heap.size W w':=fun W hW=>by rw [← hr2];exact peek_ok 0 hW Hn_.out Ht_.out HL_.out (by have:=H0_.out;have:=HL_.out;have:=Hip.out;have:=Hpl.out;omega) (by have:=H0_.out;have:=HL_.out;have:=Hip.out;have:=Hpl.out;omega) (by omega) (by omega)
     obtain ⟨Hr2,Hp2⟩:=as2_ hr2 hp2;clear hr2 hp2
     obtain ⟨h,hh,hh0⟩:=hex_ok r2;obtain ⟨Hh,Hh0⟩:=as2_ hh hh0;clear hh hh0
     by_cases hn:h < 0
     case pos=>
      have dn:decide (h < 0)=true:=decide_eq_true hn;clear hn
      go_wp2_with (first|((first|((with_reducible refine gd_ 43 ?_);refine cl_ #[.pointer (some ⟨g,0,none⟩),.int .i64 0] (.int .i32 r2) Tryz.func104 (Hp2.out _ at_) ?_)|((with_reducible refine gd_ 44 ?_);refine cl_ #[.int .i32 r2] (.int .i64 h) Tryz.func144 ((spec_Hex.calls 1 r2 h _ Hh.out).mono (fun _ _ h=>⟨h.1,h.2.below⟩)) ?_));intro wc43 HK1;replace HK:=asd_ HK1;clear HK1;replace Bc:=ce1_ HK 0;replace Bf:=fe1_ HK 0))
      go_ret2
      exact ⟨_,false,p,sure,rfl,(fun h=>by cases h),at_⟩
     case neg=>
      have dn:decide (h < 0)=false:=decide_eq_false hn;have Hpp:Aside0 (p + 0 < xs.length):=⟨pk_in (by rw [Hr2.out];exact Hh0.out (by omega))⟩;clear hn
      have hs2:IntKind.i64.wrap (p + 1)=p + 1:=IntWalk.i64_in _ (by have:=H0_.out;have:=HL_.out;have:=Hip.out;have:=Hpl.out;omega)
      have hs3:IntKind.i64.wrap (m + 1)=m + 1:=IntWalk.i64_in _ (by have:=Hm0.out;have:=Hm4.out;omega)
      go_wp2_with (first|((first|((with_reducible refine gd_ 43 ?_);refine cl_ #[.pointer (some ⟨g,0,none⟩),.int .i64 0] (.int .i32 r2) Tryz.func104 (Hp2.out _ at_) ?_)|((with_reducible refine gd_ 44 ?_);refine cl_ #[.int .i32 r2] (.int .i64 h) Tryz.func144 ((spec_Hex.calls 1 r2 h _ Hh.out).mono (fun _ _ h=>⟨h.1,h.2.below⟩)) ?_)|((with_reducible refine gate_ (.store 3 (.tmp 57) (.tmp 55)) rfl ?_);refine store_at (t:=3) (p:=57) (g:=g) (i:=1) (v:= .int .i64 (p + 1)) 0 (LXc A n c (p + 1) v sure seen line from_) rfl at_ rfl Gg.out rfl rfl rfl rfl gs_ ?_));intro wc43 HK1;replace HK:=asd_ HK1;clear HK1;replace Bc:=ce1_ HK 0;replace Bf:=fe1_ HK 0))
      obtain ⟨kk,rfl⟩:∃ kk,gk=kk + 1:=⟨gk - 1,by have:=Hmk.out;have:=Hm4.out;omega⟩
      go_roundg kk
      case measure=>exact Nat.lt_succ_self _
      case rel=>exact ⟨_,m + 1,p + 1,rfl,rfl,⟨by have:=Hm0.out;omega⟩,⟨by have:=Hmk.out;omega⟩,⟨by have:=Hip.out;omega⟩,⟨by have:=Hpp.out;omega⟩,⟨at_⟩⟩
end Go.Proofs.YtlblbefbbibpaaaGreatDoor.J
namespace Go.Proofs.YtlblbefbbibpaaaGreatDoor.PAM
open Go.RowKit Zw.PrintWords Zw.PrintLast Zw.PrintMore
attribute [local go_sem] max2_int min2_int max_two min_two max_three min_three max_four min_four
def spec_IsSource.f (a0:Int):Option (Bool):=if a0=9 then (some true) else (if a0=10 then (some true) else (if a0=13 then (some true) else (some (decide (a0 ≥ 32)))))
theorem spec_IsSource.calls (a0:Int) (r:Bool) (w:World) (h:spec_IsSource.f a0=some r):
  Calls Tryz.prog 101 #[.int .i32 a0] w fun e w'=>e= .returned (.bool r)∧Drawn0 w w':=by
 have H:(if a0=9 then (some true) else (if a0=10 then (some true) else (if a0=13 then (some true) else (some (decide (a0 ≥ 32))))))=some r:=h
 clear h
 by_cases c2:a0=9
 ·rw [if_pos c2] at H
  have c2b0:=beq_iff_eq.mpr c2
  have c2b1:=bne_eq_false_iff_eq.mpr c2
  clear c2
  obtain rfl:=Option.some.inj H
  go_enter Tryz.func101,Tryz.ntmps101
  go_wp2
  go_ret
  exact ⟨r1_,dr_⟩
 ·rw [if_neg c2] at H
  have c2b0:=beq_eq_false_iff_ne.mpr c2
  have c2b1:=bne_iff_ne.mpr c2
  by_cases c3:a0=10
  ·rw [if_pos c3] at H
   have c3b0:=beq_iff_eq.mpr c3
   have c3b1:=bne_eq_false_iff_eq.mpr c3
   clear c3
   obtain rfl:=Option.some.inj H
   go_enter Tryz.func101,Tryz.ntmps101
   go_wp2
   go_ret
   exact ⟨r1_,dr_⟩
  ·rw [if_neg c3] at H
   have c3b0:=beq_eq_false_iff_ne.mpr c3
   have c3b1:=bne_iff_ne.mpr c3
   by_cases c4:a0=13
   ·rw [if_pos c4] at H
    have c4b0:=beq_iff_eq.mpr c4
    have c4b1:=bne_eq_false_iff_eq.mpr c4
    clear c4
    obtain rfl:=Option.some.inj H
    go_enter Tryz.func101,Tryz.ntmps101
    go_wp2
    go_ret
    exact ⟨r1_,dr_⟩
   ·rw [if_neg c4] at H
    have c4b0:=beq_eq_false_iff_ne.mpr c4
    have c4b1:=bne_iff_ne.mpr c4
    obtain rfl:=Option.some.inj H
    go_enter Tryz.func101,Tryz.ntmps101
    go_wp2
    go_ret
    exact ⟨r1_,dr_⟩
end Go.Proofs.YtlblbefbbibpaaaGreatDoor.PAM
