/- Part. -/
import Derived.Test.YtlblbefbbibpaaaGreatDoorQAQ
import Derived.Deep.RegionLawGrows
import Derived.Deep.Upon
set_option linter.unusedVariables false
set_option linter.unusedSimpArgs false
set_option maxHeartbeats 8000000
set_option maxRecDepth 100000
namespace Go.Proofs.YtlblbefbbibpaaaGreatDoor.J
open Go.RowKit Zw Zw.PrintWords Zw.PrintLast Zw.PrintMore PAM
theorem fitsVal_one (kind:Int) (raw:ByteArray) (kids:List Kid) (ih:∀ k∈kids,∀ (w:World) (A:Option Addr) (c:Nat),kKid.C w A k.2.kids.length k.2.kids→k.2.kids.length≤c→∀ deep:Int,-1≤deep→deep≤100→Sm k.2→Calls Tryz.prog 25 #[.agg #[.int .i64 k.2.kind,.string k.2.raw,.slice A k.2.kids.length c],.bool true,.int .i64 deep] w (Yes (Fit k.2) w))
  (w:World) (A:Option Addr) (n c:Nat) (hk1:n=kids.length) (hC:kKid.C w A n kids) (deep:Int) (hd1: -1≤deep) (hd2:deep≤100) (hsz:Sm ⟨kind,raw,kids⟩) (hr1:raw.size≤1048576):
  Calls Tryz.prog 25 #[.agg #[.int .i64 kind,.string raw,.slice A n c],.bool true,.int .i64 deep] w (Yes (Fit ⟨kind,raw,kids⟩) w):=by
 obtain ⟨Hsz_,HC_,Hd1_,Hd2_,Hr1_,Hk1_,Ih_⟩:=as7_ hsz hC hd1 hd2 hr1 hk1 ih;clear hsz hC hd1 hd2 hr1 hk1 ih
 have HK:=st0_ w
 obtain ⟨kn,rn,hrn,hrn2⟩:=isName_some raw (by have:=Hr1_.out;omega)
 have Hrn:=asd_ hrn;clear hrn hrn2
 have hsd:IntKind.i64.wrap (deep - 1)=deep - 1:=IntWalk.i64_in _ (by have:=Hd1_.out;have:=Hd2_.out;omega)
 by_cases hd0:deep < 0
 case pos=>
  have fd0:decide (deep < 0)=true:=decide_eq_true hd0;have HD0:=asd_ hd0;clear hd0
  go_enter Tryz.func25,Tryz.ntmps25
  go_wp2_with (first|((with_reducible refine gd_ 3 ?_);refine bx_ #[.int .i64 kind,.string raw,.slice A n c] 48 ?_;clear HK;intro gv wb3 HK Ggv;replace Bc:=ce1_ HK 0))
  go_ret
  exact Yes.no be_
 case neg=>
  have fd0:decide (deep < 0)=false:=decide_eq_false hd0;have HD0:=asd_ hd0;clear hd0
  by_cases hk8:kind < 8
  case pos=>
   have fk8:decide (kind < 8)=true:=decide_eq_true hk8;have HK8:=asd_ hk8;clear hk8
   by_cases hn0:(0:Nat) < n
   case pos=>
    have fn0:decide ((0:Nat) < n)=true:=decide_eq_true hn0;have HN0:=asd_ hn0;clear hn0
    go_enter Tryz.func25,Tryz.ntmps25
    go_wp2_with (first|((with_reducible refine gd_ 3 ?_);refine bx_ #[.int .i64 kind,.string raw,.slice A n c] 48 ?_;clear HK;intro gv wb3 HK Ggv;replace Bc:=ce1_ HK 0))
    go_ret
    exact Yes.no be_
   case neg=>
    have fn0:decide ((0:Nat) < n)=false:=decide_eq_false hn0;have HN0:=asd_ hn0;clear hn0
    by_cases h_0:kind=0
    case pos=>
     subst h_0
     go_enter Tryz.func25,Tryz.ntmps25
     go_wp2_with (first|((with_reducible refine gd_ 3 ?_);refine bx_ #[.int .i64 0,.string raw,.slice A n c] 48 ?_;clear HK;intro gv wb3 HK Ggv;replace Bc:=ce1_ HK 0))
     go_ret
     exact Yes.no be_
    case neg=>
     have f_0:(kind == 0)=false:=beq_eq_false_iff_ne.2 h_0;have H_0:=asd_ h_0;clear h_0
     by_cases h_1:kind=1
     case pos=>
      subst h_1
      go_enter Tryz.func25,Tryz.ntmps25
      go_wp2_with (first|((with_reducible refine gd_ 3 ?_);refine bx_ #[.int .i64 1,.string raw,.slice A n c] 48 ?_;clear HK;intro gv wb3 HK Ggv;replace Bc:=ce1_ HK 0)|((with_reducible refine gd_ 41 ?_);refine cw_ #[.string raw,.bool false] Tryz.func45 (isNumber_with raw Hr1_.out _ _) ?_;intro v41 wc41 HK1 hF hB;obtain ⟨b,rfl⟩:=hF;replace HK:=asd_ HK1;clear HK1;replace Bc:=ce1_ HK 0;skip))
      go_ret
      exact Yes.is be_ (Fit.mk (v:=⟨1,raw,kids⟩) (by show (1:Int)≤1;decide) (by show (1:Int)≤9;decide) (fun h=>by cases h) (fun k hk=>by have h1:=HN0.out;have h2:=Hk1_.out;rw [List.eq_nil_of_length_eq_zero (show kids.length=0 by omega)] at hk;cases hk))
     case neg=>
      have f_1:(kind == 1)=false:=beq_eq_false_iff_ne.2 h_1;have H_1:=asd_ h_1;clear h_1
      by_cases h_2:kind=2
      case pos=>
       subst h_2
       go_enter Tryz.func25,Tryz.ntmps25
       go_wp2_with (first|((with_reducible refine gd_ 3 ?_);refine bx_ #[.int .i64 2,.string raw,.slice A n c] 48 ?_;clear HK;intro gv wb3 HK Ggv;replace Bc:=ce1_ HK 0)|((with_reducible refine gd_ 41 ?_);refine cw_ #[.string raw,.bool true] Tryz.func45 (isNumber_with raw Hr1_.out _ _) ?_;intro v41 wc41 HK1 hF hB;obtain ⟨b,rfl⟩:=hF;replace HK:=asd_ HK1;clear HK1;replace Bc:=ce1_ HK 0;skip))
       go_ret
       exact Yes.is be_ (Fit.mk (v:=⟨2,raw,kids⟩) (by show (1:Int)≤2;decide) (by show (2:Int)≤9;decide) (fun h=>by cases h) (fun k hk=>by have h1:=HN0.out;have h2:=Hk1_.out;rw [List.eq_nil_of_length_eq_zero (show kids.length=0 by omega)] at hk;cases hk))
      case neg=>
       have f_2:(kind == 2)=false:=beq_eq_false_iff_ne.2 h_2;have H_2:=asd_ h_2;clear h_2
       by_cases h_3:kind=3
       case pos=>
        subst h_3
        obtain ⟨k2,r2,hr2⟩:=easy_some raw (by have:=Hr1_.out;omega)
        have Hr2:=asd_ hr2;clear hr2
        go_enter Tryz.func25,Tryz.ntmps25
        go_wp2_with (first|((with_reducible refine gd_ 3 ?_);refine bx_ #[.int .i64 3,.string raw,.slice A n c] 48 ?_;clear HK;intro gv wb3 HK Ggv;replace Bc:=ce1_ HK 0)|((with_reducible refine gd_ 46 ?_);refine cl_ #[.string raw] (.bool r2) Tryz.func46 ((spec_Easy.calls k2 raw r2 _ Hr2.out).mono (fun _ _ h=>⟨h.1,h.2.below⟩)) ?_;intro wc46 HK1;replace HK:=asd_ HK1;clear HK1;replace Bc:=ce1_ HK 0))
        go_ret
        exact Yes.is be_ (Fit.mk (v:=⟨3,raw,kids⟩) (by show (1:Int)≤3;decide) (by show (3:Int)≤9;decide) (fun h=>by cases h) (fun k hk=>by have h1:=HN0.out;have h2:=Hk1_.out;rw [List.eq_nil_of_length_eq_zero (show kids.length=0 by omega)] at hk;cases hk))
       case neg=>
        have f_3:(kind == 3)=false:=beq_eq_false_iff_ne.2 h_3;have H_3:=asd_ h_3;clear h_3
        by_cases h_4:kind=4
        case pos=>
         subst h_4
         obtain ⟨k2,r2,hr2⟩:=straight_some raw (by have:=Hr1_.out;omega)
         have Hr2:=asd_ hr2;clear hr2
         go_enter Tryz.func25,Tryz.ntmps25
         go_wp2_with (first|((with_reducible refine gd_ 3 ?_);refine bx_ #[.int .i64 4,.string raw,.slice A n c] 48 ?_;clear HK;intro gv wb3 HK Ggv;replace Bc:=ce1_ HK 0)|((with_reducible refine gd_ 51 ?_);refine cl_ #[.string raw] (.bool r2) Tryz.func47 ((spec_Straight.calls k2 raw r2 _ Hr2.out).mono (fun _ _ h=>⟨h.1,h.2.below⟩)) ?_;intro wc51 HK1;replace HK:=asd_ HK1;clear HK1;replace Bc:=ce1_ HK 0))
         go_ret
         exact Yes.is be_ (Fit.mk (v:=⟨4,raw,kids⟩) (by show (1:Int)≤4;decide) (by show (4:Int)≤9;decide) (fun h=>by cases h) (fun k hk=>by have h1:=HN0.out;have h2:=Hk1_.out;rw [List.eq_nil_of_length_eq_zero (show kids.length=0 by omega)] at hk;cases hk))
        case neg=>
         have f_4:(kind == 4)=false:=beq_eq_false_iff_ne.2 h_4;have H_4:=asd_ h_4;clear h_4
         by_cases h_5:kind=5
         case pos=>
          subst h_5
          obtain ⟨m,hm,hm5⟩:=nameKind_some raw
          obtain ⟨Hm,Hm5⟩:=as2_ hm hm5;clear hm hm5
          cases rn
          case false=>
           go_enter Tryz.func25,Tryz.ntmps25
           go_wp2_with (first|((with_reducible refine gd_ 3 ?_);refine bx_ #[.int .i64 5,.string raw,.slice A n c] 48 ?_;clear HK;intro gv wb3 HK Ggv;replace Bc:=ce1_ HK 0))
           go_quiet (first|(go_at_call 24;exact Calls.quiet_of ((spec_IsName.calls kn raw false _ Hrn.out).mono fun _ _ h=>⟨h.1,h.2.out⟩))|(go_at_call 48;exact Calls.quiet_of ((spec_nameKind.calls 1 raw m _ Hm.out).mono fun _ _ h=>⟨h.1,h.2.out⟩)))
           go_wp2_with fail
           go_ret
           exact Yes.no be_
          case true=>
           by_cases hm:m=5
           case pos=>
            have fm:(m == 5)=true:=beq_iff_eq.2 hm;have HM:=asd_ hm;clear hm
            go_enter Tryz.func25,Tryz.ntmps25
            go_wp2_with (first|((with_reducible refine gd_ 3 ?_);refine bx_ #[.int .i64 5,.string raw,.slice A n c] 48 ?_;clear HK;intro gv wb3 HK Ggv;replace Bc:=ce1_ HK 0))
            go_quiet (first|(go_at_call 24;exact Calls.quiet_of ((spec_IsName.calls kn raw true _ Hrn.out).mono fun _ _ h=>⟨h.1,h.2.out⟩))|(go_at_call 48;exact Calls.quiet_of ((spec_nameKind.calls 1 raw m _ Hm.out).mono fun _ _ h=>⟨h.1,h.2.out⟩)))
            go_wp2_with fail
            go_ret
            exact Yes.is be_ (Fit.mk (v:=⟨5,raw,kids⟩) (by show (1:Int)≤5;decide) (by show (5:Int)≤9;decide) (fun _=>Hm5.out HM.out) (fun k hk=>by have h1:=HN0.out;have h2:=Hk1_.out;rw [List.eq_nil_of_length_eq_zero (show kids.length=0 by omega)] at hk;cases hk))
           case neg=>
            have fm:(m == 5)=false:=beq_eq_false_iff_ne.2 hm;have HM:=asd_ hm;clear hm
            go_enter Tryz.func25,Tryz.ntmps25
            go_wp2_with (first|((with_reducible refine gd_ 3 ?_);refine bx_ #[.int .i64 5,.string raw,.slice A n c] 48 ?_;clear HK;intro gv wb3 HK Ggv;replace Bc:=ce1_ HK 0))
            go_quiet (first|(go_at_call 24;exact Calls.quiet_of ((spec_IsName.calls kn raw true _ Hrn.out).mono fun _ _ h=>⟨h.1,h.2.out⟩))|(go_at_call 48;exact Calls.quiet_of ((spec_nameKind.calls 1 raw m _ Hm.out).mono fun _ _ h=>⟨h.1,h.2.out⟩)))
            go_wp2_with fail
            go_ret
            exact Yes.no be_
         case neg=>
          have f_5:(kind == 5)=false:=beq_eq_false_iff_ne.2 h_5;have H_5:=asd_ h_5;clear h_5
          by_cases h_6:kind=6
          case pos=>
           subst h_6
           obtain ⟨m,hm,hm5⟩:=nameKind_some raw
           obtain ⟨Hm,Hm5⟩:=as2_ hm hm5;clear hm hm5
           cases rn
           case false=>
            go_enter Tryz.func25,Tryz.ntmps25
            go_wp2_with (first|((with_reducible refine gd_ 3 ?_);refine bx_ #[.int .i64 6,.string raw,.slice A n c] 48 ?_;clear HK;intro gv wb3 HK Ggv;replace Bc:=ce1_ HK 0))
            go_quiet (first|(go_at_call 24;exact Calls.quiet_of ((spec_IsName.calls kn raw false _ Hrn.out).mono fun _ _ h=>⟨h.1,h.2.out⟩))|(go_at_call 48;exact Calls.quiet_of ((spec_nameKind.calls 1 raw m _ Hm.out).mono fun _ _ h=>⟨h.1,h.2.out⟩)))
            go_wp2_with fail
            go_ret
            exact Yes.no be_
           case true=>
            by_cases hm:m=6
            case pos=>
             have fm:(m == 6)=true:=beq_iff_eq.2 hm;have HM:=asd_ hm;clear hm
             go_enter Tryz.func25,Tryz.ntmps25
             go_wp2_with (first|((with_reducible refine gd_ 3 ?_);refine bx_ #[.int .i64 6,.string raw,.slice A n c] 48 ?_;clear HK;intro gv wb3 HK Ggv;replace Bc:=ce1_ HK 0))
             go_quiet (first|(go_at_call 24;exact Calls.quiet_of ((spec_IsName.calls kn raw true _ Hrn.out).mono fun _ _ h=>⟨h.1,h.2.out⟩))|(go_at_call 48;exact Calls.quiet_of ((spec_nameKind.calls 1 raw m _ Hm.out).mono fun _ _ h=>⟨h.1,h.2.out⟩)))
             go_wp2_with fail
             go_ret
             exact Yes.is be_ (Fit.mk (v:=⟨6,raw,kids⟩) (by show (1:Int)≤6;decide) (by show (6:Int)≤9;decide) (fun h=>by cases h) (fun k hk=>by have h1:=HN0.out;have h2:=Hk1_.out;rw [List.eq_nil_of_length_eq_zero (show kids.length=0 by omega)] at hk;cases hk))
            case neg=>
             have fm:(m == 6)=false:=beq_eq_false_iff_ne.2 hm;have HM:=asd_ hm;clear hm
             go_enter Tryz.func25,Tryz.ntmps25
             go_wp2_with (first|((with_reducible refine gd_ 3 ?_);refine bx_ #[.int .i64 6,.string raw,.slice A n c] 48 ?_;clear HK;intro gv wb3 HK Ggv;replace Bc:=ce1_ HK 0))
             go_quiet (first|(go_at_call 24;exact Calls.quiet_of ((spec_IsName.calls kn raw true _ Hrn.out).mono fun _ _ h=>⟨h.1,h.2.out⟩))|(go_at_call 48;exact Calls.quiet_of ((spec_nameKind.calls 1 raw m _ Hm.out).mono fun _ _ h=>⟨h.1,h.2.out⟩)))
             go_wp2_with fail
             go_ret
             exact Yes.no be_
          case neg=>
           have f_6:(kind == 6)=false:=beq_eq_false_iff_ne.2 h_6;have H_6:=asd_ h_6;clear h_6
           by_cases h_7:kind=7
           case pos=>
            subst h_7
            obtain ⟨m,hm,hm5⟩:=nameKind_some raw
            obtain ⟨Hm,Hm5⟩:=as2_ hm hm5;clear hm hm5
            cases rn
            case false=>
             go_enter Tryz.func25,Tryz.ntmps25
             go_wp2_with (first|((with_reducible refine gd_ 3 ?_);refine bx_ #[.int .i64 7,.string raw,.slice A n c] 48 ?_;clear HK;intro gv wb3 HK Ggv;replace Bc:=ce1_ HK 0))
             go_quiet (first|(go_at_call 24;exact Calls.quiet_of ((spec_IsName.calls kn raw false _ Hrn.out).mono fun _ _ h=>⟨h.1,h.2.out⟩))|(go_at_call 48;exact Calls.quiet_of ((spec_nameKind.calls 1 raw m _ Hm.out).mono fun _ _ h=>⟨h.1,h.2.out⟩)))
             go_wp2_with fail
             go_ret
             exact Yes.no be_
            case true=>
             by_cases hm:m=7
             case pos=>
              have fm:(m == 7)=true:=beq_iff_eq.2 hm;have HM:=asd_ hm;clear hm
              go_enter Tryz.func25,Tryz.ntmps25
              go_wp2_with (first|((with_reducible refine gd_ 3 ?_);refine bx_ #[.int .i64 7,.string raw,.slice A n c] 48 ?_;clear HK;intro gv wb3 HK Ggv;replace Bc:=ce1_ HK 0))
              go_quiet (first|(go_at_call 24;exact Calls.quiet_of ((spec_IsName.calls kn raw true _ Hrn.out).mono fun _ _ h=>⟨h.1,h.2.out⟩))|(go_at_call 48;exact Calls.quiet_of ((spec_nameKind.calls 1 raw m _ Hm.out).mono fun _ _ h=>⟨h.1,h.2.out⟩)))
              go_wp2_with fail
              go_ret
              exact Yes.is be_ (Fit.mk (v:=⟨7,raw,kids⟩) (by show (1:Int)≤7;decide) (by show (7:Int)≤9;decide) (fun h=>by cases h) (fun k hk=>by have h1:=HN0.out;have h2:=Hk1_.out;rw [List.eq_nil_of_length_eq_zero (show kids.length=0 by omega)] at hk;cases hk))
             case neg=>
              have fm:(m == 7)=false:=beq_eq_false_iff_ne.2 hm;have HM:=asd_ hm;clear hm
              go_enter Tryz.func25,Tryz.ntmps25
              go_wp2_with (first|((with_reducible refine gd_ 3 ?_);refine bx_ #[.int .i64 7,.string raw,.slice A n c] 48 ?_;clear HK;intro gv wb3 HK Ggv;replace Bc:=ce1_ HK 0))
              go_quiet (first|(go_at_call 24;exact Calls.quiet_of ((spec_IsName.calls kn raw true _ Hrn.out).mono fun _ _ h=>⟨h.1,h.2.out⟩))|(go_at_call 48;exact Calls.quiet_of ((spec_nameKind.calls 1 raw m _ Hm.out).mono fun _ _ h=>⟨h.1,h.2.out⟩)))
              go_wp2_with fail
              go_ret
              exact Yes.no be_
           case neg=>
            have f_7:(kind == 7)=false:=beq_eq_false_iff_ne.2 h_7;have H_7:=asd_ h_7;clear h_7
            have f_8:(kind == 8)=false:=beq_eq_false_iff_ne.2 (by have:=HK8.out;omega);have f_9:(kind == 9)=false:=beq_eq_false_iff_ne.2 (by have:=HK8.out;omega)
            go_enter Tryz.func25,Tryz.ntmps25
            go_wp2_with (first|((with_reducible refine gd_ 3 ?_);refine bx_ #[.int .i64 kind,.string raw,.slice A n c] 48 ?_;clear HK;intro gv wb3 HK Ggv;replace Bc:=ce1_ HK 0))
            go_ret
            exact Yes.no be_
  case neg=>
   have fk8:decide (kind < 8)=false:=decide_eq_false hk8;have HK8:=asd_ hk8;clear hk8
   have fk:∀ j:Int,j < 8→(kind == j)=false:=fun j hj=>beq_eq_false_iff_ne.2 (by have:=HK8.out;omega)
   have f_0:=fk 0 (by decide);have f_1:=fk 1 (by decide);have f_2:=fk 2 (by decide);have f_3:=fk 3 (by decide);have f_4:=fk 4 (by decide);have f_5:=fk 5 (by decide);have f_6:=fk 6 (by decide);have f_7:=fk 7 (by decide);clear fk
   by_cases h_8:kind=8
   case pos=>
    subst h_8;clear f_0 f_1 f_2 f_3 f_4 f_5 f_6 f_7 fk8 HK8
    exact fitsVal_8 raw kids Ih_.out w A n c Hk1_.out HC_.out deep Hd1_.out HD0.out Hd2_.out Hsz_.out Hr1_.out
   case neg=>
    have f_8:(kind == 8)=false:=beq_eq_false_iff_ne.2 h_8;have H_8:=asd_ h_8;clear h_8
    by_cases h_9:kind=9
    case pos=>
     subst h_9;clear f_0 f_1 f_2 f_3 f_4 f_5 f_6 f_7 fk8 HK8 f_8 H_8
     exact fitsVal_9 raw kids Ih_.out w A n c Hk1_.out HC_.out deep Hd1_.out HD0.out Hd2_.out Hsz_.out Hr1_.out
    case neg=>
     have f_9:(kind == 9)=false:=beq_eq_false_iff_ne.2 h_9;have H_9:=asd_ h_9;clear h_9
     go_enter Tryz.func25,Tryz.ntmps25
     go_wp2_with (first|((with_reducible refine gd_ 3 ?_);refine bx_ #[.int .i64 kind,.string raw,.slice A n c] 48 ?_;clear HK;intro gv wb3 HK Ggv;replace Bc:=ce1_ HK 0))
     go_ret
     exact Yes.no be_
theorem fitsVal_ok (v:Vl):∀ (w:World) (A:Option Addr) (c:Nat),kKid.C w A v.kids.length v.kids→v.kids.length≤c→∀ deep:Int,-1≤deep→deep≤100→Sm v→Calls Tryz.prog 25 #[.agg #[.int .i64 v.kind,.string v.raw,.slice A v.kids.length c],.bool true,.int .i64 deep] w (Yes (Fit v) w):=by
 obtain ⟨kind,raw,kids⟩:=v
 intro w A c hC hc deep h1 h2 hs
 exact fitsVal_one kind raw kids (fun k hk=>fitsVal_ok k.2) w A _ c rfl hC deep h1 h2 hs hs.size
termination_by SizeOf.sizeOf v
decreasing_by
 all_goals (have:=List.sizeOf_lt_of_mem hk;obtain ⟨a,b⟩:=k;simp at this ⊢;omega)
theorem at_Vl {w:World} {A:Option Addr} {n:Nat} {xs:List Vl} (h:kVl.C w A n xs) (k:Nat) (hk:k < n):∃ (ad:Addr) (v:Vl) (A2:Option Addr) (c2:Nat),A=some ad∧xs[k]? =some v∧w.cell? (ad.add (k * 3))=some (.int .i64 v.kind)∧w.cell? ⟨(ad.add (k * 3)).block,(ad.add (k * 3)).off + 1,none⟩=some (.string v.raw)∧w.cell? ⟨(ad.add (k * 3)).block,(ad.add (k * 3)).off + 2,none⟩=some (.slice A2 v.kids.length c2)∧v.kids.length≤c2∧kKid.C w A2 v.kids.length v.kids:=by
 have hl:k < xs.length:=by have:=h.1;omega
 obtain ⟨ad,c,e,_,hK,hc0⟩:=Kd.C_get h xs[k] k (by omega) (by omega)
 have hc:∀ j u,c[j]? =some u→w.cell? (ad.add (k * 3 + j))=some u:=hc0
 have hx:xs.getD (k:Int).toNat xs[k]=xs[k]:=by simp [List.getD_eq_getElem?_getD,List.getElem?_eq_getElem hl]
 rw [hx] at hK
 obtain ⟨A2,c2,rfl,l2,g2⟩:=kVl_open hK
 exact ⟨ad,xs[k],A2,c2,e,List.getElem?_eq_getElem hl,hc 0 _ rfl,by rw [← add_field _ _ 1 (by omega)];exact hc 1 _ rfl,by rw [← add_field _ _ 2 (by omega)];exact hc 2 _ rfl,l2,g2⟩
theorem at_Dr {w:World} {A:Option Addr} {n:Nat} {xs:List Dr} (h:kDr.C w A n xs) (k:Nat) (hk:k < n):∃ (ad:Addr) (nm:ByteArray) (l:List Kid) (A2:Option Addr) (c2:Nat),A=some ad∧xs[k]? =some (nm,l)∧w.cell? (ad.add (k * 2))=some (.string nm)∧w.cell? ⟨(ad.add (k * 2)).block,(ad.add (k * 2)).off + 1,none⟩=some (.slice A2 l.length c2)∧l.length≤c2∧kKid.C w A2 l.length l:=by
 have hl:k < xs.length:=by have:=h.1;omega
 obtain ⟨ad,c,e,_,hK,hc0⟩:=Kd.C_get h xs[k] k (by omega) (by omega)
 have hc:∀ j u,c[j]? =some u→w.cell? (ad.add (k * 2 + j))=some u:=hc0
 have hx:xs.getD (k:Int).toNat xs[k]=xs[k]:=by simp [List.getD_eq_getElem?_getD,List.getElem?_eq_getElem hl]
 rw [hx] at hK
 obtain ⟨A2,c2,rfl,l2,g2⟩:=kDr_open hK
 exact ⟨ad,xs[k].1,xs[k].2,A2,c2,e,List.getElem?_eq_getElem hl,hc 0 _ rfl,by rw [← add_field _ _ 1 (by omega)];exact hc 1 _ rfl,l2,g2⟩
theorem at_AD {w:World} {A:Option Addr} {n:Nat} {xs:List ADef} (h:kAD.C w A n xs) (k:Nat) (hk:k < n):∃ (ad:Addr) (x:ADef) (A1 A2 A3:Option Addr) (c1 c2 c3:Nat),A=some ad∧xs[k]? =some x∧w.cell? (ad.add (k * 7))=some (.string x.doc)∧w.cell? ⟨(ad.add (k * 7)).block,(ad.add (k * 7)).off + 1,none⟩=some (.string x.name)∧w.cell? ⟨(ad.add (k * 7)).block,(ad.add (k * 7)).off + 2,none⟩=some (.string x.t.f0)∧w.cell? ⟨(ad.add (k * 7)).block,(ad.add (k * 7)).off + 3,none⟩=some (.slice A1 x.t.f1.length c1)∧w.cell? ⟨(ad.add (k * 7)).block,(ad.add (k * 7)).off + 4,none⟩=some (.bool x.t.f2)∧w.cell? ⟨(ad.add (k * 7)).block,(ad.add (k * 7)).off + 5,none⟩=some (.slice A2 x.dflt.length c2)∧w.cell? ⟨(ad.add (k * 7)).block,(ad.add (k * 7)).off + 6,none⟩=some (.slice A3 x.dirs.length c3)∧(x.t.f1.length≤c1∧k41.C w A1 x.t.f1.length x.t.f1)∧(x.dflt.length≤c2∧kVl.C w A2 x.dflt.length x.dflt)∧x.dirs.length≤c3∧kDr.C w A3 x.dirs.length x.dirs:=by
 have hl:k < xs.length:=by have:=h.1;omega
 obtain ⟨ad,c,e,_,hK,hc0⟩:=Kd.C_get h xs[k] k (by omega) (by omega)
 have hc:∀ j u,c[j]? =some u→w.cell? (ad.add (k * 7 + j))=some u:=hc0
 have hx:xs.getD (k:Int).toNat xs[k]=xs[k]:=by simp [List.getD_eq_getElem?_getD,List.getElem?_eq_getElem hl]
 rw [hx] at hK
 obtain ⟨A1,c1,A2,c2,A3,c3,rfl,l1,g1,l2,g2,l3,g3⟩:=kAD_open hK
 exact ⟨ad,xs[k],A1,A2,A3,c1,c2,c3,e,List.getElem?_eq_getElem hl,hc 0 _ rfl,by rw [← add_field _ _ 1 (by omega)];exact hc 1 _ rfl,by rw [← add_field _ _ 2 (by omega)];exact hc 2 _ rfl,by rw [← add_field _ _ 3 (by omega)];exact hc 3 _ rfl,by rw [← add_field _ _ 4 (by omega)];exact hc 4 _ rfl,by rw [← add_field _ _ 5 (by omega)];exact hc 5 _ rfl,by rw [← add_field _ _ 6 (by omega)];exact hc 6 _ rfl,⟨l1,g1⟩,⟨l2,g2⟩,l3,g3⟩
def SmK (l:List Kid):Prop:=l.length≤1048576∧∀ k∈l,k.1.size≤1048576∧Sm k.2
def SmD (l:List Dr):Prop:=l.length≤1048576∧∀ d∈l,d.1.size≤1048576∧SmK d.2
def SmA (l:List ADef):Prop:=l.length≤1048576∧∀ a∈l,a.doc.size≤1048576∧a.name.size≤1048576∧TSm a.t∧(a.dflt.length≤1048576∧∀ v∈a.dflt,Sm v)∧SmD a.dirs
def FitK (l:List Kid):Prop:=∀ k∈l,Fit k.2
def FitA (a:ADef):Prop:=TFit a.t∧a.dflt.length≤1∧(∀ v∈a.dflt,Fit v)∧∀ d∈a.dirs,FitK d.2
theorem upto_all {α:Type} {xs:List α} {k n:Nat} {P:α→Prop} (h:∀ j x,j < k→xs[j]? =some x→P x) (hn:n=xs.length) (hk:¬ k < n):∀ x∈xs,P x:=fun x hx=>by
 obtain ⟨j,hj,e⟩:=List.getElem_of_mem hx
 exact h j x (by omega) (by rw [List.getElem?_eq_getElem hj,e])
theorem upto_next {α:Type} {xs:List α} {k:Nat} {P:α→Prop} {y:α} (h:∀ j x,j < k→xs[j]? =some x→P x) (hy:xs[k]? =some y) (hp:P y):∀ j x,j < k + 1→xs[j]? =some x→P x:=fun j x hj hx=>(Nat.lt_or_ge j k).elim (fun h1=>h j x h1 hx) (fun h1=>by have e:j=k:=(by omega);subst e;rw [hy] at hx;cases hx;exact hp)
theorem upto_zero {α:Type} {xs:List α} {P:α→Prop}:∀ j x,j < 0→xs[j]? =some x→P x:=fun j x hj=>absurd hj (Nat.not_lt_zero _)
theorem ge_app {b:Nat} {l l':List Blk} (h:∀ g∈nums l,b≤g) (h':∀ g∈nums l',b≤g):∀ g∈nums (l ++ l'),b≤g:=fun g hg=>by
 rw [nums_app] at hg
 exact (List.mem_append.1 hg).elim (h g) (h' g)
theorem VDone.made {w0 w w':World} {v:Vl} {x:Dt} {u:Value} {pr sn:List Blk} {us:List Value} {ok:Bool} {e:Ending} (L:List Blk) (he:e= .returned (.tuple #[.agg #[.int .i64 x.kind,.bool x.b,.int .i64 x.n,.int .u64 x.f,.string x.s,u],.bool ok])) (hv:ok=true→VD w0 v x) (hp:PR w.heap.size pr 85 7 u x.kids.length (rowOf x.kids us)) (hl:us.length=x.kids.length) (hd:∀ (i:Nat) (k:ByteArray×Dt) (t:Value),x.kids[i]? =some k→us[i]? =some t→DB sn t k.2) (hg:∀ g∈nums sn,w.heap.size≤g) (ho:∀ e,offG e sn) (HK:At w (L ++ (pr ++ sn)) w'):VDone w0 v w e w':=
 have H:=HK.sub (List.sublist_append_right L (pr ++ sn))
 ⟨x,u,ok,pr ++ sn,he,hv,DB.mk hp (fun y hy=>List.mem_append_left _ hy) hl (fun i k t h1 h2=>(hd i k t h1 h2).mono (fun b hb=>List.mem_append_right _ hb)),H.k,H.d,ge_app hp.ge hg,fun e=>offG_append (hp.offG e) (ho e),H.b⟩
theorem vd_list {w0 w:World} (hW:Below w0.heap.size w0 w) {raw:ByteArray} {kids:List Kid} {A:Option Addr} {n c:Nat} (hC:kKid.C w0 A n kids) (hL:n≤1048576) (ih:∀ k∈kids,∀ {w:World},Below w0.heap.size w0 w→∀ {A:Option Addr} {c:Nat},kKid.C w0 A k.2.kids.length k.2.kids→k.2.kids.length≤c→Calls Tryz.prog 15 #[.agg #[.int .i64 k.2.kind,.string k.2.raw,.slice A k.2.kids.length c]] w (VDone w0 k.2 w)):
  Calls Tryz.prog 15 #[.agg #[.int .i64 8,.string raw,.slice A n c]] w (VDone w0 ⟨8,raw,kids⟩ w):=by
 obtain ⟨HW_,HC_,HL_,Ih_⟩:=as4_ hW hC hL ih;clear hW hC hL ih
 have Hn:Aside0 (n=kids.length):=⟨HC_.out.1.symm⟩
 have HK:=st0_ w
 go_enter Tryz.func15,Tryz.ntmps15
 go_wp2_with (first|((with_reducible refine gd_ 1 ?_);refine bx_ #[.int .i64 8,.string raw,.slice A n c] 48 ?_;clear HK;intro gv wb1 HK Ggv;replace Bc:=ce1_ HK 0)|((with_reducible refine gd_ 2 ?_);refine bx_ #[i0,bF,i0,.int .u64 0,eS,nilS] 30 ?_;clear HK;intro g2 wb2 HK Gg2;replace Bc:=ce2_ HK 1 0;replace Bf:=fe1_ HK 0)|((with_reducible refine gd_ 8 ?_);refine bx_ #[i0,bF,i0,.int .u64 0,eS,nilS] 30 ?_;clear HK;intro g8 wb8 HK Gg8;replace Bc:=ce3_ HK 2 1 0;replace Bf:=fe2_ HK 1 0)|((with_reducible refine gate_ (.store 30 (.tmp 8) (.tmp 51)) rfl ?_);refine storerow_at (cs:=#[i0,bF,i0,.int .u64 0,eS,nilS]) (g:=g8) 0 (#[.int .i64 5,bF,i0,.int .u64 0,eS,nilS]) at_ rfl Gg8.out rfl rfl rfl rfl rfl rfl kr_ rfl (by simp [Value.oneCell']) ?_;intro wr1 HK1;replace HK:=asd_ HK1;clear HK1;replace Bc:=ce3_ HK 2 1 0;replace Bf:=fe2_ HK 1 0))
 go_loopg [55] n (fun kq i w'=>∃ (k:Nat) (u:Value) (pr sn:List Blk) (ds:List (ByteArray×Dt)) (us:List Value),Aside0 (k≤n)∧i= .int .i64 k∧Aside0 (kq=n - k)∧Aside0 (PR w.heap.size pr 85 7 u k (rowOf ds us))∧Aside0 (DsB w0 sn ds us kids k)∧Aside0 (∀ g∈nums sn,w.heap.size≤g)∧Aside0 (∀ e,offG e sn)∧Aside0 (At w (.b g8 (row (#[.int .i64 5,bF,i0,.int .u64 0,eS,u]) 30):: .b g2 (row (#[i0,bF,i0,.int .u64 0,eS,nilS]) 30):: .b gv (row (#[.int .i64 8,.string raw,.slice A n c]) 48)::(pr ++ sn)) w'))
 case atStart=>exact ⟨0,nilS,[],[],[],[],⟨Nat.zero_le _⟩,rfl,⟨rfl⟩,⟨PR.none_ _ _ _⟩,⟨⟨rfl,rfl,fun _ _ _ _ h=>by simp at h,fun _ _ _ h=>by simp at h,fun _ h=>by cases h⟩⟩,⟨fun _ h=>by cases h⟩,⟨fun _=>trivial⟩,⟨(show At w [.b g8 (row (#[.int .i64 5,bF,i0,.int .u64 0,eS,nilS]) 30),.b g2 (row (#[i0,bF,i0,.int .u64 0,eS,nilS]) 30),.b gv (row (#[.int .i64 8,.string raw,.slice A n c]) 48)] _ from at_)⟩⟩
 case round=>
  clear HK
  obtain ⟨k,u,pr,sn,ds,us,Hk,rfl,Hkq,HP,HD,Hgs,Hos,HK⟩:=hrel;obtain ⟨Au,cu,e8,hcu⟩:=HP.out.slice;subst e8;clear hcu
  replace Bc:=ce3_ HK 2 1 0;replace Bf:=fe2_ HK 1 0
  by_cases hlt:k < n
  case neg=>
   have hd:decide (k < n)=false:=decide_eq_false hlt;have Hlt:=asd_ hlt;clear hlt
   go_wp2_with (first|((with_reducible refine gd_ 76 ?_);refine lo_ 30 8 g8 (#[.int .i64 5,bF,i0,.int .u64 0,eS,.slice Au k cu]) HK.out.k.1 Tryz.underlying30 ?_)|((with_reducible refine gate_ (.store 30 (.tmp 2) (.tmp 76)) rfl ?_);refine storerow_at (cs:=#[i0,bF,i0,.int .u64 0,eS,nilS]) (g:=g2) 1 (#[.int .i64 5,bF,i0,.int .u64 0,eS,.slice Au k cu]) at_ rfl Gg2.out rfl rfl rfl rfl rfl rfl kr_ rfl (by simp [Value.oneCell']) ?_;intro wr2 HK1;replace HK:=asd_ HK1;clear HK1;replace Bc:=ce3_ HK 2 1 0;replace Bf:=fe2_ HK 1 0))
   have e9:k=ds.length:=HD.out.ld.symm;have e10:k=kids.length:=(by have:=Hlt.out;have:=Hk.out;have:=Hn.out;omega)
   have HKz:Aside0 (At w (.b g8 (row (#[.int .i64 5,bF,i0,.int .u64 0,eS,.slice Au k cu]) 30):: .b g2 (row (#[.int .i64 5,bF,i0,.int .u64 0,eS,.slice Au k cu]) 30):: .b gv (row (#[.int .i64 8,.string raw,.slice A n c]) 48)::(pr ++ sn)) _):=⟨at_⟩
   exact bodyPost_ret (v:= .tuple #[.agg #[.int .i64 5,bF,i0,.int .u64 0,eS,.slice Au k cu],.bool true]) (by simp [results,Tryz.results15,go_sem,Bc]) rfl (VDone.made (x:=dList ds) (us:=us) (ok:=true) [_,_,_] rfl (fun _=>VD.list (v:=⟨8,raw,kids⟩) rfl (e9 ▸ e10) HD.out.vd HD.out.nm) (e9 ▸ HP.out) (HD.out.lu.trans e9) HD.out.db Hgs.out Hos.out HKz.out)
  case pos=>
   have hd:decide (k < n)=true:=decide_eq_true hlt;have Hlt:=asd_ hlt;clear hlt
   have hi0:(0:Int)≤(k:Int):=(by omega);have hi1:(k:Int) < (n:Int):=(by have:=Hlt.out;omega);have hs1:IntKind.i64.wrap ((k:Int) + 1)=(k:Int) + 1:=IntWalk.i64_in _ (by have:=Hlt.out;have:=HL_.out;omega)
   obtain ⟨ad,nm,v,A2,c2,hA,hx,h0,h1,h2,h3,hl2,hC2⟩:=at_Kid HC_.out k Hlt.out
   subst hA;have hmem:=List.mem_of_getElem? hx;obtain ⟨Hx,Hmem,Hl2,HC2⟩:=as4_ hx hmem hl2 hC2;clear hmem hx hl2 hC2
   obtain ⟨C0,C1,C2,C3⟩:=as4_ h0 h1 h2 h3;clear h0 h1 h2 h3
   replace Bc:=ce3_ HK 2 1 0;replace Bf:=fe2_ HK 1 0;replace Bx:=xc4_ (below_step HW_.out HK.out.b) C0 C1 C2 C3
   have Hv:Aside0 (∀ {w:World},Below w0.heap.size w0 w→∀ {A:Option Addr} {c:Nat},kKid.C w0 A v.kids.length v.kids→v.kids.length≤c→Calls Tryz.prog 15 #[.agg #[.int .i64 v.kind,.string v.raw,.slice A v.kids.length c]] w (VDone w0 v w)):=⟨Ih_.out _ Hmem.out⟩
   go_wp2_with (first|((with_reducible refine gd_ 10 ?_);refine bx_ #[eS,i0,eS,nilS] 52 ?_;clear HK;intro ge wb10 HK Gge;replace Bc:=ce4_ HK 3 2 1 0;replace Bf:=fe3_ HK 2 1 0;replace Bx:=xc4_ (below_step HW_.out HK.out.b) C0 C1 C2 C3)|((with_reducible refine gate_ (.store 52 (.tmp 10) (.tmp 58)) rfl ?_);refine storerow_at (cs:=#[eS,i0,eS,nilS]) (g:=ge) 0 (#[.string nm,.int .i64 v.kind,.string v.raw,.slice A2 v.kids.length c2]) at_ rfl Gge.out rfl rfl rfl rfl rfl rfl kr_ rfl (by simp [Value.oneCell']) ?_;intro wr3 HK1;replace HK:=asd_ HK1;clear HK1;replace Bc:=ce4_ HK 3 2 1 0;replace Bf:=fe3_ HK 2 1 0;replace Bx:=xc4_ (below_step HW_.out HK.out.b) C0 C1 C2 C3))
   refine (Hv.out (below_step HW_.out be_) HC2.out Hl2.out).mono ?_
   rintro _ w9 ⟨d,td,okd,sn1,rfl,hvd,hdb,hks,hnd,hge,hof,hb⟩
   obtain ⟨Bd,cd,e7⟩:=hdb.slice;subst e7
   have HK9:Aside0 (At w (.b ge (row (#[.string nm,.int .i64 v.kind,.string v.raw,.slice A2 v.kids.length c2]) 52):: .b g8 (row (#[.int .i64 5,bF,i0,.int .u64 0,eS,.slice Au k cu]) 30):: .b g2 (row (#[i0,bF,i0,.int .u64 0,eS,nilS]) 30):: .b gv (row (#[.int .i64 8,.string raw,.slice (some ad) n c]) 48)::(sn1 ++ (pr ++ sn))) w9):=⟨At.behind [.b ge (row (#[.string nm,.int .i64 v.kind,.string v.raw,.slice A2 v.kids.length c2]) 52),.b g8 (row (#[.int .i64 5,bF,i0,.int .u64 0,eS,.slice Au k cu]) 30),.b g2 (row (#[i0,bF,i0,.int .u64 0,eS,nilS]) 30),.b gv (row (#[.int .i64 8,.string raw,.slice (some ad) n c]) 48)] (At.came_all (l:=(.b ge (row (#[.string nm,.int .i64 v.kind,.string v.raw,.slice A2 v.kids.length c2]) 52):: .b g8 (row (#[.int .i64 5,bF,i0,.int .u64 0,eS,.slice Au k cu]) 30):: .b g2 (row (#[i0,bF,i0,.int .u64 0,eS,nilS]) 30):: .b gv (row (#[.int .i64 8,.string raw,.slice (some ad) n c]) 48)::(pr ++ sn))) at_ hb hks hnd hge)⟩
   have Hge:Aside0 (∀ g∈nums sn1,w.heap.size≤g):=⟨fun g hg=>Nat.le_trans (show Below w.heap.size w _ from be_).size (hge g hg)⟩
   obtain ⟨Hvd,Hdb,Hof⟩:=as3_ hvd hdb hof;clear HK hvd hdb hks hnd hge hof hb;have HK:=HK9;clear HK9
   replace Bc:=ce4_ HK 3 2 1 0;replace Bf:=fe3_ HK 2 1 0
   cases okd
   case false=>
    go_wp2_with (first|((with_reducible refine gd_ 11 ?_);refine bx_ #[i0,bF,i0,.int .u64 0,eS,nilS] 30 ?_;clear HK;intro g11 wb11 HK Gg11;replace Bc:=ce5_ HK 4 3 2 1 0;replace Bf:=fe4_ HK 3 2 1 0)|((first|((with_reducible refine gate_ (.store 30 (.tmp 11) (.tmp 63)) rfl ?_);refine storerow_at (cs:=#[i0,bF,i0,.int .u64 0,eS,nilS]) (g:=g11) 0 (#[.int .i64 d.kind,.bool d.b,.int .i64 d.n,.int .u64 d.f,.string d.s,.slice Bd d.kids.length cd]) at_ rfl Gg11.out rfl rfl rfl rfl rfl rfl kr_ rfl (by simp [Value.oneCell']) ?_)|((with_reducible refine gate_ (.store 30 (.tmp 2) (.tmp 67)) rfl ?_);refine storerow_at (cs:=#[i0,bF,i0,.int .u64 0,eS,nilS]) (g:=g2) 3 (#[i0,bF,i0,.int .u64 0,eS,nilS]) at_ rfl Gg2.out rfl rfl rfl rfl rfl rfl kr_ rfl (by simp [Value.oneCell']) ?_));intro wr4 HK1;replace HK:=asd_ HK1;clear HK1;replace Bc:=ce5_ HK 4 3 2 1 0;replace Bf:=fe4_ HK 3 2 1 0))
    exact bodyPost_ret (v:= .tuple #[.agg #[i0,bF,i0,.int .u64 0,eS,nilS],.bool false]) (by simp [results,Tryz.results15,go_sem,Bc]) rfl (VDone.plain (x:=dNull) (ok:=false) rfl (fun h=>by cases h) be_ rfl)
   case true=>
    go_wp2_with (first|((with_reducible refine gd_ 11 ?_);refine bx_ #[i0,bF,i0,.int .u64 0,eS,nilS] 30 ?_;clear HK;intro g11 wb11 HK Gg11;replace Bc:=ce5_ HK 4 3 2 1 0;replace Bf:=fe4_ HK 3 2 1 0)|((with_reducible refine gd_ 70 ?_);refine lo_ 30 11 g11 (#[.int .i64 d.kind,.bool d.b,.int .i64 d.n,.int .u64 d.f,.string d.s,.slice Bd d.kids.length cd]) HK.out.k.1 Tryz.underlying30 ?_)|((with_reducible refine gd_ 72 ?_);refine nw_ (row (#[eS,.int .i64 d.kind,.bool d.b,.int .i64 d.n,.int .u64 d.f,.string d.s,.slice Bd d.kids.length cd]) 85) (fun g=> .slice (some ⟨g,0,none⟩) 1 1) ?_;clear HK;intro gl wb72 HK Ggl;replace Bc:=ce5_ HK 5 4 3 2 1;replace Bf:=fe4_ HK 4 3 2 1)|((with_reducible refine gate_builtin (b:= .append) (xs:=#[.tmp 69,.tmp 72]) rfl ?_);at_builtin;refine appendpr_at (L:=(.b g11 (row (#[.int .i64 d.kind,.bool d.b,.int .i64 d.n,.int .u64 d.f,.string d.s,.slice Bd d.kids.length cd]) 30):: .b ge (row (#[.string nm,.int .i64 v.kind,.string v.raw,.slice A2 v.kids.length c2]) 52):: .b g8 (row (#[.int .i64 5,bF,i0,.int .u64 0,eS,.slice Au k cu]) 30):: .b g2 (row (#[i0,bF,i0,.int .u64 0,eS,nilS]) 30):: .b gv (row (#[.int .i64 8,.string raw,.slice (some ad) n c]) 48)::sn1)) (pr:=pr) (T:=sn) (kc:=#[eS,.int .i64 d.kind,.bool d.b,.int .i64 d.n,.int .u64 d.f,.string d.s,.slice Bd d.kids.length cd]) (sz:=7) (e:=85) (At.front 0 HK.out rfl) (by repeat (first|exact Hof.out _|exact Hos.out _|exact HP.out.offG _|exact trivial|(apply offG_append))) HP.out rfl rfl Tryz.underlying28 info85 rfl (by decide) rfl (by simp [Value.oneCell']) rfl rfl (by have:=Hlt.out;have:=HL_.out;omega) (by have:=Hlt.out;have:=HL_.out;omega) ?_;intro pr2 ga ca wa HP2 HE0;have HP2:=asd_ HP2;have HK9:Aside0 (At w (.b g11 (row (#[.int .i64 d.kind,.bool d.b,.int .i64 d.n,.int .u64 d.f,.string d.s,.slice Bd d.kids.length cd]) 30):: .b ge (row (#[.string nm,.int .i64 v.kind,.string v.raw,.slice A2 v.kids.length c2]) 52):: .b g8 (row (#[.int .i64 5,bF,i0,.int .u64 0,eS,.slice Au k cu]) 30):: .b g2 (row (#[i0,bF,i0,.int .u64 0,eS,nilS]) 30):: .b gv (row (#[.int .i64 8,.string raw,.slice (some ad) n c]) 48)::(sn1 ++ (pr2 ++ sn))) wa):=asd_ HE0;clear HK HE0;have HK:=HK9;clear HK9;replace Bc:=ce5_ HK 4 3 2 1 0;replace Bf:=fe4_ HK 3 2 1 0)|((first|((with_reducible refine gate_ (.store 30 (.tmp 11) (.tmp 63)) rfl ?_);refine storerow_at (cs:=#[i0,bF,i0,.int .u64 0,eS,nilS]) (g:=g11) 0 (#[.int .i64 d.kind,.bool d.b,.int .i64 d.n,.int .u64 d.f,.string d.s,.slice Bd d.kids.length cd]) at_ rfl Gg11.out rfl rfl rfl rfl rfl rfl kr_ rfl (by simp [Value.oneCell']) ?_)|((with_reducible refine gate_ (.store 28 (.tmp 74) (.tmp 73)) rfl ?_);refine store_at (t:=28) (p:=74) (g:=g8) (i:=5) (v:= .slice (some ⟨ga,0,none⟩) (k + 1) ca) 2 (#[.int .i64 5,bF,i0,.int .u64 0,eS,.slice (some ⟨ga,0,none⟩) (k + 1) ca]) rfl at_ rfl Gg8.out rfl rfl rfl rfl gs_ ?_));intro wr6 HK1;replace HK:=asd_ HK1;clear HK1;replace Bc:=ce5_ HK 4 3 2 1 0;replace Bf:=fe4_ HK 3 2 1 0))
    go_roundg (n - (k + 1))
    case measure=>have:=Hkq.out;have:=Hlt.out;omega
    case rel=>exact ⟨k + 1,_,pr2,sn1 ++ sn,ds ++ [(⟨#[]⟩,d)],us ++ [.slice Bd d.kids.length cd],⟨Hlt.out⟩,by go_num,⟨rfl⟩,⟨by rw [rowOf_snoc (HD.out.lu.trans HD.out.ld.symm)];exact HP2.out⟩,⟨HD.out.next (fun b hb=>List.mem_append_right _ hb) Hx.out (Hvd.out (by first|trivial|rfl)) (Hdb.out.mono (fun b hb=>List.mem_append_left _ hb))⟩,⟨ge_app Hge.out Hgs.out⟩,⟨fun e=>offG_append (Hof.out e) (Hos.out e)⟩,⟨At.under [.b g8 (row (#[.int .i64 5,bF,i0,.int .u64 0,eS,.slice (some ⟨ga,0,none⟩) (k + 1) ca]) 30),.b g2 (row (#[i0,bF,i0,.int .u64 0,eS,nilS]) 30),.b gv (row (#[.int .i64 8,.string raw,.slice (some ad) n c]) 48)] (At.sub (show At w (.b g11 (row (#[.int .i64 d.kind,.bool d.b,.int .i64 d.n,.int .u64 d.f,.string d.s,.slice Bd d.kids.length cd]) 30):: .b ge (row (#[.string nm,.int .i64 v.kind,.string v.raw,.slice A2 v.kids.length c2]) 52):: .b g8 (row (#[.int .i64 5,bF,i0,.int .u64 0,eS,.slice (some ⟨ga,0,none⟩) (k + 1) ca]) 30):: .b g2 (row (#[i0,bF,i0,.int .u64 0,eS,nilS]) 30):: .b gv (row (#[.int .i64 8,.string raw,.slice (some ad) n c]) 48)::(sn1 ++ (pr2 ++ sn))) _ from at_) (List.Sublist.cons _ (List.Sublist.cons _ (List.Sublist.refl _))))⟩⟩
def pos {α:Type}:List (ByteArray×α)→ByteArray→Nat
 |[],_=>0
 |h::t,s=>if bl h.1 s=true then pos t s + 1 else 0
theorem pos_le {α:Type} (L:List (ByteArray×α)) (s:ByteArray):pos L s≤L.length:=by
 induction L with
 |nil=>simp [pos]
 |cons h t ih=>simp only [pos];split<;>simp<;>omega
theorem pos_lt {α:Type} {L:List (ByteArray×α)} {s:ByteArray} {i:Nat} {k:ByteArray×α} (hk:L[i]? =some k) (hi:i < pos L s):bl k.1 s=true:=by
 induction L generalizing i with
 |nil=>simp at hk
 |cons h t ih=>
  by_cases hb:bl h.1 s=true
  ·have e:pos (h::t) s=pos t s + 1:=if_pos hb
   cases i with
   |zero=>
    obtain rfl:h=k:=by simpa using hk
    exact hb
   |succ i=>exact ih (by simpa using hk) (by omega)
  ·have e:pos (h::t) s=0:=if_neg hb
   omega
theorem pos_eq {α:Type} {L:List (ByteArray×α)} {s:ByteArray} {k:ByteArray×α} (hk:L[pos L s]? =some k):bl k.1 s=false:=by
 induction L with
 |nil=>simp at hk
 |cons h t ih=>
  by_cases hb:bl h.1 s=true
  ·have e:pos (h::t) s=pos t s + 1:=if_pos hb
   rw [e] at hk
   exact ih (by simpa using hk)
  ·have e:pos (h::t) s=0:=if_neg hb
   rw [e] at hk
   obtain rfl:h=k:=by simpa using hk
   simpa using hb
theorem pos_of {α:Type} {L:List (ByteArray×α)} {s:ByteArray} {i:Nat} (h:∀ j k,j < i→L[j]? =some k→bl k.1 s=true) (hi:i≤L.length) (hs:∀ k,L[i]? =some k→bl k.1 s=false):i=pos L s:=by
 have hp:=pos_le L s
 rcases Nat.lt_trichotomy i (pos L s) with h1|h1|h1
 ·have hk:L[i]? =some L[i]:=List.getElem?_eq_getElem (by omega)
  have:=pos_lt hk h1
  rw [hs _ hk] at this
  cases this
 ·exact h1
 ·have hk:L[pos L s]? =some L[pos L s]:=List.getElem?_eq_getElem (by omega)
  have:=h _ _ h1 hk
  rw [pos_eq hk] at this
  cases this
theorem ins_same {α:Type} {L:List (ByteArray×α)} {k h:ByteArray×α} (hh:L[pos L k.1]? =some h) (he:h.1.toList=k.1.toList):ins L k=L.set (pos L k.1) k:=by
 induction L with
 |nil=>simp at hh
 |cons g t ih=>
  simp only [pos,ins] at hh ⊢
  by_cases hb:bl g.1 k.1=true
  ·rw [if_pos hb] at hh ⊢
   rw [if_pos hb,ih (by simpa using hh)]
   rfl
  ·rw [if_neg hb] at hh ⊢
   obtain rfl:g=h:=by simpa using hh
   rw [if_neg hb,if_pos he]
   rfl
theorem ins_new {α:Type} {L:List (ByteArray×α)} {k:ByteArray×α} (hn:∀ h,L[pos L k.1]? =some h→h.1.toList≠k.1.toList):ins L k=L.take (pos L k.1) ++ (k::L.drop (pos L k.1)):=by
 induction L with
 |nil=>rfl
 |cons g t ih=>
  simp only [pos,ins] at hn ⊢
  by_cases hb:bl g.1 k.1=true
  ·rw [if_pos hb] at hn
   rw [if_pos hb,if_pos hb,ih (fun h hh=>hn h (by simpa using hh))]
   rfl
  ·rw [if_neg hb] at hn
   rw [if_neg hb,if_neg (hn g (by simp)),if_neg hb]
   rfl
theorem rowOf_take {L:List (ByteArray×Dt)} {us:List Value} (h:us.length=L.length) (p:Nat):rowOf (L.take p) (us.take p)=(rowOf L us).take (p * 7):=by
 induction L generalizing us p with
 |nil=>simp [rowOf]
 |cons k r ih=>
  cases us with
  |nil=>simp at h
  |cons u us=>
   cases p with
   |zero=>simp [rowOf]
   |succ p=>
    have:=ih (us:=us) (by simpa using h) p
    simp only [rowOf,List.take_succ_cons,List.zipWith_cons_cons,List.flatten_cons] at this ⊢
    rw [List.take_append,this]
    have hl:(kcells k u).length=7:=rfl
    have e1:(kcells k u).take ((p + 1) * 7)=kcells k u:=List.take_of_length_le (Nat.le_trans (Nat.le_of_eq hl) (by omega))
    have e2:(p + 1) * 7 - (kcells k u).length=p * 7:=by rw [hl];omega
    rw [e1,e2]
theorem rowOf_drop {L:List (ByteArray×Dt)} {us:List Value} (h:us.length=L.length) (p:Nat):rowOf (L.drop p) (us.drop p)=(rowOf L us).drop (p * 7):=by
 induction L generalizing us p with
 |nil=>simp [rowOf]
 |cons k r ih=>
  cases us with
  |nil=>simp at h
  |cons u us=>
   cases p with
   |zero=>simp
   |succ p=>
    have:=ih (us:=us) (by simpa using h) p
    simp only [rowOf,List.drop_succ_cons,List.zipWith_cons_cons,List.flatten_cons] at this ⊢
    have hl:(kcells k u).length=7:=rfl
    have e1:(kcells k u).drop ((p + 1) * 7)=[]:=List.drop_eq_nil_of_le (Nat.le_trans (Nat.le_of_eq hl) (by omega))
    have e2:(p + 1) * 7 - (kcells k u).length=p * 7:=by rw [hl];omega
    rw [List.drop_append,e1,e2,this,List.nil_append]
theorem rowOf_app {L L':List (ByteArray×Dt)} {us us':List Value} (h:us.length=L.length):rowOf (L ++ L') (us ++ us')=rowOf L us ++ rowOf L' us':=by
 unfold rowOf
 rw [List.zipWith_append (by omega),List.flatten_append]
def segs (cur:Array Value):Nat→List Value→Array Value
 |_,[]=>cur
 |o,v::r=>segs (cur.setIfInBounds o v) (o + 1) r
theorem segs_size (l:List Value):∀ (cur:Array Value) (o:Nat),(segs cur o l).size=cur.size:=by
 induction l with
 |nil=>intro cur o;rfl
 |cons v r ih=>intro cur o;simp [segs,ih]
theorem segs_list (l:List Value):∀ (cur:Array Value) (o:Nat),o + l.length≤cur.size→(segs cur o l).toList=cur.toList.take o ++ l ++ cur.toList.drop (o + l.length):=by
 induction l with
 |nil=>intro cur o h;simp [segs]
 |cons v r ih=>
  intro cur o h
  simp only [segs,List.length_cons] at h ⊢
  rw [ih _ _ (by simp;omega)]
  simp only [Array.toList_setIfInBounds]
  have ho:o < cur.toList.length:=by simp;omega
  rw [List.set_eq_take_append_cons_drop,if_pos ho]
  have h1:(cur.toList.take o).length=o:=by simp;omega
  have e1:(cur.toList.take o).take (o + 1)=cur.toList.take o:=List.take_of_length_le (by omega)
  have e2:(cur.toList.take o).drop (o + 1 + r.length)=[]:=List.drop_eq_nil_of_le (by omega)
  have e3:o + 1 - o=0 + 1:=by omega
  have e4:o + 1 + r.length - o=r.length + 1:=by omega
  rw [List.take_append,List.drop_append,e1,e2,h1,e3,e4,List.take_succ_cons,List.drop_succ_cons,List.take_zero,List.drop_drop]
  have e5:o + 1 + r.length=o + (r.length + 1):=by omega
  rw [e5]
  simp
theorem At.segs {w W:World} {l:List Blk} {g:Nat} {cur:Array Value} {t:TypeId} (hg:w.heap.size≤g) (ht:datT t=false) (vs:List Value) (o:Nat) (H:At w (.b g (row cur t)::l) W):At w (.b g (row (segs cur o vs) t)::l) (W.setCells g o vs):=by
 induction vs generalizing cur o W with
 |nil=>exact H
 |cons v r ih=>exact ih (o + 1) (H.store 0 rfl hg ht)
theorem rowOf_set {L:List (ByteArray×Dt)} {us:List Value} (h:us.length=L.length) (p:Nat) (hp:p < L.length) (k:ByteArray×Dt) (t:Value):rowOf (L.set p k) (us.set p t)=(rowOf L us).take (p * 7) ++ kcells k t ++ (rowOf L us).drop (p * 7 + 7):=by
 rw [List.set_eq_take_append_cons_drop,if_pos hp,List.set_eq_take_append_cons_drop,if_pos (by omega),rowOf_app (by simp;omega),rowOf_take h]
 have:rowOf (k::L.drop (p + 1)) (t::us.drop (p + 1))=kcells k t ++ rowOf (L.drop (p + 1)) (us.drop (p + 1)):=rfl
 rw [this,rowOf_drop h,List.append_assoc]
 congr 3
 omega
theorem take_mid {X s:List Value} {a b n:Nat} (hs:s.length=b) (hn:a + b≤n) (hX:n≤X.length):(X.take a ++ s ++ X.drop (a + b)).take n=(X.take n).take a ++ s ++ (X.take n).drop (a + b):=by
 have h1:(X.take a ++ s).length=a + b:=by simp [hs];omega
 rw [List.take_append,h1,List.take_of_length_le (by omega),List.take_take,Nat.min_eq_left (by omega),List.drop_take]
theorem PR.some_ {b:Nat} {pr:List Blk} {e:TypeId} {sz:Nat} {v:Value} {n:Nat} {cells:List Value} (h:PR b pr e sz v n cells) (hn:0 < n):∃ g cap cur,pr=[.b g (row cur e)]∧v= .slice (some ⟨g,0,none⟩) n cap∧b≤g∧n≤cap∧cap≤maxLen∧cur.size=cap * sz∧cur.toList.take (n * sz)=cells∧cells.length=n * sz:=by
 rcases h with ⟨_,_,rfl,_⟩|h
 ·omega
 ·exact h
section
variable {ops:Array Oper} {rest:List Oper} {o:Oper} {a:Act} {Q:Exit→Act→World→Prop} {Kc:Act→World→Prop} {w W:World}
theorem putpr_at {Ls pr T:List Blk} {g n cap i:Nat} {L:List (ByteArray×Dt)} {us:List Value} {k:ByteArray×Dt} {t:Value} {kc:Array Value} {p x:Operand}
  (H:At w (Ls ++ (pr ++ T)) W) (hP:PR w.heap.size pr 85 7 (.slice (some ⟨g,0,none⟩) n cap) n (rowOf L us)) (hl:us.length=L.length) (hn:L.length=n) (hi:i < n) (hgd:o.guard=none) (ho:o.op= .store 85 p x) (hN:o.dst=none)
  (hp:a.eval p= .pointer (some ⟨g,i * 7,none⟩)) (hx:a.eval x= .agg kc) (hk:kc.toList=kcells k t) (h1:kc.all (·.oneCell')=true)
  (h:∀ pr' w1,PR w.heap.size pr' 85 7 (.slice (some ⟨g,0,none⟩) n cap) n (rowOf (L.set i k) (us.set i t))→At w (Ls ++ (pr' ++ T)) w1→wpList Tryz.prog ops Q rest a w1):wpList Tryz.prog ops Q (o::rest) a W:=by
 obtain ⟨g',cap',cur,rfl,e1,hb,hc1,hc2,hcs,hct,hcl⟩:=hP.some_ (by omega)
 injection e1 with e1 _ e3
 injection e1 with e1
 injection e1 with e1
 subst e1 e3
 have HF:At w (.b g (row cur 85)::(Ls ++ T)) W:=H.perm List.perm_middle
 have hkl:kc.toList.length=7:=by rw [hk];rfl
 have hfit:i * 7 + kc.toList.length≤cur.size:=by rw [hkl,hcs];omega
 have hrun:(Instr.storeAt 85 (.pointer (some ⟨g,i * 7,none⟩)) (.agg kc)).run Tryz.prog W= .ok () (W.setCells g (i * 7) kc.toList):=
  run_store_run (P:=Tryz.prog) 85 (.agg kc) kc.toList HF.k.1 rfl (by rw [hkl];kernel_rfl) hfit (fun q hq=>Array.all_eq_true_iff_forall_mem.1 h1 q (by simpa using hq))
 refine wpList_plain hgd fun K hK=> ?_
 unfold Oper.wp execOp
 simp only [ho,hp,hx,Sem.run_bind,Sem.run_pure,Result.andThen_ok,hrun]
 show K (a.put o.dst undef) _
 rw [hN]
 refine hK a _ (h [.b g (row (segs cur (i * 7) kc.toList) 85)] _ (.inr ⟨g,cap,_,rfl,rfl,hb,hc1,hc2,by rw [segs_size,hcs],?_,?_⟩) ?_)
 ·rw [segs_list _ _ _ hfit,rowOf_set hl i (by omega),hk]
  have hL:(rowOf L us).length=n * 7:=by rw [rowOf_len _ _ hl,hn]
  have e7:(kcells k t).length=7:=rfl
  rw [e7,take_mid e7 (by omega) (by simp [hcs];omega),hct]
 ·rw [rowOf_len _ _ (by simp [hl])]
  simp [hn]
 ·have H2:=At.segs hb rfl kc.toList (i * 7) HF
  exact H2.perm (by simpa using (List.perm_middle (l₁:=Ls) (l₂:=T) (a:=Blk.b g (row (segs cur (i * 7) kc.toList) 85))).symm)
theorem grow_run {e:TypeId} {sz bytes n c m c2:Nat} {A:Option Addr} {ad:Addr} {olds news:List Value} {l:List Blk} {t ty:TypeId} {z:Value} (H:At w l W)
  (ht:Tryz.prog.underlying t=some (.slice e)) (hinfo:(Tryz.prog.info? e).map (fun i=>(i.zero,i.size,i.bytes))=some (some z,sz,bytes)) (hz:z.cells.size=sz) (hs0:0 < sz)
  (hA:A=none→n=0∧c=0) (hlo:olds.length=n * sz) (holds:∀ b,A=some b→∀ j u,olds[j]? =some u→W.cell? (b.add j)=some u) (hnl:news.length=m * sz) (hnews:∀ j u,news[j]? =some u→W.cell? (ad.add j)=some u) (h1:∀ u∈news,u.oneCell'=true)
  (hfull:c < n + m) (hm:n + m≤1073741824) (hlen:(n + m) * bytes≤140737488355328):
  ∃ pr g cap w1,(Builtin.append_ #[t,t] ty #[.slice A n c,.slice (some ad) m c2]).run Tryz.prog W= .ok (.slice (some ⟨g,0,none⟩) (n + m) cap) w1∧PR w.heap.size pr e sz (.slice (some ⟨g,0,none⟩) (n + m) cap) (n + m) (olds ++ news)∧At w (pr ++ l) w1:=by
 obtain ⟨i0,hi,hz0,hz1,hz2⟩:=info_of hinfo
 have key:∃ v' w',(Builtin.append_ #[t,t] ty #[.slice A n c,.slice (some ad) m c2]).run Tryz.prog W= .ok v' w'∧w'.ownsRow W.heap.size e sz v' (n + m) (olds ++ news)∧W.grownBy w' none:=by
  cases A with
  |some b=>exact run_append_arg_grows (P:=Tryz.prog) W t ty e i0 z sz bytes ht hi hz0 hz1 hz2 hz hs0 b n c olds hlo (holds b rfl) ad m c2 news hnl hnews hfull (by unfold maxLen;omega) hlen
  |none=>
   obtain ⟨rfl,rfl⟩:=hA rfl
   obtain rfl:olds=[]:=List.eq_nil_of_length_eq_zero (by simpa using hlo)
   obtain ⟨v',w',hrun,r1,r2,_⟩:=run_append_own (P:=Tryz.prog) W W.heap.size t ty e i0 z sz bytes ht hi hz0 hz1 hz2 hz hs0 (.slice none 0 0) 0 [] (World.ownsRow_nil W _ e sz) ad m c2 news hnl hnews h1 (by unfold maxLen;omega) hlen (Nat.le_refl _)
   exact ⟨v',w',hrun,r1,r2⟩
 obtain ⟨v',w',hrun,⟨hl,⟨_,h0⟩|⟨g,cap,cur,rfl,hb,hh,hn,hmx,hs,hc⟩⟩,hg⟩:=key
 ·omega
 ·have hB:Below W.heap.size W w':=⟨hg.os,hg.tape,hg.output,hg.size,fun k hk=>hg.block k hk (by simp)⟩
  exact ⟨[.b g (row cur e)],g,cap,w',hrun,.inr ⟨g,cap,cur,rfl,rfl,Nat.le_trans H.b.size hb,hn,hmx,hs,hc,hl⟩,H.came hB hh hb⟩
end
theorem size28 (w:World):(sizeOf (Tryz.prog.elem 28)).run Tryz.prog w= .ok 7 w:=by
 obtain ⟨i0,hi,hz0,hz1,hz2⟩:=info_of info85
 have hel:Tryz.prog.elem 28=85:=by simp [Program.elem,Tryz.underlying28]
 rw [hel]
 simp [sizeOf,typeInfo,hi,hz1]
theorem hu28:Tryz.prog.underlying 28=some (.slice (Tryz.prog.elem 28)):=by
 have hel:Tryz.prog.elem 28=85:=by simp [Program.elem,Tryz.underlying28]
 rw [hel]
 exact Tryz.underlying28
theorem sliced_tail (A:Option Addr) (p n c:Nat) (hp:p≤n):∃ A',(∀ W,(Instr.slice 28 (.slice A n c) (some (.int .i64 p)) none none).run Tryz.prog W= .ok (.slice A' (n - p) (c - p)) W)∧(p < n→n≤c→A'=A.map (·.add (p * 7))):=by
 refine ⟨if c=p then A else A.map (·.add (p * 7)),fun W=> ?_,fun h1 h2=>if_neg (by omega)⟩
 have hr:=run_slice_l (P:=Tryz.prog) W 28 A n c hu28 .i64 (p:Int) (by omega) (by omega)
 rw [hr]
 have hs:∀ w,(sizeOf (Tryz.prog.elem 28)).run Tryz.prog w= .ok 7 w:=size28
 rw [hs]
 simp [Result.andThen,sliced]
theorem sliced_head (A:Option Addr) (p n c:Nat) (hp:p≤c):∀ W,(Instr.slice 28 (.slice A n c) none (some (.int .i64 p)) (some (.int .i64 p))).run Tryz.prog W= .ok (.slice A p p) W:=by
 intro W
 have hr:=run_slice_hm (P:=Tryz.prog) W 28 A n c hu28 .i64 .i64 (p:Int) (p:Int) (by omega) (by omega) (by omega)
 rw [hr]
 have hs:∀ w,(sizeOf (Tryz.prog.elem 28)).run Tryz.prog w= .ok 7 w:=size28
 rw [hs]
 have h0:∀ a:Addr,a.add 0=a:=fun a=>by simp [Addr.add]
 simp only [Result.andThen,sliced,Int.toNat_natCast,Nat.zero_mul,Nat.sub_zero]
 split
 ·rfl
 ·cases A<;>simp [h0]
section
variable {ops:Array Oper} {rest:List Oper} {o:Oper} {a:Act} {Q:Exit→Act→World→Prop} {Kc:Act→World→Prop} {w W:World} {l:List Blk}
theorem appendnew_at {n c m c2:Nat} {A:Option Addr} {ad:Addr} {olds news:List Value} {s x:Operand} (H:At w l W) (hgd:o.guard=none) (ho:o.op= .call {callee:= .builtin .append,args:=#[s,x],argTypes:=#[28,28]})
  (hs:a.eval s= .slice A n c) (hx:a.eval x= .slice (some ad) m c2) (hA:A=none→n=0∧c=0) (hlo:olds.length=n * 7) (holds:∀ b,A=some b→∀ j u,olds[j]? =some u→W.cell? (b.add j)=some u) (hnl:news.length=m * 7) (hnews:∀ j u,news[j]? =some u→W.cell? (ad.add j)=some u) (h1:∀ u∈news,u.oneCell'=true)
  (hfull:c < n + m) (hm:n + m≤1073741824)
  (h:∀ pr g cap w1,PR w.heap.size pr 85 7 (.slice (some ⟨g,0,none⟩) (n + m) cap) (n + m) (olds ++ news)→At w (pr ++ l) w1→wpList Tryz.prog ops Q rest (a.put o.dst (.slice (some ⟨g,0,none⟩) (n + m) cap)) w1):wpList Tryz.prog ops Q (o::rest) a W:=by
 obtain ⟨pr,g,cap,w1,hrun,hP,H'⟩:=grow_run (t:=28) (ty:=o.type) (c2:=c2) H Tryz.underlying28 info85 rfl (by decide) hA hlo holds hnl hnews h1 hfull hm (by omega)
 refine wpList_plain hgd fun K hK=> ?_
 unfold Oper.wp
 simp [execOp,ho,resolve,invoke,builtin,hs,hx,hrun,Result.andThen]
 exact hK _ _ (h pr g cap w1 hP H')
theorem appendnew_ {n c m c2:Nat} {A:Option Addr} {ad:Addr} {olds news:List Value} {s x:Operand} (H:At w l W) (hw:Region.wanted o (yielded ops a.tmps)=true) (ho:o.op= .call {callee:= .builtin .append,args:=#[s,x],argTypes:=#[28,28]})
  (hs:a.eval s= .slice A n c) (hx:a.eval x= .slice (some ad) m c2) (hA:A=none→n=0∧c=0) (hlo:olds.length=n * 7) (holds:∀ b,A=some b→∀ j u,olds[j]? =some u→W.cell? (b.add j)=some u) (hnl:news.length=m * 7) (hnews:∀ j u,news[j]? =some u→W.cell? (ad.add j)=some u) (h1:∀ u∈news,u.oneCell'=true)
  (hfull:c < n + m) (hm:n + m≤1073741824)
  (h:∀ pr g cap w1,PR w.heap.size pr 85 7 (.slice (some ⟨g,0,none⟩) (n + m) cap) (n + m) (olds ++ news)→At w (pr ++ l) w1→Kc (a.put o.dst (.slice (some ⟨g,0,none⟩) (n + m) cap)) w1):if Region.wanted o (yielded ops a.tmps)=true then Oper.wp Tryz.prog o a W Kc Q else Kc (a.put o.dst undef) W:=by
 obtain ⟨pr,g,cap,w1,hrun,hP,H'⟩:=grow_run (t:=28) (ty:=o.type) (c2:=c2) H Tryz.underlying28 info85 rfl (by decide) hA hlo holds hnl hnews h1 hfull hm (by omega)
 rw [if_pos hw]
 unfold Oper.wp
 simp [execOp,ho,resolve,invoke,builtin,hs,hx,hrun,Result.andThen]
 exact h pr g cap w1 hP H'
theorem appendnil_run {A:Option Addr} {n c c2:Nat} {A2:Option Addr} {s x:Operand} (hn:n≤c) (ho:o.op= .call {callee:= .builtin .append,args:=#[s,x],argTypes:=#[28,28]}) (hs:a.eval s= .slice A n c) (hx:a.eval x= .slice A2 0 c2):(execOp a.eval o).run Tryz.prog W= .ok (.value (.slice A n c)) W:=by
 obtain ⟨i0,hi,hz0,hz1,hz2⟩:=info_of info85
 have hr:(Builtin.append_ #[28,28] o.type #[.slice A n c,.slice A2 0 c2]).run Tryz.prog W= .ok (.slice A n c) W:=by
  cases A<;>cases A2<;>simp [Builtin.append_,run_underlying Tryz.underlying28,sizeOf,typeInfo,hi,Builtin.lenOf,hn,storeCells,Builtin.firstCells,loadCells,loadCellsFrom]
 simp [execOp,ho,resolve,invoke,builtin,hs,hx,hr,Result.andThen]
end
structure ObB (w0:World) (sn:List Blk) (ds L:List (ByteArray×Dt)) (us:List Value) (kids:List Kid) (k:Nat):Prop where
 ld:ds.length=k
 eL:L=ds.foldl ins []
 le:L.length≤k
 lu:us.length=L.length
 vd:∀ (i:Nat) (x:Kid) (d:ByteArray×Dt),kids[i]? =some x→ds[i]? =some d→VD w0 x.2 d.2
 nm:∀ (i:Nat) (x:Kid) (d:ByteArray×Dt),kids[i]? =some x→ds[i]? =some d→d.1=x.1
 db:∀ (i:Nat) (d:ByteArray×Dt) (t:Value),L[i]? =some d→us[i]? =some t→DB sn t d.2
theorem ObB.next {w0:World} {sn sn':List Blk} {ds L:List (ByteArray×Dt)} {us us':List Value} {kids:List Kid} {k:Nat} {x:Kid} {d:Dt} {t:Value} (h:ObB w0 sn ds L us kids k) (hs:∀ b∈sn,b∈sn') (hx:kids[k]? =some x) (hv:VD w0 x.2 d) (hd:DB sn' t d) (hlu:us'.length=(ins L (x.1,d)).length) (hle:(ins L (x.1,d)).length≤L.length + 1)
  (hdb:∀ (i:Nat) (e:ByteArray×Dt) (u:Value),(ins L (x.1,d))[i]? =some e→us'[i]? =some u→(e=(x.1,d)∧u=t)∨∃ j:Nat,L[j]? =some e∧us[j]? =some u):ObB w0 sn' (ds ++ [(x.1,d)]) (ins L (x.1,d)) us' kids (k + 1):=by
 obtain ⟨ld,eL,le,lu,vd,nm,db⟩:=h
 refine ⟨by simp [ld],by rw [List.foldl_append,← eL];rfl,by omega,hlu,fun i y e h1 h2=> ?_,fun i y e h1 h2=> ?_,fun i e u h1 h2=> ?_⟩
 ·rcases snoc_get ld h2 with ⟨_,h3⟩|⟨rfl,rfl⟩
  ·exact vd i y e h1 h3
  ·rw [hx] at h1;cases h1;exact hv
 ·rcases snoc_get ld h2 with ⟨_,h3⟩|⟨rfl,rfl⟩
  ·exact nm i y e h1 h3
  ·rw [hx] at h1;cases h1;rfl
 ·rcases hdb i e u h1 h2 with ⟨rfl,rfl⟩|⟨j,h3,h4⟩
  ·exact hd
  ·exact (db j e u h3 h4).mono hs
theorem ObB.set {w0:World} {sn sn':List Blk} {ds L:List (ByteArray×Dt)} {us:List Value} {kids:List Kid} {k:Nat} {x:Kid} {d:Dt} {t:Value} (h:ObB w0 sn ds L us kids k) (hs:∀ b∈sn,b∈sn') (hx:kids[k]? =some x) (hv:VD w0 x.2 d) (hd:DB sn' t d) {e:ByteArray×Dt} (he:L[pos L x.1]? =some e) (hn:e.1.toList=x.1.toList):ObB w0 sn' (ds ++ [(x.1,d)]) (L.set (pos L x.1) (x.1,d)) (us.set (pos L x.1) t) kids (k + 1):=by
 have e1:ins L (x.1,d)=L.set (pos L x.1) (x.1,d):=ins_same (k:=(x.1,d)) he hn
 rw [← e1]
 refine h.next hs hx hv hd (by rw [e1];simp [h.lu]) (by rw [e1];simp) (fun i f u h1 h2=> ?_)
 rw [e1] at h1
 by_cases hi:i=pos L x.1
 ·subst hi
  rw [List.getElem?_set_self (List.getElem?_eq_some_iff.1 he).1] at h1
  rw [List.getElem?_set_self (by rw [h.lu];exact (List.getElem?_eq_some_iff.1 he).1)] at h2
  cases h1;cases h2
  exact .inl ⟨rfl,rfl⟩
 ·rw [List.getElem?_set_ne (by omega)] at h1 h2
  exact .inr ⟨i,h1,h2⟩
theorem ObB.put {w0:World} {sn sn':List Blk} {ds L:List (ByteArray×Dt)} {us:List Value} {kids:List Kid} {k p:Nat} {x:Kid} {d:Dt} {t:Value} (h:ObB w0 sn ds L us kids k) (hs:∀ b∈sn,b∈sn') (hx:kids[k]? =some x) (hv:VD w0 x.2 d) (hd:DB sn' t d) (hp:p=pos L x.1) (hn:∀ e,L[p]? =some e→e.1.toList≠x.1.toList):ObB w0 sn' (ds ++ [(x.1,d)]) (L.take p ++ ((x.1,d)::L.drop p)) (us.take p ++ (t::us.drop p)) kids (k + 1):=by
 subst hp
 have e1:ins L (x.1,d)=L.take (pos L x.1) ++ ((x.1,d)::L.drop (pos L x.1)):=ins_new (k:=(x.1,d)) hn
 have hle:=pos_le L x.1
 rw [← e1]
 refine h.next hs hx hv hd (by rw [e1];simp [h.lu]) (by rw [e1];simp;omega) (fun i f u h1 h2=> ?_)
 rw [e1] at h1
 have l1:(L.take (pos L x.1)).length=pos L x.1:=by simp;omega
 have l2:(us.take (pos L x.1)).length=pos L x.1:=by simp [h.lu];omega
 rcases Nat.lt_or_ge i (pos L x.1) with hi|hi
 ·rw [List.getElem?_append_left (by omega),List.getElem?_take_of_lt hi] at h1 h2
  exact .inr ⟨i,h1,h2⟩
 ·rw [List.getElem?_append_right (by omega)] at h1 h2
  rw [l1] at h1
  rw [l2] at h2
  cases hj:i - pos L x.1 with
  |zero=>
   rw [hj] at h1 h2
   exact .inl ⟨by simpa using h1.symm,by simpa using h2.symm⟩
  |succ j=>
   rw [hj] at h1 h2
   exact .inr ⟨pos L x.1 + j,by simpa [List.getElem?_drop] using h1,by simpa [List.getElem?_drop] using h2⟩
end Go.Proofs.YtlblbefbbibpaaaGreatDoor.J
