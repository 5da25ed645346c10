/- Part. -/
import Derived.Test.YtkphbhncpdcbeaaGreatDoorQAM
set_option linter.unusedVariables false
set_option linter.unusedSimpArgs false
set_option maxHeartbeats 8000000
set_option maxRecDepth 100000
namespace Go.Proofs.YtkphbhncpdcbeaaGreatDoor.PJT
open Go.RowKit YtkphbhncpdcbeaaGreatDoorW.PrintWords YtkphbhncpdcbeaaGreatDoorW.PrintLast YtkphbhncpdcbeaaGreatDoorW.PrintMore
attribute [local go_sem] max2_int min2_int max_two min_two max_three min_three max_four min_four
mutual
def spec_jProperIn.j0:Nat→Int→Bool→Int→Bool→Int→ByteArray→List ByteArray→List (S25)→Option (Bool)
 |0,_,_,_,_,_,_,_,_=>none
 |k + 1,x1,x52,x137000,x137001,x137002,x137003,x137004,x137005=>if x52=true then (some false) else (spec_jProperIn.l0 k x1 0 x137000 x137001 x137002 x137003 x137004 x137005)
def spec_jProperIn.l0:Nat→Int→Int→Int→Bool→Int→ByteArray→List ByteArray→List (S25)→Option (Bool)
 |0,_,_,_,_,_,_,_,_=>none
 |k + 1,x1,x5,x137000,x137001,x137002,x137003,x137004,x137005=>if x5 < (x137004.length:Int) then (if 0≤x5 then ((spec_JUtf8.f k (rdOf ByteArray.empty x137004 x5)).bind fun t140=>(if t140=true then (spec_jProperIn.l0 k x1 (wrap64 (x5 + 1)) x137000 x137001 x137002 x137003 x137004 x137005) else (some false))) else (none)) else (spec_jProperIn.l1 k x1 0 x137000 x137001 x137002 x137003 x137004 x137005)
def spec_jProperIn.l1:Nat→Int→Int→Int→Bool→Int→ByteArray→List ByteArray→List (S25)→Option (Bool)
 |0,_,_,_,_,_,_,_,_=>none
 |k + 1,x1,x6,x137000,x137001,x137002,x137003,x137004,x137005=>if x6 < (x137005.length:Int) then (if 0≤x6 then ((spec_jProperIn.f k ((rd_T25 x137005 x6).f0) ((rd_T25 x137005 x6).f1) ((rd_T25 x137005 x6).f2) ((rd_T25 x137005 x6).f3) ((rd_T25 x137005 x6).f4) ((rd_T25 x137005 x6).f5) (wrap64 (x1 - 1))).bind fun t142=>(if t142=true then (spec_jProperIn.l1 k x1 (wrap64 (x6 + 1)) x137000 x137001 x137002 x137003 x137004 x137005) else (some false))) else (none)) else (some true)
def spec_jProperIn.f:Nat→Int→Bool→Int→ByteArray→List ByteArray→List (S25)→Int→Option (Bool)
 |0,_,_,_,_,_,_,_=>none
 |k + 1,a0_0,a0_1,a0_2,a0_3,l0_4,l0_5,a1=>if a1=0 then (some false) else (if a0_0 < 0 then (spec_jProperIn.j0 k a1 true a0_0 a0_1 a0_2 a0_3 l0_4 l0_5) else (if a0_0 > 5 then (spec_jProperIn.j0 k a1 true a0_0 a0_1 a0_2 a0_3 l0_4 l0_5) else ((spec_JUtf8.f k a0_3).bind fun t137=>(if t137=true then (if a0_0=2 then (if a0_3.toList=([]:List UInt8) then (if a0_0=5 then (spec_jProperIn.j0 k a1 ((l0_4.length:Int) != (l0_5.length:Int)) a0_0 a0_1 a0_2 a0_3 l0_4 l0_5) else (spec_jProperIn.j0 k a1 false a0_0 a0_1 a0_2 a0_3 l0_4 l0_5)) else ((spec_JIsDecimal.f k a0_3).bind fun t138=>(if t138=true then (if a0_0=5 then (spec_jProperIn.j0 k a1 ((l0_4.length:Int) != (l0_5.length:Int)) a0_0 a0_1 a0_2 a0_3 l0_4 l0_5) else (spec_jProperIn.j0 k a1 false a0_0 a0_1 a0_2 a0_3 l0_4 l0_5)) else (spec_jProperIn.j0 k a1 true a0_0 a0_1 a0_2 a0_3 l0_4 l0_5)))) else (if a0_0=5 then (spec_jProperIn.j0 k a1 ((l0_4.length:Int) != (l0_5.length:Int)) a0_0 a0_1 a0_2 a0_3 l0_4 l0_5) else (spec_jProperIn.j0 k a1 false a0_0 a0_1 a0_2 a0_3 l0_4 l0_5))) else (spec_jProperIn.j0 k a1 true a0_0 a0_1 a0_2 a0_3 l0_4 l0_5)))))
end
theorem spec_jProperIn.calls (k:Nat):∀ (a0_0:Int) (a0_1:Bool) (a0_2:Int) (a0_3:ByteArray) (A0_4:Option Addr) (c0_4:Nat) (l0_4:List ByteArray) (A0_5:Option Addr) (c0_5:Nat) (l0_5:List (S25)) (a1:Int) (r:Bool) (w:World) (hr0_4:Kd.C Kd.string w A0_4 l0_4.length l0_4) (hc0_4:l0_4.length≤c0_4) (hr0_5:Kd.C k25 w A0_5 l0_5.length l0_5) (hc0_5:l0_5.length≤c0_5) (h:spec_jProperIn.f k a0_0 a0_1 a0_2 a0_3 l0_4 l0_5 a1=some r),
  Calls Tryz.prog 18 #[.agg #[.int .i64 a0_0,.bool a0_1,.int .i64 a0_2,.string a0_3,.slice A0_4 l0_4.length c0_4,.slice A0_5 l0_5.length c0_5],.int .i64 a1] w fun e w'=>e= .returned (.bool r)∧Below w.heap.size w w':=by
 induction k using Nat.strongRecOn with
 |_ k ih=>
 intro a0_0 a0_1 a0_2 a0_3 A0_4 c0_4 l0_4 A0_5 c0_5 l0_5 a1 r w hr0_4 hc0_4 hr0_5 hc0_5 h
 cases k with
 |zero=>exact absurd h (by simp [spec_jProperIn.f])
 |succ k=>
 simp only [spec_jProperIn.f] at h
 have hu25:=Tryz.underlying25
 have HR0_4:=asd_ hr0_4
 have HC0_4:=asd_ hc0_4
 clear hr0_4 hc0_4
 have HR0_5:=asd_ hr0_5
 have HC0_5:=asd_ hc0_5
 clear hr0_5 hc0_5
 have HB:=asd_ (Below.refl w.heap.size w)
 have H:(if a1=0 then (some false) else (if a0_0 < 0 then (spec_jProperIn.j0 k a1 true a0_0 a0_1 a0_2 a0_3 l0_4 l0_5) else (if a0_0 > 5 then (spec_jProperIn.j0 k a1 true a0_0 a0_1 a0_2 a0_3 l0_4 l0_5) else ((spec_JUtf8.f k a0_3).bind fun t137=>(if t137=true then (if a0_0=2 then (if a0_3.toList=([]:List UInt8) then (if a0_0=5 then (spec_jProperIn.j0 k a1 ((l0_4.length:Int) != (l0_5.length:Int)) a0_0 a0_1 a0_2 a0_3 l0_4 l0_5) else (spec_jProperIn.j0 k a1 false a0_0 a0_1 a0_2 a0_3 l0_4 l0_5)) else ((spec_JIsDecimal.f k a0_3).bind fun t138=>(if t138=true then (if a0_0=5 then (spec_jProperIn.j0 k a1 ((l0_4.length:Int) != (l0_5.length:Int)) a0_0 a0_1 a0_2 a0_3 l0_4 l0_5) else (spec_jProperIn.j0 k a1 false a0_0 a0_1 a0_2 a0_3 l0_4 l0_5)) else (spec_jProperIn.j0 k a1 true a0_0 a0_1 a0_2 a0_3 l0_4 l0_5)))) else (if a0_0=5 then (spec_jProperIn.j0 k a1 ((l0_4.length:Int) != (l0_5.length:Int)) a0_0 a0_1 a0_2 a0_3 l0_4 l0_5) else (spec_jProperIn.j0 k a1 false a0_0 a0_1 a0_2 a0_3 l0_4 l0_5))) else (spec_jProperIn.j0 k a1 true a0_0 a0_1 a0_2 a0_3 l0_4 l0_5))))))=some r:=h
 clear h
 by_cases c3:a1=0
 ·rw [if_pos c3] at H
  have c3b0:=beq_iff_eq.mpr c3
  have c3b1:=bne_eq_false_iff_eq.mpr c3
  clear c3
  obtain rfl:=Option.some.inj H
  go_enter Tryz.func18,Tryz.ntmps18
  go_wp2_with (first|((with_reducible refine gate_dst (N:=2) rfl ?_);(try (refine gate_guard (by rfl) ?_;dsimp only));refine box_event ?hg (N:=2) ?hd (cs:=#[.int .i64 a0_0,.bool a0_1,.int .i64 a0_2,.string a0_3,.slice A0_4 l0_4.length c0_4,.slice A0_5 l0_5.length c0_5]) (t:=25) ?hr ?_;(case hd=>rfl);(case hg=>rfl);(case hr=>first|(go_simp;done)|(go_simp;rfl));intro gb136 hg w4 hbox hb;have n0_:=asd_ (below_step wb_ hb);have n1_:=asd_ (hbox);have n2_:=asd_ ((by rw [hg];exact (below_size wb_):w.heap.size≤gb136));have n3_:=asd_ ((by rw [hg];exact (below_size wb_):w.heap.size≤gb136));clear HB;have HB:=n0_;have BK136:=n1_;have GW136:=n2_;have GE136:=n3_;clear n0_ n1_ n2_ n3_;clear hb hbox hg))
  go_ret
  exact ⟨er_,wb_⟩
 ·rw [if_neg c3] at H
  have c3b0:=beq_eq_false_iff_ne.mpr c3
  have c3b1:=bne_iff_ne.mpr c3
  have HC5:=asd_ H
  clear H
  go_enter Tryz.func18,Tryz.ntmps18
  go_upto_region 3 with (first|((with_reducible refine gate_dst (N:=2) rfl ?_);(try (refine gate_guard (by rfl) ?_;dsimp only));refine box_event ?hg (N:=2) ?hd (cs:=#[.int .i64 a0_0,.bool a0_1,.int .i64 a0_2,.string a0_3,.slice A0_4 l0_4.length c0_4,.slice A0_5 l0_5.length c0_5]) (t:=25) ?hr ?_;(case hd=>rfl);(case hg=>rfl);(case hr=>first|(go_simp;done)|(go_simp;rfl));intro gb136 hg w6 hbox hb;have n0_:=asd_ (below_step wb_ hb);have n1_:=asd_ (hbox);have n2_:=asd_ ((by rw [hg];exact (below_size wb_):w.heap.size≤gb136));have n3_:=asd_ ((by rw [hg];exact (below_size wb_):w.heap.size≤gb136));clear HB;have HB:=n0_;have BK136:=n1_;have GW136:=n2_;have GE136:=n3_;clear n0_ n1_ n2_ n3_;clear hb hbox hg))
  (try simp only [Act.put,List.setIfInBounds_toArray,List.set_cons_zero,List.set_cons_succ])
  go_cut [52] (fun v52 wc=>∃ (kq:Nat) (x52_4:Bool),v52= .bool x52_4∧Aside0 (spec_jProperIn.j0 kq a1 x52_4 a0_0 a0_1 a0_2 a0_3 l0_4 l0_5=some r)∧Aside0 (kq≤k)∧Aside0 (wc.heap[gb136]? =some (.cells #[.int .i64 a0_0,.bool a0_1,.int .i64 a0_2,.string a0_3,(.slice A0_4 l0_4.length c0_4),(.slice A0_5 l0_5.length c0_5)] 25 (0,0)))∧Aside0 (Below w.heap.size w wc))
  case first=>
   have H:=HC5.out
   clear HC5
   by_cases c7:a0_0 < 0
   ·rw [if_pos c7] at H
    have c7b0:=decide_eq_true c7
    clear c7
    (first|rw [c7b0]|(simp only [i64_w,i32_w];rw [c7b0])|skip)
    have H':=asd_ H
    clear H
    have hc8_0:=cb_ BK136.out
    go_wp2
    go_meet
    case rel=>exact ⟨_,(true),r1_,H',⟨by first|omega|exact Nat.le_refl _⟩,⟨bk_⟩,⟨wb_⟩⟩
   ·rw [if_neg c7] at H
    have c7b0:=decide_eq_false c7
    clear c7
    (first|rw [c7b0]|(simp only [i64_w,i32_w];rw [c7b0])|skip)
    by_cases c9:a0_0 > 5
    ·rw [if_pos c9] at H
     have c9b0:=decide_eq_true c9
     clear c9
     have H':=asd_ H
     clear H
     have hc10_0:=cb_ BK136.out
     go_wp2
     go_meet
     case rel=>exact ⟨_,(true),r1_,H',⟨by first|omega|exact Nat.le_refl _⟩,⟨bk_⟩,⟨wb_⟩⟩
    ·rw [if_neg c9] at H
     have c9b0:=decide_eq_false c9
     clear c9
     replace H:=Option.bind_eq_some_iff.mp H
     obtain ⟨t137,A110,H⟩:=H
     replace H:(if t137=true then (if a0_0=2 then (if a0_3.toList=([]:List UInt8) then (if a0_0=5 then (spec_jProperIn.j0 k a1 ((l0_4.length:Int) != (l0_5.length:Int)) a0_0 a0_1 a0_2 a0_3 l0_4 l0_5) else (spec_jProperIn.j0 k a1 false a0_0 a0_1 a0_2 a0_3 l0_4 l0_5)) else ((spec_JIsDecimal.f k a0_3).bind fun t138=>(if t138=true then (if a0_0=5 then (spec_jProperIn.j0 k a1 ((l0_4.length:Int) != (l0_5.length:Int)) a0_0 a0_1 a0_2 a0_3 l0_4 l0_5) else (spec_jProperIn.j0 k a1 false a0_0 a0_1 a0_2 a0_3 l0_4 l0_5)) else (spec_jProperIn.j0 k a1 true a0_0 a0_1 a0_2 a0_3 l0_4 l0_5)))) else (if a0_0=5 then (spec_jProperIn.j0 k a1 ((l0_4.length:Int) != (l0_5.length:Int)) a0_0 a0_1 a0_2 a0_3 l0_4 l0_5) else (spec_jProperIn.j0 k a1 false a0_0 a0_1 a0_2 a0_3 l0_4 l0_5))) else (spec_jProperIn.j0 k a1 true a0_0 a0_1 a0_2 a0_3 l0_4 l0_5))=some r:=H
     have A11:=asd_ A110
     clear A110
     by_cases c12:t137=true
     ·subst c12
      have H1:(if a0_0=2 then (if a0_3.toList=([]:List UInt8) then (if a0_0=5 then (spec_jProperIn.j0 k a1 ((l0_4.length:Int) != (l0_5.length:Int)) a0_0 a0_1 a0_2 a0_3 l0_4 l0_5) else (spec_jProperIn.j0 k a1 false a0_0 a0_1 a0_2 a0_3 l0_4 l0_5)) else ((spec_JIsDecimal.f k a0_3).bind fun t138=>(if t138=true then (if a0_0=5 then (spec_jProperIn.j0 k a1 ((l0_4.length:Int) != (l0_5.length:Int)) a0_0 a0_1 a0_2 a0_3 l0_4 l0_5) else (spec_jProperIn.j0 k a1 false a0_0 a0_1 a0_2 a0_3 l0_4 l0_5)) else (spec_jProperIn.j0 k a1 true a0_0 a0_1 a0_2 a0_3 l0_4 l0_5)))) else (if a0_0=5 then (spec_jProperIn.j0 k a1 ((l0_4.length:Int) != (l0_5.length:Int)) a0_0 a0_1 a0_2 a0_3 l0_4 l0_5) else (spec_jProperIn.j0 k a1 false a0_0 a0_1 a0_2 a0_3 l0_4 l0_5)))=some r:=by rw [if_pos rfl] at H;exact H
      clear H
      have H:=H1
      clear H1
      by_cases c13:a0_0=2
      ·rw [if_pos c13] at H
       have c13b0:=beq_iff_eq.mpr c13
       have c13b1:=bne_eq_false_iff_eq.mpr c13
       clear c13
       by_cases c14:a0_3.toList=([]:List UInt8)
       ·rw [if_pos c14] at H
        have c14b0:=beq_iff_eq.mpr c14
        have c14b1:=bne_eq_false_iff_eq.mpr c14
        clear c14
        by_cases c15:a0_0=5
        ·rw [if_pos c15] at H
         have c15b0:=beq_iff_eq.mpr c15
         have c15b1:=bne_eq_false_iff_eq.mpr c15
         clear c15
         have H':=asd_ H
         clear H
         have hc16_0:=cb_ BK136.out
         go_wp2_with (first|(go_at_call 25;(with_reducible refine (spec_JUtf8.calls k a0_3 true _ A11.out).mono ?_);rintro e w' ⟨rfl,⟨nd,rfl⟩⟩))
         go_meet
         case rel=>exact ⟨_,(((l0_4.length:Int) != (l0_5.length:Int))),r1_,H',⟨by first|omega|exact Nat.le_refl _⟩,⟨bk_⟩,⟨wb_⟩⟩
        ·rw [if_neg c15] at H
         have c15b0:=beq_eq_false_iff_ne.mpr c15
         have c15b1:=bne_iff_ne.mpr c15
         have H':=asd_ H
         clear H
         have hc17_0:=cb_ BK136.out
         go_wp2_with (first|(go_at_call 25;(with_reducible refine (spec_JUtf8.calls k a0_3 true _ A11.out).mono ?_);rintro e w' ⟨rfl,⟨nd,rfl⟩⟩))
         go_meet
         case rel=>exact ⟨_,(false),r1_,H',⟨by first|omega|exact Nat.le_refl _⟩,⟨bk_⟩,⟨wb_⟩⟩
       ·rw [if_neg c14] at H
        have c14b0:=beq_eq_false_iff_ne.mpr c14
        have c14b1:=bne_iff_ne.mpr c14
        replace H:=Option.bind_eq_some_iff.mp H
        obtain ⟨t138,A180,H⟩:=H
        replace H:(if t138=true then (if a0_0=5 then (spec_jProperIn.j0 k a1 ((l0_4.length:Int) != (l0_5.length:Int)) a0_0 a0_1 a0_2 a0_3 l0_4 l0_5) else (spec_jProperIn.j0 k a1 false a0_0 a0_1 a0_2 a0_3 l0_4 l0_5)) else (spec_jProperIn.j0 k a1 true a0_0 a0_1 a0_2 a0_3 l0_4 l0_5))=some r:=H
        have A18:=asd_ A180
        clear A180
        by_cases c19:t138=true
        ·subst c19
         have H1:(if a0_0=5 then (spec_jProperIn.j0 k a1 ((l0_4.length:Int) != (l0_5.length:Int)) a0_0 a0_1 a0_2 a0_3 l0_4 l0_5) else (spec_jProperIn.j0 k a1 false a0_0 a0_1 a0_2 a0_3 l0_4 l0_5))=some r:=by rw [if_pos rfl] at H;exact H
         clear H
         have H:=H1
         clear H1
         by_cases c20:a0_0=5
         ·rw [if_pos c20] at H
          have c20b0:=beq_iff_eq.mpr c20
          have c20b1:=bne_eq_false_iff_eq.mpr c20
          clear c20
          have H':=asd_ H
          clear H
          have hc21_0:=cb_ BK136.out
          go_wp2_with (first|(go_at_call 25;(with_reducible refine (spec_JUtf8.calls k a0_3 true _ A11.out).mono ?_);rintro e w' ⟨rfl,⟨nd,rfl⟩⟩)|(go_at_call 26;(with_reducible refine (spec_JIsDecimal.calls k a0_3 true _ A18.out).mono ?_);rintro e w22 ⟨rfl,hb⟩;have n0_:=asd_ (blk_below (g:=gb136) (o:= .cells #[.int .i64 a0_0,.bool a0_1,.int .i64 a0_2,.string a0_3,.slice A0_4 l0_4.length c0_4,.slice A0_5 l0_5.length c0_5] 25 (0,0)) bk_ hb);have n1_:=asd_ (below_step wb_ hb);clear BK136;clear HB;have BK136:=n0_;have HB:=n1_;clear n0_ n1_;(try clear hb);(try clear hb2);(try clear hk);(try clear hi);have hc23_0:=cb_ BK136.out))
          go_meet
          case rel=>exact ⟨_,(((l0_4.length:Int) != (l0_5.length:Int))),r1_,H',⟨by first|omega|exact Nat.le_refl _⟩,⟨bk_⟩,⟨wb_⟩⟩
         ·rw [if_neg c20] at H
          have c20b0:=beq_eq_false_iff_ne.mpr c20
          have c20b1:=bne_iff_ne.mpr c20
          have H':=asd_ H
          clear H
          have hc24_0:=cb_ BK136.out
          go_wp2_with (first|(go_at_call 25;(with_reducible refine (spec_JUtf8.calls k a0_3 true _ A11.out).mono ?_);rintro e w' ⟨rfl,⟨nd,rfl⟩⟩)|(go_at_call 26;(with_reducible refine (spec_JIsDecimal.calls k a0_3 true _ A18.out).mono ?_);rintro e w25 ⟨rfl,hb⟩;have n0_:=asd_ (blk_below (g:=gb136) (o:= .cells #[.int .i64 a0_0,.bool a0_1,.int .i64 a0_2,.string a0_3,.slice A0_4 l0_4.length c0_4,.slice A0_5 l0_5.length c0_5] 25 (0,0)) bk_ hb);have n1_:=asd_ (below_step wb_ hb);clear BK136;clear HB;have BK136:=n0_;have HB:=n1_;clear n0_ n1_;(try clear hb);(try clear hb2);(try clear hk);(try clear hi);have hc26_0:=cb_ BK136.out))
          go_meet
          case rel=>exact ⟨_,(false),r1_,H',⟨by first|omega|exact Nat.le_refl _⟩,⟨bk_⟩,⟨wb_⟩⟩
        ·replace c19:=Bool.eq_false_iff.mpr c19
         subst c19
         have H1:(spec_jProperIn.j0 k a1 true a0_0 a0_1 a0_2 a0_3 l0_4 l0_5)=some r:=by rw [if_neg (show ¬ (false=true) by decide)] at H;exact H
         clear H
         have H:=H1
         clear H1
         have H':=asd_ H
         clear H
         have hc27_0:=cb_ BK136.out
         go_wp2_with (first|(go_at_call 25;(with_reducible refine (spec_JUtf8.calls k a0_3 true _ A11.out).mono ?_);rintro e w' ⟨rfl,⟨nd,rfl⟩⟩)|(go_at_call 26;(with_reducible refine (spec_JIsDecimal.calls k a0_3 false _ A18.out).mono ?_);rintro e w28 ⟨rfl,hb⟩;have n0_:=asd_ (blk_below (g:=gb136) (o:= .cells #[.int .i64 a0_0,.bool a0_1,.int .i64 a0_2,.string a0_3,.slice A0_4 l0_4.length c0_4,.slice A0_5 l0_5.length c0_5] 25 (0,0)) bk_ hb);have n1_:=asd_ (below_step wb_ hb);clear BK136;clear HB;have BK136:=n0_;have HB:=n1_;clear n0_ n1_;(try clear hb);(try clear hb2);(try clear hk);(try clear hi)))
         go_meet
         case rel=>exact ⟨_,(true),r1_,H',⟨by first|omega|exact Nat.le_refl _⟩,⟨bk_⟩,⟨wb_⟩⟩
      ·rw [if_neg c13] at H
       have c13b0:=beq_eq_false_iff_ne.mpr c13
       have c13b1:=bne_iff_ne.mpr c13
       by_cases c29:a0_0=5
       ·rw [if_pos c29] at H
        have c29b0:=beq_iff_eq.mpr c29
        have c29b1:=bne_eq_false_iff_eq.mpr c29
        clear c29
        have H':=asd_ H
        clear H
        have hc30_0:=cb_ BK136.out
        go_wp2_with (first|(go_at_call 25;(with_reducible refine (spec_JUtf8.calls k a0_3 true _ A11.out).mono ?_);rintro e w' ⟨rfl,⟨nd,rfl⟩⟩))
        go_meet
        case rel=>exact ⟨_,(((l0_4.length:Int) != (l0_5.length:Int))),r1_,H',⟨by first|omega|exact Nat.le_refl _⟩,⟨bk_⟩,⟨wb_⟩⟩
       ·rw [if_neg c29] at H
        have c29b0:=beq_eq_false_iff_ne.mpr c29
        have c29b1:=bne_iff_ne.mpr c29
        have H':=asd_ H
        clear H
        have hc31_0:=cb_ BK136.out
        go_wp2_with (first|(go_at_call 25;(with_reducible refine (spec_JUtf8.calls k a0_3 true _ A11.out).mono ?_);rintro e w' ⟨rfl,⟨nd,rfl⟩⟩))
        go_meet
        case rel=>exact ⟨_,(false),r1_,H',⟨by first|omega|exact Nat.le_refl _⟩,⟨bk_⟩,⟨wb_⟩⟩
     ·replace c12:=Bool.eq_false_iff.mpr c12
      subst c12
      have H1:(spec_jProperIn.j0 k a1 true a0_0 a0_1 a0_2 a0_3 l0_4 l0_5)=some r:=by rw [if_neg (show ¬ (false=true) by decide)] at H;exact H
      clear H
      have H:=H1
      clear H1
      have H':=asd_ H
      clear H
      have hc32_0:=cb_ BK136.out
      go_wp2_with (first|(go_at_call 25;(with_reducible refine (spec_JUtf8.calls k a0_3 false _ A11.out).mono ?_);rintro e w' ⟨rfl,⟨nd,rfl⟩⟩))
      go_meet
      case rel=>exact ⟨_,(true),r1_,H',⟨by first|omega|exact Nat.le_refl _⟩,⟨bk_⟩,⟨wb_⟩⟩
  case rest=>
   clear HC5
   obtain ⟨kq,x52_4,rfl,HA,HJ4,BK136,HB⟩:=hcut
   cases kq with
   |zero=>exact absurd HA.out (by simp [spec_jProperIn.j0])
   |succ kj4=>
    have H:=HA.out
    clear HA
    simp only [spec_jProperIn.j0] at H
    by_cases c33:x52_4=true
    ·subst c33
     have H1:(some false)=some r:=by rw [if_pos rfl] at H;exact H
     clear H
     have H:=H1
     clear H1
     obtain rfl:=Option.some.inj H
     go_wp2
     go_ret
     exact ⟨er_,wb_⟩
    ·replace c33:=Bool.eq_false_iff.mpr c33
     subst c33
     have H1:(spec_jProperIn.l0 kj4 a1 0 a0_0 a0_1 a0_2 a0_3 l0_4 l0_5)=some r:=by rw [if_neg (show ¬ (false=true) by decide)] at H;exact H
     clear H
     have H:=H1
     clear H1
     have H':=asd_ H
     clear H
     go_wp2
     go_loopg [5] kj4 (fun kq v5 w'=>∃ (x5_2:Int),v5= .int .i64 x5_2∧Aside0 (spec_jProperIn.l0 kq a1 x5_2 a0_0 a0_1 a0_2 a0_3 l0_4 l0_5=some r)∧Aside0 (kq≤kj4)∧Aside0 (w'.heap[gb136]? =some (.cells #[.int .i64 a0_0,.bool a0_1,.int .i64 a0_2,.string a0_3,(.slice A0_4 l0_4.length c0_4),(.slice A0_5 l0_5.length c0_5)] 25 (0,0)))∧Aside0 (Below w.heap.size w w'))
     case atStart=>exact ⟨(0),r1_,H',⟨Nat.le_refl _⟩,⟨bk_⟩,⟨wb_⟩⟩
     case round=>
      clear H'
      obtain ⟨x5_2,rfl,HA,HK2,BK136,HB⟩:=hrel
      cases gk with
      |zero=>exact absurd HA.out (by simp [spec_jProperIn.l0])
      |succ k2=>
       have H:=HA.out
       clear HA
       simp only [spec_jProperIn.l0] at H
       by_cases c34:x5_2 < (l0_4.length:Int)
       ·rw [if_pos c34] at H
        have c34b0:=decide_eq_true c34
        clear c34
        by_cases c35:0≤x5_2
        ·rw [if_pos c35] at H
         have c35b0:=decide_eq_true c35
         clear c35
         replace H:=Option.bind_eq_some_iff.mp H
         obtain ⟨t140,A360,H⟩:=H
         replace H:(if t140=true then (spec_jProperIn.l0 k2 a1 (wrap64 (x5_2 + 1)) a0_0 a0_1 a0_2 a0_3 l0_4 l0_5) else (some false))=some r:=H
         have A36:=asd_ A360
         clear A360
         by_cases c37:t140=true
         ·subst c37
          have H1:(spec_jProperIn.l0 k2 a1 (wrap64 (x5_2 + 1)) a0_0 a0_1 a0_2 a0_3 l0_4 l0_5)=some r:=by rw [if_pos rfl] at H;exact H
          clear H
          have H:=H1
          clear H1
          have H':=asd_ H
          clear H
          have hc38_0:=cb_ BK136.out
          have p139:0≤(x5_2:Int):=of_decide_eq_true as_
          have q139:x5_2 < (l0_4.length:Int):=of_decide_eq_true as_
          obtain ⟨ad139,e139,hx139_0⟩:=Kd.at_string HR0_4.out x5_2 p139 q139
          cases e139
          replace hx139_0:=(HB.out.cell (World.block_lt_of_cell? w _ hx139_0)).trans hx139_0
          replace p139:=eq_true p139
          replace q139:=eq_true q139
          go_wp2_with (first|((with_reducible refine gate_callee (f:=25) rfl ?_);refine goesL_ (some 65) rfl rfl Tryz.func25 kr_ rfl #[.string (rdOf ByteArray.empty l0_4 x5_2)] rfl ap_ ?_;(with_reducible refine (spec_JUtf8.calls k2 (rdOf ByteArray.empty l0_4 x5_2) true _ A36.out).mono ?_);rintro e w' ⟨rfl,⟨nd,rfl⟩⟩;refine ⟨_,rfl,?_⟩))
          go_roundg k2
          case measure=>have:=HJ4.out;have:=HK2.out;omega
          case rel=>exact ⟨(wrap64 (x5_2 + 1)),r1_,H',⟨by have:=HJ4.out;have:=HK2.out;omega⟩,⟨bk_⟩,⟨wb_⟩⟩
         ·replace c37:=Bool.eq_false_iff.mpr c37
          subst c37
          have H1:(some false)=some r:=by rw [if_neg (show ¬ (false=true) by decide)] at H;exact H
          clear H
          have H:=H1
          clear H1
          obtain rfl:=Option.some.inj H
          have hc39_0:=cb_ BK136.out
          have p139:0≤(x5_2:Int):=of_decide_eq_true as_
          have q139:x5_2 < (l0_4.length:Int):=of_decide_eq_true as_
          obtain ⟨ad139,e139,hx139_0⟩:=Kd.at_string HR0_4.out x5_2 p139 q139
          cases e139
          replace hx139_0:=(HB.out.cell (World.block_lt_of_cell? w _ hx139_0)).trans hx139_0
          replace p139:=eq_true p139
          replace q139:=eq_true q139
          go_wp2_with (first|((with_reducible refine gate_callee (f:=25) rfl ?_);refine goesL_ (some 65) rfl rfl Tryz.func25 kr_ rfl #[.string (rdOf ByteArray.empty l0_4 x5_2)] rfl ap_ ?_;(with_reducible refine (spec_JUtf8.calls k2 (rdOf ByteArray.empty l0_4 x5_2) false _ A36.out).mono ?_);rintro e w' ⟨rfl,⟨nd,rfl⟩⟩;refine ⟨_,rfl,?_⟩))
          go_ret
          exact ⟨er_,wb_⟩
        ·rw [if_neg c35] at H
         exact absurd H (by simp)
       ·rw [if_neg c34] at H
        have c34b0:=decide_eq_false c34
        clear c34
        have H':=asd_ H
        clear H
        have hc40_0:=cb_ BK136.out
        go_wp2
        go_loopg [6] k2 (fun kq v6 w'=>∃ (x6_3:Int),v6= .int .i64 x6_3∧Aside0 (spec_jProperIn.l1 kq a1 x6_3 a0_0 a0_1 a0_2 a0_3 l0_4 l0_5=some r)∧Aside0 (kq≤k2)∧Aside0 (w'.heap[gb136]? =some (.cells #[.int .i64 a0_0,.bool a0_1,.int .i64 a0_2,.string a0_3,(.slice A0_4 l0_4.length c0_4),(.slice A0_5 l0_5.length c0_5)] 25 (0,0)))∧Aside0 (Below w.heap.size w w'))
        case atStart=>exact ⟨(0),r1_,H',⟨Nat.le_refl _⟩,⟨bk_⟩,⟨wb_⟩⟩
        case round=>
         clear H'
         obtain ⟨x6_3,rfl,HA,HK3,BK136,HB⟩:=hrel
         cases gk with
         |zero=>exact absurd HA.out (by simp [spec_jProperIn.l1])
         |succ k3=>
          have H:=HA.out
          clear HA
          simp only [spec_jProperIn.l1] at H
          by_cases c41:x6_3 < (l0_5.length:Int)
          ·rw [if_pos c41] at H
           have c41b0:=decide_eq_true c41
           clear c41
           by_cases c42:0≤x6_3
           ·rw [if_pos c42] at H
            have c42b0:=decide_eq_true c42
            clear c42
            replace H:=Option.bind_eq_some_iff.mp H
            obtain ⟨t142,A430,H⟩:=H
            replace H:(if t142=true then (spec_jProperIn.l1 k3 a1 (wrap64 (x6_3 + 1)) a0_0 a0_1 a0_2 a0_3 l0_4 l0_5) else (some false))=some r:=H
            have A43:=asd_ A430
            clear A430
            by_cases c44:t142=true
            ·subst c44
             have H1:(spec_jProperIn.l1 k3 a1 (wrap64 (x6_3 + 1)) a0_0 a0_1 a0_2 a0_3 l0_4 l0_5)=some r:=by rw [if_pos rfl] at H;exact H
             clear H
             have H:=H1
             clear H1
             have H':=asd_ H
             clear H
             have hc45_0:=cb_ BK136.out
             have p141:0≤(x6_3:Int):=of_decide_eq_true as_
             have q141:x6_3 < (l0_5.length:Int):=of_decide_eq_true as_
             obtain ⟨ad141,A141_4,c141_4,A141_5,c141_5,e141,hx141_0,hx141_1,hx141_2,hx141_3,hx141_4,hx141_5,hl141_4,hi141_4,hl141_5,hi141_5⟩:=at_T25 HR0_5.out x6_3 p141 q141
             cases e141
             replace hx141_0:=(HB.out.cell (World.block_lt_of_cell? w _ hx141_0)).trans hx141_0
             replace hx141_1:=(HB.out.cell (World.block_lt_of_cell? w _ hx141_1)).trans hx141_1
             replace hx141_2:=(HB.out.cell (World.block_lt_of_cell? w _ hx141_2)).trans hx141_2
             replace hx141_3:=(HB.out.cell (World.block_lt_of_cell? w _ hx141_3)).trans hx141_3
             replace hx141_4:=(HB.out.cell (World.block_lt_of_cell? w _ hx141_4)).trans hx141_4
             replace hx141_5:=(HB.out.cell (World.block_lt_of_cell? w _ hx141_5)).trans hx141_5
             have HR141_4:=asd_ hi141_4
             have HC141_4:=asd_ hl141_4
             clear hi141_4 hl141_4
             have HR141_5:=asd_ hi141_5
             have HC141_5:=asd_ hl141_5
             clear hi141_5 hl141_5
             replace p141:=eq_true p141
             replace q141:=eq_true q141
             go_wp2_with (first|((with_reducible refine gate_callee (f:=18) rfl ?_);refine goesL_ (some 81) rfl rfl Tryz.func18 kr_ rfl #[.agg #[.int .i64 ((rd_T25 l0_5 x6_3).f0),.bool ((rd_T25 l0_5 x6_3).f1),.int .i64 ((rd_T25 l0_5 x6_3).f2),.string ((rd_T25 l0_5 x6_3).f3),.slice A141_4 ((rd_T25 l0_5 x6_3).f4).length c141_4,.slice A141_5 ((rd_T25 l0_5 x6_3).f5).length c141_5],.int .i64 (wrap64 (a1 - 1))] rfl ap_ ?_;(with_reducible refine (ih k3 (by have:=HJ4.out;have:=HK2.out;have:=HK3.out;omega) ((rd_T25 l0_5 x6_3).f0) ((rd_T25 l0_5 x6_3).f1) ((rd_T25 l0_5 x6_3).f2) ((rd_T25 l0_5 x6_3).f3) _ _ ((rd_T25 l0_5 x6_3).f4) _ _ ((rd_T25 l0_5 x6_3).f5) (wrap64 (a1 - 1)) true _ ?side1 ?side2 ?side3 ?side4 A43.out).mono ?_);(case side1=>repeat (first|exact (Kd.C_below HR141_4.out HB.out)|(with_reducible refine Kd.C_alloc ?_ _)|(with_reducible refine Kd.C_drewN ?_ _)|(with_reducible refine Kd.C_drew ?_)));(case side2=>exact HC141_4.out);(case side3=>repeat (first|exact (Kd.C_below HR141_5.out HB.out)|(with_reducible refine Kd.C_alloc ?_ _)|(with_reducible refine Kd.C_drewN ?_ _)|(with_reducible refine Kd.C_drew ?_)));(case side4=>exact HC141_5.out);rintro e w46 ⟨rfl,hb⟩;refine ⟨_,rfl,?_⟩;have n0_:=asd_ (blk_below (g:=gb136) (o:= .cells #[.int .i64 a0_0,.bool a0_1,.int .i64 a0_2,.string a0_3,.slice A0_4 l0_4.length c0_4,.slice (some ad141) l0_5.length c0_5] 25 (0,0)) bk_ hb);have n1_:=asd_ (below_step wb_ hb);clear BK136;clear HB;have BK136:=n0_;have HB:=n1_;clear n0_ n1_;(try clear hb);(try clear hb2);(try clear hk);(try clear hi)))
             go_roundg k3
             case measure=>have:=HJ4.out;have:=HK2.out;have:=HK3.out;omega
             case rel=>exact ⟨(wrap64 (x6_3 + 1)),r1_,H',⟨by have:=HJ4.out;have:=HK2.out;have:=HK3.out;omega⟩,⟨bk_⟩,⟨wb_⟩⟩
            ·replace c44:=Bool.eq_false_iff.mpr c44
             subst c44
             have H1:(some false)=some r:=by rw [if_neg (show ¬ (false=true) by decide)] at H;exact H
             clear H
             have H:=H1
             clear H1
             obtain rfl:=Option.some.inj H
             have hc47_0:=cb_ BK136.out
             have p141:0≤(x6_3:Int):=of_decide_eq_true as_
             have q141:x6_3 < (l0_5.length:Int):=of_decide_eq_true as_
             obtain ⟨ad141,A141_4,c141_4,A141_5,c141_5,e141,hx141_0,hx141_1,hx141_2,hx141_3,hx141_4,hx141_5,hl141_4,hi141_4,hl141_5,hi141_5⟩:=at_T25 HR0_5.out x6_3 p141 q141
             cases e141
             replace hx141_0:=(HB.out.cell (World.block_lt_of_cell? w _ hx141_0)).trans hx141_0
             replace hx141_1:=(HB.out.cell (World.block_lt_of_cell? w _ hx141_1)).trans hx141_1
             replace hx141_2:=(HB.out.cell (World.block_lt_of_cell? w _ hx141_2)).trans hx141_2
             replace hx141_3:=(HB.out.cell (World.block_lt_of_cell? w _ hx141_3)).trans hx141_3
             replace hx141_4:=(HB.out.cell (World.block_lt_of_cell? w _ hx141_4)).trans hx141_4
             replace hx141_5:=(HB.out.cell (World.block_lt_of_cell? w _ hx141_5)).trans hx141_5
             have HR141_4:=asd_ hi141_4
             have HC141_4:=asd_ hl141_4
             clear hi141_4 hl141_4
             have HR141_5:=asd_ hi141_5
             have HC141_5:=asd_ hl141_5
             clear hi141_5 hl141_5
             replace p141:=eq_true p141
             replace q141:=eq_true q141
             go_wp2_with (first|((with_reducible refine gate_callee (f:=18) rfl ?_);refine goesL_ (some 81) rfl rfl Tryz.func18 kr_ rfl #[.agg #[.int .i64 ((rd_T25 l0_5 x6_3).f0),.bool ((rd_T25 l0_5 x6_3).f1),.int .i64 ((rd_T25 l0_5 x6_3).f2),.string ((rd_T25 l0_5 x6_3).f3),.slice A141_4 ((rd_T25 l0_5 x6_3).f4).length c141_4,.slice A141_5 ((rd_T25 l0_5 x6_3).f5).length c141_5],.int .i64 (wrap64 (a1 - 1))] rfl ap_ ?_;(with_reducible refine (ih k3 (by have:=HJ4.out;have:=HK2.out;have:=HK3.out;omega) ((rd_T25 l0_5 x6_3).f0) ((rd_T25 l0_5 x6_3).f1) ((rd_T25 l0_5 x6_3).f2) ((rd_T25 l0_5 x6_3).f3) _ _ ((rd_T25 l0_5 x6_3).f4) _ _ ((rd_T25 l0_5 x6_3).f5) (wrap64 (a1 - 1)) false _ ?side1 ?side2 ?side3 ?side4 A43.out).mono ?_);(case side1=>repeat (first|exact (Kd.C_below HR141_4.out HB.out)|(with_reducible refine Kd.C_alloc ?_ _)|(with_reducible refine Kd.C_drewN ?_ _)|(with_reducible refine Kd.C_drew ?_)));(case side2=>exact HC141_4.out);(case side3=>repeat (first|exact (Kd.C_below HR141_5.out HB.out)|(with_reducible refine Kd.C_alloc ?_ _)|(with_reducible refine Kd.C_drewN ?_ _)|(with_reducible refine Kd.C_drew ?_)));(case side4=>exact HC141_5.out);rintro e w48 ⟨rfl,hb⟩;refine ⟨_,rfl,?_⟩;have n0_:=asd_ (blk_below (g:=gb136) (o:= .cells #[.int .i64 a0_0,.bool a0_1,.int .i64 a0_2,.string a0_3,.slice A0_4 l0_4.length c0_4,.slice (some ad141) l0_5.length c0_5] 25 (0,0)) bk_ hb);have n1_:=asd_ (below_step wb_ hb);clear BK136;clear HB;have BK136:=n0_;have HB:=n1_;clear n0_ n1_;(try clear hb);(try clear hb2);(try clear hk);(try clear hi)))
             go_ret
             exact ⟨er_,wb_⟩
           ·rw [if_neg c42] at H
            exact absurd H (by simp)
          ·rw [if_neg c41] at H
           have c41b0:=decide_eq_false c41
           clear c41
           obtain rfl:=Option.some.inj H
           have hc49_0:=cb_ BK136.out
           go_wp2
           go_ret
           exact ⟨er_,wb_⟩
end Go.Proofs.YtkphbhncpdcbeaaGreatDoor.PJT
