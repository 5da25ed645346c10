/- Part. -/
import Derived.Test.YtkphbhncpdcbeaaGreatDoorQAL
set_option linter.unusedVariables false
set_option linter.unusedSimpArgs false
set_option maxHeartbeats 8000000
set_option maxRecDepth 100000
namespace Go.Proofs.YtkphbhncpdcbeaaGreatDoor.PJT
open Go.RowKit YtkphbhncpdcbeaaGreatDoorW.PrintWords YtkphbhncpdcbeaaGreatDoorW.PrintLast YtkphbhncpdcbeaaGreatDoorW.PrintMore
attribute [local go_sem] max2_int min2_int max_two min_two max_three min_three max_four min_four
def spec_jLean.l0:Nat→Bool→ByteArray→Int→Option (Bool×ByteArray×Int)
 |0,_,_,_=>none
 |k + 1,x117000,x117001,x117002=>if x117001.toList=([]:List UInt8) then (some (false,(⟨#[]⟩:ByteArray),0)) else (if 0≤(wrap64 ((x117001.size:Int) - 1)) then (if (wrap64 ((x117001.size:Int) - 1)) < (x117001.size:Int) then (if (bt x117001 (wrap64 ((x117001.size:Int) - 1)))=48 then (if (wrap64 ((x117001.size:Int) - 1))≤(x117001.size:Int) then (spec_jLean.l0 k x117000 (x117001.extract 0 ((wrap64 ((x117001.size:Int) - 1)):Int).toNat) (wrap64 (x117002 + 1))) else (none)) else (some (x117000,x117001,x117002))) else (none)) else (none))
def spec_jLean.f (k:Nat) (a0_0:Bool) (a0_1:ByteArray) (a0_2:Int):Option (Bool×ByteArray×Int):=(spec_jBare.f k a0_1).bind fun t118=>(spec_jLean.l0 k a0_0 t118 a0_2)
theorem spec_jLean.calls (k:Nat) (a0_0:Bool) (a0_1:ByteArray) (a0_2:Int) (r1:Bool) (r2:ByteArray) (r3:Int) (w:World) (h:spec_jLean.f k a0_0 a0_1 a0_2=some (r1,r2,r3)):
  Calls Tryz.prog 88 #[.agg #[.bool a0_0,.string a0_1,.int .i64 a0_2]] w fun e w'=>e= .returned (.agg #[.bool r1,.string r2,.int .i64 r3])∧Below w.heap.size w w':=by
 have hu100:=Tryz.underlying100
 have HB:=asd_ (Below.refl w.heap.size w)
 have H:((spec_jBare.f k a0_1).bind fun t118=>(spec_jLean.l0 k a0_0 t118 a0_2))=some (r1,r2,r3):=h
 clear h
 replace H:=Option.bind_eq_some_iff.mp H
 obtain ⟨t118,A20,H⟩:=H
 replace H:(spec_jLean.l0 k a0_0 t118 a0_2)=some (r1,r2,r3):=H
 have A2:=asd_ A20
 clear A20
 have H':=asd_ H
 clear H
 go_enter Tryz.func88,Tryz.ntmps88
 go_wp2_with (first|((with_reducible refine gate_dst (N:=1) rfl ?_);(try (refine gate_guard (by rfl) ?_;dsimp only));refine box_event ?hg (N:=1) ?hd (cs:=#[.bool a0_0,.string a0_1,.int .i64 a0_2]) (t:=100) ?hr ?_;(case hd=>rfl);(case hg=>rfl);(case hr=>first|(go_simp;done)|(go_simp;rfl));intro gb116 hg w3 hbox hb;have n0_:=asd_ (below_step wb_ hb);have n1_:=asd_ (hbox);have n2_:=asd_ ((by rw [hg];exact (below_size wb_):w.heap.size≤gb116));have n3_:=asd_ ((by rw [hg];exact (below_size wb_):w.heap.size≤gb116));clear HB;have HB:=n0_;have BK116:=n1_;have GW116:=n2_;have GE116:=n3_;clear n0_ n1_ n2_ n3_;clear hb hbox hg)|((with_reducible refine gate_dst (N:=2) rfl ?_);(try (refine gate_guard (by rfl) ?_;dsimp only));refine box_event ?hg (N:=2) ?hd (cs:=#[.bool false,.string (⟨#[]⟩:ByteArray),.int .i64 0]) (t:=100) ?hr ?_;(case hd=>rfl);(case hg=>rfl);(case hr=>first|(go_simp;done)|(go_simp;rfl));intro gb117 hg w4 hbox hb;have n0_:=asd_ (blk_below (g:=gb116) (o:= .cells #[.bool a0_0,.string a0_1,.int .i64 a0_2] 100 (0,0)) bk_ hb);have n1_:=asd_ (below_step wb_ hb);have n2_:=asd_ (hbox);have n3_:=asd_ ((by rw [hg];exact (below_size wb_):w.heap.size≤gb117));have n4_:=asd_ ((by rw [hg];exact (below_size wb_):w.heap.size≤gb117));have n5_:=asd_ ((by rw [hg];exact Nat.ne_of_lt (blk_lt (g:=gb116) (o:= .cells #[.bool a0_0,.string a0_1,.int .i64 a0_2] 100 (0,0)) bk_):gb116≠gb117));have n6_:=asd_ ((by rw [hg];exact Nat.ne_of_gt (blk_lt (g:=gb116) (o:= .cells #[.bool a0_0,.string a0_1,.int .i64 a0_2] 100 (0,0)) bk_):gb117≠gb116));clear BK116;clear HB;have BK116:=n0_;have HB:=n1_;have BK117:=n2_;have GW117:=n3_;have GE117:=n4_;have NB116_117:=n5_;have NB117_116:=n6_;clear n0_ n1_ n2_ n3_ n4_ n5_ n6_;clear hb hbox hg;have hnb5:=NB116_117.out;have hnc5:=NB117_116.out;have hc6_0:=cb_ BK116.out)|((with_reducible refine gate_callee (f:=128) rfl ?_);refine goesL_ (some 5) rfl rfl Tryz.func128 kr_ rfl #[.string a0_1] rfl ap_ ?_;(with_reducible refine (spec_jBare.calls k a0_1 t118 _ A2.out).mono ?_);rintro e w' ⟨rfl,⟨nd,rfl⟩⟩;refine ⟨_,rfl,?_⟩;(try (rw [drewN_self w4];generalize hq_:World.drewN w4 _=w4;have n0_:Aside0 (w4.heap[gb116]? =some (.cells #[.bool a0_0,.string a0_1,.int .i64 a0_2] 100 (0,0))):=⟨by rw [← hq_];exact bk_⟩;have n1_:Aside0 (w4.heap[gb117]? =some (.cells #[.bool false,.string (⟨#[]⟩:ByteArray),.int .i64 0] 100 (0,0))):=⟨by rw [← hq_];exact bk_⟩;have n2_:Aside0 (Below w.heap.size w w4):=⟨by rw [← hq_];exact wb_⟩;clear BK116 BK117 HB hq_;have BK116:=n0_;have BK117:=n1_;have HB:=n2_;clear n0_ n1_ n2_;have hqc116:=fun j=>blk_cell BK116.out j;have hqf116:=fun j=>blk_frozen BK116.out j;have hqc117:=fun j=>blk_cell BK117.out j;have hqf117:=fun j=>blk_frozen BK117.out j))))
 go_loopg [] k (fun kq w'=>∃ (x117001_1:ByteArray) (x117002_1:Int),Aside0 (spec_jLean.l0 kq a0_0 x117001_1 x117002_1=some (r1,r2,r3))∧Aside0 (kq≤k)∧Aside0 (w'.heap[gb116]? =some (.cells #[.bool a0_0,.string x117001_1,.int .i64 x117002_1] 100 (0,0)))∧Aside0 (w'.heap[gb117]? =some (.cells #[.bool false,.string (⟨#[]⟩:ByteArray),.int .i64 0] 100 (0,0)))∧Aside0 (Below w.heap.size w w'))
 case atStart=>exact ⟨(t118),(a0_2),H',⟨Nat.le_refl _⟩,⟨by (with_reducible repeat (first|refine blk_drewN ?_ _|refine blk_drew ?_|refine blk_alloc ?_ _));refine blk_put (cs:=#[.bool a0_0,.string a0_1,.int .i64 a0_2]) ?_ 1 _ rfl;(with_reducible repeat (first|refine blk_drewN ?_ _|refine blk_drew ?_|refine blk_alloc ?_ _));exact BK116.out⟩,⟨by (with_reducible repeat (first|refine blk_drewN ?_ _|refine blk_drew ?_|refine blk_alloc ?_ _));refine blk_far ?_ NB117_116.out _;(with_reducible repeat (first|refine blk_drewN ?_ _|refine blk_drew ?_|refine blk_alloc ?_ _));exact BK117.out⟩,⟨wb_⟩⟩
 case round=>
  clear H'
  obtain ⟨x117001_1,x117002_1,HA,HK1,BK116,BK117,HB⟩:=hrel
  cases gk with
  |zero=>exact absurd HA.out (by simp [spec_jLean.l0])
  |succ k1=>
   have H:=HA.out
   clear HA
   simp only [spec_jLean.l0] at H
   by_cases c7:x117001_1.toList=([]:List UInt8)
   ·rw [if_pos c7] at H
    have c7b0:=beq_iff_eq.mpr c7
    have c7b1:=bne_eq_false_iff_eq.mpr c7
    clear c7
    simp only [Option.some.injEq,Prod.mk.injEq] at H
    obtain ⟨rfl,rfl,rfl⟩:=H
    have hnb8:=NB116_117.out
    have hnc8:=NB117_116.out
    have hc9_0:=cb_ BK116.out
    have hc9_1:=cb_ BK117.out
    go_wp2
    refine bodyPost_ret (results_cell_row rfl _ _ gb117 100 #[.bool false,.string (⟨#[]⟩:ByteArray),.int .i64 0] (0,0) _ rfl (by (with_reducible repeat (first|refine blk_drewN ?_ _|refine blk_drew ?_|refine blk_alloc ?_ _));refine blk_put (cs:=#[.bool false,.string (⟨#[]⟩:ByteArray),.int .i64 0]) ?_ 2 _ rfl;(with_reducible repeat (first|refine blk_drewN ?_ _|refine blk_drew ?_|refine blk_alloc ?_ _));refine blk_put (cs:=#[.bool false,.string (⟨#[]⟩:ByteArray),.int .i64 0]) ?_ 1 _ rfl;(with_reducible repeat (first|refine blk_drewN ?_ _|refine blk_drew ?_|refine blk_alloc ?_ _));refine blk_put (cs:=#[.bool false,.string (⟨#[]⟩:ByteArray),.int .i64 0]) ?_ 0 _ rfl;(with_reducible repeat (first|refine blk_drewN ?_ _|refine blk_drew ?_|refine blk_alloc ?_ _));exact BK117.out) Tryz.underlying100 rfl kr_) rfl ?_
    exact ⟨er_,wb_⟩
   ·rw [if_neg c7] at H
    have c7b0:=beq_eq_false_iff_ne.mpr c7
    have c7b1:=bne_iff_ne.mpr c7
    obtain ⟨ji11,hji11⟩:∃ j_:Int,(wrap64 ((x117001_1.size:Int) - 1))=j_:=⟨_,rfl⟩
    replace H:(if 0≤(ji11) then (if (ji11) < (x117001_1.size:Int) then (if (bt x117001_1 (ji11))=48 then (if (ji11)≤(x117001_1.size:Int) then (spec_jLean.l0 k1 a0_0 (x117001_1.extract 0 ((ji11):Int).toNat) (wrap64 (x117002_1 + 1))) else (none)) else (some (a0_0,x117001_1,x117002_1))) else (none)) else (none))=some (r1,r2,r3):=by first|(rw [hji11] at H;exact H)|(simp only [hji11] at H ⊢;exact H)
    have hji11w:(IntKind.i64.wrap ((x117001_1.size:Int) - 1))=ji11:=(i64_w _).trans hji11
    by_cases c12:0≤(ji11)
    ·rw [if_pos c12] at H
     have c12b0:=decide_eq_true c12
     clear c12
     by_cases c13:(ji11) < (x117001_1.size:Int)
     ·rw [if_pos c13] at H
      have c13b0:=decide_eq_true c13
      clear c13
      by_cases c15:(bt x117001_1 (ji11))=48
      ·rw [if_pos c15] at H
       have c15b0:=beq_iff_eq.mpr c15
       have c15b1:=bne_eq_false_iff_eq.mpr c15
       clear c15
       have c16b0:=eq_true (of_decide_eq_true as_:0≤(ji11))
       by_cases c17:(ji11)≤(x117001_1.size:Int)
       ·rw [if_pos c17] at H
        have c17b0:=eq_true c17
        have c17b1:=decide_eq_true c17
        clear c17
        have H':=asd_ H
        clear H
        have hnb18:=NB116_117.out
        have hnc18:=NB117_116.out
        have hc19_0:=cb_ BK116.out
        have p14:0≤((ji11):Int):=of_decide_eq_true as_
        have q14:(ji11) < (x117001_1.size:Int):=of_decide_eq_true as_
        have hx14:=bt_at x117001_1 (ji11)
        replace p14:=eq_true p14
        replace q14:=eq_true q14
        go_wp2
        go_roundg k1
        case measure=>have:=HK1.out;omega
        case rel=>exact ⟨(x117001_1.extract 0 ((ji11):Int).toNat),(wrap64 (x117002_1 + 1)),H',⟨by have:=HK1.out;omega⟩,⟨by (with_reducible repeat (first|refine blk_drewN ?_ _|refine blk_drew ?_|refine blk_alloc ?_ _));refine blk_put (cs:=#[.bool a0_0,.string (x117001_1.extract 0 ((ji11):Int).toNat),.int .i64 x117002_1]) ?_ 2 _ rfl;(with_reducible repeat (first|refine blk_drewN ?_ _|refine blk_drew ?_|refine blk_alloc ?_ _));refine blk_put (cs:=#[.bool a0_0,.string x117001_1,.int .i64 x117002_1]) ?_ 1 _ rfl;(with_reducible repeat (first|refine blk_drewN ?_ _|refine blk_drew ?_|refine blk_alloc ?_ _));exact BK116.out⟩,⟨by (with_reducible repeat (first|refine blk_drewN ?_ _|refine blk_drew ?_|refine blk_alloc ?_ _));refine blk_far ?_ NB117_116.out _;(with_reducible repeat (first|refine blk_drewN ?_ _|refine blk_drew ?_|refine blk_alloc ?_ _));refine blk_far ?_ NB117_116.out _;(with_reducible repeat (first|refine blk_drewN ?_ _|refine blk_drew ?_|refine blk_alloc ?_ _));exact BK117.out⟩,⟨wb_⟩⟩
       ·rw [if_neg c17] at H
        exact absurd H (by simp)
      ·rw [if_neg c15] at H
       have c15b0:=beq_eq_false_iff_ne.mpr c15
       have c15b1:=bne_iff_ne.mpr c15
       simp only [Option.some.injEq,Prod.mk.injEq] at H
       obtain ⟨rfl,rfl,rfl⟩:=H
       have hnb20:=NB116_117.out
       have hnc20:=NB117_116.out
       have hc21_0:=cb_ BK116.out
       have p14:0≤((ji11):Int):=of_decide_eq_true as_
       have q14:(ji11) < (x117001_1.size:Int):=of_decide_eq_true as_
       have hx14:=bt_at x117001_1 (ji11)
       replace p14:=eq_true p14
       replace q14:=eq_true q14
       have hc22_0:=cb_ BK117.out
       go_wp2
       refine bodyPost_ret (results_cell_row rfl _ _ gb117 100 #[.bool a0_0,.string x117001_1,.int .i64 x117002_1] (0,0) _ rfl (by (with_reducible repeat (first|refine blk_drewN ?_ _|refine blk_drew ?_|refine blk_alloc ?_ _));refine blk_put (cs:=#[.bool a0_0,.string x117001_1,.int .i64 0]) ?_ 2 _ rfl;(with_reducible repeat (first|refine blk_drewN ?_ _|refine blk_drew ?_|refine blk_alloc ?_ _));refine blk_put (cs:=#[.bool a0_0,.string (⟨#[]⟩:ByteArray),.int .i64 0]) ?_ 1 _ rfl;(with_reducible repeat (first|refine blk_drewN ?_ _|refine blk_drew ?_|refine blk_alloc ?_ _));refine blk_put (cs:=#[.bool false,.string (⟨#[]⟩:ByteArray),.int .i64 0]) ?_ 0 _ rfl;(with_reducible repeat (first|refine blk_drewN ?_ _|refine blk_drew ?_|refine blk_alloc ?_ _));exact BK117.out) Tryz.underlying100 rfl kr_) rfl ?_
       exact ⟨by first|rfl|(simp [errW_none,errW_some]<;>rfl)|(simp only [← hji11];first|rfl|(simp [errW_none,errW_some]<;>rfl))|(simp [*,errW_none,errW_some]<;>rfl),wb_⟩
     ·rw [if_neg c13] at H
      exact absurd H (by simp)
    ·rw [if_neg c12] at H
     exact absurd H (by simp)
mutual
def spec_jDecimalOf.j0:Nat→ByteArray→Int→Bool→Option (Bool×ByteArray×Int×Bool)
 |0,_,_,_=>none
 |k + 1,x0,x4,x20=>if x20=true then (spec_jDecimalOf.j1 k x0 1) else (spec_jDecimalOf.j1 k x0 x4)
def spec_jDecimalOf.j1:Nat→ByteArray→Int→Option (Bool×ByteArray×Int×Bool)
 |0,_,_=>none
 |k + 1,x0,x4=>(spec_jRun.f k x0 x4).bind fun t120=>(if 0≤x4 then (if x4≤t120 then (if t120≤(x0.size:Int) then ((spec_jPlain.f k (x0.extract (x4:Int).toNat (t120:Int).toNat)).bind fun t121=>(if t121=true then (if t120 < (x0.size:Int) then (if 0≤t120 then (spec_jDecimalOf.j2 k x0 x4 t120 t120 ((bt x0 t120) == 46)) else (none)) else (spec_jDecimalOf.j2 k x0 x4 t120 t120 false)) else (some (false,(⟨#[]⟩:ByteArray),0,false)))) else (none)) else (none)) else (none))
def spec_jDecimalOf.j2:Nat→ByteArray→Int→Int→Int→Bool→Option (Bool×ByteArray×Int×Bool)
 |0,_,_,_,_,_=>none
 |k + 1,x0,x4,x5,x6,x41=>if x41=true then ((spec_jRun.f k x0 (wrap64 (x5 + 1))).bind fun t122=>(if t122=(wrap64 (x5 + 1)) then (some (false,(⟨#[]⟩:ByteArray),0,false)) else (spec_jDecimalOf.j3 k x0 x4 x5 t122))) else (spec_jDecimalOf.j3 k x0 x4 x5 x6)
def spec_jDecimalOf.j3:Nat→ByteArray→Int→Int→Int→Option (Bool×ByteArray×Int×Bool)
 |0,_,_,_,_=>none
 |k + 1,x0,x4,x5,x6=>if 0≤x6 then (if x6≤(x0.size:Int) then ((spec_jExponent.f k (x0.extract (x6:Int).toNat x0.size)).bind fun bt123=>(if bt123.2=true then (if 0≤x4 then (if x4≤x5 then (if x5≤(x0.size:Int) then (if x6 > x5 then (if 0≤(wrap64 (x5 + 1)) then (if (wrap64 (x5 + 1))≤x6 then (if (x0.extract (x4:Int).toNat (x5:Int).toNat).size + (x0.extract ((wrap64 (x5 + 1)):Int).toNat (x6:Int).toNat).size≤9223372036854775807 then ((spec_jLean.f k (x4 == 1) ((x0.extract (x4:Int).toNat (x5:Int).toNat) ++ (x0.extract ((wrap64 (x5 + 1)):Int).toNat (x6:Int).toNat)) (wrap64 (bt123.1 - (wrap64 ((wrap64 (x6 - x5)) - 1))))).bind fun bt125=>(some (bt125.1,bt125.2.1,bt125.2.2,true))) else (none)) else (none)) else (none)) else ((spec_jLean.f k (x4 == 1) (x0.extract (x4:Int).toNat (x5:Int).toNat) bt123.1).bind fun bt128=>(some (bt128.1,bt128.2.1,bt128.2.2,true)))) else (none)) else (none)) else (none)) else (some (false,(⟨#[]⟩:ByteArray),0,false)))) else (none)) else (none)
end
def spec_jDecimalOf.f (k:Nat) (a0:ByteArray):Option (Bool×ByteArray×Int×Bool):=if (a0.size:Int) > 40 then (some (false,(⟨#[]⟩:ByteArray),0,false)) else (if a0.toList=([]:List UInt8) then (spec_jDecimalOf.j0 k a0 0 false) else (if 0 < (a0.size:Int) then (spec_jDecimalOf.j0 k a0 0 ((bt a0 0) == 45)) else (none)))
theorem spec_jDecimalOf.calls (k:Nat) (a0:ByteArray) (r1:Bool) (r2:ByteArray) (r3:Int) (r4:Bool) (w:World) (h:spec_jDecimalOf.f k a0=some (r1,r2,r3,r4)):
  Calls Tryz.prog 48 #[.string a0] w fun e w'=>e= .returned (.tuple #[.agg #[.bool r1,.string r2,.int .i64 r3],.bool r4])∧Below w.heap.size w w':=by
 have hu100:=Tryz.underlying100
 have HB:=asd_ (Below.refl w.heap.size w)
 have H:(if (a0.size:Int) > 40 then (some (false,(⟨#[]⟩:ByteArray),0,false)) else (if a0.toList=([]:List UInt8) then (spec_jDecimalOf.j0 k a0 0 false) else (if 0 < (a0.size:Int) then (spec_jDecimalOf.j0 k a0 0 ((bt a0 0) == 45)) else (none))))=some (r1,r2,r3,r4):=h
 clear h
 by_cases c2:(a0.size:Int) > 40
 ·rw [if_pos c2] at H
  have c2b0:=decide_eq_true c2
  have c2b1:decide (40 < a0.size)=true:=decide_eq_true (by omega)
  clear c2
  simp only [Option.some.injEq,Prod.mk.injEq] at H
  obtain ⟨rfl,rfl,rfl,rfl⟩:=H
  go_enter Tryz.func48,Tryz.ntmps48
  go_wp2_with (first|((with_reducible refine gate_dst (N:=2) rfl ?_);refine box_event ?hg (N:=2) ?hd (cs:=#[.bool false,.string (⟨#[]⟩:ByteArray),.int .i64 0]) (t:=100) ?hr ?_;(case hd=>rfl);(case hg=>rfl);(case hr=>first|(go_simp;done)|(go_simp;rfl));intro gb119 hg w3 hbox hb;have n0_:=asd_ (below_step wb_ hb);have n1_:=asd_ (hbox);have n2_:=asd_ ((by rw [hg];exact (below_size wb_):w.heap.size≤gb119));have n3_:=asd_ ((by rw [hg];exact (below_size wb_):w.heap.size≤gb119));clear HB;have HB:=n0_;have BK119:=n1_;have GW119:=n2_;have GE119:=n3_;clear n0_ n1_ n2_ n3_;clear hb hbox hg;have hc4_0:=cb_ BK119.out))
  refine bodyPost_ret (results_ct rfl _ _ gb119 100 #[.bool false,.string (⟨#[]⟩:ByteArray),.int .i64 0] (0,0) _ rfl (by (with_reducible repeat (first|refine blk_drewN ?_ _|refine blk_drew ?_|refine blk_alloc ?_ _));refine blk_put (cs:=#[.bool false,.string (⟨#[]⟩:ByteArray),.int .i64 0]) ?_ 2 _ rfl;(with_reducible repeat (first|refine blk_drewN ?_ _|refine blk_drew ?_|refine blk_alloc ?_ _));refine blk_put (cs:=#[.bool false,.string (⟨#[]⟩:ByteArray),.int .i64 0]) ?_ 1 _ rfl;(with_reducible repeat (first|refine blk_drewN ?_ _|refine blk_drew ?_|refine blk_alloc ?_ _));refine blk_put (cs:=#[.bool false,.string (⟨#[]⟩:ByteArray),.int .i64 0]) ?_ 0 _ rfl;(with_reducible repeat (first|refine blk_drewN ?_ _|refine blk_drew ?_|refine blk_alloc ?_ _));exact BK119.out) Tryz.underlying100 rfl kr_) rfl ?_
  exact ⟨er_,wb_⟩
 ·rw [if_neg c2] at H
  have c2b0:=decide_eq_false c2
  have c2b1:decide (40 < a0.size)=false:=decide_eq_false (by omega)
  clear c2
  have HC5:=asd_ H
  clear H
  go_enter Tryz.func48,Tryz.ntmps48
  go_upto_region 4 with (first|((with_reducible refine gate_dst (N:=2) rfl ?_);refine box_event ?hg (N:=2) ?hd (cs:=#[.bool false,.string (⟨#[]⟩:ByteArray),.int .i64 0]) (t:=100) ?hr ?_;(case hd=>rfl);(case hg=>rfl);(case hr=>first|(go_simp;done)|(go_simp;rfl));intro gb119 hg w6 hbox hb;have n0_:=asd_ (below_step wb_ hb);have n1_:=asd_ (hbox);have n2_:=asd_ ((by rw [hg];exact (below_size wb_):w.heap.size≤gb119));have n3_:=asd_ ((by rw [hg];exact (below_size wb_):w.heap.size≤gb119));clear HB;have HB:=n0_;have BK119:=n1_;have GW119:=n2_;have GE119:=n3_;clear n0_ n1_ n2_ n3_;clear hb hbox hg))
  (try simp only [Act.put,List.setIfInBounds_toArray,List.set_cons_zero,List.set_cons_succ])
  go_cut [20] (fun v20 wc=>∃ (kq:Nat) (x20_4:Bool),v20= .bool x20_4∧Aside0 (spec_jDecimalOf.j0 kq a0 0 x20_4=some (r1,r2,r3,r4))∧Aside0 (kq≤k)∧Aside0 (wc.heap[gb119]? =some (.cells #[.bool false,.string (⟨#[]⟩:ByteArray),.int .i64 0] 100 (0,0)))∧Aside0 (Below w.heap.size w wc))
  case first=>
   have H:=HC5.out
   clear HC5
   by_cases c7:a0.toList=([]:List UInt8)
   ·rw [if_pos c7] at H
    have c7b0:=beq_iff_eq.mpr c7
    have c7b1:=bne_eq_false_iff_eq.mpr c7
    clear c7
    (first|rw [c7b0]|(simp only [i64_w,i32_w];rw [c7b0])|skip)
    have H':=asd_ H
    clear H
    go_wp2
    go_meet
    case rel=>exact ⟨_,(false),r1_,H',⟨by first|omega|exact Nat.le_refl _⟩,⟨bk_⟩,⟨wb_⟩⟩
   ·rw [if_neg c7] at H
    have c7b0:=beq_eq_false_iff_ne.mpr c7
    have c7b1:=bne_iff_ne.mpr c7
    (first|rw [c7b0]|(simp only [i64_w,i32_w];rw [c7b0])|skip)
    by_cases c8:0 < (a0.size:Int)
    ·rw [if_pos c8] at H
     have c8b0:=decide_eq_true c8
     have c8b1:decide (0 < a0.size)=true:=decide_eq_true (by omega)
     clear c8
     have H':=asd_ H
     clear H
     have p9:0≤(0:Int):=(by omega)
     have q9:0 < a0.size:=(by have:(0:Int) < (a0.size:Int):=of_decide_eq_true as_;omega)
     have hx9:∀ h:0 < a0.size,((a0[0]'h).toNat:Int)=bt a0 0:=bt_at a0 0
     clear p9
     have qi9:(0 < (a0.size:Int))=True:=eq_true (of_decide_eq_true as_)
     replace q9:=eq_true q9
     go_wp2
     go_meet
     case rel=>exact ⟨_,(((bt a0 0) == 45)),r1_,H',⟨by first|omega|exact Nat.le_refl _⟩,⟨bk_⟩,⟨wb_⟩⟩
    ·rw [if_neg c8] at H
     exact absurd H (by simp)
  case rest=>
   clear HC5
   obtain ⟨kq,x20_4,rfl,HA,HJ4,BK119,HB⟩:=hcut
   cases kq with
   |zero=>exact absurd HA.out (by simp [spec_jDecimalOf.j0])
   |succ kj4=>
    have H:=HA.out
    clear HA
    simp only [spec_jDecimalOf.j0] at H
    have HC10:=asd_ H
    clear H
    go_upto_if 20 with (fail)
    go_cut [4] (fun v4 wc=>∃ (kq:Nat) (x4_9:Int),v4= .int .i64 x4_9∧Aside0 (spec_jDecimalOf.j1 kq a0 x4_9=some (r1,r2,r3,r4))∧Aside0 (kq≤kj4)∧Aside0 (wc.heap[gb119]? =some (.cells #[.bool false,.string (⟨#[]⟩:ByteArray),.int .i64 0] 100 (0,0)))∧Aside0 (Below w.heap.size w wc))
    case first=>
     have H:=HC10.out
     clear HC10
     by_cases c11:x20_4=true
     ·subst c11
      have H1:(spec_jDecimalOf.j1 kj4 a0 1)=some (r1,r2,r3,r4):=by rw [if_pos rfl] at H;exact H
      clear H
      have H:=H1
      clear H1
      have H':=asd_ H
      clear H
      go_wp2
      go_meet
      case rel=>exact ⟨_,(1),r1_,H',⟨by have:=HJ4.out;first|omega|exact Nat.le_refl _⟩,⟨bk_⟩,⟨wb_⟩⟩
     ·replace c11:=Bool.eq_false_iff.mpr c11
      subst c11
      have H1:(spec_jDecimalOf.j1 kj4 a0 0)=some (r1,r2,r3,r4):=by rw [if_neg (show ¬ (false=true) by decide)] at H;exact H
      clear H
      have H:=H1
      clear H1
      have H':=asd_ H
      clear H
      go_wp2
      go_meet
      case rel=>exact ⟨_,(0),r1_,H',⟨by have:=HJ4.out;first|omega|exact Nat.le_refl _⟩,⟨bk_⟩,⟨wb_⟩⟩
    case rest=>
     clear HC10
     obtain ⟨kq,x4_9,rfl,HA,HJ9,BK119,HB⟩:=hcut
     cases kq with
     |zero=>exact absurd HA.out (by simp [spec_jDecimalOf.j1])
     |succ kj9=>
      have H:=HA.out
      clear HA
      simp only [spec_jDecimalOf.j1] at H
      replace H:=Option.bind_eq_some_iff.mp H
      obtain ⟨t120,A120,H⟩:=H
      replace H:(if 0≤x4_9 then (if x4_9≤t120 then (if t120≤(a0.size:Int) then ((spec_jPlain.f kj9 (a0.extract (x4_9:Int).toNat (t120:Int).toNat)).bind fun t121=>(if t121=true then (if t120 < (a0.size:Int) then (if 0≤t120 then (spec_jDecimalOf.j2 kj9 a0 x4_9 t120 t120 ((bt a0 t120) == 46)) else (none)) else (spec_jDecimalOf.j2 kj9 a0 x4_9 t120 t120 false)) else (some (false,(⟨#[]⟩:ByteArray),0,false)))) else (none)) else (none)) else (none))=some (r1,r2,r3,r4):=H
      have A12:=asd_ A120
      clear A120
      by_cases c13:0≤x4_9
      ·rw [if_pos c13] at H
       have c13b0:=eq_true c13
       have c13b1:=decide_eq_true c13
       clear c13
       by_cases c14:x4_9≤t120
       ·rw [if_pos c14] at H
        have c14b0:=eq_true c14
        have c14b1:=decide_eq_true c14
        clear c14
        by_cases c15:t120≤(a0.size:Int)
        ·rw [if_pos c15] at H
         have c15b0:=eq_true c15
         have c15b1:=decide_eq_true c15
         clear c15
         replace H:=Option.bind_eq_some_iff.mp H
         obtain ⟨t121,A160,H⟩:=H
         replace H:(if t121=true then (if t120 < (a0.size:Int) then (if 0≤t120 then (spec_jDecimalOf.j2 kj9 a0 x4_9 t120 t120 ((bt a0 t120) == 46)) else (none)) else (spec_jDecimalOf.j2 kj9 a0 x4_9 t120 t120 false)) else (some (false,(⟨#[]⟩:ByteArray),0,false)))=some (r1,r2,r3,r4):=H
         have A16:=asd_ A160
         clear A160
         by_cases c17:t121=true
         ·subst c17
          have H1:(if t120 < (a0.size:Int) then (if 0≤t120 then (spec_jDecimalOf.j2 kj9 a0 x4_9 t120 t120 ((bt a0 t120) == 46)) else (none)) else (spec_jDecimalOf.j2 kj9 a0 x4_9 t120 t120 false))=some (r1,r2,r3,r4):=by rw [if_pos rfl] at H;exact H
          clear H
          have H:=H1
          clear H1
          have HC18:=asd_ H
          clear H
          go_upto_region 10 with (first|((with_reducible refine gate_callee (f:=86) rfl ?_);refine goesL_ (some 23) rfl rfl Tryz.func86 kr_ rfl #[.string a0,.int .i64 x4_9] rfl ap_ ?_;(with_reducible refine (spec_jRun.calls kj9 a0 x4_9 t120 _ A12.out).mono ?_);rintro e w' ⟨rfl,⟨nd,rfl⟩⟩;refine ⟨_,rfl,?_⟩)|((with_reducible refine gate_callee (f:=45) rfl ?_);refine goesL_ (some 28) rfl rfl Tryz.func45 kr_ rfl #[.string (a0.extract (x4_9:Int).toNat (t120:Int).toNat)] rfl ap_ ?_;(with_reducible refine (spec_jPlain.calls kj9 (a0.extract (x4_9:Int).toNat (t120:Int).toNat) true _ A16.out).mono ?_);rintro e w' ⟨rfl,⟨nd,rfl⟩⟩;refine ⟨_,rfl,?_⟩))
          (try simp only [Act.put,List.setIfInBounds_toArray,List.set_cons_zero,List.set_cons_succ])
          go_cut [41] (fun v41 wc=>∃ (kq:Nat) (x41_17:Bool),v41= .bool x41_17∧Aside0 (spec_jDecimalOf.j2 kq a0 x4_9 t120 t120 x41_17=some (r1,r2,r3,r4))∧Aside0 (kq≤kj9)∧Aside0 (wc.heap[gb119]? =some (.cells #[.bool false,.string (⟨#[]⟩:ByteArray),.int .i64 0] 100 (0,0)))∧Aside0 (Below w.heap.size w wc))
          case first=>
           have H:=HC18.out
           clear HC18
           by_cases c19:t120 < (a0.size:Int)
           ·rw [if_pos c19] at H
            have c19b0:=decide_eq_true c19
            clear c19
            (first|rw [c19b0]|(simp only [i64_w,i32_w];rw [c19b0])|skip)
            by_cases c20:0≤t120
            ·rw [if_pos c20] at H
             have c20b0:=decide_eq_true c20
             clear c20
             have H':=asd_ H
             clear H
             have p21:0≤(t120:Int):=of_decide_eq_true as_
             have q21:t120 < (a0.size:Int):=of_decide_eq_true as_
             have hx21:=bt_at a0 t120
             replace p21:=eq_true p21
             replace q21:=eq_true q21
             go_wp2
             go_meet
             case rel=>exact ⟨_,(((bt a0 t120) == 46)),r1_,H',⟨by have:=HJ4.out;have:=HJ9.out;first|omega|exact Nat.le_refl _⟩,⟨bk_⟩,⟨wb_⟩⟩
            ·rw [if_neg c20] at H
             exact absurd H (by simp)
           ·rw [if_neg c19] at H
            have c19b0:=decide_eq_false c19
            clear c19
            (first|rw [c19b0]|(simp only [i64_w,i32_w];rw [c19b0])|skip)
            have H':=asd_ H
            clear H
            go_wp2
            go_meet
            case rel=>exact ⟨_,(false),r1_,H',⟨by have:=HJ4.out;have:=HJ9.out;first|omega|exact Nat.le_refl _⟩,⟨bk_⟩,⟨wb_⟩⟩
          case rest=>
           clear HC18
           obtain ⟨kq,x41_17,rfl,HA,HJ17,BK119,HB⟩:=hcut
           cases kq with
           |zero=>exact absurd HA.out (by simp [spec_jDecimalOf.j2])
           |succ kj17=>
            have H:=HA.out
            clear HA
            simp only [spec_jDecimalOf.j2] at H
            have HC22:=asd_ H
            clear H
            go_upto_if 41 with (fail)
            go_cut [6] (fun v6 wc=>∃ (kq:Nat) (x6_21:Int) (x120000_21:Bool) (x120001_21:ByteArray) (x120002_21:Int),v6= .int .i64 x6_21∧Aside0 (spec_jDecimalOf.j3 kq a0 x4_9 t120 x6_21=some (r1,r2,r3,r4))∧Aside0 (kq≤kj17)∧Aside0 (wc.heap[gb119]? =some (.cells #[.bool x120000_21,.string x120001_21,.int .i64 x120002_21] 100 (0,0)))∧Aside0 (Below w.heap.size w wc))
            case first=>
             have H:=HC22.out
             clear HC22
             by_cases c23:x41_17=true
             ·subst c23
              have H1:((spec_jRun.f kj17 a0 (wrap64 (t120 + 1))).bind fun t122=>(if t122=(wrap64 (t120 + 1)) then (some (false,(⟨#[]⟩:ByteArray),0,false)) else (spec_jDecimalOf.j3 kj17 a0 x4_9 t120 t122)))=some (r1,r2,r3,r4):=by rw [if_pos rfl] at H;exact H
              clear H
              have H:=H1
              clear H1
              replace H:=Option.bind_eq_some_iff.mp H
              obtain ⟨t122,A240,H⟩:=H
              replace H:(if t122=(wrap64 (t120 + 1)) then (some (false,(⟨#[]⟩:ByteArray),0,false)) else (spec_jDecimalOf.j3 kj17 a0 x4_9 t120 t122))=some (r1,r2,r3,r4):=H
              have A24:=asd_ A240
              clear A240
              by_cases c25:t122=(wrap64 (t120 + 1))
              ·rw [if_pos c25] at H
               have c25b0:=beq_iff_eq.mpr c25
               have c25b1:=bne_eq_false_iff_eq.mpr c25
               clear c25
               (first|rw [c25b0]|(simp only [i64_w,i32_w];rw [c25b0])|skip)
               simp only [Option.some.injEq,Prod.mk.injEq] at H
               obtain ⟨rfl,rfl,rfl,rfl⟩:=H
               go_wp2_with (first|((with_reducible refine gate_callee (f:=86) rfl ?_);refine goesL_ (some 45) rfl rfl Tryz.func86 kr_ rfl #[.string a0,.int .i64 (wrap64 (t120 + 1))] rfl ap_ ?_;(with_reducible refine (spec_jRun.calls kj17 a0 (wrap64 (t120 + 1)) t122 _ A24.out).mono ?_);rintro e w' ⟨rfl,⟨nd,rfl⟩⟩;refine ⟨_,rfl,?_⟩;(try (rw [drewN_self wc];generalize hq_:World.drewN wc _=wc;have n0_:Aside0 (wc.heap[gb119]? =some (.cells #[.bool false,.string (⟨#[]⟩:ByteArray),.int .i64 0] 100 (0,0))):=⟨by rw [← hq_];exact bk_⟩;have n1_:Aside0 (Below w.heap.size w wc):=⟨by rw [← hq_];exact wb_⟩;clear BK119 HB hq_;have BK119:=n0_;have HB:=n1_;clear n0_ n1_));have hc26_0:=cb_ BK119.out))
               refine bodyPost_ret (results_ct rfl _ _ gb119 100 #[.bool false,.string (⟨#[]⟩:ByteArray),.int .i64 0] (0,0) _ rfl (by (with_reducible repeat (first|refine blk_drewN ?_ _|refine blk_drew ?_|refine blk_alloc ?_ _));refine blk_put (cs:=#[.bool false,.string (⟨#[]⟩:ByteArray),.int .i64 0]) ?_ 2 _ rfl;(with_reducible repeat (first|refine blk_drewN ?_ _|refine blk_drew ?_|refine blk_alloc ?_ _));refine blk_put (cs:=#[.bool false,.string (⟨#[]⟩:ByteArray),.int .i64 0]) ?_ 1 _ rfl;(with_reducible repeat (first|refine blk_drewN ?_ _|refine blk_drew ?_|refine blk_alloc ?_ _));refine blk_put (cs:=#[.bool false,.string (⟨#[]⟩:ByteArray),.int .i64 0]) ?_ 0 _ rfl;(with_reducible repeat (first|refine blk_drewN ?_ _|refine blk_drew ?_|refine blk_alloc ?_ _));exact BK119.out) Tryz.underlying100 rfl kr_) rfl ?_
               exact ⟨er_,wb_⟩
              ·rw [if_neg c25] at H
               have c25b0:=beq_eq_false_iff_ne.mpr c25
               have c25b1:=bne_iff_ne.mpr c25
               (first|rw [c25b0]|(simp only [i64_w,i32_w];rw [c25b0])|skip)
               have H':=asd_ H
               clear H
               go_wp2_with (first|((with_reducible refine gate_callee (f:=86) rfl ?_);refine goesL_ (some 45) rfl rfl Tryz.func86 kr_ rfl #[.string a0,.int .i64 (wrap64 (t120 + 1))] rfl ap_ ?_;(with_reducible refine (spec_jRun.calls kj17 a0 (wrap64 (t120 + 1)) t122 _ A24.out).mono ?_);rintro e w' ⟨rfl,⟨nd,rfl⟩⟩;refine ⟨_,rfl,?_⟩))
               go_meet
               case rel=>exact ⟨_,(t122),(false),((⟨#[]⟩:ByteArray)),(0),r1_,H',⟨by have:=HJ4.out;have:=HJ9.out;have:=HJ17.out;first|omega|exact Nat.le_refl _⟩,⟨bk_⟩,⟨wb_⟩⟩
             ·replace c23:=Bool.eq_false_iff.mpr c23
              subst c23
              have H1:(spec_jDecimalOf.j3 kj17 a0 x4_9 t120 t120)=some (r1,r2,r3,r4):=by rw [if_neg (show ¬ (false=true) by decide)] at H;exact H
              clear H
              have H:=H1
              clear H1
              have H':=asd_ H
              clear H
              go_wp2
              go_meet
              case rel=>exact ⟨_,(t120),(false),((⟨#[]⟩:ByteArray)),(0),r1_,H',⟨by have:=HJ4.out;have:=HJ9.out;have:=HJ17.out;first|omega|exact Nat.le_refl _⟩,⟨bk_⟩,⟨wb_⟩⟩
            case rest=>
             clear HC22
             obtain ⟨kq,x6_21,x120000_21,x120001_21,x120002_21,rfl,HA,HJ21,BK119,HB⟩:=hcut
             cases kq with
             |zero=>exact absurd HA.out (by simp [spec_jDecimalOf.j3])
             |succ kj21=>
              have H:=HA.out
              clear HA
              simp only [spec_jDecimalOf.j3] at H
              by_cases c27:0≤x6_21
              ·rw [if_pos c27] at H
               have c27b0:=eq_true c27
               have c27b1:=decide_eq_true c27
               clear c27
               by_cases c28:x6_21≤(a0.size:Int)
               ·rw [if_pos c28] at H
                have c28b0:=eq_true c28
                have c28b1:=decide_eq_true c28
                clear c28
                replace H:=Option.bind_eq_some_iff.mp H
                obtain ⟨⟨t123,t124⟩,A290,H⟩:=H
                replace H:(if t124=true then (if 0≤x4_9 then (if x4_9≤t120 then (if t120≤(a0.size:Int) then (if x6_21 > t120 then (if 0≤(wrap64 (t120 + 1)) then (if (wrap64 (t120 + 1))≤x6_21 then (if (a0.extract (x4_9:Int).toNat (t120:Int).toNat).size + (a0.extract ((wrap64 (t120 + 1)):Int).toNat (x6_21:Int).toNat).size≤9223372036854775807 then ((spec_jLean.f kj21 (x4_9 == 1) ((a0.extract (x4_9:Int).toNat (t120:Int).toNat) ++ (a0.extract ((wrap64 (t120 + 1)):Int).toNat (x6_21:Int).toNat)) (wrap64 (t123 - (wrap64 ((wrap64 (x6_21 - t120)) - 1))))).bind fun bt125=>(some (bt125.1,bt125.2.1,bt125.2.2,true))) else (none)) else (none)) else (none)) else ((spec_jLean.f kj21 (x4_9 == 1) (a0.extract (x4_9:Int).toNat (t120:Int).toNat) t123).bind fun bt128=>(some (bt128.1,bt128.2.1,bt128.2.2,true)))) else (none)) else (none)) else (none)) else (some (false,(⟨#[]⟩:ByteArray),0,false)))=some (r1,r2,r3,r4):=H
                have A29:=asd_ A290
                clear A290
                by_cases c30:t124=true
                ·subst c30
                 have H1:(if 0≤x4_9 then (if x4_9≤t120 then (if t120≤(a0.size:Int) then (if x6_21 > t120 then (if 0≤(wrap64 (t120 + 1)) then (if (wrap64 (t120 + 1))≤x6_21 then (if (a0.extract (x4_9:Int).toNat (t120:Int).toNat).size + (a0.extract ((wrap64 (t120 + 1)):Int).toNat (x6_21:Int).toNat).size≤9223372036854775807 then ((spec_jLean.f kj21 (x4_9 == 1) ((a0.extract (x4_9:Int).toNat (t120:Int).toNat) ++ (a0.extract ((wrap64 (t120 + 1)):Int).toNat (x6_21:Int).toNat)) (wrap64 (t123 - (wrap64 ((wrap64 (x6_21 - t120)) - 1))))).bind fun bt125=>(some (bt125.1,bt125.2.1,bt125.2.2,true))) else (none)) else (none)) else (none)) else ((spec_jLean.f kj21 (x4_9 == 1) (a0.extract (x4_9:Int).toNat (t120:Int).toNat) t123).bind fun bt128=>(some (bt128.1,bt128.2.1,bt128.2.2,true)))) else (none)) else (none)) else (none))=some (r1,r2,r3,r4):=by rw [if_pos rfl] at H;exact H
                 clear H
                 have H:=H1
                 clear H1
                 by_cases c31:0≤x4_9
                 ·rw [if_pos c31] at H
                  have c31b0:=eq_true c31
                  have c31b1:=decide_eq_true c31
                  clear c31
                  by_cases c32:x4_9≤t120
                  ·rw [if_pos c32] at H
                   have c32b0:=eq_true c32
                   have c32b1:=decide_eq_true c32
                   clear c32
                   by_cases c33:t120≤(a0.size:Int)
                   ·rw [if_pos c33] at H
                    have c33b0:=eq_true c33
                    have c33b1:=decide_eq_true c33
                    clear c33
                    by_cases c34:x6_21 > t120
                    ·rw [if_pos c34] at H
                     have c34b0:=decide_eq_true c34
                     clear c34
                     obtain ⟨ji35,hji35⟩:∃ j_:Int,(wrap64 (t120 + 1))=j_:=⟨_,rfl⟩
                     replace H:(if 0≤(ji35) then (if (ji35)≤x6_21 then (if (a0.extract (x4_9:Int).toNat (t120:Int).toNat).size + (a0.extract ((ji35):Int).toNat (x6_21:Int).toNat).size≤9223372036854775807 then ((spec_jLean.f kj21 (x4_9 == 1) ((a0.extract (x4_9:Int).toNat (t120:Int).toNat) ++ (a0.extract ((ji35):Int).toNat (x6_21:Int).toNat)) (wrap64 (t123 - (wrap64 ((wrap64 (x6_21 - t120)) - 1))))).bind fun bt125=>(some (bt125.1,bt125.2.1,bt125.2.2,true))) else (none)) else (none)) else (none))=some (r1,r2,r3,r4):=by first|(rw [hji35] at H;exact H)|(simp only [hji35] at H ⊢;exact H)
                     (try rw [hji35] at A29)
                     have hji35w:(IntKind.i64.wrap (t120 + 1))=ji35:=(i64_w _).trans hji35
                     by_cases c36:0≤(ji35)
                     ·rw [if_pos c36] at H
                      have c36b0:=eq_true c36
                      have c36b1:=decide_eq_true c36
                      clear c36
                      by_cases c37:(ji35)≤x6_21
                      ·rw [if_pos c37] at H
                       have c37b0:=eq_true c37
                       have c37b1:=decide_eq_true c37
                       clear c37
                       have c38b0:=eq_true (of_decide_eq_true as_:x6_21≤(a0.size:Int))
                       by_cases c39:(a0.extract (x4_9:Int).toNat (t120:Int).toNat).size + (a0.extract ((ji35):Int).toNat (x6_21:Int).toNat).size≤9223372036854775807
                       ·rw [if_pos c39] at H
                        have c39b0:=eq_true c39
                        have c39b1:=decide_eq_true c39
                        try have c39b2:(9223372036854775807 < (a0.extract (x4_9:Int).toNat (t120:Int).toNat).size + (a0.extract ((ji35):Int).toNat (x6_21:Int).toNat).size)=False:=eq_false (Nat.not_lt.2 c39)
                        replace H:=Option.bind_eq_some_iff.mp H
                        obtain ⟨⟨t125,t126,t127⟩,A400,H⟩:=H
                        replace H:(some (t125,t126,t127,true))=some (r1,r2,r3,r4):=H
                        have A40:=asd_ A400
                        clear A400
                        simp only [Option.some.injEq,Prod.mk.injEq] at H
                        obtain ⟨rfl,rfl,rfl,rfl⟩:=H
                        go_wp2_with (first|((with_reducible refine gate_callee (f:=87) rfl ?_);refine goesL_ (some 55) rfl rfl Tryz.func87 kr_ rfl #[.string (a0.extract (x6_21:Int).toNat a0.size)] rfl ap_ ?_;(with_reducible refine (spec_jExponent.calls kj21 (a0.extract (x6_21:Int).toNat a0.size) t123 true _ A29.out).mono ?_);rintro e w' ⟨rfl,⟨nd,rfl⟩⟩;refine ⟨_,rfl,?_⟩;(try (rw [drewN_self wc];generalize hq_:World.drewN wc _=wc;have n0_:Aside0 (wc.heap[gb119]? =some (.cells #[.bool x120000_21,.string x120001_21,.int .i64 x120002_21] 100 (0,0))):=⟨by rw [← hq_];exact bk_⟩;have n1_:Aside0 (Below w.heap.size w wc):=⟨by rw [← hq_];exact wb_⟩;clear BK119 HB hq_;have BK119:=n0_;have HB:=n1_;clear n0_ n1_)))|((with_reducible refine gate_callee (f:=88) rfl ?_);refine goesL_ (some 86) rfl rfl Tryz.func88 kr_ rfl #[.agg #[.bool (x4_9 == 1),.string ((a0.extract (x4_9:Int).toNat (t120:Int).toNat) ++ (a0.extract ((ji35):Int).toNat (x6_21:Int).toNat)),.int .i64 (wrap64 (t123 - (wrap64 ((wrap64 (x6_21 - t120)) - 1))))]] rfl (by (try simp only [List.map_toArray,List.map_cons,List.map_nil]);first|done|(simp only [hji35];rfl)|rfl|(simp only [List.length_drop,List.length_take];rfl)) ?_;(with_reducible refine (spec_jLean.calls kj21 (x4_9 == 1) ((a0.extract (x4_9:Int).toNat (t120:Int).toNat) ++ (a0.extract ((ji35):Int).toNat (x6_21:Int).toNat)) (wrap64 (t123 - (wrap64 ((wrap64 (x6_21 - t120)) - 1)))) t125 t126 t127 _ A40.out).mono ?_);rintro e w41 ⟨rfl,hb⟩;refine ⟨_,rfl,?_⟩;have n0_:=asd_ (blk_below (g:=gb119) (o:= .cells #[.bool x120000_21,.string x120001_21,.int .i64 x120002_21] 100 (0,0)) bk_ hb);have n1_:=asd_ (below_step wb_ hb);clear BK119;clear HB;have BK119:=n0_;have HB:=n1_;clear n0_ n1_;(try clear hb);(try clear hb2);(try clear hk);(try clear hi);have hc42_0:=cb_ BK119.out))
                        refine bodyPost_ret (results_ct rfl _ _ gb119 100 #[.bool t125,.string t126,.int .i64 t127] (0,0) _ rfl (by (with_reducible repeat (first|refine blk_drewN ?_ _|refine blk_drew ?_|refine blk_alloc ?_ _));refine blk_put (cs:=#[.bool t125,.string t126,.int .i64 x120002_21]) ?_ 2 _ rfl;(with_reducible repeat (first|refine blk_drewN ?_ _|refine blk_drew ?_|refine blk_alloc ?_ _));refine blk_put (cs:=#[.bool t125,.string x120001_21,.int .i64 x120002_21]) ?_ 1 _ rfl;(with_reducible repeat (first|refine blk_drewN ?_ _|refine blk_drew ?_|refine blk_alloc ?_ _));refine blk_put (cs:=#[.bool x120000_21,.string x120001_21,.int .i64 x120002_21]) ?_ 0 _ rfl;(with_reducible repeat (first|refine blk_drewN ?_ _|refine blk_drew ?_|refine blk_alloc ?_ _));exact BK119.out) Tryz.underlying100 rfl kr_) rfl ?_
                        exact ⟨by first|rfl|(simp [errW_none,errW_some]<;>rfl)|(simp only [← hji35];first|rfl|(simp [errW_none,errW_some]<;>rfl))|(simp [*,errW_none,errW_some]<;>rfl),wb_⟩
                       ·rw [if_neg c39] at H
                        exact absurd H (by simp)
                      ·rw [if_neg c37] at H
                       exact absurd H (by simp)
                     ·rw [if_neg c36] at H
                      exact absurd H (by simp)
                    ·rw [if_neg c34] at H
                     have c34b0:=decide_eq_false c34
                     clear c34
                     replace H:=Option.bind_eq_some_iff.mp H
                     obtain ⟨⟨t128,t129,t130⟩,A430,H⟩:=H
                     replace H:(some (t128,t129,t130,true))=some (r1,r2,r3,r4):=H
                     have A43:=asd_ A430
                     clear A430
                     simp only [Option.some.injEq,Prod.mk.injEq] at H
                     obtain ⟨rfl,rfl,rfl,rfl⟩:=H
                     go_wp2_with (first|((with_reducible refine gate_callee (f:=87) rfl ?_);refine goesL_ (some 55) rfl rfl Tryz.func87 kr_ rfl #[.string (a0.extract (x6_21:Int).toNat a0.size)] rfl ap_ ?_;(with_reducible refine (spec_jExponent.calls kj21 (a0.extract (x6_21:Int).toNat a0.size) t123 true _ A29.out).mono ?_);rintro e w' ⟨rfl,⟨nd,rfl⟩⟩;refine ⟨_,rfl,?_⟩;(try (rw [drewN_self wc];generalize hq_:World.drewN wc _=wc;have n0_:Aside0 (wc.heap[gb119]? =some (.cells #[.bool x120000_21,.string x120001_21,.int .i64 x120002_21] 100 (0,0))):=⟨by rw [← hq_];exact bk_⟩;have n1_:Aside0 (Below w.heap.size w wc):=⟨by rw [← hq_];exact wb_⟩;clear BK119 HB hq_;have BK119:=n0_;have HB:=n1_;clear n0_ n1_)))|((with_reducible refine gate_callee (f:=88) rfl ?_);refine goesL_ (some 86) rfl rfl Tryz.func88 kr_ rfl #[.agg #[.bool (x4_9 == 1),.string (a0.extract (x4_9:Int).toNat (t120:Int).toNat),.int .i64 t123]] rfl ap_ ?_;(with_reducible refine (spec_jLean.calls kj21 (x4_9 == 1) (a0.extract (x4_9:Int).toNat (t120:Int).toNat) t123 t128 t129 t130 _ A43.out).mono ?_);rintro e w44 ⟨rfl,hb⟩;refine ⟨_,rfl,?_⟩;have n0_:=asd_ (blk_below (g:=gb119) (o:= .cells #[.bool x120000_21,.string x120001_21,.int .i64 x120002_21] 100 (0,0)) bk_ hb);have n1_:=asd_ (below_step wb_ hb);clear BK119;clear HB;have BK119:=n0_;have HB:=n1_;clear n0_ n1_;(try clear hb);(try clear hb2);(try clear hk);(try clear hi);have hc45_0:=cb_ BK119.out))
                     refine bodyPost_ret (results_ct rfl _ _ gb119 100 #[.bool t128,.string t129,.int .i64 t130] (0,0) _ rfl (by (with_reducible repeat (first|refine blk_drewN ?_ _|refine blk_drew ?_|refine blk_alloc ?_ _));refine blk_put (cs:=#[.bool t128,.string t129,.int .i64 x120002_21]) ?_ 2 _ rfl;(with_reducible repeat (first|refine blk_drewN ?_ _|refine blk_drew ?_|refine blk_alloc ?_ _));refine blk_put (cs:=#[.bool t128,.string x120001_21,.int .i64 x120002_21]) ?_ 1 _ rfl;(with_reducible repeat (first|refine blk_drewN ?_ _|refine blk_drew ?_|refine blk_alloc ?_ _));refine blk_put (cs:=#[.bool x120000_21,.string x120001_21,.int .i64 x120002_21]) ?_ 0 _ rfl;(with_reducible repeat (first|refine blk_drewN ?_ _|refine blk_drew ?_|refine blk_alloc ?_ _));exact BK119.out) Tryz.underlying100 rfl kr_) rfl ?_
                     exact ⟨er_,wb_⟩
                   ·rw [if_neg c33] at H
                    exact absurd H (by simp)
                  ·rw [if_neg c32] at H
                   exact absurd H (by simp)
                 ·rw [if_neg c31] at H
                  exact absurd H (by simp)
                ·replace c30:=Bool.eq_false_iff.mpr c30
                 subst c30
                 have H1:(some (false,(⟨#[]⟩:ByteArray),0,false))=some (r1,r2,r3,r4):=by rw [if_neg (show ¬ (false=true) by decide)] at H;exact H
                 clear H
                 have H:=H1
                 clear H1
                 simp only [Option.some.injEq,Prod.mk.injEq] at H
                 obtain ⟨rfl,rfl,rfl,rfl⟩:=H
                 go_wp2_with (first|((with_reducible refine gate_callee (f:=87) rfl ?_);refine goesL_ (some 55) rfl rfl Tryz.func87 kr_ rfl #[.string (a0.extract (x6_21:Int).toNat a0.size)] rfl ap_ ?_;(with_reducible refine (spec_jExponent.calls kj21 (a0.extract (x6_21:Int).toNat a0.size) t123 false _ A29.out).mono ?_);rintro e w' ⟨rfl,⟨nd,rfl⟩⟩;refine ⟨_,rfl,?_⟩;(try (rw [drewN_self wc];generalize hq_:World.drewN wc _=wc;have n0_:Aside0 (wc.heap[gb119]? =some (.cells #[.bool x120000_21,.string x120001_21,.int .i64 x120002_21] 100 (0,0))):=⟨by rw [← hq_];exact bk_⟩;have n1_:Aside0 (Below w.heap.size w wc):=⟨by rw [← hq_];exact wb_⟩;clear BK119 HB hq_;have BK119:=n0_;have HB:=n1_;clear n0_ n1_));have hc46_0:=cb_ BK119.out))
                 refine bodyPost_ret (results_ct rfl _ _ gb119 100 #[.bool false,.string (⟨#[]⟩:ByteArray),.int .i64 0] (0,0) _ rfl (by (with_reducible repeat (first|refine blk_drewN ?_ _|refine blk_drew ?_|refine blk_alloc ?_ _));refine blk_put (cs:=#[.bool false,.string (⟨#[]⟩:ByteArray),.int .i64 x120002_21]) ?_ 2 _ rfl;(with_reducible repeat (first|refine blk_drewN ?_ _|refine blk_drew ?_|refine blk_alloc ?_ _));refine blk_put (cs:=#[.bool false,.string x120001_21,.int .i64 x120002_21]) ?_ 1 _ rfl;(with_reducible repeat (first|refine blk_drewN ?_ _|refine blk_drew ?_|refine blk_alloc ?_ _));refine blk_put (cs:=#[.bool x120000_21,.string x120001_21,.int .i64 x120002_21]) ?_ 0 _ rfl;(with_reducible repeat (first|refine blk_drewN ?_ _|refine blk_drew ?_|refine blk_alloc ?_ _));exact BK119.out) Tryz.underlying100 rfl kr_) rfl ?_
                 exact ⟨er_,wb_⟩
               ·rw [if_neg c28] at H
                exact absurd H (by simp)
              ·rw [if_neg c27] at H
               exact absurd H (by simp)
         ·replace c17:=Bool.eq_false_iff.mpr c17
          subst c17
          have H1:(some (false,(⟨#[]⟩:ByteArray),0,false))=some (r1,r2,r3,r4):=by rw [if_neg (show ¬ (false=true) by decide)] at H;exact H
          clear H
          have H:=H1
          clear H1
          simp only [Option.some.injEq,Prod.mk.injEq] at H
          obtain ⟨rfl,rfl,rfl,rfl⟩:=H
          go_wp2_with (first|((with_reducible refine gate_callee (f:=86) rfl ?_);refine goesL_ (some 23) rfl rfl Tryz.func86 kr_ rfl #[.string a0,.int .i64 x4_9] rfl ap_ ?_;(with_reducible refine (spec_jRun.calls kj9 a0 x4_9 t120 _ A12.out).mono ?_);rintro e w' ⟨rfl,⟨nd,rfl⟩⟩;refine ⟨_,rfl,?_⟩;(try (rw [drewN_self wc];generalize hq_:World.drewN wc _=wc;have n0_:Aside0 (wc.heap[gb119]? =some (.cells #[.bool false,.string (⟨#[]⟩:ByteArray),.int .i64 0] 100 (0,0))):=⟨by rw [← hq_];exact bk_⟩;have n1_:Aside0 (Below w.heap.size w wc):=⟨by rw [← hq_];exact wb_⟩;clear BK119 HB hq_;have BK119:=n0_;have HB:=n1_;clear n0_ n1_)))|((with_reducible refine gate_callee (f:=45) rfl ?_);refine goesL_ (some 28) rfl rfl Tryz.func45 kr_ rfl #[.string (a0.extract (x4_9:Int).toNat (t120:Int).toNat)] rfl ap_ ?_;(with_reducible refine (spec_jPlain.calls kj9 (a0.extract (x4_9:Int).toNat (t120:Int).toNat) false _ A16.out).mono ?_);rintro e w' ⟨rfl,⟨nd,rfl⟩⟩;refine ⟨_,rfl,?_⟩;(try (rw [drewN_self wc];generalize hq_:World.drewN wc _=wc;have n0_:Aside0 (wc.heap[gb119]? =some (.cells #[.bool false,.string (⟨#[]⟩:ByteArray),.int .i64 0] 100 (0,0))):=⟨by rw [← hq_];exact bk_⟩;have n1_:Aside0 (Below w.heap.size w wc):=⟨by rw [← hq_];exact wb_⟩;clear BK119 HB hq_;have BK119:=n0_;have HB:=n1_;clear n0_ n1_));have hc47_0:=cb_ BK119.out))
          refine bodyPost_ret (results_ct rfl _ _ gb119 100 #[.bool false,.string (⟨#[]⟩:ByteArray),.int .i64 0] (0,0) _ rfl (by (with_reducible repeat (first|refine blk_drewN ?_ _|refine blk_drew ?_|refine blk_alloc ?_ _));refine blk_put (cs:=#[.bool false,.string (⟨#[]⟩:ByteArray),.int .i64 0]) ?_ 2 _ rfl;(with_reducible repeat (first|refine blk_drewN ?_ _|refine blk_drew ?_|refine blk_alloc ?_ _));refine blk_put (cs:=#[.bool false,.string (⟨#[]⟩:ByteArray),.int .i64 0]) ?_ 1 _ rfl;(with_reducible repeat (first|refine blk_drewN ?_ _|refine blk_drew ?_|refine blk_alloc ?_ _));refine blk_put (cs:=#[.bool false,.string (⟨#[]⟩:ByteArray),.int .i64 0]) ?_ 0 _ rfl;(with_reducible repeat (first|refine blk_drewN ?_ _|refine blk_drew ?_|refine blk_alloc ?_ _));exact BK119.out) Tryz.underlying100 rfl kr_) rfl ?_
          exact ⟨er_,wb_⟩
        ·rw [if_neg c15] at H
         exact absurd H (by simp)
       ·rw [if_neg c14] at H
        exact absurd H (by simp)
      ·rw [if_neg c13] at H
       exact absurd H (by simp)
def spec_JIsDecimal.f (k:Nat) (a0:ByteArray):Option (Bool):=(spec_jDecimalOf.f k a0).bind fun bt131=>(some bt131.2.2.2)
theorem spec_JIsDecimal.calls (k:Nat) (a0:ByteArray) (r:Bool) (w:World) (h:spec_JIsDecimal.f k a0=some r):
  Calls Tryz.prog 26 #[.string a0] w fun e w'=>e= .returned (.bool r)∧Below w.heap.size w w':=by
 have hu100:=Tryz.underlying100
 have HB:=asd_ (Below.refl w.heap.size w)
 have H:((spec_jDecimalOf.f k a0).bind fun bt131=>(some bt131.2.2.2))=some r:=h
 clear h
 replace H:=Option.bind_eq_some_iff.mp H
 obtain ⟨⟨t131,t132,t133,t134⟩,A20,H⟩:=H
 replace H:(some t134)=some r:=H
 have A2:=asd_ A20
 clear A20
 obtain rfl:=Option.some.inj H
 go_enter Tryz.func26,Tryz.ntmps26
 go_wp2_with (first|((with_reducible refine gate_callee (f:=48) rfl ?_);refine goesL_ (some 7) rfl rfl Tryz.func48 kr_ rfl #[.string a0] rfl ap_ ?_;(with_reducible refine (spec_jDecimalOf.calls k a0 t131 t132 t133 t134 _ A2.out).mono ?_);rintro e w3 ⟨rfl,hb⟩;refine ⟨_,rfl,?_⟩;have n0_:=asd_ (below_step wb_ hb);clear HB;have HB:=n0_;clear n0_;(try clear hb);(try clear hb2);(try clear hk);(try clear hi))|((with_reducible refine gate_dst (N:=3) rfl ?_);refine box_event ?hg (N:=3) ?hd (cs:=#[.bool false,.string (⟨#[]⟩:ByteArray),.int .i64 0]) (t:=100) ?hr ?_;(case hd=>rfl);(case hg=>rfl);(case hr=>first|(go_simp;done)|(go_simp;rfl));intro gb135 hg w4 hbox hb;have n0_:=asd_ (below_step wb_ hb);have n1_:=asd_ (hbox);have n2_:=asd_ ((by rw [hg];exact (below_size wb_):w.heap.size≤gb135));have n3_:=asd_ ((by rw [hg];exact (below_size wb_):w.heap.size≤gb135));clear HB;have HB:=n0_;have BK135:=n1_;have GW135:=n2_;have GE135:=n3_;clear n0_ n1_ n2_ n3_;clear hb hbox hg;have hc5_0:=cb_ BK135.out))
 go_ret
 exact ⟨er_,wb_⟩
end Go.Proofs.YtkphbhncpdcbeaaGreatDoor.PJT
