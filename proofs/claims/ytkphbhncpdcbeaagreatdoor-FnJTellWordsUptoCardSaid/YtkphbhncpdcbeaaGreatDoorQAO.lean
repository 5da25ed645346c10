/- Part. -/
import Derived.Test.YtkphbhncpdcbeaaGreatDoorQAN
set_option linter.unusedVariables false
set_option linter.unusedSimpArgs false
set_option maxHeartbeats 8000000
set_option maxRecDepth 100000
namespace Go.Proofs.YtkphbhncpdcbeaaGreatDoor.PJT
open Go.RowKit YtkphbhncpdcbeaaGreatDoorW.PrintWords YtkphbhncpdcbeaaGreatDoorW.PrintLast YtkphbhncpdcbeaaGreatDoorW.PrintMore
attribute [local go_sem] max2_int min2_int max_two min_two max_three min_three max_four min_four
def spec_JProper.f (k:Nat) (a0_0:Int) (a0_1:Bool) (a0_2:Int) (a0_3:ByteArray) (l0_4:List ByteArray) (l0_5:List (S25)):Option (Bool):=(spec_jProperIn.f k a0_0 a0_1 a0_2 a0_3 l0_4 l0_5 1000).bind fun t144=>(some t144)
theorem spec_JProper.calls (k:Nat) (a0_0:Int) (a0_1:Bool) (a0_2:Int) (a0_3:ByteArray) (A0_4:Option Addr) (c0_4:Nat) (l0_4:List ByteArray) (A0_5:Option Addr) (c0_5:Nat) (l0_5:List (S25)) (r:Bool) (w:World) (hr0_4:Kd.C Kd.string w A0_4 l0_4.length l0_4) (hc0_4:l0_4.length≤c0_4) (hr0_5:Kd.C k25 w A0_5 l0_5.length l0_5) (hc0_5:l0_5.length≤c0_5) (h:spec_JProper.f k a0_0 a0_1 a0_2 a0_3 l0_4 l0_5=some r):
  Calls Tryz.prog 12 #[.agg #[.int .i64 a0_0,.bool a0_1,.int .i64 a0_2,.string a0_3,.slice A0_4 l0_4.length c0_4,.slice A0_5 l0_5.length c0_5]] w fun e w'=>e= .returned (.bool r)∧Below w.heap.size w w':=by
 have hu25:=Tryz.underlying25
 have HR0_4:=asd_ hr0_4
 have HC0_4:=asd_ hc0_4
 clear hr0_4 hc0_4
 have HR0_5:=asd_ hr0_5
 have HC0_5:=asd_ hc0_5
 clear hr0_5 hc0_5
 have HB:=asd_ (Below.refl w.heap.size w)
 have H:((spec_jProperIn.f k a0_0 a0_1 a0_2 a0_3 l0_4 l0_5 1000).bind fun t144=>(some t144))=some r:=h
 clear h
 replace H:=Option.bind_eq_some_iff.mp H
 obtain ⟨t144,A20,H⟩:=H
 replace H:(some t144)=some r:=H
 have A2:=asd_ A20
 clear A20
 obtain rfl:=Option.some.inj H
 go_enter Tryz.func12,Tryz.ntmps12
 go_wp2_with (first|((with_reducible refine gate_dst (N:=1) rfl ?_);refine box_event ?hg (N:=1) ?hd (cs:=#[.int .i64 a0_0,.bool a0_1,.int .i64 a0_2,.string a0_3,.slice A0_4 l0_4.length c0_4,.slice A0_5 l0_5.length c0_5]) (t:=25) ?hr ?_;(case hd=>rfl);(case hg=>rfl);(case hr=>first|(go_simp;done)|(go_simp;rfl));intro gb143 hg w3 hbox hb;have n0_:=asd_ (below_step wb_ hb);have n1_:=asd_ (hbox);have n2_:=asd_ ((by rw [hg];exact (below_size wb_):w.heap.size≤gb143));have n3_:=asd_ ((by rw [hg];exact (below_size wb_):w.heap.size≤gb143));clear HB;have HB:=n0_;have BK143:=n1_;have GW143:=n2_;have GE143:=n3_;clear n0_ n1_ n2_ n3_;clear hb hbox hg;have hc4_0:=cb_ BK143.out)|((with_reducible refine gate_callee (f:=18) rfl ?_);refine goesL_ (some 4) rfl rfl Tryz.func18 kr_ rfl #[.agg #[.int .i64 a0_0,.bool a0_1,.int .i64 a0_2,.string a0_3,.slice A0_4 l0_4.length c0_4,.slice A0_5 l0_5.length c0_5],.int .i64 1000] rfl ap_ ?_;(with_reducible refine (spec_jProperIn.calls k a0_0 a0_1 a0_2 a0_3 _ _ l0_4 _ _ l0_5 1000 t144 _ ?side1 ?side2 ?side3 ?side4 A2.out).mono ?_);(case side1=>repeat (first|exact (Kd.C_below HR0_4.out HB.out)|(with_reducible refine Kd.C_alloc ?_ _)|(with_reducible refine Kd.C_drewN ?_ _)|(with_reducible refine Kd.C_drew ?_)));(case side2=>exact HC0_4.out);(case side3=>repeat (first|exact (Kd.C_below HR0_5.out HB.out)|(with_reducible refine Kd.C_alloc ?_ _)|(with_reducible refine Kd.C_drewN ?_ _)|(with_reducible refine Kd.C_drew ?_)));(case side4=>exact HC0_5.out);rintro e w5 ⟨rfl,hb⟩;refine ⟨_,rfl,?_⟩;have n0_:=asd_ (blk_below (g:=gb143) (o:= .cells #[.int .i64 a0_0,.bool a0_1,.int .i64 a0_2,.string a0_3,.slice A0_4 l0_4.length c0_4,.slice A0_5 l0_5.length c0_5] 25 (0,0)) bk_ hb);have n1_:=asd_ (below_step wb_ hb);clear BK143;clear HB;have BK143:=n0_;have HB:=n1_;clear n0_ n1_;(try clear hb);(try clear hb2);(try clear hk);(try clear hi)))
 go_ret
 exact ⟨er_,wb_⟩
mutual
def spec_JCounts.l0:Nat→Int→Int→Bool→Int→ByteArray→List ByteArray→List (S25)→Option (Bool)
 |0,_,_,_,_,_,_,_=>none
 |k + 1,x3,x146000,x146001,x146002,x146003,x146004,x146005=>if x3 < (x146005.length:Int) then (if 0≤x3 then ((spec_JCounts.f k ((rd_T25 x146005 x3).f0) ((rd_T25 x146005 x3).f1) ((rd_T25 x146005 x3).f2) ((rd_T25 x146005 x3).f3) ((rd_T25 x146005 x3).f4) ((rd_T25 x146005 x3).f5)).bind fun t147=>(if t147=true then (spec_JCounts.l0 k (wrap64 (x3 + 1)) x146000 x146001 x146002 x146003 x146004 x146005) else (some false))) else (none)) else (some true)
def spec_JCounts.f:Nat→Int→Bool→Int→ByteArray→List ByteArray→List (S25)→Option (Bool)
 |0,_,_,_,_,_,_=>none
 |k + 1,a0_0,a0_1,a0_2,a0_3,l0_4,l0_5=>if a0_0=2 then (some false) else (spec_JCounts.l0 k 0 a0_0 a0_1 a0_2 a0_3 l0_4 l0_5)
end
theorem spec_JCounts.calls (k:Nat):∀ (a0_0:Int) (a0_1:Bool) (a0_2:Int) (a0_3:ByteArray) (A0_4:Option Addr) (c0_4:Nat) (l0_4:List ByteArray) (A0_5:Option Addr) (c0_5:Nat) (l0_5:List (S25)) (r:Bool) (w:World) (hr0_4:Kd.C Kd.string w A0_4 l0_4.length l0_4) (hc0_4:l0_4.length≤c0_4) (hr0_5:Kd.C k25 w A0_5 l0_5.length l0_5) (hc0_5:l0_5.length≤c0_5) (h:spec_JCounts.f k a0_0 a0_1 a0_2 a0_3 l0_4 l0_5=some r),
  Calls Tryz.prog 13 #[.agg #[.int .i64 a0_0,.bool a0_1,.int .i64 a0_2,.string a0_3,.slice A0_4 l0_4.length c0_4,.slice A0_5 l0_5.length c0_5]] w fun e w'=>e= .returned (.bool r)∧Below w.heap.size w w':=by
 induction k using Nat.strongRecOn with
 |_ k ih=>
 intro a0_0 a0_1 a0_2 a0_3 A0_4 c0_4 l0_4 A0_5 c0_5 l0_5 r w hr0_4 hc0_4 hr0_5 hc0_5 h
 cases k with
 |zero=>exact absurd h (by simp [spec_JCounts.f])
 |succ k=>
 simp only [spec_JCounts.f] at h
 have hu25:=Tryz.underlying25
 have HR0_4:=asd_ hr0_4
 have HC0_4:=asd_ hc0_4
 clear hr0_4 hc0_4
 have HR0_5:=asd_ hr0_5
 have HC0_5:=asd_ hc0_5
 clear hr0_5 hc0_5
 have HB:=asd_ (Below.refl w.heap.size w)
 have H:(if a0_0=2 then (some false) else (spec_JCounts.l0 k 0 a0_0 a0_1 a0_2 a0_3 l0_4 l0_5))=some r:=h
 clear h
 by_cases c2:a0_0=2
 ·rw [if_pos c2] at H
  have c2b0:=beq_iff_eq.mpr c2
  have c2b1:=bne_eq_false_iff_eq.mpr c2
  clear c2
  obtain rfl:=Option.some.inj H
  go_enter Tryz.func13,Tryz.ntmps13
  go_wp2_with (first|((with_reducible refine gate_dst (N:=1) rfl ?_);refine box_event ?hg (N:=1) ?hd (cs:=#[.int .i64 a0_0,.bool a0_1,.int .i64 a0_2,.string a0_3,.slice A0_4 l0_4.length c0_4,.slice A0_5 l0_5.length c0_5]) (t:=25) ?hr ?_;(case hd=>rfl);(case hg=>rfl);(case hr=>first|(go_simp;done)|(go_simp;rfl));intro gb145 hg w3 hbox hb;have n0_:=asd_ (below_step wb_ hb);have n1_:=asd_ (hbox);have n2_:=asd_ ((by rw [hg];exact (below_size wb_):w.heap.size≤gb145));have n3_:=asd_ ((by rw [hg];exact (below_size wb_):w.heap.size≤gb145));clear HB;have HB:=n0_;have BK145:=n1_;have GW145:=n2_;have GE145:=n3_;clear n0_ n1_ n2_ n3_;clear hb hbox hg;have hc4_0:=cb_ BK145.out))
  go_ret
  exact ⟨er_,wb_⟩
 ·rw [if_neg c2] at H
  have c2b0:=beq_eq_false_iff_ne.mpr c2
  have c2b1:=bne_iff_ne.mpr c2
  have H':=asd_ H
  clear H
  go_enter Tryz.func13,Tryz.ntmps13
  go_wp2_with (first|((with_reducible refine gate_dst (N:=1) rfl ?_);refine box_event ?hg (N:=1) ?hd (cs:=#[.int .i64 a0_0,.bool a0_1,.int .i64 a0_2,.string a0_3,.slice A0_4 l0_4.length c0_4,.slice A0_5 l0_5.length c0_5]) (t:=25) ?hr ?_;(case hd=>rfl);(case hg=>rfl);(case hr=>first|(go_simp;done)|(go_simp;rfl));intro gb145 hg w5 hbox hb;have n0_:=asd_ (below_step wb_ hb);have n1_:=asd_ (hbox);have n2_:=asd_ ((by rw [hg];exact (below_size wb_):w.heap.size≤gb145));have n3_:=asd_ ((by rw [hg];exact (below_size wb_):w.heap.size≤gb145));clear HB;have HB:=n0_;have BK145:=n1_;have GW145:=n2_;have GE145:=n3_;clear n0_ n1_ n2_ n3_;clear hb hbox hg;have hc6_0:=cb_ BK145.out))
  go_loopg [3] k (fun kq v3 w'=>∃ (x3_1:Int),v3= .int .i64 x3_1∧Aside0 (spec_JCounts.l0 kq x3_1 a0_0 a0_1 a0_2 a0_3 l0_4 l0_5=some r)∧Aside0 (kq≤k)∧Aside0 (w'.heap[gb145]? =some (.cells #[.int .i64 a0_0,.bool a0_1,.int .i64 a0_2,.string a0_3,(.slice A0_4 l0_4.length c0_4),(.slice A0_5 l0_5.length c0_5)] 25 (0,0)))∧Aside0 (Below w.heap.size w w'))
  case atStart=>exact ⟨(0),r1_,H',⟨Nat.le_refl _⟩,⟨bk_⟩,⟨wb_⟩⟩
  case round=>
   clear H'
   obtain ⟨x3_1,rfl,HA,HK1,BK145,HB⟩:=hrel
   cases gk with
   |zero=>exact absurd HA.out (by simp [spec_JCounts.l0])
   |succ k1=>
    have H:=HA.out
    clear HA
    simp only [spec_JCounts.l0] at H
    by_cases c7:x3_1 < (l0_5.length:Int)
    ·rw [if_pos c7] at H
     have c7b0:=decide_eq_true c7
     clear c7
     by_cases c8:0≤x3_1
     ·rw [if_pos c8] at H
      have c8b0:=decide_eq_true c8
      clear c8
      replace H:=Option.bind_eq_some_iff.mp H
      obtain ⟨t147,A90,H⟩:=H
      replace H:(if t147=true then (spec_JCounts.l0 k1 (wrap64 (x3_1 + 1)) a0_0 a0_1 a0_2 a0_3 l0_4 l0_5) else (some false))=some r:=H
      have A9:=asd_ A90
      clear A90
      by_cases c10:t147=true
      ·subst c10
       have H1:(spec_JCounts.l0 k1 (wrap64 (x3_1 + 1)) a0_0 a0_1 a0_2 a0_3 l0_4 l0_5)=some r:=by rw [if_pos rfl] at H;exact H
       clear H
       have H:=H1
       clear H1
       have H':=asd_ H
       clear H
       have hc11_0:=cb_ BK145.out
       have p146:0≤(x3_1:Int):=of_decide_eq_true as_
       have q146:x3_1 < (l0_5.length:Int):=of_decide_eq_true as_
       obtain ⟨ad146,A146_4,c146_4,A146_5,c146_5,e146,hx146_0,hx146_1,hx146_2,hx146_3,hx146_4,hx146_5,hl146_4,hi146_4,hl146_5,hi146_5⟩:=at_T25 HR0_5.out x3_1 p146 q146
       cases e146
       replace hx146_0:=(HB.out.cell (World.block_lt_of_cell? w _ hx146_0)).trans hx146_0
       replace hx146_1:=(HB.out.cell (World.block_lt_of_cell? w _ hx146_1)).trans hx146_1
       replace hx146_2:=(HB.out.cell (World.block_lt_of_cell? w _ hx146_2)).trans hx146_2
       replace hx146_3:=(HB.out.cell (World.block_lt_of_cell? w _ hx146_3)).trans hx146_3
       replace hx146_4:=(HB.out.cell (World.block_lt_of_cell? w _ hx146_4)).trans hx146_4
       replace hx146_5:=(HB.out.cell (World.block_lt_of_cell? w _ hx146_5)).trans hx146_5
       have HR146_4:=asd_ hi146_4
       have HC146_4:=asd_ hl146_4
       clear hi146_4 hl146_4
       have HR146_5:=asd_ hi146_5
       have HC146_5:=asd_ hl146_5
       clear hi146_5 hl146_5
       replace p146:=eq_true p146
       replace q146:=eq_true q146
       go_wp2_with (first|((with_reducible refine gate_callee (f:=13) rfl ?_);refine goesL_ (some 19) rfl rfl Tryz.func13 kr_ rfl #[.agg #[.int .i64 ((rd_T25 l0_5 x3_1).f0),.bool ((rd_T25 l0_5 x3_1).f1),.int .i64 ((rd_T25 l0_5 x3_1).f2),.string ((rd_T25 l0_5 x3_1).f3),.slice A146_4 ((rd_T25 l0_5 x3_1).f4).length c146_4,.slice A146_5 ((rd_T25 l0_5 x3_1).f5).length c146_5]] rfl ap_ ?_;(with_reducible refine (ih k1 (by have:=HK1.out;omega) ((rd_T25 l0_5 x3_1).f0) ((rd_T25 l0_5 x3_1).f1) ((rd_T25 l0_5 x3_1).f2) ((rd_T25 l0_5 x3_1).f3) _ _ ((rd_T25 l0_5 x3_1).f4) _ _ ((rd_T25 l0_5 x3_1).f5) true _ ?side1 ?side2 ?side3 ?side4 A9.out).mono ?_);(case side1=>repeat (first|exact (Kd.C_below HR146_4.out HB.out)|(with_reducible refine Kd.C_alloc ?_ _)|(with_reducible refine Kd.C_drewN ?_ _)|(with_reducible refine Kd.C_drew ?_)));(case side2=>exact HC146_4.out);(case side3=>repeat (first|exact (Kd.C_below HR146_5.out HB.out)|(with_reducible refine Kd.C_alloc ?_ _)|(with_reducible refine Kd.C_drewN ?_ _)|(with_reducible refine Kd.C_drew ?_)));(case side4=>exact HC146_5.out);rintro e w12 ⟨rfl,hb⟩;refine ⟨_,rfl,?_⟩;have n0_:=asd_ (blk_below (g:=gb145) (o:= .cells #[.int .i64 a0_0,.bool a0_1,.int .i64 a0_2,.string a0_3,.slice A0_4 l0_4.length c0_4,.slice (some ad146) l0_5.length c0_5] 25 (0,0)) bk_ hb);have n1_:=asd_ (below_step wb_ hb);clear BK145;clear HB;have BK145:=n0_;have HB:=n1_;clear n0_ n1_;(try clear hb);(try clear hb2);(try clear hk);(try clear hi)))
       go_roundg k1
       case measure=>have:=HK1.out;omega
       case rel=>exact ⟨(wrap64 (x3_1 + 1)),r1_,H',⟨by have:=HK1.out;omega⟩,⟨bk_⟩,⟨wb_⟩⟩
      ·replace c10:=Bool.eq_false_iff.mpr c10
       subst c10
       have H1:(some false)=some r:=by rw [if_neg (show ¬ (false=true) by decide)] at H;exact H
       clear H
       have H:=H1
       clear H1
       obtain rfl:=Option.some.inj H
       have hc13_0:=cb_ BK145.out
       have p146:0≤(x3_1:Int):=of_decide_eq_true as_
       have q146:x3_1 < (l0_5.length:Int):=of_decide_eq_true as_
       obtain ⟨ad146,A146_4,c146_4,A146_5,c146_5,e146,hx146_0,hx146_1,hx146_2,hx146_3,hx146_4,hx146_5,hl146_4,hi146_4,hl146_5,hi146_5⟩:=at_T25 HR0_5.out x3_1 p146 q146
       cases e146
       replace hx146_0:=(HB.out.cell (World.block_lt_of_cell? w _ hx146_0)).trans hx146_0
       replace hx146_1:=(HB.out.cell (World.block_lt_of_cell? w _ hx146_1)).trans hx146_1
       replace hx146_2:=(HB.out.cell (World.block_lt_of_cell? w _ hx146_2)).trans hx146_2
       replace hx146_3:=(HB.out.cell (World.block_lt_of_cell? w _ hx146_3)).trans hx146_3
       replace hx146_4:=(HB.out.cell (World.block_lt_of_cell? w _ hx146_4)).trans hx146_4
       replace hx146_5:=(HB.out.cell (World.block_lt_of_cell? w _ hx146_5)).trans hx146_5
       have HR146_4:=asd_ hi146_4
       have HC146_4:=asd_ hl146_4
       clear hi146_4 hl146_4
       have HR146_5:=asd_ hi146_5
       have HC146_5:=asd_ hl146_5
       clear hi146_5 hl146_5
       replace p146:=eq_true p146
       replace q146:=eq_true q146
       go_wp2_with (first|((with_reducible refine gate_callee (f:=13) rfl ?_);refine goesL_ (some 19) rfl rfl Tryz.func13 kr_ rfl #[.agg #[.int .i64 ((rd_T25 l0_5 x3_1).f0),.bool ((rd_T25 l0_5 x3_1).f1),.int .i64 ((rd_T25 l0_5 x3_1).f2),.string ((rd_T25 l0_5 x3_1).f3),.slice A146_4 ((rd_T25 l0_5 x3_1).f4).length c146_4,.slice A146_5 ((rd_T25 l0_5 x3_1).f5).length c146_5]] rfl ap_ ?_;(with_reducible refine (ih k1 (by have:=HK1.out;omega) ((rd_T25 l0_5 x3_1).f0) ((rd_T25 l0_5 x3_1).f1) ((rd_T25 l0_5 x3_1).f2) ((rd_T25 l0_5 x3_1).f3) _ _ ((rd_T25 l0_5 x3_1).f4) _ _ ((rd_T25 l0_5 x3_1).f5) false _ ?side1 ?side2 ?side3 ?side4 A9.out).mono ?_);(case side1=>repeat (first|exact (Kd.C_below HR146_4.out HB.out)|(with_reducible refine Kd.C_alloc ?_ _)|(with_reducible refine Kd.C_drewN ?_ _)|(with_reducible refine Kd.C_drew ?_)));(case side2=>exact HC146_4.out);(case side3=>repeat (first|exact (Kd.C_below HR146_5.out HB.out)|(with_reducible refine Kd.C_alloc ?_ _)|(with_reducible refine Kd.C_drewN ?_ _)|(with_reducible refine Kd.C_drew ?_)));(case side4=>exact HC146_5.out);rintro e w14 ⟨rfl,hb⟩;refine ⟨_,rfl,?_⟩;have n0_:=asd_ (blk_below (g:=gb145) (o:= .cells #[.int .i64 a0_0,.bool a0_1,.int .i64 a0_2,.string a0_3,.slice A0_4 l0_4.length c0_4,.slice (some ad146) l0_5.length c0_5] 25 (0,0)) bk_ hb);have n1_:=asd_ (below_step wb_ hb);clear BK145;clear HB;have BK145:=n0_;have HB:=n1_;clear n0_ n1_;(try clear hb);(try clear hb2);(try clear hk);(try clear hi)))
       go_ret
       exact ⟨er_,wb_⟩
     ·rw [if_neg c8] at H
      exact absurd H (by simp)
    ·rw [if_neg c7] at H
     have c7b0:=decide_eq_false c7
     clear c7
     obtain rfl:=Option.some.inj H
     have hc15_0:=cb_ BK145.out
     go_wp2
     go_ret
     exact ⟨er_,wb_⟩
def spec_JMember.l0:Nat→ByteArray→Int→Int→Bool→Int→ByteArray→List ByteArray→List (S25)→Option (Int)
 |0,_,_,_,_,_,_,_,_=>none
 |k + 1,x1,x5,x149000,x149001,x149002,x149003,x149004,x149005=>if x5 ≥ 0 then (if 0≤x5 then (if x5 < (x149004.length:Int) then (if (rdOf ByteArray.empty x149004 x5).toList=x1.toList then (some x5) else (spec_JMember.l0 k x1 (wrap64 (x5 - 1)) x149000 x149001 x149002 x149003 x149004 x149005)) else (none)) else (none)) else (some (-1))
def spec_JMember.f (k:Nat) (a0_0:Int) (a0_1:Bool) (a0_2:Int) (a0_3:ByteArray) (l0_4:List ByteArray) (l0_5:List (S25)) (a1:ByteArray):Option (Int):=spec_JMember.l0 k a1 (wrap64 ((l0_4.length:Int) - 1)) a0_0 a0_1 a0_2 a0_3 l0_4 l0_5
theorem spec_JMember.calls (k:Nat) (a0_0:Int) (a0_1:Bool) (a0_2:Int) (a0_3:ByteArray) (A0_4:Option Addr) (c0_4:Nat) (l0_4:List ByteArray) (A0_5:Option Addr) (c0_5:Nat) (l0_5:List (S25)) (a1:ByteArray) (r:Int) (w:World) (hr0_4:Kd.C Kd.string w A0_4 l0_4.length l0_4) (hc0_4:l0_4.length≤c0_4) (hr0_5:Kd.C k25 w A0_5 l0_5.length l0_5) (hc0_5:l0_5.length≤c0_5) (h:spec_JMember.f k a0_0 a0_1 a0_2 a0_3 l0_4 l0_5 a1=some r):
  Calls Tryz.prog 65 #[.agg #[.int .i64 a0_0,.bool a0_1,.int .i64 a0_2,.string a0_3,.slice A0_4 l0_4.length c0_4,.slice A0_5 l0_5.length c0_5],.string a1] w fun e w'=>e= .returned (.int .i64 r)∧Below w.heap.size w w':=by
 have hu25:=Tryz.underlying25
 have HR0_4:=asd_ hr0_4
 have HC0_4:=asd_ hc0_4
 clear hr0_4 hc0_4
 have HR0_5:=asd_ hr0_5
 have HC0_5:=asd_ hc0_5
 clear hr0_5 hc0_5
 have HB:=asd_ (Below.refl w.heap.size w)
 have H:(spec_JMember.l0 k a1 (wrap64 ((l0_4.length:Int) - 1)) a0_0 a0_1 a0_2 a0_3 l0_4 l0_5)=some r:=h
 clear h
 have H':=asd_ H
 clear H
 go_enter Tryz.func65,Tryz.ntmps65
 go_wp2_with (first|((with_reducible refine gate_dst (N:=2) rfl ?_);refine box_event ?hg (N:=2) ?hd (cs:=#[.int .i64 a0_0,.bool a0_1,.int .i64 a0_2,.string a0_3,.slice A0_4 l0_4.length c0_4,.slice A0_5 l0_5.length c0_5]) (t:=25) ?hr ?_;(case hd=>rfl);(case hg=>rfl);(case hr=>first|(go_simp;done)|(go_simp;rfl));intro gb148 hg w3 hbox hb;have n0_:=asd_ (below_step wb_ hb);have n1_:=asd_ (hbox);have n2_:=asd_ ((by rw [hg];exact (below_size wb_):w.heap.size≤gb148));have n3_:=asd_ ((by rw [hg];exact (below_size wb_):w.heap.size≤gb148));clear HB;have HB:=n0_;have BK148:=n1_;have GW148:=n2_;have GE148:=n3_;clear n0_ n1_ n2_ n3_;clear hb hbox hg;have hc4_0:=cb_ BK148.out))
 go_loopg [5] k (fun kq v5 w'=>∃ (x5_1:Int),v5= .int .i64 x5_1∧Aside0 (spec_JMember.l0 kq a1 x5_1 a0_0 a0_1 a0_2 a0_3 l0_4 l0_5=some r)∧Aside0 (kq≤k)∧Aside0 (w'.heap[gb148]? =some (.cells #[.int .i64 a0_0,.bool a0_1,.int .i64 a0_2,.string a0_3,(.slice A0_4 l0_4.length c0_4),(.slice A0_5 l0_5.length c0_5)] 25 (0,0)))∧Aside0 (Below w.heap.size w w'))
 case atStart=>exact ⟨(wrap64 ((l0_4.length:Int) - 1)),r1_,H',⟨Nat.le_refl _⟩,⟨bk_⟩,⟨wb_⟩⟩
 case round=>
  clear H'
  obtain ⟨x5_1,rfl,HA,HK1,BK148,HB⟩:=hrel
  cases gk with
  |zero=>exact absurd HA.out (by simp [spec_JMember.l0])
  |succ k1=>
   have H:=HA.out
   clear HA
   simp only [spec_JMember.l0] at H
   by_cases c5:x5_1 ≥ 0
   ·rw [if_pos c5] at H
    have c5b0:=decide_eq_true c5
    clear c5
    by_cases c6:0≤x5_1
    ·rw [if_pos c6] at H
     have c6b0:=decide_eq_true c6
     clear c6
     by_cases c7:x5_1 < (l0_4.length:Int)
     ·rw [if_pos c7] at H
      have c7b0:=decide_eq_true c7
      clear c7
      by_cases c8:(rdOf ByteArray.empty l0_4 x5_1).toList=a1.toList
      ·rw [if_pos c8] at H
       have c8b0:=beq_iff_eq.mpr c8
       have c8b1:=bne_eq_false_iff_eq.mpr c8
       clear c8
       obtain rfl:=Option.some.inj H
       have hc9_0:=cb_ BK148.out
       have p149:0≤(x5_1:Int):=of_decide_eq_true as_
       have q149:x5_1 < (l0_4.length:Int):=of_decide_eq_true as_
       obtain ⟨ad149,e149,hx149_0⟩:=Kd.at_string HR0_4.out x5_1 p149 q149
       cases e149
       replace hx149_0:=(HB.out.cell (World.block_lt_of_cell? w _ hx149_0)).trans hx149_0
       replace p149:=eq_true p149
       replace q149:=eq_true q149
       go_wp2
       go_ret
       exact ⟨er_,wb_⟩
      ·rw [if_neg c8] at H
       have c8b0:=beq_eq_false_iff_ne.mpr c8
       have c8b1:=bne_iff_ne.mpr c8
       have H':=asd_ H
       clear H
       have hc10_0:=cb_ BK148.out
       have p149:0≤(x5_1:Int):=of_decide_eq_true as_
       have q149:x5_1 < (l0_4.length:Int):=of_decide_eq_true as_
       obtain ⟨ad149,e149,hx149_0⟩:=Kd.at_string HR0_4.out x5_1 p149 q149
       cases e149
       replace hx149_0:=(HB.out.cell (World.block_lt_of_cell? w _ hx149_0)).trans hx149_0
       replace p149:=eq_true p149
       replace q149:=eq_true q149
       go_wp2
       go_roundg k1
       case measure=>have:=HK1.out;omega
       case rel=>exact ⟨(wrap64 (x5_1 - 1)),r1_,H',⟨by have:=HK1.out;omega⟩,⟨bk_⟩,⟨wb_⟩⟩
     ·rw [if_neg c7] at H
      exact absurd H (by simp)
    ·rw [if_neg c6] at H
     exact absurd H (by simp)
   ·rw [if_neg c5] at H
    have c5b0:=decide_eq_false c5
    clear c5
    obtain rfl:=Option.some.inj H
    go_wp2
    go_ret
    exact ⟨er_,wb_⟩
def spec_JMembers.l0:Nat→List Int→Int→Int→Bool→Int→ByteArray→List ByteArray→List (S25)→Option (List Int)
 |0,_,_,_,_,_,_,_,_=>none
 |k + 1,x3,x4,x151000,x151001,x151002,x151003,x151004,x151005=>if x4 < (x151004.length:Int) then (if 0≤x4 then ((spec_JMember.f k x151000 x151001 x151002 x151003 x151004 x151005 (rdOf ByteArray.empty x151004 x4)).bind fun t152=>(if t152=x4 then (if x3.length < 17592186044416 then (spec_JMembers.l0 k (x3 ++ [x4]) (wrap64 (x4 + 1)) x151000 x151001 x151002 x151003 x151004 x151005) else (none)) else (spec_JMembers.l0 k x3 (wrap64 (x4 + 1)) x151000 x151001 x151002 x151003 x151004 x151005))) else (none)) else (some x3)
def spec_JMembers.f (k:Nat) (a0_0:Int) (a0_1:Bool) (a0_2:Int) (a0_3:ByteArray) (l0_4:List ByteArray) (l0_5:List (S25)):Option (List Int):=spec_JMembers.l0 k ([]:List Int) 0 a0_0 a0_1 a0_2 a0_3 l0_4 l0_5
def spec_JMembers.T5:Bool×List (List Nat×List Nat):=(true,[([],[]),([],[]),([1],[1]),([],[]),([2,3],[2,3]),([4],[4]),([0,5],[0,5]),([],[]),([6,7],[6,7])])
def spec_JMembers.B5:List Nat:=[0,0,2,0,14,30,63,0,255]
theorem spec_JMembers.tab5:rtab .any (opsOf Tryz.f74 5)=spec_JMembers.T5:=by kernel_rfl
theorem spec_JMembers.bits5:waitsOk spec_JMembers.T5.2 spec_JMembers.B5=true:=by kernel_rfl
theorem spec_JMembers.calls (k:Nat) (a0_0:Int) (a0_1:Bool) (a0_2:Int) (a0_3:ByteArray) (A0_4:Option Addr) (c0_4:Nat) (l0_4:List ByteArray) (A0_5:Option Addr) (c0_5:Nat) (l0_5:List (S25)) (r:List Int) (w:World) (hr0_4:Kd.C Kd.string w A0_4 l0_4.length l0_4) (hc0_4:l0_4.length≤c0_4) (hr0_5:Kd.C k25 w A0_5 l0_5.length l0_5) (hc0_5:l0_5.length≤c0_5) (h:spec_JMembers.f k a0_0 a0_1 a0_2 a0_3 l0_4 l0_5=some r):
  Calls Tryz.prog 74 #[.agg #[.int .i64 a0_0,.bool a0_1,.int .i64 a0_2,.string a0_3,.slice A0_4 l0_4.length c0_4,.slice A0_5 l0_5.length c0_5]] w fun e w'=>∃ v0_:Value,e= .returned (v0_)∧Kd.R (Kd.int .i64) 3 w' w.heap.size (fun _=>True) v0_ r∧Below w.heap.size w w':=by
 have hu25:=Tryz.underlying25
 have HR0_4:=asd_ hr0_4
 have HC0_4:=asd_ hc0_4
 clear hr0_4 hc0_4
 have HR0_5:=asd_ hr0_5
 have HC0_5:=asd_ hc0_5
 clear hr0_5 hc0_5
 have HB:=asd_ (Below.refl w.heap.size w)
 have H:(spec_JMembers.l0 k ([]:List Int) 0 a0_0 a0_1 a0_2 a0_3 l0_4 l0_5)=some r:=h
 clear h
 have H':=asd_ H
 clear H
 go_enter Tryz.func74,Tryz.ntmps74
 go_wp2_with (first|((with_reducible refine gate_dst (N:=1) rfl ?_);refine box_event ?hg (N:=1) ?hd (cs:=#[.int .i64 a0_0,.bool a0_1,.int .i64 a0_2,.string a0_3,.slice A0_4 l0_4.length c0_4,.slice A0_5 l0_5.length c0_5]) (t:=25) ?hr ?_;(case hd=>rfl);(case hg=>rfl);(case hr=>first|(go_simp;done)|(go_simp;rfl));intro gb150 hg w2 hbox hb;have n0_:=asd_ (below_step wb_ hb);have n1_:=asd_ (hbox);have n2_:=asd_ ((by rw [hg];exact (below_size wb_):w.heap.size≤gb150));have n3_:=asd_ ((by rw [hg];exact (below_size wb_):w.heap.size≤gb150));clear HB;have HB:=n0_;have BK150:=n1_;have GW150:=n2_;have GE150:=n3_;clear n0_ n1_ n2_ n3_;clear hb hbox hg))
 go_loopg [3,4] k (fun kq v3 v4 w'=>∃ (x3_1:List Int) (x4_1:Int),v4= .int .i64 x4_1∧Aside0 (spec_JMembers.l0 kq x3_1 x4_1 a0_0 a0_1 a0_2 a0_3 l0_4 l0_5=some r)∧Aside0 (kq≤k)∧Aside0 (Kd.R (Kd.int .i64) 3 w' w.heap.size (fun _=>True) v3 x3_1)∧Aside0 (w'.heap[gb150]? =some (.cells #[.int .i64 a0_0,.bool a0_1,.int .i64 a0_2,.string a0_3,(.slice A0_4 l0_4.length c0_4),(.slice A0_5 l0_5.length c0_5)] 25 (0,0)))∧Aside0 (Below w.heap.size w w'))
 case atStart=>exact ⟨(([]:List Int)),(0),r1_,H',⟨Nat.le_refl _⟩,⟨by first|exact Kd.R_nil _ _ _ _ _|exact Kd.N_nil _ _ _ _ _|exact Kd.V_nil _ _ _ _ _|exact Kd.Q_nil _ _ _ _ _|exact Kd.S_nil _ _ _ _ _⟩,⟨bk_⟩,⟨wb_⟩⟩
 case round=>
  clear H'
  obtain ⟨x3_1,x4_1,rfl,HA,HK1,HO_3,BK150,HB⟩:=hrel
  cases gk with
  |zero=>exact absurd HA.out (by simp [spec_JMembers.l0])
  |succ k1=>
   have H:=HA.out
   clear HA
   simp only [spec_JMembers.l0] at H
   by_cases c3:x4_1 < (l0_4.length:Int)
   ·rw [if_pos c3] at H
    have c3b0:=decide_eq_true c3
    clear c3
    by_cases c4:0≤x4_1
    ·rw [if_pos c4] at H
     have c4b0:=decide_eq_true c4
     clear c4
     replace H:=Option.bind_eq_some_iff.mp H
     obtain ⟨t152,A50,H⟩:=H
     replace H:(if t152=x4_1 then (if x3_1.length < 17592186044416 then (spec_JMembers.l0 k1 (x3_1 ++ [x4_1]) (wrap64 (x4_1 + 1)) a0_0 a0_1 a0_2 a0_3 l0_4 l0_5) else (none)) else (spec_JMembers.l0 k1 x3_1 (wrap64 (x4_1 + 1)) a0_0 a0_1 a0_2 a0_3 l0_4 l0_5))=some r:=H
     have A5:=asd_ A50
     clear A50
     by_cases c6:t152=x4_1
     ·rw [if_pos c6] at H
      have c6b0:=beq_iff_eq.mpr c6
      have c6b1:=bne_eq_false_iff_eq.mpr c6
      clear c6
      by_cases c7:x3_1.length < 17592186044416
      ·rw [if_pos c7] at H
       have LMc7:=asd_ c7
       clear c7
       obtain ⟨y153,hy153⟩:∃ y_:List Int,y_=(x3_1 ++ [x4_1]):=⟨_,rfl⟩
       replace H:(spec_JMembers.l0 k1 y153 (wrap64 (x4_1 + 1)) a0_0 a0_1 a0_2 a0_3 l0_4 l0_5)=some r:=by first|(rw [hy153];with_reducible exact H)|(have H2_:=(Option.bind_some _ _).symm.trans H;rw [hy153];with_reducible exact H2_)|(have H2_:=(Option.bind_some _ _).symm.trans H;with_reducible exact H2_)|with_reducible exact H|(rw [hy153];exact H)|exact H
       have Ny153:=asd_ hy153
       clear hy153
       have H':=asd_ H
       clear H
       have hc8_0:=cb_ BK150.out
       try go_wp2
       have n0_:=asd_ (Kd.R_drew HO_3.out)
       have n1_:=asd_ (blk_drew BK150.out)
       have n2_:=asd_ (below_drew1 HB.out)
       clear HO_3
       clear BK150
       clear HB
       have HO_3:=n0_
       have BK150:=n1_
       have HB:=n2_
       clear n0_ n1_ n2_
       have p151:0≤(x4_1:Int):=of_decide_eq_true as_
       have q151:x4_1 < (l0_4.length:Int):=of_decide_eq_true as_
       obtain ⟨ad151,e151,hx151_0⟩:=Kd.at_string HR0_4.out x4_1 p151 q151
       have hw151_0:=hx151_0
       cases e151
       replace hx151_0:=(HB.out.cell (World.block_lt_of_cell? w _ hx151_0)).trans hx151_0
       replace p151:=eq_true p151
       replace q151:=eq_true q151
       refine start_ (n:=9) (S:=fun w'=>w'.cell? ⟨gb150,0,none⟩=some (.int .i64 a0_0)∧w'.cell? ⟨gb150,1,none⟩=some (.bool a0_1)∧w'.cell? ⟨gb150,2,none⟩=some (.int .i64 a0_2)∧w'.cell? ⟨gb150,3,none⟩=some (.string a0_3)∧w'.cell? ⟨gb150,4,none⟩=some (.slice (some ad151) l0_4.length c0_4)∧w'.cell? ⟨gb150,5,none⟩=some (.slice A0_5 l0_5.length c0_5)∧w'.cell? (ad151.add (x4_1).toNat)=some (.string (rdOf ByteArray.empty l0_4 x4_1))) (ds:=[]) #[false,false,false,false,false,false,false,false,false] kr_ rfl rfl ⟨(blk_cell BK150.out 0).trans rfl,(blk_cell BK150.out 1).trans rfl,(blk_cell BK150.out 2).trans rfl,(blk_cell BK150.out 3).trans rfl,(blk_cell BK150.out 4).trans rfl,(blk_cell BK150.out 5).trans rfl,((HB.out.cell (World.block_lt_of_cell? w _ hw151_0)).trans hw151_0)⟩ (fun hHeld=> ?_);refine with_tabW spec_JMembers.tab5 spec_JMembers.bits5 (fun HT_ HW_=> ?_)
       generalize wr.drew=w9 at HO_3 BK150 HB hx151_0 hHeld ⊢
       refine pure_ (i:=1) (N:=some 13) (v:= ?_) (a':= ?_) #[false,true,false,false,false,false,false,false,false] rfl rfl (any_of HT_.out kr_) (fun _ _ _ h=>h) (Or.inl ⟨by rfl,?_⟩) ?_ ?_
       rotate_left
       ·intro w'
        go_simp
        with_reducible rfl
       rotate_left
       ·simp only [Act.put,List.setIfInBounds_toArray,List.set_cons_zero,List.set_cons_succ,i64_w,i32_w]
        rfl
       refine pure_ (i:=3) (N:=some 15) (v:= ?_) (a':= ?_) #[false,true,false,true,false,false,false,false,false] rfl rfl (any_of HT_.out kr_) (fun _ _ _ h=>h) (Or.inl ⟨by rfl,?_⟩) ?_ ?_
       rotate_left
       ·intro w'
        go_simp
        with_reducible rfl
       rotate_left
       ·simp only [Act.put,List.setIfInBounds_toArray,List.set_cons_zero,List.set_cons_succ,i64_w,i32_w]
        rfl
       refine pure_ (i:=7) (N:=some 19) (v:= ?_) (a':= ?_) #[false,true,false,true,false,false,false,true,false] rfl rfl (any_of HT_.out kr_) (fun _ _ _ h=>h) (Or.inl ⟨by rfl,?_⟩) ?_ ?_
       rotate_left
       ·intro w'
        go_simp
        with_reducible rfl
       rotate_left
       ·simp only [Act.put,List.setIfInBounds_toArray,List.set_cons_zero,List.set_cons_succ,i64_w,i32_w]
        rfl
       refine take_ (i:=0) (N:=some 12) (v:= ?_) (a':= ?_) #[true,true,false,true,false,false,false,true,false] rfl rfl (take_ofW HT_.out HW_.out kr_) (fun _ _ _ h=>h) (Or.inl ⟨by rfl,?_⟩) hHeld ?_ ?_
       rotate_left
       ·rintro w' ⟨s0,s1,s2,s3,s4,s5,s6⟩
        go_simp
        with_reducible rfl
       rotate_left
       ·simp only [Act.put,List.setIfInBounds_toArray,List.set_cons_zero,List.set_cons_succ,i64_w,i32_w]
        rfl
       refine take_ (i:=2) (N:=some 14) (v:= ?_) (a':= ?_) #[true,true,true,true,false,false,false,true,false] rfl rfl (take_ofW HT_.out HW_.out kr_) (fun _ _ _ h=>h) (Or.inl ⟨by rfl,?_⟩) hHeld ?_ ?_
       rotate_left
       ·rintro w' ⟨s0,s1,s2,s3,s4,s5,s6⟩
        go_simp
        with_reducible rfl
       rotate_left
       ·simp only [Act.put,List.setIfInBounds_toArray,List.set_cons_zero,List.set_cons_succ,i64_w,i32_w]
        rfl
       refine pure_ (i:=4) (N:=some 16) (v:= ?_) (a':= ?_) #[true,true,true,true,true,false,false,true,false] rfl rfl (any_of HT_.out kr_) (fun _ _ _ h=>h) (Or.inl ⟨by rfl,?_⟩) ?_ ?_
       rotate_left
       ·intro w'
        go_simp
        with_reducible rfl
       rotate_left
       ·simp only [Act.put,List.setIfInBounds_toArray,List.set_cons_zero,List.set_cons_succ,i64_w,i32_w]
        rfl
       refine take_ (i:=5) (N:=some 17) (v:= ?_) (a':= ?_) #[true,true,true,true,true,true,false,true,false] rfl rfl (take_ofW HT_.out HW_.out kr_) (fun _ _ _ h=>h) (Or.inl ⟨by rfl,?_⟩) hHeld ?_ ?_
       rotate_left
       ·rintro w' ⟨s0,s1,s2,s3,s4,s5,s6⟩
        go_simp
        with_reducible rfl
       rotate_left
       ·simp only [Act.put,List.setIfInBounds_toArray,List.set_cons_zero,List.set_cons_succ,i64_w,i32_w]
        rfl
       refine one_ (i:=6) (N:=some 18) #[true,true,true,true,true,true,true,true,false] rfl rfl (one_of HT_.out kr_) (by decide) (fun K hK=> ?_)
       refine goes_ Tryz.func65 kr_ rfl #[.agg #[.int .i64 a0_0,.bool a0_1,.int .i64 a0_2,.string a0_3,.slice (some ad151) l0_4.length c0_4,.slice A0_5 l0_5.length c0_5],.string (rdOf ByteArray.empty l0_4 x4_1)] (by rfl) rfl rfl ap_ ?_
       with_reducible refine (spec_JMember.calls k1 a0_0 a0_1 a0_2 a0_3 _ _ l0_4 _ _ l0_5 (rdOf ByteArray.empty l0_4 x4_1) t152 _ ?side1 ?side2 ?side3 ?side4 A5.out).mono ?_
       (case side1=>repeat (first|exact (Kd.C_below HR0_4.out HB.out)|(with_reducible refine Kd.C_alloc ?_ _)|(with_reducible refine Kd.C_drewN ?_ _)|(with_reducible refine Kd.C_drew ?_)))
       (case side2=>exact HC0_4.out)
       (case side3=>repeat (first|exact (Kd.C_below HR0_5.out HB.out)|(with_reducible refine Kd.C_alloc ?_ _)|(with_reducible refine Kd.C_drewN ?_ _)|(with_reducible refine Kd.C_drew ?_)))
       (case side4=>exact HC0_5.out)
       rintro e w10 ⟨rfl,hb⟩
       refine ⟨_,rfl,?_⟩
       have n0_:=asd_ (Kd.R_below (by (with_reducible repeat (first|apply Kd.R_alloc|apply Kd.R_drewN|apply Kd.R_drew));exact HO_3.out) hb)
       have n1_:=asd_ (blk_below (g:=gb150) (o:= .cells #[.int .i64 a0_0,.bool a0_1,.int .i64 a0_2,.string a0_3,.slice (some ad151) l0_4.length c0_4,.slice A0_5 l0_5.length c0_5] 25 (0,0)) bk_ hb)
       have n2_:=asd_ (below_step wb_ hb)
       clear HO_3
       clear BK150
       clear HB
       have HO_3:=n0_
       have BK150:=n1_
       have HB:=n2_
       clear n0_ n1_ n2_
       (try clear hb)
       (try clear hb2)
       (try clear hk)
       (try clear hi)
       refine hK.out _ _ ⟨(blk_cell BK150.out 0).trans rfl,(blk_cell BK150.out 1).trans rfl,(blk_cell BK150.out 2).trans rfl,(blk_cell BK150.out 3).trans rfl,(blk_cell BK150.out 4).trans rfl,(blk_cell BK150.out 5).trans rfl,((HB.out.cell (World.block_lt_of_cell? w _ hw151_0)).trans hw151_0)⟩ (fun hHeld=> ?_)
       clear hK K
       refine norm_ (a':= ?_) ?_ ?_
       rotate_left
       ·show Act.put _ (some 18) _=_
        simp only [Act.put,List.setIfInBounds_toArray,List.set_cons_zero,List.set_cons_succ,i64_w,i32_w]
        rfl
       refine pure_ (i:=8) (N:=some 20) (v:= ?_) (a':= ?_) #[true,true,true,true,true,true,true,true,true] rfl rfl (any_of HT_.out kr_) (fun _ _ _ h=>h) (Or.inl ⟨by rfl,?_⟩) ?_ ?_
       rotate_left
       ·intro w'
        go_simp
        with_reducible rfl
       rotate_left
       ·simp only [Act.put,List.setIfInBounds_toArray,List.set_cons_zero,List.set_cons_succ,i64_w,i32_w]
        rfl
       refine done_ (done_of HT_.out kr_) ?_
       try go_wp2_with (first|((with_reducible refine gate_builtin (b:= .append) (xs:=#[.tmp 21,.tmp 23]) rfl ?_);at_builtin;refine Kd.R_append (Kd.int .i64) (w0:=w) w.heap.size rfl (.tmp 21) (.tmp 23) 33 3 (.int .i64 0) 8 rfl Tryz.underlying33 info3 rfl (by decide) (by omega) u3 x3_1 x4_1 [.int .i64 x4_1] (fun _=>True) (fun _=>False) rfl rfl ?aP (fun _ hk=>hk.elim) ?aF ?aO ?aB ?aS ?aL ?_;(case aP=>exact rfl);(case aB=>exact wb_);(case aF=>exact (fun _ _=>trivial));(case aO=>exact (by (with_reducible repeat (first|apply Kd.R_alloc|apply Kd.R_drewN|apply Kd.R_drew));exact HO_3.out));(case aS=>exact (below_size wb_));(case aL=>have:=LMc7.out;omega);intro v154 w11 ho hb hg hat;rw [← Ny153.out] at ho;have n0_:=asd_ (blk_grown (g:=gb150) (o:= .cells #[.int .i64 a0_0,.bool a0_1,.int .i64 a0_2,.string a0_3,.slice (some ad151) l0_4.length c0_4,.slice A0_5 l0_5.length c0_5] 25 (0,0)) bk_ hg (Kd.R_ne HO_3.out BK150.out (by decide)));have n1_:=asd_ (hb);have n2_:=asd_ (ho);clear BK150;clear HB;clear HO_3;have BK150:=n0_;have HB:=n1_;have HO155:=n2_;clear n0_ n1_ n2_;clear ho hb hg hat))
       go_roundg k1
       case measure=>have:=HK1.out;omega
       case rel=>exact ⟨(y153),(wrap64 (x4_1 + 1)),r1_,H',⟨by have:=HK1.out;omega⟩,⟨by (with_reducible repeat (first|apply Kd.R_alloc|apply Kd.R_drewN|apply Kd.R_drew));exact HO155.out⟩,⟨bk_⟩,⟨wb_⟩⟩
      ·rw [if_neg c7] at H
       exact absurd H (by simp)
     ·rw [if_neg c6] at H
      have c6b0:=beq_eq_false_iff_ne.mpr c6
      have c6b1:=bne_iff_ne.mpr c6
      have H':=asd_ H
      clear H
      have hc12_0:=cb_ BK150.out
      try go_wp2
      have n0_:=asd_ (Kd.R_drew HO_3.out)
      have n1_:=asd_ (blk_drew BK150.out)
      have n2_:=asd_ (below_drew1 HB.out)
      clear HO_3
      clear BK150
      clear HB
      have HO_3:=n0_
      have BK150:=n1_
      have HB:=n2_
      clear n0_ n1_ n2_
      have p151:0≤(x4_1:Int):=of_decide_eq_true as_
      have q151:x4_1 < (l0_4.length:Int):=of_decide_eq_true as_
      obtain ⟨ad151,e151,hx151_0⟩:=Kd.at_string HR0_4.out x4_1 p151 q151
      have hw151_0:=hx151_0
      cases e151
      replace hx151_0:=(HB.out.cell (World.block_lt_of_cell? w _ hx151_0)).trans hx151_0
      replace p151:=eq_true p151
      replace q151:=eq_true q151
      refine start_ (n:=9) (S:=fun w'=>w'.cell? ⟨gb150,0,none⟩=some (.int .i64 a0_0)∧w'.cell? ⟨gb150,1,none⟩=some (.bool a0_1)∧w'.cell? ⟨gb150,2,none⟩=some (.int .i64 a0_2)∧w'.cell? ⟨gb150,3,none⟩=some (.string a0_3)∧w'.cell? ⟨gb150,4,none⟩=some (.slice (some ad151) l0_4.length c0_4)∧w'.cell? ⟨gb150,5,none⟩=some (.slice A0_5 l0_5.length c0_5)∧w'.cell? (ad151.add (x4_1).toNat)=some (.string (rdOf ByteArray.empty l0_4 x4_1))) (ds:=[]) #[false,false,false,false,false,false,false,false,false] kr_ rfl rfl ⟨(blk_cell BK150.out 0).trans rfl,(blk_cell BK150.out 1).trans rfl,(blk_cell BK150.out 2).trans rfl,(blk_cell BK150.out 3).trans rfl,(blk_cell BK150.out 4).trans rfl,(blk_cell BK150.out 5).trans rfl,((HB.out.cell (World.block_lt_of_cell? w _ hw151_0)).trans hw151_0)⟩ (fun hHeld=> ?_);refine with_tabW spec_JMembers.tab5 spec_JMembers.bits5 (fun HT_ HW_=> ?_)
      generalize wr.drew=w13 at HO_3 BK150 HB hx151_0 hHeld ⊢
      refine pure_ (i:=1) (N:=some 13) (v:= ?_) (a':= ?_) #[false,true,false,false,false,false,false,false,false] rfl rfl (any_of HT_.out kr_) (fun _ _ _ h=>h) (Or.inl ⟨by rfl,?_⟩) ?_ ?_
      rotate_left
      ·intro w'
       go_simp
       with_reducible rfl
      rotate_left
      ·simp only [Act.put,List.setIfInBounds_toArray,List.set_cons_zero,List.set_cons_succ,i64_w,i32_w]
       rfl
      refine pure_ (i:=3) (N:=some 15) (v:= ?_) (a':= ?_) #[false,true,false,true,false,false,false,false,false] rfl rfl (any_of HT_.out kr_) (fun _ _ _ h=>h) (Or.inl ⟨by rfl,?_⟩) ?_ ?_
      rotate_left
      ·intro w'
       go_simp
       with_reducible rfl
      rotate_left
      ·simp only [Act.put,List.setIfInBounds_toArray,List.set_cons_zero,List.set_cons_succ,i64_w,i32_w]
       rfl
      refine pure_ (i:=7) (N:=some 19) (v:= ?_) (a':= ?_) #[false,true,false,true,false,false,false,true,false] rfl rfl (any_of HT_.out kr_) (fun _ _ _ h=>h) (Or.inl ⟨by rfl,?_⟩) ?_ ?_
      rotate_left
      ·intro w'
       go_simp
       with_reducible rfl
      rotate_left
      ·simp only [Act.put,List.setIfInBounds_toArray,List.set_cons_zero,List.set_cons_succ,i64_w,i32_w]
       rfl
      refine take_ (i:=0) (N:=some 12) (v:= ?_) (a':= ?_) #[true,true,false,true,false,false,false,true,false] rfl rfl (take_ofW HT_.out HW_.out kr_) (fun _ _ _ h=>h) (Or.inl ⟨by rfl,?_⟩) hHeld ?_ ?_
      rotate_left
      ·rintro w' ⟨s0,s1,s2,s3,s4,s5,s6⟩
       go_simp
       with_reducible rfl
      rotate_left
      ·simp only [Act.put,List.setIfInBounds_toArray,List.set_cons_zero,List.set_cons_succ,i64_w,i32_w]
       rfl
      refine take_ (i:=2) (N:=some 14) (v:= ?_) (a':= ?_) #[true,true,true,true,false,false,false,true,false] rfl rfl (take_ofW HT_.out HW_.out kr_) (fun _ _ _ h=>h) (Or.inl ⟨by rfl,?_⟩) hHeld ?_ ?_
      rotate_left
      ·rintro w' ⟨s0,s1,s2,s3,s4,s5,s6⟩
       go_simp
       with_reducible rfl
      rotate_left
      ·simp only [Act.put,List.setIfInBounds_toArray,List.set_cons_zero,List.set_cons_succ,i64_w,i32_w]
       rfl
      refine pure_ (i:=4) (N:=some 16) (v:= ?_) (a':= ?_) #[true,true,true,true,true,false,false,true,false] rfl rfl (any_of HT_.out kr_) (fun _ _ _ h=>h) (Or.inl ⟨by rfl,?_⟩) ?_ ?_
      rotate_left
      ·intro w'
       go_simp
       with_reducible rfl
      rotate_left
      ·simp only [Act.put,List.setIfInBounds_toArray,List.set_cons_zero,List.set_cons_succ,i64_w,i32_w]
       rfl
      refine take_ (i:=5) (N:=some 17) (v:= ?_) (a':= ?_) #[true,true,true,true,true,true,false,true,false] rfl rfl (take_ofW HT_.out HW_.out kr_) (fun _ _ _ h=>h) (Or.inl ⟨by rfl,?_⟩) hHeld ?_ ?_
      rotate_left
      ·rintro w' ⟨s0,s1,s2,s3,s4,s5,s6⟩
       go_simp
       with_reducible rfl
      rotate_left
      ·simp only [Act.put,List.setIfInBounds_toArray,List.set_cons_zero,List.set_cons_succ,i64_w,i32_w]
       rfl
      refine one_ (i:=6) (N:=some 18) #[true,true,true,true,true,true,true,true,false] rfl rfl (one_of HT_.out kr_) (by decide) (fun K hK=> ?_)
      refine goes_ Tryz.func65 kr_ rfl #[.agg #[.int .i64 a0_0,.bool a0_1,.int .i64 a0_2,.string a0_3,.slice (some ad151) l0_4.length c0_4,.slice A0_5 l0_5.length c0_5],.string (rdOf ByteArray.empty l0_4 x4_1)] (by rfl) rfl rfl ap_ ?_
      with_reducible refine (spec_JMember.calls k1 a0_0 a0_1 a0_2 a0_3 _ _ l0_4 _ _ l0_5 (rdOf ByteArray.empty l0_4 x4_1) t152 _ ?side1 ?side2 ?side3 ?side4 A5.out).mono ?_
      (case side1=>repeat (first|exact (Kd.C_below HR0_4.out HB.out)|(with_reducible refine Kd.C_alloc ?_ _)|(with_reducible refine Kd.C_drewN ?_ _)|(with_reducible refine Kd.C_drew ?_)))
      (case side2=>exact HC0_4.out)
      (case side3=>repeat (first|exact (Kd.C_below HR0_5.out HB.out)|(with_reducible refine Kd.C_alloc ?_ _)|(with_reducible refine Kd.C_drewN ?_ _)|(with_reducible refine Kd.C_drew ?_)))
      (case side4=>exact HC0_5.out)
      rintro e w14 ⟨rfl,hb⟩
      refine ⟨_,rfl,?_⟩
      have n0_:=asd_ (Kd.R_below (by (with_reducible repeat (first|apply Kd.R_alloc|apply Kd.R_drewN|apply Kd.R_drew));exact HO_3.out) hb)
      have n1_:=asd_ (blk_below (g:=gb150) (o:= .cells #[.int .i64 a0_0,.bool a0_1,.int .i64 a0_2,.string a0_3,.slice (some ad151) l0_4.length c0_4,.slice A0_5 l0_5.length c0_5] 25 (0,0)) bk_ hb)
      have n2_:=asd_ (below_step wb_ hb)
      clear HO_3
      clear BK150
      clear HB
      have HO_3:=n0_
      have BK150:=n1_
      have HB:=n2_
      clear n0_ n1_ n2_
      (try clear hb)
      (try clear hb2)
      (try clear hk)
      (try clear hi)
      refine hK.out _ _ ⟨(blk_cell BK150.out 0).trans rfl,(blk_cell BK150.out 1).trans rfl,(blk_cell BK150.out 2).trans rfl,(blk_cell BK150.out 3).trans rfl,(blk_cell BK150.out 4).trans rfl,(blk_cell BK150.out 5).trans rfl,((HB.out.cell (World.block_lt_of_cell? w _ hw151_0)).trans hw151_0)⟩ (fun hHeld=> ?_)
      clear hK K
      refine norm_ (a':= ?_) ?_ ?_
      rotate_left
      ·show Act.put _ (some 18) _=_
       simp only [Act.put,List.setIfInBounds_toArray,List.set_cons_zero,List.set_cons_succ,i64_w,i32_w]
       rfl
      refine pure_ (i:=8) (N:=some 20) (v:= ?_) (a':= ?_) #[true,true,true,true,true,true,true,true,true] rfl rfl (any_of HT_.out kr_) (fun _ _ _ h=>h) (Or.inl ⟨by rfl,?_⟩) ?_ ?_
      rotate_left
      ·intro w'
       go_simp
       with_reducible rfl
      rotate_left
      ·simp only [Act.put,List.setIfInBounds_toArray,List.set_cons_zero,List.set_cons_succ,i64_w,i32_w]
       rfl
      refine done_ (done_of HT_.out kr_) ?_
      try go_wp2
      go_roundg k1
      case measure=>have:=HK1.out;omega
      case rel=>exact ⟨(x3_1),(wrap64 (x4_1 + 1)),r1_,H',⟨by have:=HK1.out;omega⟩,⟨by (with_reducible repeat (first|apply Kd.R_alloc|apply Kd.R_drewN|apply Kd.R_drew));exact HO_3.out⟩,⟨bk_⟩,⟨wb_⟩⟩
    ·rw [if_neg c4] at H
     exact absurd H (by simp)
   ·rw [if_neg c3] at H
    have c3b0:=decide_eq_false c3
    clear c3
    obtain rfl:=Option.some.inj H
    have hc15_0:=cb_ BK150.out
    go_wp2
    go_ret
    exact ⟨_,er_,by (with_reducible repeat (first|apply Kd.R_alloc|apply Kd.R_drewN|apply Kd.R_drew));exact HO_3.out,wb_⟩
end Go.Proofs.YtkphbhncpdcbeaaGreatDoor.PJT
