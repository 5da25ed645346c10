/- Part. -/
import Derived.Test.YtkphbhncpdcbeaaGreatDoorQAH
set_option linter.unusedVariables false
set_option linter.unusedSimpArgs false
set_option maxHeartbeats 8000000
set_option maxRecDepth 100000
namespace Go.Proofs.YtkphbhncpdcbeaaGreatDoor.PJT
open Go.RowKit YtkphbhncpdcbeaaGreatDoorW.PrintWords YtkphbhncpdcbeaaGreatDoorW.PrintLast YtkphbhncpdcbeaaGreatDoorW.PrintMore
attribute [local go_sem] max2_int min2_int max_two min_two max_three min_three max_four min_four
def laws_zzFits4.l0:Nat→List ByteArray→Int→Int→Option (Bool)
 |0,_,_,_=>none
 |k + 1,x8,x9,x10=>if x10 < x9 then (if 0≤x10 then (if x10 < (x8.length:Int) then (if ((rdOf ByteArray.empty x8 x10).size:Int) > 2147483647 then (some false) else (laws_zzFits4.l0 k x8 x9 (wrap64 (x10 + 1)))) else (none)) else (none)) else (some true)
def laws_zzFits4.f (k:Nat) (l0:List ByteArray):Option (Bool):=if (l0.length:Int) > 2147483647 then (some false) else (laws_zzFits4.l0 k l0 (l0.length:Int) 0)
theorem laws_zzFits4.calls (k:Nat) (A0:Option Addr) (c0:Nat) (l0:List ByteArray) (r:Bool) (w:World) (hr0:Kd.C Kd.string w A0 l0.length l0) (hc0:l0.length≤c0) (h:laws_zzFits4.f k l0=some r):
  Calls Tryz.prog 5 #[.slice A0 l0.length c0] w fun e w'=>e= .returned (.bool r)∧Drawn0 w w':=by
 have HR0:=asd_ hr0
 have HC0:=asd_ hc0
 clear hr0 hc0
 have H:(if (l0.length:Int) > 2147483647 then (some false) else (laws_zzFits4.l0 k l0 (l0.length:Int) 0))=some r:=h
 clear h
 by_cases c2:(l0.length:Int) > 2147483647
 ·rw [if_pos c2] at H
  have c2b0:=decide_eq_true c2
  have c2b1:decide (2147483647 < l0.length)=true:=decide_eq_true (by omega)
  clear c2
  obtain rfl:=Option.some.inj H
  go_enter Tryz.func5,Tryz.ntmps5
  go_wp2
  go_ret
  exact ⟨r1_,dr_⟩
 ·rw [if_neg c2] at H
  have c2b0:=decide_eq_false c2
  have c2b1:decide (2147483647 < l0.length)=false:=decide_eq_false (by omega)
  clear c2
  have H':=asd_ H
  clear H
  go_enter Tryz.func5,Tryz.ntmps5
  go_wp2
  go_loopg [10] k (fun kq v10 w'=>∃ (x10_1:Int),v10= .int .i64 x10_1∧Aside0 (laws_zzFits4.l0 kq l0 (l0.length:Int) x10_1=some r)∧Aside0 (kq≤k)∧Drawn0 w w')
  case atStart=>exact ⟨(0),r1_,H',⟨Nat.le_refl _⟩,dr_⟩
  case round=>
   clear H'
   obtain ⟨x10_1,rfl,HA,HK1,⟨m1,rfl⟩⟩:=hrel
   cases gk with
   |zero=>exact absurd HA.out (by simp [laws_zzFits4.l0])
   |succ k1=>
    have H:=HA.out
    clear HA
    simp only [laws_zzFits4.l0] at H
    by_cases c3:x10_1 < (l0.length:Int)
    ·rw [if_pos c3] at H
     have c3b0:=decide_eq_true c3
     clear c3
     by_cases c4:0≤x10_1
     ·rw [if_pos c4] at H
      have c4b0:=decide_eq_true c4
      clear c4
      by_cases c5:x10_1 < (l0.length:Int)
      ·rw [if_pos c5] at H
       have c5b0:=decide_eq_true c5
       clear c5
       by_cases c6:((rdOf ByteArray.empty l0 x10_1).size:Int) > 2147483647
       ·rw [if_pos c6] at H
        have c6b0:=decide_eq_true c6
        have c6b1:decide (2147483647 < (rdOf ByteArray.empty l0 x10_1).size)=true:=decide_eq_true (by omega)
        clear c6
        obtain rfl:=Option.some.inj H
        have p101:0≤(x10_1:Int):=of_decide_eq_true as_
        have q101:x10_1 < (l0.length:Int):=of_decide_eq_true as_
        obtain ⟨ad101,e101,hx101_0⟩:=Kd.at_string HR0.out x10_1 p101 q101
        cases e101
        replace p101:=eq_true p101
        replace q101:=eq_true q101
        go_wp2
        go_ret
        exact ⟨r1_,dr_⟩
       ·rw [if_neg c6] at H
        have c6b0:=decide_eq_false c6
        have c6b1:decide (2147483647 < (rdOf ByteArray.empty l0 x10_1).size)=false:=decide_eq_false (by omega)
        clear c6
        have H':=asd_ H
        clear H
        have p101:0≤(x10_1:Int):=of_decide_eq_true as_
        have q101:x10_1 < (l0.length:Int):=of_decide_eq_true as_
        obtain ⟨ad101,e101,hx101_0⟩:=Kd.at_string HR0.out x10_1 p101 q101
        cases e101
        replace p101:=eq_true p101
        replace q101:=eq_true q101
        go_wp2
        go_roundg k1
        case measure=>have:=HK1.out;omega
        case rel=>exact ⟨(wrap64 (x10_1 + 1)),r1_,H',⟨by have:=HK1.out;omega⟩,dr_⟩
      ·rw [if_neg c5] at H
       exact absurd H (by simp)
     ·rw [if_neg c4] at H
      exact absurd H (by simp)
    ·rw [if_neg c3] at H
     have c3b0:=decide_eq_false c3
     clear c3
     obtain rfl:=Option.some.inj H
     go_wp2
     go_ret
     exact ⟨r1_,dr_⟩
def laws_zzFits5.f (k:Nat) (a0_0:Int) (a0_1:Bool) (a0_2:Int) (a0_3:ByteArray) (l0_4:List ByteArray) (l0_5:List (S25)):Option (Bool):=if (a0_3.size:Int) > 2147483647 then (some false) else ((laws_zzFits4.f k l0_4).bind fun t103=>(if t103=true then (if (l0_5.length:Int) > 2147483647 then (some false) else (some true)) else (some false)))
theorem laws_zzFits5.calls (k:Nat) (a0_0:Int) (a0_1:Bool) (a0_2:Int) (a0_3:ByteArray) (A0_4:Option Addr) (c0_4:Nat) (l0_4:List ByteArray) (A0_5:Option Addr) (c0_5:Nat) (l0_5:List (S25)) (r:Bool) (w:World) (hr0_4:Kd.C Kd.string w A0_4 l0_4.length l0_4) (hc0_4:l0_4.length≤c0_4) (hr0_5:Kd.C k25 w A0_5 l0_5.length l0_5) (hc0_5:l0_5.length≤c0_5) (h:laws_zzFits5.f k a0_0 a0_1 a0_2 a0_3 l0_4 l0_5=some r):
  Calls Tryz.prog 6 #[.agg #[.int .i64 a0_0,.bool a0_1,.int .i64 a0_2,.string a0_3,.slice A0_4 l0_4.length c0_4,.slice A0_5 l0_5.length c0_5]] w fun e w'=>e= .returned (.bool r)∧Below w.heap.size w w':=by
 have hu25:=Tryz.underlying25
 have HR0_4:=asd_ hr0_4
 have HC0_4:=asd_ hc0_4
 clear hr0_4 hc0_4
 have HR0_5:=asd_ hr0_5
 have HC0_5:=asd_ hc0_5
 clear hr0_5 hc0_5
 have HB:=asd_ (Below.refl w.heap.size w)
 have H:(if (a0_3.size:Int) > 2147483647 then (some false) else ((laws_zzFits4.f k l0_4).bind fun t103=>(if t103=true then (if (l0_5.length:Int) > 2147483647 then (some false) else (some true)) else (some false))))=some r:=h
 clear h
 by_cases c2:(a0_3.size:Int) > 2147483647
 ·rw [if_pos c2] at H
  have c2b0:=decide_eq_true c2
  have c2b1:decide (2147483647 < a0_3.size)=true:=decide_eq_true (by omega)
  clear c2
  obtain rfl:=Option.some.inj H
  go_enter Tryz.func6,Tryz.ntmps6
  go_wp2_with (first|((with_reducible refine gate_dst (N:=1) rfl ?_);refine box_event ?hg (N:=1) ?hd (cs:=#[.int .i64 a0_0,.bool a0_1,.int .i64 a0_2,.string a0_3,.slice A0_4 l0_4.length c0_4,.slice A0_5 l0_5.length c0_5]) (t:=25) ?hr ?_;(case hd=>rfl);(case hg=>rfl);(case hr=>first|(go_simp;done)|(go_simp;rfl));intro gb102 hg w3 hbox hb;have n0_:=asd_ (below_step wb_ hb);have n1_:=asd_ (hbox);have n2_:=asd_ ((by rw [hg];exact (below_size wb_):w.heap.size≤gb102));have n3_:=asd_ ((by rw [hg];exact (below_size wb_):w.heap.size≤gb102));clear HB;have HB:=n0_;have BK102:=n1_;have GW102:=n2_;have GE102:=n3_;clear n0_ n1_ n2_ n3_;clear hb hbox hg;have hc4_0:=cb_ BK102.out))
  go_ret
  exact ⟨er_,wb_⟩
 ·rw [if_neg c2] at H
  have c2b0:=decide_eq_false c2
  have c2b1:decide (2147483647 < a0_3.size)=false:=decide_eq_false (by omega)
  clear c2
  replace H:=Option.bind_eq_some_iff.mp H
  obtain ⟨t103,A50,H⟩:=H
  replace H:(if t103=true then (if (l0_5.length:Int) > 2147483647 then (some false) else (some true)) else (some false))=some r:=H
  have A5:=asd_ A50
  clear A50
  by_cases c6:t103=true
  ·subst c6
   have H1:(if (l0_5.length:Int) > 2147483647 then (some false) else (some true))=some r:=by rw [if_pos rfl] at H;exact H
   clear H
   have H:=H1
   clear H1
   by_cases c7:(l0_5.length:Int) > 2147483647
   ·rw [if_pos c7] at H
    have c7b0:=decide_eq_true c7
    have c7b1:decide (2147483647 < l0_5.length)=true:=decide_eq_true (by omega)
    clear c7
    obtain rfl:=Option.some.inj H
    go_enter Tryz.func6,Tryz.ntmps6
    go_wp2_with (first|((with_reducible refine gate_dst (N:=1) rfl ?_);refine box_event ?hg (N:=1) ?hd (cs:=#[.int .i64 a0_0,.bool a0_1,.int .i64 a0_2,.string a0_3,.slice A0_4 l0_4.length c0_4,.slice A0_5 l0_5.length c0_5]) (t:=25) ?hr ?_;(case hd=>rfl);(case hg=>rfl);(case hr=>first|(go_simp;done)|(go_simp;rfl));intro gb102 hg w8 hbox hb;have n0_:=asd_ (below_step wb_ hb);have n1_:=asd_ (hbox);have n2_:=asd_ ((by rw [hg];exact (below_size wb_):w.heap.size≤gb102));have n3_:=asd_ ((by rw [hg];exact (below_size wb_):w.heap.size≤gb102));clear HB;have HB:=n0_;have BK102:=n1_;have GW102:=n2_;have GE102:=n3_;clear n0_ n1_ n2_ n3_;clear hb hbox hg;have hc9_0:=cb_ BK102.out)|((with_reducible refine gate_callee (f:=5) rfl ?_);refine goesL_ (some 9) rfl rfl Tryz.func5 kr_ rfl #[.slice A0_4 l0_4.length c0_4] rfl ap_ ?_;(with_reducible refine (laws_zzFits4.calls k _ _ l0_4 true _ ?side1 ?side2 A5.out).mono ?_);(case side1=>repeat (first|exact (Kd.C_below HR0_4.out HB.out)|(with_reducible refine Kd.C_alloc ?_ _)|(with_reducible refine Kd.C_drewN ?_ _)|(with_reducible refine Kd.C_drew ?_)));(case side2=>exact HC0_4.out);rintro e w' ⟨rfl,⟨nd,rfl⟩⟩;refine ⟨_,rfl,?_⟩))
    go_ret
    exact ⟨er_,wb_⟩
   ·rw [if_neg c7] at H
    have c7b0:=decide_eq_false c7
    have c7b1:decide (2147483647 < l0_5.length)=false:=decide_eq_false (by omega)
    clear c7
    obtain rfl:=Option.some.inj H
    go_enter Tryz.func6,Tryz.ntmps6
    go_wp2_with (first|((with_reducible refine gate_dst (N:=1) rfl ?_);refine box_event ?hg (N:=1) ?hd (cs:=#[.int .i64 a0_0,.bool a0_1,.int .i64 a0_2,.string a0_3,.slice A0_4 l0_4.length c0_4,.slice A0_5 l0_5.length c0_5]) (t:=25) ?hr ?_;(case hd=>rfl);(case hg=>rfl);(case hr=>first|(go_simp;done)|(go_simp;rfl));intro gb102 hg w10 hbox hb;have n0_:=asd_ (below_step wb_ hb);have n1_:=asd_ (hbox);have n2_:=asd_ ((by rw [hg];exact (below_size wb_):w.heap.size≤gb102));have n3_:=asd_ ((by rw [hg];exact (below_size wb_):w.heap.size≤gb102));clear HB;have HB:=n0_;have BK102:=n1_;have GW102:=n2_;have GE102:=n3_;clear n0_ n1_ n2_ n3_;clear hb hbox hg;have hc11_0:=cb_ BK102.out)|((with_reducible refine gate_callee (f:=5) rfl ?_);refine goesL_ (some 9) rfl rfl Tryz.func5 kr_ rfl #[.slice A0_4 l0_4.length c0_4] rfl ap_ ?_;(with_reducible refine (laws_zzFits4.calls k _ _ l0_4 true _ ?side1 ?side2 A5.out).mono ?_);(case side1=>repeat (first|exact (Kd.C_below HR0_4.out HB.out)|(with_reducible refine Kd.C_alloc ?_ _)|(with_reducible refine Kd.C_drewN ?_ _)|(with_reducible refine Kd.C_drew ?_)));(case side2=>exact HC0_4.out);rintro e w' ⟨rfl,⟨nd,rfl⟩⟩;refine ⟨_,rfl,?_⟩))
    go_ret
    exact ⟨er_,wb_⟩
  ·replace c6:=Bool.eq_false_iff.mpr c6
   subst c6
   have H1:(some false)=some r:=by rw [if_neg (show ¬ (false=true) by decide)] at H;exact H
   clear H
   have H:=H1
   clear H1
   obtain rfl:=Option.some.inj H
   go_enter Tryz.func6,Tryz.ntmps6
   go_wp2_with (first|((with_reducible refine gate_dst (N:=1) rfl ?_);refine box_event ?hg (N:=1) ?hd (cs:=#[.int .i64 a0_0,.bool a0_1,.int .i64 a0_2,.string a0_3,.slice A0_4 l0_4.length c0_4,.slice A0_5 l0_5.length c0_5]) (t:=25) ?hr ?_;(case hd=>rfl);(case hg=>rfl);(case hr=>first|(go_simp;done)|(go_simp;rfl));intro gb102 hg w12 hbox hb;have n0_:=asd_ (below_step wb_ hb);have n1_:=asd_ (hbox);have n2_:=asd_ ((by rw [hg];exact (below_size wb_):w.heap.size≤gb102));have n3_:=asd_ ((by rw [hg];exact (below_size wb_):w.heap.size≤gb102));clear HB;have HB:=n0_;have BK102:=n1_;have GW102:=n2_;have GE102:=n3_;clear n0_ n1_ n2_ n3_;clear hb hbox hg;have hc13_0:=cb_ BK102.out)|((with_reducible refine gate_callee (f:=5) rfl ?_);refine goesL_ (some 9) rfl rfl Tryz.func5 kr_ rfl #[.slice A0_4 l0_4.length c0_4] rfl ap_ ?_;(with_reducible refine (laws_zzFits4.calls k _ _ l0_4 false _ ?side1 ?side2 A5.out).mono ?_);(case side1=>repeat (first|exact (Kd.C_below HR0_4.out HB.out)|(with_reducible refine Kd.C_alloc ?_ _)|(with_reducible refine Kd.C_drewN ?_ _)|(with_reducible refine Kd.C_drew ?_)));(case side2=>exact HC0_4.out);rintro e w' ⟨rfl,⟨nd,rfl⟩⟩;refine ⟨_,rfl,?_⟩))
   go_ret
   exact ⟨er_,wb_⟩
def spec_JAmong.l0:Nat→ByteArray→List ByteArray→Int→Option (Bool)
 |0,_,_,_=>none
 |k + 1,x0,x1,x5=>if x5 < (x1.length:Int) then (if 0≤x5 then (if (rdOf ByteArray.empty x1 x5).toList=x0.toList then (some true) else (spec_JAmong.l0 k x0 x1 (wrap64 (x5 + 1)))) else (none)) else (some false)
def spec_JAmong.f (k:Nat) (a0:ByteArray) (l1:List ByteArray):Option (Bool):=spec_JAmong.l0 k a0 l1 0
theorem spec_JAmong.calls (k:Nat) (a0:ByteArray) (A1:Option Addr) (c1:Nat) (l1:List ByteArray) (r:Bool) (w:World) (hr1:Kd.C Kd.string w A1 l1.length l1) (hc1:l1.length≤c1) (h:spec_JAmong.f k a0 l1=some r):
  Calls Tryz.prog 21 #[.string a0,.slice A1 l1.length c1] w fun e w'=>e= .returned (.bool r)∧Drawn0 w w':=by
 have HR1:=asd_ hr1
 have HC1:=asd_ hc1
 clear hr1 hc1
 have H:(spec_JAmong.l0 k a0 l1 0)=some r:=h
 clear h
 have H':=asd_ H
 clear H
 go_enter Tryz.func21,Tryz.ntmps21
 go_wp2
 go_loopg [5] k (fun kq v5 w'=>∃ (x5_1:Int),v5= .int .i64 x5_1∧Aside0 (spec_JAmong.l0 kq a0 l1 x5_1=some r)∧Aside0 (kq≤k)∧Drawn0 w w')
 case atStart=>exact ⟨(0),r1_,H',⟨Nat.le_refl _⟩,dr_⟩
 case round=>
  clear H'
  obtain ⟨x5_1,rfl,HA,HK1,⟨m1,rfl⟩⟩:=hrel
  cases gk with
  |zero=>exact absurd HA.out (by simp [spec_JAmong.l0])
  |succ k1=>
   have H:=HA.out
   clear HA
   simp only [spec_JAmong.l0] at H
   by_cases c3:x5_1 < (l1.length:Int)
   ·rw [if_pos c3] at H
    have c3b0:=decide_eq_true c3
    clear c3
    by_cases c4:0≤x5_1
    ·rw [if_pos c4] at H
     have c4b0:=decide_eq_true c4
     clear c4
     by_cases c5:(rdOf ByteArray.empty l1 x5_1).toList=a0.toList
     ·rw [if_pos c5] at H
      have c5b0:=beq_iff_eq.mpr c5
      have c5b1:=bne_eq_false_iff_eq.mpr c5
      clear c5
      obtain rfl:=Option.some.inj H
      have p104:0≤(x5_1:Int):=of_decide_eq_true as_
      have q104:x5_1 < (l1.length:Int):=of_decide_eq_true as_
      obtain ⟨ad104,e104,hx104_0⟩:=Kd.at_string HR1.out x5_1 p104 q104
      cases e104
      replace p104:=eq_true p104
      replace q104:=eq_true q104
      go_wp2
      go_ret
      exact ⟨r1_,dr_⟩
     ·rw [if_neg c5] at H
      have c5b0:=beq_eq_false_iff_ne.mpr c5
      have c5b1:=bne_iff_ne.mpr c5
      have H':=asd_ H
      clear H
      have p104:0≤(x5_1:Int):=of_decide_eq_true as_
      have q104:x5_1 < (l1.length:Int):=of_decide_eq_true as_
      obtain ⟨ad104,e104,hx104_0⟩:=Kd.at_string HR1.out x5_1 p104 q104
      cases e104
      replace p104:=eq_true p104
      replace q104:=eq_true q104
      go_wp2
      go_roundg k1
      case measure=>have:=HK1.out;omega
      case rel=>exact ⟨(wrap64 (x5_1 + 1)),r1_,H',⟨by have:=HK1.out;omega⟩,dr_⟩
    ·rw [if_neg c4] at H
     exact absurd H (by simp)
   ·rw [if_neg c3] at H
    have c3b0:=decide_eq_false c3
    clear c3
    obtain rfl:=Option.some.inj H
    go_wp2
    go_ret
    exact ⟨r1_,dr_⟩
end Go.Proofs.YtkphbhncpdcbeaaGreatDoor.PJT
