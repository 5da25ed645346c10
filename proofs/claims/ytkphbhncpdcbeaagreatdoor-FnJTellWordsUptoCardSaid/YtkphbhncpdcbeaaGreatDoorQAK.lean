/- Part. -/
import Derived.Test.YtkphbhncpdcbeaaGreatDoorQAH
set_option linter.unusedVariables false
set_option linter.unusedSimpArgs false
set_option maxHeartbeats 8000000
set_option maxRecDepth 100000
namespace Go.Proofs.YtkphbhncpdcbeaaGreatDoor.PJT
open Go.RowKit YtkphbhncpdcbeaaGreatDoorW.PrintWords YtkphbhncpdcbeaaGreatDoorW.PrintLast YtkphbhncpdcbeaaGreatDoorW.PrintMore
attribute [local go_sem] max2_int min2_int max_two min_two max_three min_three max_four min_four
mutual
def spec_jWidth.j3:Nat→ByteArray→Int→Int→Int→Int→Option (Int)
 |0,_,_,_,_,_=>none
 |k + 1,x0,x1,x6,x7,x8=>if (wrap64 (x1 + x6)) > (x0.size:Int) then (spec_jWidth.j4 k x0 x1 x6 true) else (if 0≤(wrap64 (x1 + 1)) then (if (wrap64 (x1 + 1)) < (x0.size:Int) then (if (bt x0 (wrap64 (x1 + 1))) < x7 then (spec_jWidth.j4 k x0 x1 x6 true) else (spec_jWidth.j4 k x0 x1 x6 (decide ((bt x0 (wrap64 (x1 + 1))) > x8)))) else (none)) else (none))
def spec_jWidth.j4:Nat→ByteArray→Int→Int→Bool→Option (Int)
 |0,_,_,_,_=>none
 |k + 1,x0,x1,x6,x66=>if x66=true then (some 0) else (spec_jWidth.l0 k x0 x1 x6 2)
def spec_jWidth.l0:Nat→ByteArray→Int→Int→Int→Option (Int)
 |0,_,_,_,_=>none
 |k + 1,x0,x1,x6,x9=>if x9 < x6 then (if 0≤(wrap64 (x1 + x9)) then (if (wrap64 (x1 + x9)) < (x0.size:Int) then (if (bt x0 (wrap64 (x1 + x9))) < 128 then (some 0) else (if (bt x0 (wrap64 (x1 + x9))) > 191 then (some 0) else (spec_jWidth.l0 k x0 x1 x6 (wrap64 (x9 + 1))))) else (none)) else (none)) else (some x6)
def spec_jWidth.j0:Nat→ByteArray→Int→Int→Int→Int→Bool→Option (Int)
 |0,_,_,_,_,_,_=>none
 |k + 1,x0,x1,x5,x7,x8,x16=>if x16=true then (spec_jWidth.j3 k x0 x1 2 x7 x8) else (if x5 ≥ 224 then (spec_jWidth.j1 k x0 x1 x5 x7 x8 (decide (x5≤239))) else (spec_jWidth.j1 k x0 x1 x5 x7 x8 false))
def spec_jWidth.j1:Nat→ByteArray→Int→Int→Int→Int→Bool→Option (Int)
 |0,_,_,_,_,_,_=>none
 |k + 1,x0,x1,x5,x7,x8,x23=>if x23=true then (if x5=224 then (if x5=237 then (spec_jWidth.j3 k x0 x1 3 160 159) else (spec_jWidth.j3 k x0 x1 3 160 x8)) else (if x5=237 then (spec_jWidth.j3 k x0 x1 3 x7 159) else (spec_jWidth.j3 k x0 x1 3 x7 x8))) else (if x5 ≥ 240 then (spec_jWidth.j2 k x0 x1 x5 x7 x8 (decide (x5≤244))) else (spec_jWidth.j2 k x0 x1 x5 x7 x8 false))
def spec_jWidth.j2:Nat→ByteArray→Int→Int→Int→Int→Bool→Option (Int)
 |0,_,_,_,_,_,_=>none
 |k + 1,x0,x1,x5,x7,x8,x34=>if x34=true then (if x5=240 then (if x5=244 then (spec_jWidth.j3 k x0 x1 4 144 143) else (spec_jWidth.j3 k x0 x1 4 144 x8)) else (if x5=244 then (spec_jWidth.j3 k x0 x1 4 x7 143) else (spec_jWidth.j3 k x0 x1 4 x7 x8))) else (some 0)
end
def spec_jWidth.f (k:Nat) (a0:ByteArray) (a1:Int):Option (Int):=if 0≤a1 then (if a1 < (a0.size:Int) then (if (bt a0 a1) < 128 then (some 1) else (if (bt a0 a1) ≥ 194 then (spec_jWidth.j0 k a0 a1 (bt a0 a1) 128 191 (decide ((bt a0 a1)≤223))) else (spec_jWidth.j0 k a0 a1 (bt a0 a1) 128 191 false))) else (none)) else (none)
theorem spec_jWidth.calls (k:Nat) (a0:ByteArray) (a1:Int) (r:Int) (w:World) (h:spec_jWidth.f k a0 a1=some r):
  Calls Tryz.prog 47 #[.string a0,.int .i64 a1] w fun e w'=>e= .returned (.int .i64 r)∧Drawn0 w w':=by
 have H:(if 0≤a1 then (if a1 < (a0.size:Int) then (if (bt a0 a1) < 128 then (some 1) else (if (bt a0 a1) ≥ 194 then (spec_jWidth.j0 k a0 a1 (bt a0 a1) 128 191 (decide ((bt a0 a1)≤223))) else (spec_jWidth.j0 k a0 a1 (bt a0 a1) 128 191 false))) else (none)) else (none))=some r:=h
 clear h
 by_cases c3:0≤a1
 ·rw [if_pos c3] at H
  have c3b0:=decide_eq_true c3
  clear c3
  by_cases c4:a1 < (a0.size:Int)
  ·rw [if_pos c4] at H
   have c4b0:=decide_eq_true c4
   clear c4
   have HC6:=asd_ H
   clear H
   have p5:0≤(a1:Int):=of_decide_eq_true as_
   have q5:a1 < (a0.size:Int):=of_decide_eq_true as_
   have hx5:=bt_at a0 a1
   replace p5:=eq_true p5
   replace q5:=eq_true q5
   go_enter Tryz.func47,Tryz.ntmps47
   go_upto_block 0 with (fail)
   go_cut [6,7,8] (fun v6 v7 v8 wc=>∃ (kq:Nat) (x6_5:Int) (x7_5:Int) (x8_5:Int),v6= .int .i64 x6_5∧v7= .int .u8 x7_5∧v8= .int .u8 x8_5∧Aside0 (spec_jWidth.j3 kq a0 a1 x6_5 x7_5 x8_5=some r)∧Aside0 (kq≤k)∧Drawn0 w wc)
   case first=>
    have H:=HC6.out
    clear HC6
    by_cases c7:(bt a0 a1) < 128
    ·rw [if_pos c7] at H
     have c7b0:=decide_eq_true c7
     clear c7
     (first|rw [c7b0]|(simp only [i64_w,i32_w];rw [c7b0])|skip)
     obtain rfl:=Option.some.inj H
     go_wp2
     go_ret
     exact ⟨r1_,dr_⟩
    ·rw [if_neg c7] at H
     have c7b0:=decide_eq_false c7
     clear c7
     (first|rw [c7b0]|(simp only [i64_w,i32_w];rw [c7b0])|skip)
     have HC8:=asd_ H
     clear H
     go_upto_region 7 with (fail)
     go_cut [16] (fun v16 wc=>∃ (kq:Nat) (x16_7:Bool),v16= .bool x16_7∧Aside0 (spec_jWidth.j0 kq a0 a1 (bt a0 a1) 128 191 x16_7=some r)∧Aside0 (kq≤k)∧Drawn0 w wc)
     case first=>
      have H:=HC8.out
      clear HC8
      by_cases c9:(bt a0 a1) ≥ 194
      ·rw [if_pos c9] at H
       have c9b0:=decide_eq_true c9
       clear c9
       (first|rw [c9b0]|(simp only [i64_w,i32_w];rw [c9b0])|skip)
       have H':=asd_ H
       clear H
       go_wp2
       go_meet
       case rel=>exact ⟨_,(decide ((bt a0 a1)≤223)),r1_,H',⟨by first|omega|exact Nat.le_refl _⟩,dr_⟩
      ·rw [if_neg c9] at H
       have c9b0:=decide_eq_false c9
       clear c9
       (first|rw [c9b0]|(simp only [i64_w,i32_w];rw [c9b0])|skip)
       have H':=asd_ H
       clear H
       go_wp2
       go_meet
       case rel=>exact ⟨_,(false),r1_,H',⟨by first|omega|exact Nat.le_refl _⟩,dr_⟩
     case rest=>
      clear HC8
      obtain ⟨kq,x16_7,rfl,HA,HJ7,⟨mc7,rfl⟩⟩:=hcut
      cases kq with
      |zero=>exact absurd HA.out (by simp [spec_jWidth.j0])
      |succ kj7=>
       have H:=HA.out
       clear HA
       simp only [spec_jWidth.j0] at H
       by_cases c10:x16_7=true
       ·subst c10
        have H1:(spec_jWidth.j3 kj7 a0 a1 2 128 191)=some r:=by rw [if_pos rfl] at H;exact H
        clear H
        have H:=H1
        clear H1
        have H':=asd_ H
        clear H
        go_wp2
        go_meet
        case rel=>exact ⟨_,(2),(128),(191),r1_,r1_,r1_,H',⟨by have:=HJ7.out;first|omega|exact Nat.le_refl _⟩,dr_⟩
       ·replace c10:=Bool.eq_false_iff.mpr c10
        subst c10
        have H1:(if (bt a0 a1) ≥ 224 then (spec_jWidth.j1 kj7 a0 a1 (bt a0 a1) 128 191 (decide ((bt a0 a1)≤239))) else (spec_jWidth.j1 kj7 a0 a1 (bt a0 a1) 128 191 false))=some r:=by rw [if_neg (show ¬ (false=true) by decide)] at H;exact H
        clear H
        have H:=H1
        clear H1
        have HC11:=asd_ H
        clear H
        go_upto_region 9 with (fail)
        go_cut [23] (fun v23 wc=>∃ (kq:Nat) (x23_10:Bool),v23= .bool x23_10∧Aside0 (spec_jWidth.j1 kq a0 a1 (bt a0 a1) 128 191 x23_10=some r)∧Aside0 (kq≤kj7)∧Drawn0 w wc)
        case first=>
         have H:=HC11.out
         clear HC11
         by_cases c12:(bt a0 a1) ≥ 224
         ·rw [if_pos c12] at H
          have c12b0:=decide_eq_true c12
          clear c12
          (first|rw [c12b0]|(simp only [i64_w,i32_w];rw [c12b0])|skip)
          have H':=asd_ H
          clear H
          go_wp2
          go_meet
          case rel=>exact ⟨_,(decide ((bt a0 a1)≤239)),r1_,H',⟨by have:=HJ7.out;first|omega|exact Nat.le_refl _⟩,dr_⟩
         ·rw [if_neg c12] at H
          have c12b0:=decide_eq_false c12
          clear c12
          (first|rw [c12b0]|(simp only [i64_w,i32_w];rw [c12b0])|skip)
          have H':=asd_ H
          clear H
          go_wp2
          go_meet
          case rel=>exact ⟨_,(false),r1_,H',⟨by have:=HJ7.out;first|omega|exact Nat.le_refl _⟩,dr_⟩
        case rest=>
         clear HC11
         obtain ⟨kq,x23_10,rfl,HA,HJ10,⟨mc10,rfl⟩⟩:=hcut
         cases kq with
         |zero=>exact absurd HA.out (by simp [spec_jWidth.j1])
         |succ kj10=>
          have H:=HA.out
          clear HA
          simp only [spec_jWidth.j1] at H
          by_cases c13:x23_10=true
          ·subst c13
           have H1:(if (bt a0 a1)=224 then (if (bt a0 a1)=237 then (spec_jWidth.j3 kj10 a0 a1 3 160 159) else (spec_jWidth.j3 kj10 a0 a1 3 160 191)) else (if (bt a0 a1)=237 then (spec_jWidth.j3 kj10 a0 a1 3 128 159) else (spec_jWidth.j3 kj10 a0 a1 3 128 191)))=some r:=by rw [if_pos rfl] at H;exact H
           clear H
           have H:=H1
           clear H1
           by_cases c14:(bt a0 a1)=224
           ·rw [if_pos c14] at H
            have c14b0:=beq_iff_eq.mpr c14
            have c14b1:=bne_eq_false_iff_eq.mpr c14
            clear c14
            by_cases c15:(bt a0 a1)=237
            ·rw [if_pos c15] at H
             have c15b0:=beq_iff_eq.mpr c15
             have c15b1:=bne_eq_false_iff_eq.mpr c15
             clear c15
             have H':=asd_ H
             clear H
             go_wp2
             go_meet
             case rel=>exact ⟨_,(3),(160),(159),r1_,r1_,r1_,H',⟨by have:=HJ7.out;have:=HJ10.out;first|omega|exact Nat.le_refl _⟩,dr_⟩
            ·rw [if_neg c15] at H
             have c15b0:=beq_eq_false_iff_ne.mpr c15
             have c15b1:=bne_iff_ne.mpr c15
             have H':=asd_ H
             clear H
             go_wp2
             go_meet
             case rel=>exact ⟨_,(3),(160),(191),r1_,r1_,r1_,H',⟨by have:=HJ7.out;have:=HJ10.out;first|omega|exact Nat.le_refl _⟩,dr_⟩
           ·rw [if_neg c14] at H
            have c14b0:=beq_eq_false_iff_ne.mpr c14
            have c14b1:=bne_iff_ne.mpr c14
            by_cases c16:(bt a0 a1)=237
            ·rw [if_pos c16] at H
             have c16b0:=beq_iff_eq.mpr c16
             have c16b1:=bne_eq_false_iff_eq.mpr c16
             clear c16
             have H':=asd_ H
             clear H
             go_wp2
             go_meet
             case rel=>exact ⟨_,(3),(128),(159),r1_,r1_,r1_,H',⟨by have:=HJ7.out;have:=HJ10.out;first|omega|exact Nat.le_refl _⟩,dr_⟩
            ·rw [if_neg c16] at H
             have c16b0:=beq_eq_false_iff_ne.mpr c16
             have c16b1:=bne_iff_ne.mpr c16
             have H':=asd_ H
             clear H
             go_wp2
             go_meet
             case rel=>exact ⟨_,(3),(128),(191),r1_,r1_,r1_,H',⟨by have:=HJ7.out;have:=HJ10.out;first|omega|exact Nat.le_refl _⟩,dr_⟩
          ·replace c13:=Bool.eq_false_iff.mpr c13
           subst c13
           have H1:(if (bt a0 a1) ≥ 240 then (spec_jWidth.j2 kj10 a0 a1 (bt a0 a1) 128 191 (decide ((bt a0 a1)≤244))) else (spec_jWidth.j2 kj10 a0 a1 (bt a0 a1) 128 191 false))=some r:=by rw [if_neg (show ¬ (false=true) by decide)] at H;exact H
           clear H
           have H:=H1
           clear H1
           have HC17:=asd_ H
           clear H
           go_upto_region 15 with (fail)
           go_cut [34] (fun v34 wc=>∃ (kq:Nat) (x34_16:Bool),v34= .bool x34_16∧Aside0 (spec_jWidth.j2 kq a0 a1 (bt a0 a1) 128 191 x34_16=some r)∧Aside0 (kq≤kj10)∧Drawn0 w wc)
           case first=>
            have H:=HC17.out
            clear HC17
            by_cases c18:(bt a0 a1) ≥ 240
            ·rw [if_pos c18] at H
             have c18b0:=decide_eq_true c18
             clear c18
             (first|rw [c18b0]|(simp only [i64_w,i32_w];rw [c18b0])|skip)
             have H':=asd_ H
             clear H
             go_wp2
             go_meet
             case rel=>exact ⟨_,(decide ((bt a0 a1)≤244)),r1_,H',⟨by have:=HJ7.out;have:=HJ10.out;first|omega|exact Nat.le_refl _⟩,dr_⟩
            ·rw [if_neg c18] at H
             have c18b0:=decide_eq_false c18
             clear c18
             (first|rw [c18b0]|(simp only [i64_w,i32_w];rw [c18b0])|skip)
             have H':=asd_ H
             clear H
             go_wp2
             go_meet
             case rel=>exact ⟨_,(false),r1_,H',⟨by have:=HJ7.out;have:=HJ10.out;first|omega|exact Nat.le_refl _⟩,dr_⟩
           case rest=>
            clear HC17
            obtain ⟨kq,x34_16,rfl,HA,HJ16,⟨mc16,rfl⟩⟩:=hcut
            cases kq with
            |zero=>exact absurd HA.out (by simp [spec_jWidth.j2])
            |succ kj16=>
             have H:=HA.out
             clear HA
             simp only [spec_jWidth.j2] at H
             by_cases c19:x34_16=true
             ·subst c19
              have H1:(if (bt a0 a1)=240 then (if (bt a0 a1)=244 then (spec_jWidth.j3 kj16 a0 a1 4 144 143) else (spec_jWidth.j3 kj16 a0 a1 4 144 191)) else (if (bt a0 a1)=244 then (spec_jWidth.j3 kj16 a0 a1 4 128 143) else (spec_jWidth.j3 kj16 a0 a1 4 128 191)))=some r:=by rw [if_pos rfl] at H;exact H
              clear H
              have H:=H1
              clear H1
              by_cases c20:(bt a0 a1)=240
              ·rw [if_pos c20] at H
               have c20b0:=beq_iff_eq.mpr c20
               have c20b1:=bne_eq_false_iff_eq.mpr c20
               clear c20
               by_cases c21:(bt a0 a1)=244
               ·rw [if_pos c21] at H
                have c21b0:=beq_iff_eq.mpr c21
                have c21b1:=bne_eq_false_iff_eq.mpr c21
                clear c21
                have H':=asd_ H
                clear H
                go_wp2
                go_meet
                case rel=>exact ⟨_,(4),(144),(143),r1_,r1_,r1_,H',⟨by have:=HJ7.out;have:=HJ10.out;have:=HJ16.out;first|omega|exact Nat.le_refl _⟩,dr_⟩
               ·rw [if_neg c21] at H
                have c21b0:=beq_eq_false_iff_ne.mpr c21
                have c21b1:=bne_iff_ne.mpr c21
                have H':=asd_ H
                clear H
                go_wp2
                go_meet
                case rel=>exact ⟨_,(4),(144),(191),r1_,r1_,r1_,H',⟨by have:=HJ7.out;have:=HJ10.out;have:=HJ16.out;first|omega|exact Nat.le_refl _⟩,dr_⟩
              ·rw [if_neg c20] at H
               have c20b0:=beq_eq_false_iff_ne.mpr c20
               have c20b1:=bne_iff_ne.mpr c20
               by_cases c22:(bt a0 a1)=244
               ·rw [if_pos c22] at H
                have c22b0:=beq_iff_eq.mpr c22
                have c22b1:=bne_eq_false_iff_eq.mpr c22
                clear c22
                have H':=asd_ H
                clear H
                go_wp2
                go_meet
                case rel=>exact ⟨_,(4),(128),(143),r1_,r1_,r1_,H',⟨by have:=HJ7.out;have:=HJ10.out;have:=HJ16.out;first|omega|exact Nat.le_refl _⟩,dr_⟩
               ·rw [if_neg c22] at H
                have c22b0:=beq_eq_false_iff_ne.mpr c22
                have c22b1:=bne_iff_ne.mpr c22
                have H':=asd_ H
                clear H
                go_wp2
                go_meet
                case rel=>exact ⟨_,(4),(128),(191),r1_,r1_,r1_,H',⟨by have:=HJ7.out;have:=HJ10.out;have:=HJ16.out;first|omega|exact Nat.le_refl _⟩,dr_⟩
             ·replace c19:=Bool.eq_false_iff.mpr c19
              subst c19
              have H1:(some 0)=some r:=by rw [if_neg (show ¬ (false=true) by decide)] at H;exact H
              clear H
              have H:=H1
              clear H1
              obtain rfl:=Option.some.inj H
              go_wp2
              go_ret
              exact ⟨r1_,dr_⟩
   case rest=>
    clear HC6
    obtain ⟨kq,x6_5,x7_5,x8_5,rfl,rfl,rfl,HA,HJ5,⟨mc5,rfl⟩⟩:=hcut
    cases kq with
    |zero=>exact absurd HA.out (by simp [spec_jWidth.j3])
    |succ kj5=>
     have H:=HA.out
     clear HA
     simp only [spec_jWidth.j3] at H
     have HC23:=asd_ H
     clear H
     go_upto_region 21 with (fail)
     go_cut [66] (fun v66 wc=>∃ (kq:Nat) (x66_22:Bool),v66= .bool x66_22∧Aside0 (spec_jWidth.j4 kq a0 a1 x6_5 x66_22=some r)∧Aside0 (kq≤kj5)∧Drawn0 w wc)
     case first=>
      have H:=HC23.out
      clear HC23
      by_cases c24:(wrap64 (a1 + x6_5)) > (a0.size:Int)
      ·rw [if_pos c24] at H
       have c24b0:=decide_eq_true c24
       clear c24
       (first|rw [c24b0]|(simp only [i64_w,i32_w];rw [c24b0])|skip)
       have H':=asd_ H
       clear H
       go_wp2
       go_meet
       case rel=>exact ⟨_,(true),r1_,H',⟨by have:=HJ5.out;first|omega|exact Nat.le_refl _⟩,dr_⟩
      ·rw [if_neg c24] at H
       have c24b0:=decide_eq_false c24
       clear c24
       (first|rw [c24b0]|(simp only [i64_w,i32_w];rw [c24b0])|skip)
       obtain ⟨ji25,hji25⟩:∃ j_:Int,(wrap64 (a1 + 1))=j_:=⟨_,rfl⟩
       replace H:(if 0≤(ji25) then (if (ji25) < (a0.size:Int) then (if (bt a0 (ji25)) < x7_5 then (spec_jWidth.j4 kj5 a0 a1 x6_5 true) else (spec_jWidth.j4 kj5 a0 a1 x6_5 (decide ((bt a0 (ji25)) > x8_5)))) else (none)) else (none))=some r:=by first|(rw [hji25] at H;exact H)|(simp only [hji25] at H ⊢;exact H)
       have hji25w:(IntKind.i64.wrap (a1 + 1))=ji25:=(i64_w _).trans hji25
       by_cases c26:0≤(ji25)
       ·rw [if_pos c26] at H
        have c26b0:=decide_eq_true c26
        clear c26
        by_cases c27:(ji25) < (a0.size:Int)
        ·rw [if_pos c27] at H
         have c27b0:=decide_eq_true c27
         clear c27
         by_cases c29:(bt a0 (ji25)) < x7_5
         ·rw [if_pos c29] at H
          have c29b0:=decide_eq_true c29
          clear c29
          have H':=asd_ H
          clear H
          have p28:0≤((ji25):Int):=of_decide_eq_true as_
          have q28:(ji25) < (a0.size:Int):=of_decide_eq_true as_
          have hx28:=bt_at a0 (ji25)
          replace p28:=eq_true p28
          replace q28:=eq_true q28
          go_wp2
          go_meet
          case rel=>exact ⟨_,(true),r1_,H',⟨by have:=HJ5.out;first|omega|exact Nat.le_refl _⟩,dr_⟩
         ·rw [if_neg c29] at H
          have c29b0:=decide_eq_false c29
          clear c29
          have H':=asd_ H
          clear H
          have p28:0≤((ji25):Int):=of_decide_eq_true as_
          have q28:(ji25) < (a0.size:Int):=of_decide_eq_true as_
          have hx28:=bt_at a0 (ji25)
          replace p28:=eq_true p28
          replace q28:=eq_true q28
          have p30:0≤((ji25):Int):=of_decide_eq_true as_
          have q30:(ji25) < (a0.size:Int):=of_decide_eq_true as_
          have hx30:=bt_at a0 (ji25)
          replace p30:=eq_true p30
          replace q30:=eq_true q30
          go_wp2
          go_meet
          case rel=>exact ⟨_,(decide ((bt a0 (ji25)) > x8_5)),(by first|rfl|(simp;done)|(simp only [← hji25]<;>(first|rfl|simp))|(simp [*];done)),H',⟨by have:=HJ5.out;first|omega|exact Nat.le_refl _⟩,dr_⟩
        ·rw [if_neg c27] at H
         exact absurd H (by simp)
       ·rw [if_neg c26] at H
        exact absurd H (by simp)
     case rest=>
      clear HC23
      obtain ⟨kq,x66_22,rfl,HA,HJ22,⟨mc22,rfl⟩⟩:=hcut
      cases kq with
      |zero=>exact absurd HA.out (by simp [spec_jWidth.j4])
      |succ kj22=>
       have H:=HA.out
       clear HA
       simp only [spec_jWidth.j4] at H
       by_cases c31:x66_22=true
       ·subst c31
        have H1:(some 0)=some r:=by rw [if_pos rfl] at H;exact H
        clear H
        have H:=H1
        clear H1
        obtain rfl:=Option.some.inj H
        go_wp2
        go_ret
        exact ⟨r1_,dr_⟩
       ·replace c31:=Bool.eq_false_iff.mpr c31
        subst c31
        have H1:(spec_jWidth.l0 kj22 a0 a1 x6_5 2)=some r:=by rw [if_neg (show ¬ (false=true) by decide)] at H;exact H
        clear H
        have H:=H1
        clear H1
        have H':=asd_ H
        clear H
        go_wp2
        go_loopg [9] kj22 (fun kq v9 w'=>∃ (x9_3:Int),v9= .int .i64 x9_3∧Aside0 (spec_jWidth.l0 kq a0 a1 x6_5 x9_3=some r)∧Aside0 (kq≤kj22)∧Drawn0 w w')
        case atStart=>exact ⟨(2),r1_,H',⟨Nat.le_refl _⟩,dr_⟩
        case round=>
         clear H'
         obtain ⟨x9_3,rfl,HA,HK3,⟨m3,rfl⟩⟩:=hrel
         cases gk with
         |zero=>exact absurd HA.out (by simp [spec_jWidth.l0])
         |succ k3=>
          have H:=HA.out
          clear HA
          simp only [spec_jWidth.l0] at H
          by_cases c32:x9_3 < x6_5
          ·rw [if_pos c32] at H
           have c32b0:=decide_eq_true c32
           clear c32
           obtain ⟨ji33,hji33⟩:∃ j_:Int,(wrap64 (a1 + x9_3))=j_:=⟨_,rfl⟩
           replace H:(if 0≤(ji33) then (if (ji33) < (a0.size:Int) then (if (bt a0 (ji33)) < 128 then (some 0) else (if (bt a0 (ji33)) > 191 then (some 0) else (spec_jWidth.l0 k3 a0 a1 x6_5 (wrap64 (x9_3 + 1))))) else (none)) else (none))=some r:=by first|(rw [hji33] at H;exact H)|(simp only [hji33] at H ⊢;exact H)
           have hji33w:(IntKind.i64.wrap (a1 + x9_3))=ji33:=(i64_w _).trans hji33
           by_cases c34:0≤(ji33)
           ·rw [if_pos c34] at H
            have c34b0:=decide_eq_true c34
            clear c34
            by_cases c35:(ji33) < (a0.size:Int)
            ·rw [if_pos c35] at H
             have c35b0:=decide_eq_true c35
             clear c35
             by_cases c37:(bt a0 (ji33)) < 128
             ·rw [if_pos c37] at H
              have c37b0:=decide_eq_true c37
              clear c37
              obtain rfl:=Option.some.inj H
              have p36:0≤((ji33):Int):=of_decide_eq_true as_
              have q36:(ji33) < (a0.size:Int):=of_decide_eq_true as_
              have hx36:=bt_at a0 (ji33)
              replace p36:=eq_true p36
              replace q36:=eq_true q36
              go_wp2
              go_ret
              exact ⟨by first|rfl|(simp;done)|(simp only [← hji33]<;>(first|rfl|simp))|(simp [*];done),dr_⟩
             ·rw [if_neg c37] at H
              have c37b0:=decide_eq_false c37
              clear c37
              by_cases c39:(bt a0 (ji33)) > 191
              ·rw [if_pos c39] at H
               have c39b0:=decide_eq_true c39
               clear c39
               obtain rfl:=Option.some.inj H
               have p36:0≤((ji33):Int):=of_decide_eq_true as_
               have q36:(ji33) < (a0.size:Int):=of_decide_eq_true as_
               have hx36:=bt_at a0 (ji33)
               replace p36:=eq_true p36
               replace q36:=eq_true q36
               have p38:0≤((ji33):Int):=of_decide_eq_true as_
               have q38:(ji33) < (a0.size:Int):=of_decide_eq_true as_
               have hx38:=bt_at a0 (ji33)
               replace p38:=eq_true p38
               replace q38:=eq_true q38
               go_wp2
               go_ret
               exact ⟨by first|rfl|(simp;done)|(simp only [← hji33]<;>(first|rfl|simp))|(simp [*];done),dr_⟩
              ·rw [if_neg c39] at H
               have c39b0:=decide_eq_false c39
               clear c39
               have H':=asd_ H
               clear H
               have p36:0≤((ji33):Int):=of_decide_eq_true as_
               have q36:(ji33) < (a0.size:Int):=of_decide_eq_true as_
               have hx36:=bt_at a0 (ji33)
               replace p36:=eq_true p36
               replace q36:=eq_true q36
               have p38:0≤((ji33):Int):=of_decide_eq_true as_
               have q38:(ji33) < (a0.size:Int):=of_decide_eq_true as_
               have hx38:=bt_at a0 (ji33)
               replace p38:=eq_true p38
               replace q38:=eq_true q38
               go_wp2
               go_roundg k3
               case measure=>have:=HJ5.out;have:=HJ22.out;have:=HK3.out;omega
               case rel=>exact ⟨(wrap64 (x9_3 + 1)),r1_,H',⟨by have:=HJ5.out;have:=HJ22.out;have:=HK3.out;omega⟩,dr_⟩
            ·rw [if_neg c35] at H
             exact absurd H (by simp)
           ·rw [if_neg c34] at H
            exact absurd H (by simp)
          ·rw [if_neg c32] at H
           have c32b0:=decide_eq_false c32
           clear c32
           obtain rfl:=Option.some.inj H
           go_wp2
           go_ret
           exact ⟨r1_,dr_⟩
  ·rw [if_neg c4] at H
   exact absurd H (by simp)
 ·rw [if_neg c3] at H
  exact absurd H (by simp)
def spec_JUtf8.l0:Nat→ByteArray→Int→Option (Bool)
 |0,_,_=>none
 |k + 1,x0,x3=>if x3 < (x0.size:Int) then ((spec_jWidth.f k x0 x3).bind fun t109=>(if t109=0 then (some false) else (spec_JUtf8.l0 k x0 (wrap64 (x3 + t109))))) else (some true)
def spec_JUtf8.f (k:Nat) (a0:ByteArray):Option (Bool):=spec_JUtf8.l0 k a0 0
theorem spec_JUtf8.calls (k:Nat) (a0:ByteArray) (r:Bool) (w:World) (h:spec_JUtf8.f k a0=some r):
  Calls Tryz.prog 25 #[.string a0] w fun e w'=>e= .returned (.bool r)∧Drawn0 w w':=by
 have H:(spec_JUtf8.l0 k a0 0)=some r:=h
 clear h
 have H':=asd_ H
 clear H
 go_enter Tryz.func25,Tryz.ntmps25
 go_wp2
 go_loopg [3] k (fun kq v3 w'=>∃ (x3_1:Int),v3= .int .i64 x3_1∧Aside0 (spec_JUtf8.l0 kq a0 x3_1=some r)∧Aside0 (kq≤k)∧Drawn0 w w')
 case atStart=>exact ⟨(0),r1_,H',⟨Nat.le_refl _⟩,dr_⟩
 case round=>
  clear H'
  obtain ⟨x3_1,rfl,HA,HK1,⟨m1,rfl⟩⟩:=hrel
  cases gk with
  |zero=>exact absurd HA.out (by simp [spec_JUtf8.l0])
  |succ k1=>
   have H:=HA.out
   clear HA
   simp only [spec_JUtf8.l0] at H
   by_cases c2:x3_1 < (a0.size:Int)
   ·rw [if_pos c2] at H
    have c2b0:=decide_eq_true c2
    clear c2
    replace H:=Option.bind_eq_some_iff.mp H
    obtain ⟨t109,A30,H⟩:=H
    replace H:(if t109=0 then (some false) else (spec_JUtf8.l0 k1 a0 (wrap64 (x3_1 + t109))))=some r:=H
    have A3:=asd_ A30
    clear A30
    by_cases c4:t109=0
    ·rw [if_pos c4] at H
     have c4b0:=beq_iff_eq.mpr c4
     have c4b1:=bne_eq_false_iff_eq.mpr c4
     clear c4
     obtain rfl:=Option.some.inj H
     go_wp2_with (first|((with_reducible refine gate_callee (f:=47) rfl ?_);refine goesL_ (some 11) rfl rfl Tryz.func47 kr_ rfl #[.string a0,.int .i64 x3_1] rfl ap_ ?_;(with_reducible refine (spec_jWidth.calls k1 a0 x3_1 t109 _ A3.out).mono ?_);rintro e w' ⟨rfl,⟨nd,rfl⟩⟩;refine ⟨_,rfl,?_⟩))
     go_ret
     exact ⟨r1_,dr_⟩
    ·rw [if_neg c4] at H
     have c4b0:=beq_eq_false_iff_ne.mpr c4
     have c4b1:=bne_iff_ne.mpr c4
     have H':=asd_ H
     clear H
     go_wp2_with (first|((with_reducible refine gate_callee (f:=47) rfl ?_);refine goesL_ (some 11) rfl rfl Tryz.func47 kr_ rfl #[.string a0,.int .i64 x3_1] rfl ap_ ?_;(with_reducible refine (spec_jWidth.calls k1 a0 x3_1 t109 _ A3.out).mono ?_);rintro e w' ⟨rfl,⟨nd,rfl⟩⟩;refine ⟨_,rfl,?_⟩))
     go_roundg k1
     case measure=>have:=HK1.out;omega
     case rel=>exact ⟨(wrap64 (x3_1 + t109)),r1_,H',⟨by have:=HK1.out;omega⟩,dr_⟩
   ·rw [if_neg c2] at H
    have c2b0:=decide_eq_false c2
    clear c2
    obtain rfl:=Option.some.inj H
    go_wp2
    go_ret
    exact ⟨r1_,dr_⟩
def spec_jDigit.f (a0:Int):Option (Bool):=if a0 ≥ 48 then (some (decide (a0≤57))) else (some false)
theorem spec_jDigit.calls (a0:Int) (r:Bool) (w:World) (h:spec_jDigit.f a0=some r):
  Calls Tryz.prog 127 #[.int .u8 a0] w fun e w'=>e= .returned (.bool r)∧Drawn0 w w':=by
 have H:(if a0 ≥ 48 then (some (decide (a0≤57))) else (some false))=some r:=h
 clear h
 by_cases c2:a0 ≥ 48
 ·rw [if_pos c2] at H
  have c2b0:=decide_eq_true c2
  clear c2
  obtain rfl:=Option.some.inj H
  go_enter Tryz.func127,Tryz.ntmps127
  go_wp2
  go_ret
  exact ⟨r1_,dr_⟩
 ·rw [if_neg c2] at H
  have c2b0:=decide_eq_false c2
  clear c2
  obtain rfl:=Option.some.inj H
  go_enter Tryz.func127,Tryz.ntmps127
  go_wp2
  go_ret
  exact ⟨r1_,dr_⟩
def spec_jDigits.l0:Nat→ByteArray→Int→Option (Bool)
 |0,_,_=>none
 |k + 1,x0,x3=>if x3 < (x0.size:Int) then (if 0≤x3 then ((spec_jDigit.f (bt x0 x3)).bind fun t110=>(if t110=true then (spec_jDigits.l0 k x0 (wrap64 (x3 + 1))) else (some false))) else (none)) else (some (decide ((x0.size:Int) > 0)))
def spec_jDigits.f (k:Nat) (a0:ByteArray):Option (Bool):=spec_jDigits.l0 k a0 0
theorem spec_jDigits.calls (k:Nat) (a0:ByteArray) (r:Bool) (w:World) (h:spec_jDigits.f k a0=some r):
  Calls Tryz.prog 85 #[.string a0] w fun e w'=>e= .returned (.bool r)∧Drawn0 w w':=by
 have H:(spec_jDigits.l0 k a0 0)=some r:=h
 clear h
 have H':=asd_ H
 clear H
 go_enter Tryz.func85,Tryz.ntmps85
 go_wp2
 go_loopg [3] k (fun kq v3 w'=>∃ (x3_1:Int),v3= .int .i64 x3_1∧Aside0 (spec_jDigits.l0 kq a0 x3_1=some r)∧Aside0 (kq≤k)∧Drawn0 w w')
 case atStart=>exact ⟨(0),r1_,H',⟨Nat.le_refl _⟩,dr_⟩
 case round=>
  clear H'
  obtain ⟨x3_1,rfl,HA,HK1,⟨m1,rfl⟩⟩:=hrel
  cases gk with
  |zero=>exact absurd HA.out (by simp [spec_jDigits.l0])
  |succ k1=>
   have H:=HA.out
   clear HA
   simp only [spec_jDigits.l0] at H
   by_cases c2:x3_1 < (a0.size:Int)
   ·rw [if_pos c2] at H
    have c2b0:=decide_eq_true c2
    clear c2
    by_cases c3:0≤x3_1
    ·rw [if_pos c3] at H
     have c3b0:=decide_eq_true c3
     clear c3
     replace H:=Option.bind_eq_some_iff.mp H
     obtain ⟨t110,A50,H⟩:=H
     replace H:(if t110=true then (spec_jDigits.l0 k1 a0 (wrap64 (x3_1 + 1))) else (some false))=some r:=H
     have A5:=asd_ A50
     clear A50
     by_cases c6:t110=true
     ·subst c6
      have H1:(spec_jDigits.l0 k1 a0 (wrap64 (x3_1 + 1)))=some r:=by rw [if_pos rfl] at H;exact H
      clear H
      have H:=H1
      clear H1
      have H':=asd_ H
      clear H
      have p4:0≤(x3_1:Int):=of_decide_eq_true as_
      have q4:x3_1 < (a0.size:Int):=of_decide_eq_true as_
      have hx4:=bt_at a0 x3_1
      replace p4:=eq_true p4
      replace q4:=eq_true q4
      go_wp2_with (first|((with_reducible refine gate_callee (f:=127) rfl ?_);refine goesL_ (some 13) rfl rfl Tryz.func127 kr_ rfl #[.int .u8 (bt a0 x3_1)] rfl ap_ ?_;(with_reducible refine (spec_jDigit.calls (bt a0 x3_1) true _ A5.out).mono ?_);rintro e w' ⟨rfl,⟨nd,rfl⟩⟩;refine ⟨_,rfl,?_⟩))
      go_roundg k1
      case measure=>have:=HK1.out;omega
      case rel=>exact ⟨(wrap64 (x3_1 + 1)),r1_,H',⟨by have:=HK1.out;omega⟩,dr_⟩
     ·replace c6:=Bool.eq_false_iff.mpr c6
      subst c6
      have H1:(some false)=some r:=by rw [if_neg (show ¬ (false=true) by decide)] at H;exact H
      clear H
      have H:=H1
      clear H1
      obtain rfl:=Option.some.inj H
      have p4:0≤(x3_1:Int):=of_decide_eq_true as_
      have q4:x3_1 < (a0.size:Int):=of_decide_eq_true as_
      have hx4:=bt_at a0 x3_1
      replace p4:=eq_true p4
      replace q4:=eq_true q4
      go_wp2_with (first|((with_reducible refine gate_callee (f:=127) rfl ?_);refine goesL_ (some 13) rfl rfl Tryz.func127 kr_ rfl #[.int .u8 (bt a0 x3_1)] rfl ap_ ?_;(with_reducible refine (spec_jDigit.calls (bt a0 x3_1) false _ A5.out).mono ?_);rintro e w' ⟨rfl,⟨nd,rfl⟩⟩;refine ⟨_,rfl,?_⟩))
      go_ret
      exact ⟨r1_,dr_⟩
    ·rw [if_neg c3] at H
     exact absurd H (by simp)
   ·rw [if_neg c2] at H
    have c2b0:=decide_eq_false c2
    clear c2
    obtain rfl:=Option.some.inj H
    go_wp2
    go_ret
    exact ⟨r1_,dr_⟩
def spec_jPlain.f (k:Nat) (a0:ByteArray):Option (Bool):=(spec_jDigits.f k a0).bind fun t111=>(if t111=true then (if (a0.size:Int)=1 then (some true) else (if 0 < (a0.size:Int) then (some ((bt a0 0) != 48)) else (none))) else (some false))
theorem spec_jPlain.calls (k:Nat) (a0:ByteArray) (r:Bool) (w:World) (h:spec_jPlain.f k a0=some r):
  Calls Tryz.prog 45 #[.string a0] w fun e w'=>e= .returned (.bool r)∧Drawn0 w w':=by
 have H:((spec_jDigits.f k a0).bind fun t111=>(if t111=true then (if (a0.size:Int)=1 then (some true) else (if 0 < (a0.size:Int) then (some ((bt a0 0) != 48)) else (none))) else (some false)))=some r:=h
 clear h
 replace H:=Option.bind_eq_some_iff.mp H
 obtain ⟨t111,A20,H⟩:=H
 replace H:(if t111=true then (if (a0.size:Int)=1 then (some true) else (if 0 < (a0.size:Int) then (some ((bt a0 0) != 48)) else (none))) else (some false))=some r:=H
 have A2:=asd_ A20
 clear A20
 by_cases c3:t111=true
 ·subst c3
  have H1:(if (a0.size:Int)=1 then (some true) else (if 0 < (a0.size:Int) then (some ((bt a0 0) != 48)) else (none)))=some r:=by rw [if_pos rfl] at H;exact H
  clear H
  have H:=H1
  clear H1
  by_cases c4:(a0.size:Int)=1
  ·rw [if_pos c4] at H
   have c4b0:=beq_iff_eq.mpr c4
   have c4b1:=bne_eq_false_iff_eq.mpr c4
   clear c4
   obtain rfl:=Option.some.inj H
   go_enter Tryz.func45,Tryz.ntmps45
   go_wp2_with (first|((with_reducible refine gate_callee (f:=85) rfl ?_);refine goesL_ (some 4) rfl rfl Tryz.func85 kr_ rfl #[.string a0] rfl ap_ ?_;(with_reducible refine (spec_jDigits.calls k a0 true _ A2.out).mono ?_);rintro e w' ⟨rfl,⟨nd,rfl⟩⟩;refine ⟨_,rfl,?_⟩))
   go_ret
   exact ⟨r1_,dr_⟩
  ·rw [if_neg c4] at H
   have c4b0:=beq_eq_false_iff_ne.mpr c4
   have c4b1:=bne_iff_ne.mpr c4
   by_cases c5:0 < (a0.size:Int)
   ·rw [if_pos c5] at H
    have c5b0:=decide_eq_true c5
    have c5b1:decide (0 < a0.size)=true:=decide_eq_true (by omega)
    clear c5
    obtain rfl:=Option.some.inj H
    go_enter Tryz.func45,Tryz.ntmps45
    go_wp2_with (first|((with_reducible refine gate_callee (f:=85) rfl ?_);refine goesL_ (some 4) rfl rfl Tryz.func85 kr_ rfl #[.string a0] rfl ap_ ?_;(with_reducible refine (spec_jDigits.calls k a0 true _ A2.out).mono ?_);rintro e w' ⟨rfl,⟨nd,rfl⟩⟩;refine ⟨_,rfl,?_⟩;have p6:0≤(0:Int):=(by omega);have q6:0 < a0.size:=(by have:(0:Int) < (a0.size:Int):=of_decide_eq_true as_;omega);have hx6:∀ h:0 < a0.size,((a0[0]'h).toNat:Int)=bt a0 0:=bt_at a0 0;clear p6;have qi6:(0 < (a0.size:Int))=True:=eq_true (of_decide_eq_true as_);replace q6:=eq_true q6))
    go_ret
    exact ⟨r1_,dr_⟩
   ·rw [if_neg c5] at H
    exact absurd H (by simp)
 ·replace c3:=Bool.eq_false_iff.mpr c3
  subst c3
  have H1:(some false)=some r:=by rw [if_neg (show ¬ (false=true) by decide)] at H;exact H
  clear H
  have H:=H1
  clear H1
  obtain rfl:=Option.some.inj H
  go_enter Tryz.func45,Tryz.ntmps45
  go_wp2_with (first|((with_reducible refine gate_callee (f:=85) rfl ?_);refine goesL_ (some 4) rfl rfl Tryz.func85 kr_ rfl #[.string a0] rfl ap_ ?_;(with_reducible refine (spec_jDigits.calls k a0 false _ A2.out).mono ?_);rintro e w' ⟨rfl,⟨nd,rfl⟩⟩;refine ⟨_,rfl,?_⟩))
  go_ret
  exact ⟨r1_,dr_⟩
def spec_jRun.l0:Nat→ByteArray→Int→Option (Int)
 |0,_,_=>none
 |k + 1,x0,x1=>if x1 < (x0.size:Int) then (if 0≤x1 then ((spec_jDigit.f (bt x0 x1)).bind fun t112=>(if t112=true then (spec_jRun.l0 k x0 (wrap64 (x1 + 1))) else (some x1))) else (none)) else (some x1)
def spec_jRun.f (k:Nat) (a0:ByteArray) (a1:Int):Option (Int):=spec_jRun.l0 k a0 a1
theorem spec_jRun.calls (k:Nat) (a0:ByteArray) (a1:Int) (r:Int) (w:World) (h:spec_jRun.f k a0 a1=some r):
  Calls Tryz.prog 86 #[.string a0,.int .i64 a1] w fun e w'=>e= .returned (.int .i64 r)∧Drawn0 w w':=by
 have H:(spec_jRun.l0 k a0 a1)=some r:=h
 clear h
 have H':=asd_ H
 clear H
 go_enter Tryz.func86,Tryz.ntmps86
 go_wp2
 go_loopg [1] k (fun kq v1 w'=>∃ (x1_1:Int),v1= .int .i64 x1_1∧Aside0 (spec_jRun.l0 kq a0 x1_1=some r)∧Aside0 (kq≤k)∧Drawn0 w w')
 case atStart=>exact ⟨(a1),r1_,H',⟨Nat.le_refl _⟩,dr_⟩
 case round=>
  clear H'
  obtain ⟨x1_1,rfl,HA,HK1,⟨m1,rfl⟩⟩:=hrel
  cases gk with
  |zero=>exact absurd HA.out (by simp [spec_jRun.l0])
  |succ k1=>
   have H:=HA.out
   clear HA
   simp only [spec_jRun.l0] at H
   by_cases c3:x1_1 < (a0.size:Int)
   ·rw [if_pos c3] at H
    have c3b0:=decide_eq_true c3
    clear c3
    by_cases c4:0≤x1_1
    ·rw [if_pos c4] at H
     have c4b0:=decide_eq_true c4
     clear c4
     replace H:=Option.bind_eq_some_iff.mp H
     obtain ⟨t112,A60,H⟩:=H
     replace H:(if t112=true then (spec_jRun.l0 k1 a0 (wrap64 (x1_1 + 1))) else (some x1_1))=some r:=H
     have A6:=asd_ A60
     clear A60
     by_cases c7:t112=true
     ·subst c7
      have H1:(spec_jRun.l0 k1 a0 (wrap64 (x1_1 + 1)))=some r:=by rw [if_pos rfl] at H;exact H
      clear H
      have H:=H1
      clear H1
      have H':=asd_ H
      clear H
      have p5:0≤(x1_1:Int):=of_decide_eq_true as_
      have q5:x1_1 < (a0.size:Int):=of_decide_eq_true as_
      have hx5:=bt_at a0 x1_1
      replace p5:=eq_true p5
      replace q5:=eq_true q5
      go_wp2_with (first|(go_at_call 127;(with_reducible refine (spec_jDigit.calls (bt a0 x1_1) true _ A6.out).mono ?_);rintro e w' ⟨rfl,⟨nd,rfl⟩⟩))
      go_roundg k1
      case measure=>have:=HK1.out;omega
      case rel=>exact ⟨(wrap64 (x1_1 + 1)),r1_,H',⟨by have:=HK1.out;omega⟩,dr_⟩
     ·replace c7:=Bool.eq_false_iff.mpr c7
      subst c7
      have H1:(some x1_1)=some r:=by rw [if_neg (show ¬ (false=true) by decide)] at H;exact H
      clear H
      have H:=H1
      clear H1
      obtain rfl:=Option.some.inj H
      have p5:0≤(x1_1:Int):=of_decide_eq_true as_
      have q5:x1_1 < (a0.size:Int):=of_decide_eq_true as_
      have hx5:=bt_at a0 x1_1
      replace p5:=eq_true p5
      replace q5:=eq_true q5
      go_wp2_with (first|(go_at_call 127;(with_reducible refine (spec_jDigit.calls (bt a0 x1_1) false _ A6.out).mono ?_);rintro e w' ⟨rfl,⟨nd,rfl⟩⟩))
      go_ret
      exact ⟨r1_,dr_⟩
    ·rw [if_neg c4] at H
     exact absurd H (by simp)
   ·rw [if_neg c3] at H
    have c3b0:=decide_eq_false c3
    clear c3
    obtain rfl:=Option.some.inj H
    go_wp2
    go_ret
    exact ⟨r1_,dr_⟩
def spec_jNumber.l0:Nat→ByteArray→Int→Int→Option (Int)
 |0,_,_,_=>none
 |k + 1,x0,x3,x4=>if x4 < (x0.size:Int) then (if 0≤x4 then (spec_jNumber.l0 k x0 (wrap64 ((wrap64 (10 * x3)) + (((bt x0 x4) - 48) % 256))) (wrap64 (x4 + 1))) else (none)) else (some x3)
def spec_jNumber.f (k:Nat) (a0:ByteArray):Option (Int):=spec_jNumber.l0 k a0 0 0
theorem spec_jNumber.calls (k:Nat) (a0:ByteArray) (r:Int) (w:World) (h:spec_jNumber.f k a0=some r):
  Calls Tryz.prog 46 #[.string a0] w fun e w'=>e= .returned (.int .i64 r)∧Drawn0 w w':=by
 have H:(spec_jNumber.l0 k a0 0 0)=some r:=h
 clear h
 have H':=asd_ H
 clear H
 go_enter Tryz.func46,Tryz.ntmps46
 go_wp2
 go_loopg [3,4] k (fun kq v3 v4 w'=>∃ (x3_1:Int) (x4_1:Int),v3= .int .i64 x3_1∧v4= .int .i64 x4_1∧Aside0 (spec_jNumber.l0 kq a0 x3_1 x4_1=some r)∧Aside0 (kq≤k)∧Drawn0 w w')
 case atStart=>exact ⟨(0),(0),r1_,r1_,H',⟨Nat.le_refl _⟩,dr_⟩
 case round=>
  clear H'
  obtain ⟨x3_1,x4_1,rfl,rfl,HA,HK1,⟨m1,rfl⟩⟩:=hrel
  cases gk with
  |zero=>exact absurd HA.out (by simp [spec_jNumber.l0])
  |succ k1=>
   have H:=HA.out
   clear HA
   simp only [spec_jNumber.l0] at H
   by_cases c2:x4_1 < (a0.size:Int)
   ·rw [if_pos c2] at H
    have c2b0:=decide_eq_true c2
    clear c2
    by_cases c3:0≤x4_1
    ·rw [if_pos c3] at H
     have c3b0:=decide_eq_true c3
     clear c3
     have H':=asd_ H
     clear H
     have p4:0≤(x4_1:Int):=of_decide_eq_true as_
     have q4:x4_1 < (a0.size:Int):=of_decide_eq_true as_
     have hx4:=bt_at a0 x4_1
     replace p4:=eq_true p4
     replace q4:=eq_true q4
     go_wp2
     go_roundg k1
     case measure=>have:=HK1.out;omega
     case rel=>exact ⟨(wrap64 ((wrap64 (10 * x3_1)) + (((bt a0 x4_1) - 48) % 256))),(wrap64 (x4_1 + 1)),r1_,r1_,H',⟨by have:=HK1.out;omega⟩,dr_⟩
    ·rw [if_neg c3] at H
     exact absurd H (by simp)
   ·rw [if_neg c2] at H
    have c2b0:=decide_eq_false c2
    clear c2
    obtain rfl:=Option.some.inj H
    go_wp2
    go_ret
    exact ⟨r1_,dr_⟩
end Go.Proofs.YtkphbhncpdcbeaaGreatDoor.PJT
