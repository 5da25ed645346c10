/- Part. -/
import Derived.Test.YtkphbhncpdcbeaaGreatDoorQAK
set_option linter.unusedVariables false
set_option linter.unusedSimpArgs false
set_option maxHeartbeats 8000000
set_option maxRecDepth 100000
namespace Go.Proofs.YtkphbhncpdcbeaaGreatDoor.PJT
open Go.RowKit YtkphbhncpdcbeaaGreatDoorW.PrintWords YtkphbhncpdcbeaaGreatDoorW.PrintLast YtkphbhncpdcbeaaGreatDoorW.PrintMore
attribute [local go_sem] max2_int min2_int max_two min_two max_three min_three max_four min_four
mutual
def spec_jExponent.j0:Nat→ByteArray→Bool→Option (Int×Bool)
 |0,_,_=>none
 |k + 1,x0,x14=>if x14=true then (some (0,false)) else (if 1≤(x0.size:Int) then (if (x0.extract 1 x0.size).toList=([]:List UInt8) then (spec_jExponent.j1 k (x0.extract 1 x0.size) false) else (if 0 < ((x0.extract 1 x0.size).size:Int) then (spec_jExponent.j1 k (x0.extract 1 x0.size) ((bt (x0.extract 1 x0.size) 0) == 45)) else (none))) else (none))
def spec_jExponent.j1:Nat→ByteArray→Bool→Option (Int×Bool)
 |0,_,_=>none
 |k + 1,x0,x4=>if x4=true then (spec_jExponent.j2 k x0 x4 true) else (if x0.toList=([]:List UInt8) then (spec_jExponent.j2 k x0 x4 false) else (if 0 < (x0.size:Int) then (spec_jExponent.j2 k x0 x4 ((bt x0 0) == 43)) else (none)))
def spec_jExponent.j2:Nat→ByteArray→Bool→Bool→Option (Int×Bool)
 |0,_,_,_=>none
 |k + 1,x0,x4,x33=>if x33=true then (if 1≤(x0.size:Int) then (spec_jExponent.j3 k (x0.extract 1 x0.size) x4) else (none)) else (spec_jExponent.j3 k x0 x4)
def spec_jExponent.j3:Nat→ByteArray→Bool→Option (Int×Bool)
 |0,_,_=>none
 |k + 1,x0,x4=>(spec_jDigits.f k x0).bind fun t113=>(if t113=true then (spec_jExponent.j4 k x0 x4 (decide ((x0.size:Int) > 2))) else (spec_jExponent.j4 k x0 x4 true))
def spec_jExponent.j4:Nat→ByteArray→Bool→Bool→Option (Int×Bool)
 |0,_,_,_=>none
 |k + 1,x0,x4,x43=>if x43=true then (some (0,false)) else (if x4=true then ((spec_jNumber.f k x0).bind fun t114=>(some (wrap64 (-t114),true))) else ((spec_jNumber.f k x0).bind fun t115=>(some (t115,true))))
end
def spec_jExponent.f (k:Nat) (a0:ByteArray):Option (Int×Bool):=if a0.toList=([]:List UInt8) then (some (0,true)) else (if 0 < (a0.size:Int) then (if (bt a0 0)=101 then (spec_jExponent.j0 k a0 false) else (spec_jExponent.j0 k a0 ((bt a0 0) != 69))) else (none))
theorem spec_jExponent.calls (k:Nat) (a0:ByteArray) (r1:Int) (r2:Bool) (w:World) (h:spec_jExponent.f k a0=some (r1,r2)):
  Calls Tryz.prog 87 #[.string a0] w fun e w'=>e= .returned (.tuple #[.int .i64 r1,.bool r2])∧Drawn0 w w':=by
 have H:(if a0.toList=([]:List UInt8) then (some (0,true)) else (if 0 < (a0.size:Int) then (if (bt a0 0)=101 then (spec_jExponent.j0 k a0 false) else (spec_jExponent.j0 k a0 ((bt a0 0) != 69))) else (none)))=some (r1,r2):=h
 clear h
 by_cases c2:a0.toList=([]:List UInt8)
 ·rw [if_pos c2] at H
  have c2b0:=beq_iff_eq.mpr c2
  have c2b1:=bne_eq_false_iff_eq.mpr c2
  clear c2
  simp only [Option.some.injEq,Prod.mk.injEq] at H
  obtain ⟨rfl,rfl⟩:=H
  go_enter Tryz.func87,Tryz.ntmps87
  go_wp2
  go_ret2
  exact ⟨r1_,dr_⟩
 ·rw [if_neg c2] at H
  have c2b0:=beq_eq_false_iff_ne.mpr c2
  have c2b1:=bne_iff_ne.mpr c2
  have HC3:=asd_ H
  clear H
  go_enter Tryz.func87,Tryz.ntmps87
  go_upto_region 3 with (fail)
  go_cut [14] (fun v14 wc=>∃ (kq:Nat) (x14_2:Bool),v14= .bool x14_2∧Aside0 (spec_jExponent.j0 kq a0 x14_2=some (r1,r2))∧Aside0 (kq≤k)∧Drawn0 w wc)
  case first=>
   have H:=HC3.out
   clear HC3
   by_cases c4:0 < (a0.size:Int)
   ·rw [if_pos c4] at H
    have c4b0:=decide_eq_true c4
    have c4b1:decide (0 < a0.size)=true:=decide_eq_true (by omega)
    clear c4
    (first|rw [c4b0]|(simp only [i64_w,i32_w];rw [c4b0])|skip)
    by_cases c6:(bt a0 0)=101
    ·rw [if_pos c6] at H
     have c6b0:=beq_iff_eq.mpr c6
     have c6b1:=bne_eq_false_iff_eq.mpr c6
     clear c6
     have H':=asd_ H
     clear H
     have p5:0≤(0:Int):=(by omega)
     have q5:0 < a0.size:=(by have:(0:Int) < (a0.size:Int):=of_decide_eq_true as_;omega)
     have hx5:∀ h:0 < a0.size,((a0[0]'h).toNat:Int)=bt a0 0:=bt_at a0 0
     clear p5
     have qi5:(0 < (a0.size:Int))=True:=eq_true (of_decide_eq_true as_)
     replace q5:=eq_true q5
     go_wp2
     go_meet
     case rel=>exact ⟨_,(false),r1_,H',⟨by first|omega|exact Nat.le_refl _⟩,dr_⟩
    ·rw [if_neg c6] at H
     have c6b0:=beq_eq_false_iff_ne.mpr c6
     have c6b1:=bne_iff_ne.mpr c6
     have H':=asd_ H
     clear H
     have p5:0≤(0:Int):=(by omega)
     have q5:0 < a0.size:=(by have:(0:Int) < (a0.size:Int):=of_decide_eq_true as_;omega)
     have hx5:∀ h:0 < a0.size,((a0[0]'h).toNat:Int)=bt a0 0:=bt_at a0 0
     clear p5
     have qi5:(0 < (a0.size:Int))=True:=eq_true (of_decide_eq_true as_)
     replace q5:=eq_true q5
     have p7:0≤(0:Int):=(by omega)
     have q7:0 < a0.size:=(by have:(0:Int) < (a0.size:Int):=of_decide_eq_true as_;omega)
     have hx7:∀ h:0 < a0.size,((a0[0]'h).toNat:Int)=bt a0 0:=bt_at a0 0
     clear p7
     have qi7:(0 < (a0.size:Int))=True:=eq_true (of_decide_eq_true as_)
     replace q7:=eq_true q7
     go_wp2
     go_meet
     case rel=>exact ⟨_,(((bt a0 0) != 69)),r1_,H',⟨by first|omega|exact Nat.le_refl _⟩,dr_⟩
   ·rw [if_neg c4] at H
    exact absurd H (by simp)
  case rest=>
   clear HC3
   obtain ⟨kq,x14_2,rfl,HA,HJ2,⟨mc2,rfl⟩⟩:=hcut
   cases kq with
   |zero=>exact absurd HA.out (by simp [spec_jExponent.j0])
   |succ kj2=>
    have H:=HA.out
    clear HA
    simp only [spec_jExponent.j0] at H
    by_cases c8:x14_2=true
    ·subst c8
     have H1:(some (0,false))=some (r1,r2):=by rw [if_pos rfl] at H;exact H
     clear H
     have H:=H1
     clear H1
     simp only [Option.some.injEq,Prod.mk.injEq] at H
     obtain ⟨rfl,rfl⟩:=H
     go_wp2
     go_ret2
     exact ⟨r1_,dr_⟩
    ·replace c8:=Bool.eq_false_iff.mpr c8
     subst c8
     have H1:(if 1≤(a0.size:Int) then (if (a0.extract 1 a0.size).toList=([]:List UInt8) then (spec_jExponent.j1 kj2 (a0.extract 1 a0.size) false) else (if 0 < ((a0.extract 1 a0.size).size:Int) then (spec_jExponent.j1 kj2 (a0.extract 1 a0.size) ((bt (a0.extract 1 a0.size) 0) == 45)) else (none))) else (none))=some (r1,r2):=by rw [if_neg (show ¬ (false=true) by decide)] at H;exact H
     clear H
     have H:=H1
     clear H1
     by_cases c9:1≤(a0.size:Int)
     ·rw [if_pos c9] at H
      have c9b0:=eq_true c9
      have c9b1:=decide_eq_true c9
      clear c9
      have HC10:=asd_ H
      clear H
      go_upto_region 6 with (fail)
      generalize a0.extract 1 a0.size=t0 at *
      go_cut [4] (fun v4 wc=>∃ (kq:Nat) (x4_9:Bool),v4= .bool x4_9∧Aside0 (spec_jExponent.j1 kq t0 x4_9=some (r1,r2))∧Aside0 (kq≤kj2)∧Drawn0 w wc)
      case first=>
       have H:=HC10.out
       clear HC10
       by_cases c11:t0.toList=([]:List UInt8)
       ·rw [if_pos c11] at H
        have c11b0:=beq_iff_eq.mpr c11
        have c11b1:=bne_eq_false_iff_eq.mpr c11
        clear c11
        (first|rw [c11b0]|(simp only [i64_w,i32_w];rw [c11b0])|skip)
        have H':=asd_ H
        clear H
        go_wp2
        go_meet
        case rel=>exact ⟨_,(false),r1_,H',⟨by have:=HJ2.out;first|omega|exact Nat.le_refl _⟩,dr_⟩
       ·rw [if_neg c11] at H
        have c11b0:=beq_eq_false_iff_ne.mpr c11
        have c11b1:=bne_iff_ne.mpr c11
        (first|rw [c11b0]|(simp only [i64_w,i32_w];rw [c11b0])|skip)
        by_cases c12:0 < (t0.size:Int)
        ·rw [if_pos c12] at H
         have c12b0:=decide_eq_true c12
         have c12b1:decide (0 < t0.size)=true:=decide_eq_true (by omega)
         clear c12
         have H':=asd_ H
         clear H
         have p13:0≤(0:Int):=(by omega)
         have q13:0 < t0.size:=(by have:(0:Int) < (t0.size:Int):=of_decide_eq_true as_;omega)
         have hx13:∀ h:0 < t0.size,((t0[0]'h).toNat:Int)=bt t0 0:=bt_at t0 0
         clear p13
         have qi13:(0 < (t0.size:Int))=True:=eq_true (of_decide_eq_true as_)
         replace q13:=eq_true q13
         go_wp2
         go_meet
         case rel=>exact ⟨_,(((bt t0 0) == 45)),r1_,H',⟨by have:=HJ2.out;first|omega|exact Nat.le_refl _⟩,dr_⟩
        ·rw [if_neg c12] at H
         exact absurd H (by simp)
      case rest=>
       clear HC10
       obtain ⟨kq,x4_9,rfl,HA,HJ9,⟨mc9,rfl⟩⟩:=hcut
       cases kq with
       |zero=>exact absurd HA.out (by simp [spec_jExponent.j1])
       |succ kj9=>
        have H:=HA.out
        clear HA
        simp only [spec_jExponent.j1] at H
        have HC14:=asd_ H
        clear H
        go_upto_region 7 with (fail)
        go_cut [33] (fun v33 wc=>∃ (kq:Nat) (x33_13:Bool),v33= .bool x33_13∧Aside0 (spec_jExponent.j2 kq t0 x4_9 x33_13=some (r1,r2))∧Aside0 (kq≤kj9)∧Drawn0 w wc)
        case first=>
         have H:=HC14.out
         clear HC14
         by_cases c15:x4_9=true
         ·subst c15
          have H1:(spec_jExponent.j2 kj9 t0 true true)=some (r1,r2):=by rw [if_pos rfl] at H;exact H
          clear H
          have H:=H1
          clear H1
          have H':=asd_ H
          clear H
          go_wp2
          go_meet
          case rel=>exact ⟨_,(true),r1_,H',⟨by have:=HJ2.out;have:=HJ9.out;first|omega|exact Nat.le_refl _⟩,dr_⟩
         ·replace c15:=Bool.eq_false_iff.mpr c15
          subst c15
          have H1:(if t0.toList=([]:List UInt8) then (spec_jExponent.j2 kj9 t0 false false) else (if 0 < (t0.size:Int) then (spec_jExponent.j2 kj9 t0 false ((bt t0 0) == 43)) else (none)))=some (r1,r2):=by rw [if_neg (show ¬ (false=true) by decide)] at H;exact H
          clear H
          have H:=H1
          clear H1
          by_cases c16:t0.toList=([]:List UInt8)
          ·rw [if_pos c16] at H
           have c16b0:=beq_iff_eq.mpr c16
           have c16b1:=bne_eq_false_iff_eq.mpr c16
           clear c16
           (first|rw [c16b0]|(simp only [i64_w,i32_w];rw [c16b0])|skip)
           have H':=asd_ H
           clear H
           go_wp2
           go_meet
           case rel=>exact ⟨_,(false),r1_,H',⟨by have:=HJ2.out;have:=HJ9.out;first|omega|exact Nat.le_refl _⟩,dr_⟩
          ·rw [if_neg c16] at H
           have c16b0:=beq_eq_false_iff_ne.mpr c16
           have c16b1:=bne_iff_ne.mpr c16
           (first|rw [c16b0]|(simp only [i64_w,i32_w];rw [c16b0])|skip)
           by_cases c17:0 < (t0.size:Int)
           ·rw [if_pos c17] at H
            have c17b0:=decide_eq_true c17
            have c17b1:decide (0 < t0.size)=true:=decide_eq_true (by omega)
            clear c17
            have H':=asd_ H
            clear H
            have p18:0≤(0:Int):=(by omega)
            have q18:0 < t0.size:=(by have:(0:Int) < (t0.size:Int):=of_decide_eq_true as_;omega)
            have hx18:∀ h:0 < t0.size,((t0[0]'h).toNat:Int)=bt t0 0:=bt_at t0 0
            clear p18
            have qi18:(0 < (t0.size:Int))=True:=eq_true (of_decide_eq_true as_)
            replace q18:=eq_true q18
            go_wp2
            go_meet
            case rel=>exact ⟨_,(((bt t0 0) == 43)),r1_,H',⟨by have:=HJ2.out;have:=HJ9.out;first|omega|exact Nat.le_refl _⟩,dr_⟩
           ·rw [if_neg c17] at H
            exact absurd H (by simp)
        case rest=>
         clear HC14
         obtain ⟨kq,x33_13,rfl,HA,HJ13,⟨mc13,rfl⟩⟩:=hcut
         cases kq with
         |zero=>exact absurd HA.out (by simp [spec_jExponent.j2])
         |succ kj13=>
          have H:=HA.out
          clear HA
          simp only [spec_jExponent.j2] at H
          have HC19:=asd_ H
          clear H
          go_upto_if 33 with (fail)
          go_cut [0] (fun v0 wc=>∃ (kq:Nat) (x0_18:ByteArray),v0= .string x0_18∧Aside0 (spec_jExponent.j3 kq x0_18 x4_9=some (r1,r2))∧Aside0 (kq≤kj13)∧Drawn0 w wc)
          case first=>
           have H:=HC19.out
           clear HC19
           by_cases c20:x33_13=true
           ·subst c20
            have H1:(if 1≤(t0.size:Int) then (spec_jExponent.j3 kj13 (t0.extract 1 t0.size) x4_9) else (none))=some (r1,r2):=by rw [if_pos rfl] at H;exact H
            clear H
            have H:=H1
            clear H1
            by_cases c21:1≤(t0.size:Int)
            ·rw [if_pos c21] at H
             have c21b0:=eq_true c21
             have c21b1:=decide_eq_true c21
             clear c21
             have H':=asd_ H
             clear H
             go_wp2
             go_meet
             case rel=>exact ⟨_,(t0.extract 1 t0.size),r1_,H',⟨by have:=HJ2.out;have:=HJ9.out;have:=HJ13.out;first|omega|exact Nat.le_refl _⟩,dr_⟩
            ·rw [if_neg c21] at H
             exact absurd H (by simp)
           ·replace c20:=Bool.eq_false_iff.mpr c20
            subst c20
            have H1:(spec_jExponent.j3 kj13 t0 x4_9)=some (r1,r2):=by rw [if_neg (show ¬ (false=true) by decide)] at H;exact H
            clear H
            have H:=H1
            clear H1
            have H':=asd_ H
            clear H
            go_wp2
            go_meet
            case rel=>exact ⟨_,(t0),r1_,H',⟨by have:=HJ2.out;have:=HJ9.out;have:=HJ13.out;first|omega|exact Nat.le_refl _⟩,dr_⟩
          case rest=>
           clear HC19
           obtain ⟨kq,x0_18,rfl,HA,HJ18,⟨mc18,rfl⟩⟩:=hcut
           cases kq with
           |zero=>exact absurd HA.out (by simp [spec_jExponent.j3])
           |succ kj18=>
            have H:=HA.out
            clear HA
            simp only [spec_jExponent.j3] at H
            have HC22:=asd_ H
            clear H
            go_upto_region 9 with (fail)
            go_cut [43] (fun v43 wc=>∃ (kq:Nat) (x43_21:Bool),v43= .bool x43_21∧Aside0 (spec_jExponent.j4 kq x0_18 x4_9 x43_21=some (r1,r2))∧Aside0 (kq≤kj18)∧Drawn0 w wc)
            case first=>
             have H:=HC22.out
             clear HC22
             replace H:=Option.bind_eq_some_iff.mp H
             obtain ⟨t113,A230,H⟩:=H
             replace H:(if t113=true then (spec_jExponent.j4 kj18 x0_18 x4_9 (decide ((x0_18.size:Int) > 2))) else (spec_jExponent.j4 kj18 x0_18 x4_9 true))=some (r1,r2):=H
             have A23:=asd_ A230
             clear A230
             by_cases c24:t113=true
             ·subst c24
              have H1:(spec_jExponent.j4 kj18 x0_18 x4_9 (decide ((x0_18.size:Int) > 2)))=some (r1,r2):=by rw [if_pos rfl] at H;exact H
              clear H
              have H:=H1
              clear H1
              have H':=asd_ H
              clear H
              go_wp2_with (first|((with_reducible refine gate_callee (f:=85) rfl ?_);refine goesL_ (some 37) rfl rfl Tryz.func85 kr_ rfl #[.string x0_18] rfl ap_ ?_;(with_reducible refine (spec_jDigits.calls kj18 x0_18 true _ A23.out).mono ?_);rintro e w' ⟨rfl,⟨nd,rfl⟩⟩;refine ⟨_,rfl,?_⟩))
              go_meet
              case rel=>exact ⟨_,(decide ((x0_18.size:Int) > 2)),r1_,H',⟨by have:=HJ2.out;have:=HJ9.out;have:=HJ13.out;have:=HJ18.out;first|omega|exact Nat.le_refl _⟩,dr_⟩
             ·replace c24:=Bool.eq_false_iff.mpr c24
              subst c24
              have H1:(spec_jExponent.j4 kj18 x0_18 x4_9 true)=some (r1,r2):=by rw [if_neg (show ¬ (false=true) by decide)] at H;exact H
              clear H
              have H:=H1
              clear H1
              have H':=asd_ H
              clear H
              go_wp2_with (first|((with_reducible refine gate_callee (f:=85) rfl ?_);refine goesL_ (some 37) rfl rfl Tryz.func85 kr_ rfl #[.string x0_18] rfl ap_ ?_;(with_reducible refine (spec_jDigits.calls kj18 x0_18 false _ A23.out).mono ?_);rintro e w' ⟨rfl,⟨nd,rfl⟩⟩;refine ⟨_,rfl,?_⟩))
              go_meet
              case rel=>exact ⟨_,(true),r1_,H',⟨by have:=HJ2.out;have:=HJ9.out;have:=HJ13.out;have:=HJ18.out;first|omega|exact Nat.le_refl _⟩,dr_⟩
            case rest=>
             clear HC22
             obtain ⟨kq,x43_21,rfl,HA,HJ21,⟨mc21,rfl⟩⟩:=hcut
             cases kq with
             |zero=>exact absurd HA.out (by simp [spec_jExponent.j4])
             |succ kj21=>
              have H:=HA.out
              clear HA
              simp only [spec_jExponent.j4] at H
              by_cases c25:x43_21=true
              ·subst c25
               have H1:(some (0,false))=some (r1,r2):=by rw [if_pos rfl] at H;exact H
               clear H
               have H:=H1
               clear H1
               simp only [Option.some.injEq,Prod.mk.injEq] at H
               obtain ⟨rfl,rfl⟩:=H
               go_wp2
               go_ret2
               exact ⟨r1_,dr_⟩
              ·replace c25:=Bool.eq_false_iff.mpr c25
               subst c25
               have H1:(if x4_9=true then ((spec_jNumber.f kj21 x0_18).bind fun t114=>(some (wrap64 (-t114),true))) else ((spec_jNumber.f kj21 x0_18).bind fun t115=>(some (t115,true))))=some (r1,r2):=by rw [if_neg (show ¬ (false=true) by decide)] at H;exact H
               clear H
               have H:=H1
               clear H1
               by_cases c26:x4_9=true
               ·subst c26
                have H1:((spec_jNumber.f kj21 x0_18).bind fun t114=>(some (wrap64 (-t114),true)))=some (r1,r2):=by rw [if_pos rfl] at H;exact H
                clear H
                have H:=H1
                clear H1
                replace H:=Option.bind_eq_some_iff.mp H
                obtain ⟨t114,A270,H⟩:=H
                replace H:(some (wrap64 (-t114),true))=some (r1,r2):=H
                have A27:=asd_ A270
                clear A270
                simp only [Option.some.injEq,Prod.mk.injEq] at H
                obtain ⟨rfl,rfl⟩:=H
                go_wp2_with (first|((with_reducible refine gate_callee (f:=46) rfl ?_);refine goesL_ (some 46) rfl rfl Tryz.func46 kr_ rfl #[.string x0_18] rfl ap_ ?_;(with_reducible refine (spec_jNumber.calls kj21 x0_18 t114 _ A27.out).mono ?_);rintro e w' ⟨rfl,⟨nd,rfl⟩⟩;refine ⟨_,rfl,?_⟩))
                go_ret2
                exact ⟨r1_,dr_⟩
               ·replace c26:=Bool.eq_false_iff.mpr c26
                subst c26
                have H1:((spec_jNumber.f kj21 x0_18).bind fun t115=>(some (t115,true)))=some (r1,r2):=by rw [if_neg (show ¬ (false=true) by decide)] at H;exact H
                clear H
                have H:=H1
                clear H1
                replace H:=Option.bind_eq_some_iff.mp H
                obtain ⟨t115,A280,H⟩:=H
                replace H:(some (t115,true))=some (r1,r2):=H
                have A28:=asd_ A280
                clear A280
                simp only [Option.some.injEq,Prod.mk.injEq] at H
                obtain ⟨rfl,rfl⟩:=H
                go_wp2_with (first|((with_reducible refine gate_callee (f:=46) rfl ?_);refine goesL_ (some 49) rfl rfl Tryz.func46 kr_ rfl #[.string x0_18] rfl ap_ ?_;(with_reducible refine (spec_jNumber.calls kj21 x0_18 t115 _ A28.out).mono ?_);rintro e w' ⟨rfl,⟨nd,rfl⟩⟩;refine ⟨_,rfl,?_⟩))
                go_ret2
                exact ⟨r1_,dr_⟩
     ·rw [if_neg c9] at H
      exact absurd H (by simp)
def spec_jBare.l0:Nat→ByteArray→Option (ByteArray)
 |0,_=>none
 |k + 1,x0=>if x0.toList=([]:List UInt8) then (some x0) else (if 0 < (x0.size:Int) then (if (bt x0 0)=48 then (if 1≤(x0.size:Int) then (spec_jBare.l0 k (x0.extract 1 x0.size)) else (none)) else (some x0)) else (none))
def spec_jBare.f (k:Nat) (a0:ByteArray):Option (ByteArray):=spec_jBare.l0 k a0
theorem spec_jBare.calls (k:Nat) (a0:ByteArray) (r:ByteArray) (w:World) (h:spec_jBare.f k a0=some r):
  Calls Tryz.prog 128 #[.string a0] w fun e w'=>e= .returned (.string r)∧Drawn0 w w':=by
 have H:(spec_jBare.l0 k a0)=some r:=h
 clear h
 have H':=asd_ H
 clear H
 go_enter Tryz.func128,Tryz.ntmps128
 go_wp2
 go_loopg [0] k (fun kq v0 w'=>∃ (x0_1:ByteArray),v0= .string x0_1∧Aside0 (spec_jBare.l0 kq x0_1=some r)∧Aside0 (kq≤k)∧Drawn0 w w')
 case atStart=>exact ⟨(a0),r1_,H',⟨Nat.le_refl _⟩,dr_⟩
 case round=>
  clear H'
  obtain ⟨x0_1,rfl,HA,HK1,⟨m1,rfl⟩⟩:=hrel
  cases gk with
  |zero=>exact absurd HA.out (by simp [spec_jBare.l0])
  |succ k1=>
   have H:=HA.out
   clear HA
   simp only [spec_jBare.l0] at H
   by_cases c2:x0_1.toList=([]:List UInt8)
   ·rw [if_pos c2] at H
    have c2b0:=beq_iff_eq.mpr c2
    have c2b1:=bne_eq_false_iff_eq.mpr c2
    clear c2
    obtain rfl:=Option.some.inj H
    go_wp2
    go_ret
    exact ⟨r1_,dr_⟩
   ·rw [if_neg c2] at H
    have c2b0:=beq_eq_false_iff_ne.mpr c2
    have c2b1:=bne_iff_ne.mpr c2
    by_cases c3:0 < (x0_1.size:Int)
    ·rw [if_pos c3] at H
     have c3b0:=decide_eq_true c3
     have c3b1:decide (0 < x0_1.size)=true:=decide_eq_true (by omega)
     clear c3
     by_cases c5:(bt x0_1 0)=48
     ·rw [if_pos c5] at H
      have c5b0:=beq_iff_eq.mpr c5
      have c5b1:=bne_eq_false_iff_eq.mpr c5
      clear c5
      by_cases c6:1≤(x0_1.size:Int)
      ·rw [if_pos c6] at H
       have c6b0:=eq_true c6
       have c6b1:=decide_eq_true c6
       clear c6
       have H':=asd_ H
       clear H
       have p4:0≤(0:Int):=(by omega)
       have q4:0 < x0_1.size:=(by have:(0:Int) < (x0_1.size:Int):=of_decide_eq_true as_;omega)
       have hx4:∀ h:0 < x0_1.size,((x0_1[0]'h).toNat:Int)=bt x0_1 0:=bt_at x0_1 0
       clear p4
       have qi4:(0 < (x0_1.size:Int))=True:=eq_true (of_decide_eq_true as_)
       replace q4:=eq_true q4
       go_wp2
       go_roundg k1
       case measure=>have:=HK1.out;omega
       case rel=>exact ⟨(x0_1.extract 1 x0_1.size),r1_,H',⟨by have:=HK1.out;omega⟩,dr_⟩
      ·rw [if_neg c6] at H
       exact absurd H (by simp)
     ·rw [if_neg c5] at H
      have c5b0:=beq_eq_false_iff_ne.mpr c5
      have c5b1:=bne_iff_ne.mpr c5
      obtain rfl:=Option.some.inj H
      have p4:0≤(0:Int):=(by omega)
      have q4:0 < x0_1.size:=(by have:(0:Int) < (x0_1.size:Int):=of_decide_eq_true as_;omega)
      have hx4:∀ h:0 < x0_1.size,((x0_1[0]'h).toNat:Int)=bt x0_1 0:=bt_at x0_1 0
      clear p4
      have qi4:(0 < (x0_1.size:Int))=True:=eq_true (of_decide_eq_true as_)
      replace q4:=eq_true q4
      go_wp2
      go_ret
      exact ⟨r1_,dr_⟩
    ·rw [if_neg c3] at H
     exact absurd H (by simp)
end Go.Proofs.YtkphbhncpdcbeaaGreatDoor.PJT
