/- Part. -/
import Derived.Test.YtlblbefbbibpaaaGreatDoorQAJ
set_option linter.unusedVariables false
set_option linter.unusedSimpArgs false
set_option maxHeartbeats 8000000
set_option maxRecDepth 100000
namespace Go.Proofs.YtlblbefbbibpaaaGreatDoor.PAM
open Go.RowKit Zw.PrintWords Zw.PrintLast Zw.PrintMore
attribute [local go_sem] max2_int min2_int max_two min_two max_three min_three max_four min_four
def spec_IsName.l0:Nat→ByteArray→Int→Option (Bool)
 |0,_,_=>none
 |k + 1,x0,x3=>if x3 < (x0.size:Int) then (if 0≤x3 then ((spec_IsStart.f (wrap32 (bt x0 x3))).bind fun t101=>(if t101=true then (spec_IsName.l0 k x0 (wrap64 (x3 + 1))) else (if x3=0 then (some false) else ((spec_IsDigit.f (wrap32 (bt x0 x3))).bind fun t102=>(if t102=true then (spec_IsName.l0 k x0 (wrap64 (x3 + 1))) else (some false)))))) else (none)) else (some (x0.toList != ([]:List UInt8)))
def spec_IsName.f (k:Nat) (a0:ByteArray):Option (Bool):=spec_IsName.l0 k a0 0
theorem spec_IsName.mono_l:∀ k,(∀ y0 y1,LeO (spec_IsName.l0 k y0 y1) (spec_IsName.l0 (k + 1) y0 y1))
 |0=>fun _ _ r h=>by simp [spec_IsName.l0] at h
 |k + 1=>by
  have ih0:=spec_IsName.mono_l k
  ·intro y0 y1
   unfold spec_IsName.l0
   repeat' first
   |(with_reducible exact ih0 _ _)
   |(with_reducible exact LeO.refl _)
   |(with_reducible exact LeO.none _)
   |(with_reducible refine LeO.ite ?_ ?_)
   |(with_reducible refine LeO.bind ?_ (fun _=> ?_))
theorem spec_IsName.mono:∀ a0 k,LeO (spec_IsName.f k a0) (spec_IsName.f (k + 1) a0):=by
 intro a0 k
 have ih0:=spec_IsName.mono_l k
 unfold spec_IsName.f
 repeat' first
   |(with_reducible exact ih0 _ _)
   |(with_reducible exact LeO.refl _)
   |(with_reducible exact LeO.none _)
   |(with_reducible refine LeO.ite ?_ ?_)
   |(with_reducible refine LeO.bind ?_ (fun _=> ?_))
theorem spec_IsName.calls (k:Nat) (a0:ByteArray) (r:Bool) (w:World) (h:spec_IsName.f k a0=some r):
  Calls Tryz.prog 24 #[.string a0] w fun e w'=>e= .returned (.bool r)∧Drawn0 w w':=by
 have H:(spec_IsName.l0 k a0 0)=some r:=h
 clear h
 have H':=asd_ H
 clear H
 go_enter Tryz.func24,Tryz.ntmps24
 go_wp2
 go_loopg [3] k (fun kq v3 w'=>∃ (x3_1:Int),v3= .int .i64 x3_1∧Aside0 (spec_IsName.l0 kq a0 x3_1=some r)∧Aside0 (kq≤k)∧Drawn0 w w')
 case atStart=>exact ⟨(0),r1_,H',⟨Nat.le_refl _⟩,dr_⟩
 case round=>
  clear H'
  obtain ⟨x3_1,rfl,HA,HK1,⟨m1,rfl⟩⟩:=hrel
  cases gk with
  |zero=>exact absurd HA.out (by simp [spec_IsName.l0])
  |succ k1=>
   have H:=HA.out
   clear HA
   simp only [spec_IsName.l0] at H
   by_cases c2:x3_1 < (a0.size:Int)
   ·rw [if_pos c2] at H
    have c2b0:=decide_eq_true c2
    clear c2
    by_cases c3:0≤x3_1
    ·rw [if_pos c3] at H
     have c3b0:=decide_eq_true c3
     clear c3
     replace H:=Option.bind_eq_some_iff.mp H
     obtain ⟨t101,A50,H⟩:=H
     replace H:(if t101=true then (spec_IsName.l0 k1 a0 (wrap64 (x3_1 + 1))) else (if x3_1=0 then (some false) else ((spec_IsDigit.f (wrap32 (bt a0 x3_1))).bind fun t102=>(if t102=true then (spec_IsName.l0 k1 a0 (wrap64 (x3_1 + 1))) else (some false)))))=some r:=H
     have A5:=asd_ A50
     clear A50
     by_cases c6:t101=true
     ·subst c6
      have H1:(spec_IsName.l0 k1 a0 (wrap64 (x3_1 + 1)))=some r:=by rw [if_pos rfl] at H;exact H
      clear H
      have H:=H1
      clear H1
      have H':=asd_ H
      clear H
      have p4:0≤(x3_1:Int):=of_decide_eq_true as_
      have q4:x3_1 < (a0.size:Int):=of_decide_eq_true as_
      have hx4:=bt_at a0 x3_1
      replace p4:=eq_true p4
      replace q4:=eq_true q4
      go_wp2_with (first|((with_reducible refine gate_callee (f:=43) rfl ?_);refine goesL_ (some 16) rfl rfl Tryz.func43 kr_ rfl #[.int .i32 (wrap32 (bt a0 x3_1))] rfl ap_ ?_;(with_reducible refine (spec_IsStart.calls (wrap32 (bt a0 x3_1)) true _ A5.out).mono ?_);rintro e w' ⟨rfl,⟨nd,rfl⟩⟩;refine ⟨_,rfl,?_⟩))
      go_roundg k1
      case measure=>have:=HK1.out;omega
      case rel=>exact ⟨(wrap64 (x3_1 + 1)),r1_,H',⟨by have:=HK1.out;omega⟩,dr_⟩
     ·replace c6:=Bool.eq_false_iff.mpr c6
      subst c6
      have H1:(if x3_1=0 then (some false) else ((spec_IsDigit.f (wrap32 (bt a0 x3_1))).bind fun t102=>(if t102=true then (spec_IsName.l0 k1 a0 (wrap64 (x3_1 + 1))) else (some false))))=some r:=by rw [if_neg (show ¬ (false=true) by decide)] at H;exact H
      clear H
      have H:=H1
      clear H1
      by_cases c7:x3_1=0
      ·rw [if_pos c7] at H
       have c7b0:=beq_iff_eq.mpr c7
       have c7b1:=bne_eq_false_iff_eq.mpr c7
       clear c7
       obtain rfl:=Option.some.inj H
       have p4:0≤(x3_1:Int):=of_decide_eq_true as_
       have q4:x3_1 < (a0.size:Int):=of_decide_eq_true as_
       have hx4:=bt_at a0 x3_1
       replace p4:=eq_true p4
       replace q4:=eq_true q4
       go_wp2_with (first|((with_reducible refine gate_callee (f:=43) rfl ?_);refine goesL_ (some 16) rfl rfl Tryz.func43 kr_ rfl #[.int .i32 (wrap32 (bt a0 x3_1))] rfl ap_ ?_;(with_reducible refine (spec_IsStart.calls (wrap32 (bt a0 x3_1)) false _ A5.out).mono ?_);rintro e w' ⟨rfl,⟨nd,rfl⟩⟩;refine ⟨_,rfl,?_⟩))
       go_ret
       exact ⟨by first|rfl|(simp;done)|(simp [*];done)|(cases a0.toList<;>rfl)|(cases h_:a0.toList<;>simp_all),dr_⟩
      ·rw [if_neg c7] at H
       have c7b0:=beq_eq_false_iff_ne.mpr c7
       have c7b1:=bne_iff_ne.mpr c7
       replace H:=Option.bind_eq_some_iff.mp H
       obtain ⟨t102,A80,H⟩:=H
       replace H:(if t102=true then (spec_IsName.l0 k1 a0 (wrap64 (x3_1 + 1))) else (some false))=some r:=H
       have A8:=asd_ A80
       clear A80
       by_cases c9:t102=true
       ·subst c9
        have H1:(spec_IsName.l0 k1 a0 (wrap64 (x3_1 + 1)))=some r:=by rw [if_pos rfl] at H;exact H
        clear H
        have H:=H1
        clear H1
        have H':=asd_ H
        clear H
        have p4:0≤(x3_1:Int):=of_decide_eq_true as_
        have q4:x3_1 < (a0.size:Int):=of_decide_eq_true as_
        have hx4:=bt_at a0 x3_1
        replace p4:=eq_true p4
        replace q4:=eq_true q4
        go_wp2_with (first|((with_reducible refine gate_callee (f:=43) rfl ?_);refine goesL_ (some 16) rfl rfl Tryz.func43 kr_ rfl #[.int .i32 (wrap32 (bt a0 x3_1))] rfl ap_ ?_;(with_reducible refine (spec_IsStart.calls (wrap32 (bt a0 x3_1)) false _ A5.out).mono ?_);rintro e w' ⟨rfl,⟨nd,rfl⟩⟩;refine ⟨_,rfl,?_⟩)|(go_at_call 44;(with_reducible refine (spec_IsDigit.calls (wrap32 (bt a0 x3_1)) true _ A8.out).mono ?_);rintro e w' ⟨rfl,⟨nd,rfl⟩⟩))
        go_roundg k1
        case measure=>have:=HK1.out;omega
        case rel=>exact ⟨(wrap64 (x3_1 + 1)),r1_,H',⟨by have:=HK1.out;omega⟩,dr_⟩
       ·replace c9:=Bool.eq_false_iff.mpr c9
        subst c9
        have H1:(some false)=some r:=by rw [if_neg (show ¬ (false=true) by decide)] at H;exact H
        clear H
        have H:=H1
        clear H1
        obtain rfl:=Option.some.inj H
        have p4:0≤(x3_1:Int):=of_decide_eq_true as_
        have q4:x3_1 < (a0.size:Int):=of_decide_eq_true as_
        have hx4:=bt_at a0 x3_1
        replace p4:=eq_true p4
        replace q4:=eq_true q4
        go_wp2_with (first|((with_reducible refine gate_callee (f:=43) rfl ?_);refine goesL_ (some 16) rfl rfl Tryz.func43 kr_ rfl #[.int .i32 (wrap32 (bt a0 x3_1))] rfl ap_ ?_;(with_reducible refine (spec_IsStart.calls (wrap32 (bt a0 x3_1)) false _ A5.out).mono ?_);rintro e w' ⟨rfl,⟨nd,rfl⟩⟩;refine ⟨_,rfl,?_⟩)|(go_at_call 44;(with_reducible refine (spec_IsDigit.calls (wrap32 (bt a0 x3_1)) false _ A8.out).mono ?_);rintro e w' ⟨rfl,⟨nd,rfl⟩⟩))
        go_ret
        exact ⟨by first|rfl|(simp;done)|(simp [*];done)|(cases a0.toList<;>rfl)|(cases h_:a0.toList<;>simp_all),dr_⟩
    ·rw [if_neg c3] at H
     exact absurd H (by simp)
   ·rw [if_neg c2] at H
    have c2b0:=decide_eq_false c2
    clear c2
    obtain rfl:=Option.some.inj H
    go_wp2
    go_ret
    exact ⟨by first|rfl|(simp;done)|(simp [*];done)|(cases a0.toList<;>rfl)|(cases h_:a0.toList<;>simp_all),dr_⟩
def spec_Straight.l0:Nat→ByteArray→Int→Option (Bool)
 |0,_,_=>none
 |k + 1,x0,x3=>if x3 < (x0.size:Int) then (if 0≤x3 then (if (bt x0 x3) < 32 then (some false) else (if (bt x0 x3) > 126 then (some false) else (if (bt x0 x3)=34 then (some false) else (if (bt x0 x3)=92 then (some false) else (spec_Straight.l0 k x0 (wrap64 (x3 + 1))))))) else (none)) else (if x0.toList=([]:List UInt8) then (some false) else (if 0 < (x0.size:Int) then (if (bt x0 0)=32 then (some false) else (if 0≤(wrap64 ((x0.size:Int) - 1)) then (if (wrap64 ((x0.size:Int) - 1)) < (x0.size:Int) then (if (bt x0 (wrap64 ((x0.size:Int) - 1)))=32 then (some false) else (some (decide ((x0.size:Int)≤65536)))) else (none)) else (none))) else (none)))
def spec_Straight.f (k:Nat) (a0:ByteArray):Option (Bool):=spec_Straight.l0 k a0 0
theorem spec_Straight.calls (k:Nat) (a0:ByteArray) (r:Bool) (w:World) (h:spec_Straight.f k a0=some r):
  Calls Tryz.prog 47 #[.string a0] w fun e w'=>e= .returned (.bool r)∧Drawn0 w w':=by
 have H:(spec_Straight.l0 k a0 0)=some r:=h
 clear h
 have H':=asd_ H
 clear H
 go_enter Tryz.func47,Tryz.ntmps47
 go_wp2
 go_loopg [3] k (fun kq v3 w'=>∃ (x3_1:Int),v3= .int .i64 x3_1∧Aside0 (spec_Straight.l0 kq a0 x3_1=some r)∧Aside0 (kq≤k)∧Drawn0 w w')
 case atStart=>exact ⟨(0),r1_,H',⟨Nat.le_refl _⟩,dr_⟩
 case round=>
  clear H'
  obtain ⟨x3_1,rfl,HA,HK1,⟨m1,rfl⟩⟩:=hrel
  cases gk with
  |zero=>exact absurd HA.out (by simp [spec_Straight.l0])
  |succ k1=>
   have H:=HA.out
   clear HA
   simp only [spec_Straight.l0] at H
   by_cases c2:x3_1 < (a0.size:Int)
   ·rw [if_pos c2] at H
    have c2b0:=decide_eq_true c2
    clear c2
    by_cases c3:0≤x3_1
    ·rw [if_pos c3] at H
     have c3b0:=decide_eq_true c3
     clear c3
     by_cases c5:(bt a0 x3_1) < 32
     ·rw [if_pos c5] at H
      have c5b0:=decide_eq_true c5
      clear c5
      obtain rfl:=Option.some.inj H
      have p4:0≤(x3_1:Int):=of_decide_eq_true as_
      have q4:x3_1 < (a0.size:Int):=of_decide_eq_true as_
      have hx4:=bt_at a0 x3_1
      replace p4:=eq_true p4
      replace q4:=eq_true q4
      go_wp2
      go_ret
      exact ⟨r1_,dr_⟩
     ·rw [if_neg c5] at H
      have c5b0:=decide_eq_false c5
      clear c5
      by_cases c7:(bt a0 x3_1) > 126
      ·rw [if_pos c7] at H
       have c7b0:=decide_eq_true c7
       clear c7
       obtain rfl:=Option.some.inj H
       have p4:0≤(x3_1:Int):=of_decide_eq_true as_
       have q4:x3_1 < (a0.size:Int):=of_decide_eq_true as_
       have hx4:=bt_at a0 x3_1
       replace p4:=eq_true p4
       replace q4:=eq_true q4
       have p6:0≤(x3_1:Int):=of_decide_eq_true as_
       have q6:x3_1 < (a0.size:Int):=of_decide_eq_true as_
       have hx6:=bt_at a0 x3_1
       replace p6:=eq_true p6
       replace q6:=eq_true q6
       go_wp2
       go_ret
       exact ⟨r1_,dr_⟩
      ·rw [if_neg c7] at H
       have c7b0:=decide_eq_false c7
       clear c7
       by_cases c9:(bt a0 x3_1)=34
       ·rw [if_pos c9] at H
        have c9b0:=beq_iff_eq.mpr c9
        have c9b1:=bne_eq_false_iff_eq.mpr c9
        clear c9
        obtain rfl:=Option.some.inj H
        have p4:0≤(x3_1:Int):=of_decide_eq_true as_
        have q4:x3_1 < (a0.size:Int):=of_decide_eq_true as_
        have hx4:=bt_at a0 x3_1
        replace p4:=eq_true p4
        replace q4:=eq_true q4
        have p6:0≤(x3_1:Int):=of_decide_eq_true as_
        have q6:x3_1 < (a0.size:Int):=of_decide_eq_true as_
        have hx6:=bt_at a0 x3_1
        replace p6:=eq_true p6
        replace q6:=eq_true q6
        have p8:0≤(x3_1:Int):=of_decide_eq_true as_
        have q8:x3_1 < (a0.size:Int):=of_decide_eq_true as_
        have hx8:=bt_at a0 x3_1
        replace p8:=eq_true p8
        replace q8:=eq_true q8
        go_wp2
        go_ret
        exact ⟨r1_,dr_⟩
       ·rw [if_neg c9] at H
        have c9b0:=beq_eq_false_iff_ne.mpr c9
        have c9b1:=bne_iff_ne.mpr c9
        by_cases c11:(bt a0 x3_1)=92
        ·rw [if_pos c11] at H
         have c11b0:=beq_iff_eq.mpr c11
         have c11b1:=bne_eq_false_iff_eq.mpr c11
         clear c11
         obtain rfl:=Option.some.inj H
         have p4:0≤(x3_1:Int):=of_decide_eq_true as_
         have q4:x3_1 < (a0.size:Int):=of_decide_eq_true as_
         have hx4:=bt_at a0 x3_1
         replace p4:=eq_true p4
         replace q4:=eq_true q4
         have p6:0≤(x3_1:Int):=of_decide_eq_true as_
         have q6:x3_1 < (a0.size:Int):=of_decide_eq_true as_
         have hx6:=bt_at a0 x3_1
         replace p6:=eq_true p6
         replace q6:=eq_true q6
         have p8:0≤(x3_1:Int):=of_decide_eq_true as_
         have q8:x3_1 < (a0.size:Int):=of_decide_eq_true as_
         have hx8:=bt_at a0 x3_1
         replace p8:=eq_true p8
         replace q8:=eq_true q8
         have p10:0≤(x3_1:Int):=of_decide_eq_true as_
         have q10:x3_1 < (a0.size:Int):=of_decide_eq_true as_
         have hx10:=bt_at a0 x3_1
         replace p10:=eq_true p10
         replace q10:=eq_true q10
         go_wp2
         go_ret
         exact ⟨r1_,dr_⟩
        ·rw [if_neg c11] at H
         have c11b0:=beq_eq_false_iff_ne.mpr c11
         have c11b1:=bne_iff_ne.mpr c11
         have H':=asd_ H
         clear H
         have p4:0≤(x3_1:Int):=of_decide_eq_true as_
         have q4:x3_1 < (a0.size:Int):=of_decide_eq_true as_
         have hx4:=bt_at a0 x3_1
         replace p4:=eq_true p4
         replace q4:=eq_true q4
         have p6:0≤(x3_1:Int):=of_decide_eq_true as_
         have q6:x3_1 < (a0.size:Int):=of_decide_eq_true as_
         have hx6:=bt_at a0 x3_1
         replace p6:=eq_true p6
         replace q6:=eq_true q6
         have p8:0≤(x3_1:Int):=of_decide_eq_true as_
         have q8:x3_1 < (a0.size:Int):=of_decide_eq_true as_
         have hx8:=bt_at a0 x3_1
         replace p8:=eq_true p8
         replace q8:=eq_true q8
         have p10:0≤(x3_1:Int):=of_decide_eq_true as_
         have q10:x3_1 < (a0.size:Int):=of_decide_eq_true as_
         have hx10:=bt_at a0 x3_1
         replace p10:=eq_true p10
         replace q10:=eq_true q10
         go_wp2
         go_roundg k1
         case measure=>have:=HK1.out;omega
         case rel=>exact ⟨(wrap64 (x3_1 + 1)),r1_,H',⟨by have:=HK1.out;omega⟩,dr_⟩
    ·rw [if_neg c3] at H
     exact absurd H (by simp)
   ·rw [if_neg c2] at H
    have c2b0:=decide_eq_false c2
    clear c2
    by_cases c12:a0.toList=([]:List UInt8)
    ·rw [if_pos c12] at H
     have c12b0:=beq_iff_eq.mpr c12
     have c12b1:=bne_eq_false_iff_eq.mpr c12
     clear c12
     obtain rfl:=Option.some.inj H
     go_wp2
     go_ret
     exact ⟨r1_,dr_⟩
    ·rw [if_neg c12] at H
     have c12b0:=beq_eq_false_iff_ne.mpr c12
     have c12b1:=bne_iff_ne.mpr c12
     by_cases c13:0 < (a0.size:Int)
     ·rw [if_pos c13] at H
      have c13b0:=decide_eq_true c13
      have c13b1:decide (0 < a0.size)=true:=decide_eq_true (by omega)
      clear c13
      by_cases c15:(bt a0 0)=32
      ·rw [if_pos c15] at H
       have c15b0:=beq_iff_eq.mpr c15
       have c15b1:=bne_eq_false_iff_eq.mpr c15
       clear c15
       obtain rfl:=Option.some.inj H
       have p14:0≤(0:Int):=(by omega)
       have q14:0 < a0.size:=(by have:(0:Int) < (a0.size:Int):=of_decide_eq_true as_;omega)
       have hx14:∀ h:0 < a0.size,((a0[0]'h).toNat:Int)=bt a0 0:=bt_at a0 0
       clear p14
       have qi14:(0 < (a0.size:Int))=True:=eq_true (of_decide_eq_true as_)
       replace q14:=eq_true q14
       go_wp2
       go_ret
       exact ⟨r1_,dr_⟩
      ·rw [if_neg c15] at H
       have c15b0:=beq_eq_false_iff_ne.mpr c15
       have c15b1:=bne_iff_ne.mpr c15
       obtain ⟨ji16,hji16⟩:∃ j_:Int,(wrap64 ((a0.size:Int) - 1))=j_:=⟨_,rfl⟩
       replace H:(if 0≤(ji16) then (if (ji16) < (a0.size:Int) then (if (bt a0 (ji16))=32 then (some false) else (some (decide ((a0.size:Int)≤65536)))) else (none)) else (none))=some r:=by first|(rw [hji16] at H;exact H)|(simp only [hji16] at H ⊢;exact H)
       have hji16w:(IntKind.i64.wrap ((a0.size:Int) - 1))=ji16:=(i64_w _).trans hji16
       by_cases c17:0≤(ji16)
       ·rw [if_pos c17] at H
        have c17b0:=decide_eq_true c17
        clear c17
        by_cases c18:(ji16) < (a0.size:Int)
        ·rw [if_pos c18] at H
         have c18b0:=decide_eq_true c18
         clear c18
         by_cases c20:(bt a0 (ji16))=32
         ·rw [if_pos c20] at H
          have c20b0:=beq_iff_eq.mpr c20
          have c20b1:=bne_eq_false_iff_eq.mpr c20
          clear c20
          obtain rfl:=Option.some.inj H
          have p14:0≤(0:Int):=(by omega)
          have q14:0 < a0.size:=(by have:(0:Int) < (a0.size:Int):=of_decide_eq_true as_;omega)
          have hx14:∀ h:0 < a0.size,((a0[0]'h).toNat:Int)=bt a0 0:=bt_at a0 0
          clear p14
          have qi14:(0 < (a0.size:Int))=True:=eq_true (of_decide_eq_true as_)
          replace q14:=eq_true q14
          have p19:0≤((ji16):Int):=of_decide_eq_true as_
          have q19:(ji16) < (a0.size:Int):=of_decide_eq_true as_
          have hx19:=bt_at a0 (ji16)
          replace p19:=eq_true p19
          replace q19:=eq_true q19
          go_wp2
          go_ret
          exact ⟨by first|rfl|(simp;done)|(simp only [← hji16]<;>(first|rfl|simp))|(simp [*];done),dr_⟩
         ·rw [if_neg c20] at H
          have c20b0:=beq_eq_false_iff_ne.mpr c20
          have c20b1:=bne_iff_ne.mpr c20
          obtain rfl:=Option.some.inj H
          have p14:0≤(0:Int):=(by omega)
          have q14:0 < a0.size:=(by have:(0:Int) < (a0.size:Int):=of_decide_eq_true as_;omega)
          have hx14:∀ h:0 < a0.size,((a0[0]'h).toNat:Int)=bt a0 0:=bt_at a0 0
          clear p14
          have qi14:(0 < (a0.size:Int))=True:=eq_true (of_decide_eq_true as_)
          replace q14:=eq_true q14
          have p19:0≤((ji16):Int):=of_decide_eq_true as_
          have q19:(ji16) < (a0.size:Int):=of_decide_eq_true as_
          have hx19:=bt_at a0 (ji16)
          replace p19:=eq_true p19
          replace q19:=eq_true q19
          go_wp2
          go_ret
          exact ⟨by first|rfl|(simp;done)|(simp only [← hji16]<;>(first|rfl|simp))|(simp [*];done),dr_⟩
        ·rw [if_neg c18] at H
         exact absurd H (by simp)
       ·rw [if_neg c17] at H
        exact absurd H (by simp)
     ·rw [if_neg c13] at H
      exact absurd H (by simp)
def spec_fitsDoc.f (k:Nat) (a0:ByteArray):Option (Bool):=if a0.toList=([]:List UInt8) then (some true) else ((spec_Straight.f k a0).bind fun t111=>(some t111))
theorem spec_fitsDoc.calls (k:Nat) (a0:ByteArray) (r:Bool) (w:World) (h:spec_fitsDoc.f k a0=some r):
  Calls Tryz.prog 27 #[.string a0] w fun e w'=>e= .returned (.bool r)∧Drawn0 w w':=by
 have H:(if a0.toList=([]:List UInt8) then (some true) else ((spec_Straight.f k a0).bind fun t111=>(some t111)))=some r:=h
 clear h
 by_cases c2:a0.toList=([]:List UInt8)
 ·rw [if_pos c2] at H
  have c2b0:=beq_iff_eq.mpr c2
  have c2b1:=bne_eq_false_iff_eq.mpr c2
  clear c2
  obtain rfl:=Option.some.inj H
  go_enter Tryz.func27,Tryz.ntmps27
  go_wp2
  go_ret
  exact ⟨r1_,dr_⟩
 ·rw [if_neg c2] at H
  have c2b0:=beq_eq_false_iff_ne.mpr c2
  have c2b1:=bne_iff_ne.mpr c2
  replace H:=Option.bind_eq_some_iff.mp H
  obtain ⟨t111,A30,H⟩:=H
  replace H:(some t111)=some r:=H
  have A3:=asd_ A30
  clear A30
  obtain rfl:=Option.some.inj H
  go_enter Tryz.func27,Tryz.ntmps27
  go_wp2_with (first|(go_at_call 47;(with_reducible refine (spec_Straight.calls k a0 t111 _ A3.out).mono ?_);rintro e w' ⟨rfl,⟨nd,rfl⟩⟩))
  go_ret
  exact ⟨r1_,dr_⟩
def spec_FitsTyp.f:Nat→ByteArray→List (S41)→Bool→Int→Option (Bool)
 |0,_,_,_,_=>none
 |k + 1,a0_0,l0_1,a0_2,a1=>if (l0_1.length:Int)=0 then ((spec_IsName.f k a0_0).bind fun t104=>(some t104)) else (if a1 > 0 then (if (l0_1.length:Int)=1 then (if a0_0.toList=([]:List UInt8) then (if 0 < (l0_1.length:Int) then ((spec_FitsTyp.f k ((rd_T41 l0_1 0).f0) ((rd_T41 l0_1 0).f1) ((rd_T41 l0_1 0).f2) (wrap64 (a1 - 1))).bind fun t106=>(some t106)) else (none)) else (some false)) else (some false)) else (some false))
theorem spec_FitsTyp.mono_l:∀ k,(∀ y0 y1 y2 y3,LeO (spec_FitsTyp.f k y0 y1 y2 y3) (spec_FitsTyp.f (k + 1) y0 y1 y2 y3))
 |0=>fun _ _ _ _ r h=>by simp [spec_FitsTyp.f] at h
 |k + 1=>by
  have ih0:=spec_FitsTyp.mono_l k
  ·intro y0 y1 y2 y3
   unfold spec_FitsTyp.f
   repeat' first
   |(with_reducible exact ih0 _ _ _ _)
   |(with_reducible exact spec_IsName.mono _ _)
   |(with_reducible exact LeO.refl _)
   |(with_reducible exact LeO.none _)
   |(with_reducible refine LeO.ite ?_ ?_)
   |(with_reducible refine LeO.bind ?_ (fun _=> ?_))
theorem spec_FitsTyp.mono:∀ a0 a1 a2 a3 k,LeO (spec_FitsTyp.f k a0 a1 a2 a3) (spec_FitsTyp.f (k + 1) a0 a1 a2 a3):=by
 intro a0 a1 a2 a3 k
 have ih0:=spec_FitsTyp.mono_l k
 exact ih0 a0 a1 a2 a3
theorem spec_FitsTyp.calls (k:Nat):∀ (a0_0:ByteArray) (A0_1:Option Addr) (c0_1:Nat) (l0_1:List (S41)) (a0_2:Bool) (a1:Int) (r:Bool) (w:World) (hr0_1:Kd.C k41 w A0_1 l0_1.length l0_1) (hc0_1:l0_1.length≤c0_1) (h:spec_FitsTyp.f k a0_0 l0_1 a0_2 a1=some r),
  Calls Tryz.prog 28 #[.agg #[.string a0_0,.slice A0_1 l0_1.length c0_1,.bool a0_2],.int .i64 a1] w fun e w'=>e= .returned (.bool r)∧Below w.heap.size w w':=by
 induction k using Nat.strongRecOn with
 |_ k ih=>
 intro a0_0 A0_1 c0_1 l0_1 a0_2 a1 r w hr0_1 hc0_1 h
 cases k with
 |zero=>exact absurd h (by simp [spec_FitsTyp.f])
 |succ k=>
 simp only [spec_FitsTyp.f] at h
 have hu41:=Tryz.underlying41
 have HR0_1:=asd_ hr0_1
 have HC0_1:=asd_ hc0_1
 clear hr0_1 hc0_1
 have HB:=asd_ (Below.refl w.heap.size w)
 have H:(if (l0_1.length:Int)=0 then ((spec_IsName.f k a0_0).bind fun t104=>(some t104)) else (if a1 > 0 then (if (l0_1.length:Int)=1 then (if a0_0.toList=([]:List UInt8) then (if 0 < (l0_1.length:Int) then ((spec_FitsTyp.f k ((rd_T41 l0_1 0).f0) ((rd_T41 l0_1 0).f1) ((rd_T41 l0_1 0).f2) (wrap64 (a1 - 1))).bind fun t106=>(some t106)) else (none)) else (some false)) else (some false)) else (some false)))=some r:=h
 clear h
 by_cases c3:(l0_1.length:Int)=0
 ·rw [if_pos c3] at H
  have c3b0:=beq_iff_eq.mpr c3
  have c3b1:=bne_eq_false_iff_eq.mpr c3
  clear c3
  replace H:=Option.bind_eq_some_iff.mp H
  obtain ⟨t104,A40,H⟩:=H
  replace H:(some t104)=some r:=H
  have A4:=asd_ A40
  clear A40
  obtain rfl:=Option.some.inj H
  go_enter Tryz.func28,Tryz.ntmps28
  go_wp2_with (first|((with_reducible refine gate_dst (N:=2) rfl ?_);(try (refine gate_guard (by rfl) ?_;dsimp only));refine box_event ?hg (N:=2) ?hd (cs:=#[.string a0_0,.slice A0_1 l0_1.length c0_1,.bool a0_2]) (t:=41) ?hr ?_;(case hd=>rfl);(case hg=>rfl);(case hr=>first|(go_simp;done)|(go_simp;rfl));intro gb103 hg w5 hbox hb;have n0_:=asd_ (below_step wb_ hb);have n1_:=asd_ (hbox);have n2_:=asd_ ((by rw [hg];exact (below_size wb_):w.heap.size≤gb103));have n3_:=asd_ ((by rw [hg];exact (below_size wb_):w.heap.size≤gb103));clear HB;have HB:=n0_;have BK103:=n1_;have GW103:=n2_;have GE103:=n3_;clear n0_ n1_ n2_ n3_;clear hb hbox hg;have hc6_0:=cb_ BK103.out)|((with_reducible refine gate_callee (f:=24) rfl ?_);refine goesL_ (some 11) rfl rfl Tryz.func24 kr_ rfl #[.string a0_0] rfl ap_ ?_;(with_reducible refine (spec_IsName.calls k a0_0 t104 _ A4.out).mono ?_);rintro e w' ⟨rfl,⟨nd,rfl⟩⟩;refine ⟨_,rfl,?_⟩))
  go_ret
  exact ⟨er_,wb_⟩
 ·rw [if_neg c3] at H
  have c3b0:=beq_eq_false_iff_ne.mpr c3
  have c3b1:=bne_iff_ne.mpr c3
  have c3b2:¬ (l0_1=[]):=fun h_=>c3 (by rw [h_];rfl)
  by_cases c7:a1 > 0
  ·rw [if_pos c7] at H
   have c7b0:=decide_eq_true c7
   clear c7
   by_cases c8:(l0_1.length:Int)=1
   ·rw [if_pos c8] at H
    have c8b0:=beq_iff_eq.mpr c8
    have c8b1:=bne_eq_false_iff_eq.mpr c8
    clear c8
    by_cases c9:a0_0.toList=([]:List UInt8)
    ·rw [if_pos c9] at H
     have c9b0:=beq_iff_eq.mpr c9
     have c9b1:=bne_eq_false_iff_eq.mpr c9
     clear c9
     by_cases c10:0 < (l0_1.length:Int)
     ·rw [if_pos c10] at H
      have c10b0:=decide_eq_true c10
      have c10b1:decide (0 < l0_1.length)=true:=decide_eq_true (by omega)
      clear c10
      replace H:=Option.bind_eq_some_iff.mp H
      obtain ⟨t106,A110,H⟩:=H
      replace H:(some t106)=some r:=H
      have A11:=asd_ A110
      clear A110
      obtain rfl:=Option.some.inj H
      go_enter Tryz.func28,Tryz.ntmps28
      go_wp2_with (first|((with_reducible refine gate_dst (N:=2) rfl ?_);(try (refine gate_guard (by rfl) ?_;dsimp only));refine box_event ?hg (N:=2) ?hd (cs:=#[.string a0_0,.slice A0_1 l0_1.length c0_1,.bool a0_2]) (t:=41) ?hr ?_;(case hd=>rfl);(case hg=>rfl);(case hr=>first|(go_simp;done)|(go_simp;rfl));intro gb103 hg w12 hbox hb;have n0_:=asd_ (below_step wb_ hb);have n1_:=asd_ (hbox);have n2_:=asd_ ((by rw [hg];exact (below_size wb_):w.heap.size≤gb103));have n3_:=asd_ ((by rw [hg];exact (below_size wb_):w.heap.size≤gb103));clear HB;have HB:=n0_;have BK103:=n1_;have GW103:=n2_;have GE103:=n3_;clear n0_ n1_ n2_ n3_;clear hb hbox hg;have hc13_0:=cb_ BK103.out;have p105:0≤(0:Int):=(by omega);have q105:0 < (l0_1.length:Int):=of_decide_eq_true as_;obtain ⟨ad105,A105_1,c105_1,e105,hx105_0,hx105_1,hx105_2,hl105_1,hi105_1⟩:=at_T41 HR0_1.out 0 p105 q105;cases e105;have qi105:(0 < l0_1.length)=True:=eq_true (by omega);(try rw [show ((0:Int)).toNat=0 from rfl] at hx105_0);(try rw [show 0 * 3=0 from rfl] at hx105_0);(try rw [Addr.add_zero'] at hx105_0);(try rw [show ((0:Int)).toNat=0 from rfl] at hx105_1);(try rw [show 0 * 3=0 from rfl] at hx105_1);(try rw [Addr.add_zero'] at hx105_1);(try rw [show ((0:Int)).toNat=0 from rfl] at hx105_2);(try rw [show 0 * 3=0 from rfl] at hx105_2);(try rw [Addr.add_zero'] at hx105_2);replace hx105_0:=(HB.out.cell (World.block_lt_of_cell? w _ hx105_0)).trans hx105_0;replace hx105_1:=(HB.out.cell (World.block_lt_of_cell? w _ hx105_1)).trans hx105_1;replace hx105_2:=(HB.out.cell (World.block_lt_of_cell? w _ hx105_2)).trans hx105_2;have HR105_1:=asd_ hi105_1;have HC105_1:=asd_ hl105_1;clear hi105_1 hl105_1;replace p105:=eq_true p105;replace q105:=eq_true q105)|(go_at_call 28;(with_reducible refine (ih k (by omega) ((rd_T41 l0_1 0).f0) _ _ ((rd_T41 l0_1 0).f1) ((rd_T41 l0_1 0).f2) (wrap64 (a1 - 1)) t106 _ ?side1 ?side2 A11.out).mono ?_);(case side1=>repeat (first|exact (Kd.C_below HR105_1.out HB.out)|(with_reducible refine Kd.C_alloc ?_ _)|(with_reducible refine Kd.C_drewN ?_ _)|(with_reducible refine Kd.C_drew ?_)));(case side2=>exact HC105_1.out);rintro e w14 ⟨rfl,hb⟩;have n0_:=asd_ (blk_below (g:=gb103) (o:= .cells #[.string a0_0,.slice (some ad105) l0_1.length c0_1,.bool a0_2] 41 (0,0)) bk_ hb);have n1_:=asd_ (below_step wb_ hb);clear BK103;clear HB;have BK103:=n0_;have HB:=n1_;clear n0_ n1_;(try clear hb);(try clear hb2);(try clear hk);(try clear hi)))
      go_ret
      exact ⟨er_,wb_⟩
     ·rw [if_neg c10] at H
      exact absurd H (by simp)
    ·rw [if_neg c9] at H
     have c9b0:=beq_eq_false_iff_ne.mpr c9
     have c9b1:=bne_iff_ne.mpr c9
     obtain rfl:=Option.some.inj H
     go_enter Tryz.func28,Tryz.ntmps28
     go_wp2_with (first|((with_reducible refine gate_dst (N:=2) rfl ?_);(try (refine gate_guard (by rfl) ?_;dsimp only));refine box_event ?hg (N:=2) ?hd (cs:=#[.string a0_0,.slice A0_1 l0_1.length c0_1,.bool a0_2]) (t:=41) ?hr ?_;(case hd=>rfl);(case hg=>rfl);(case hr=>first|(go_simp;done)|(go_simp;rfl));intro gb103 hg w15 hbox hb;have n0_:=asd_ (below_step wb_ hb);have n1_:=asd_ (hbox);have n2_:=asd_ ((by rw [hg];exact (below_size wb_):w.heap.size≤gb103));have n3_:=asd_ ((by rw [hg];exact (below_size wb_):w.heap.size≤gb103));clear HB;have HB:=n0_;have BK103:=n1_;have GW103:=n2_;have GE103:=n3_;clear n0_ n1_ n2_ n3_;clear hb hbox hg;have hc16_0:=cb_ BK103.out))
     go_ret
     exact ⟨er_,wb_⟩
   ·rw [if_neg c8] at H
    have c8b0:=beq_eq_false_iff_ne.mpr c8
    have c8b1:=bne_iff_ne.mpr c8
    obtain rfl:=Option.some.inj H
    go_enter Tryz.func28,Tryz.ntmps28
    go_wp2_with (first|((with_reducible refine gate_dst (N:=2) rfl ?_);(try (refine gate_guard (by rfl) ?_;dsimp only));refine box_event ?hg (N:=2) ?hd (cs:=#[.string a0_0,.slice A0_1 l0_1.length c0_1,.bool a0_2]) (t:=41) ?hr ?_;(case hd=>rfl);(case hg=>rfl);(case hr=>first|(go_simp;done)|(go_simp;rfl));intro gb103 hg w17 hbox hb;have n0_:=asd_ (below_step wb_ hb);have n1_:=asd_ (hbox);have n2_:=asd_ ((by rw [hg];exact (below_size wb_):w.heap.size≤gb103));have n3_:=asd_ ((by rw [hg];exact (below_size wb_):w.heap.size≤gb103));clear HB;have HB:=n0_;have BK103:=n1_;have GW103:=n2_;have GE103:=n3_;clear n0_ n1_ n2_ n3_;clear hb hbox hg;have hc18_0:=cb_ BK103.out))
    go_ret
    exact ⟨er_,wb_⟩
  ·rw [if_neg c7] at H
   have c7b0:=decide_eq_false c7
   clear c7
   obtain rfl:=Option.some.inj H
   go_enter Tryz.func28,Tryz.ntmps28
   go_wp2_with (first|((with_reducible refine gate_dst (N:=2) rfl ?_);(try (refine gate_guard (by rfl) ?_;dsimp only));refine box_event ?hg (N:=2) ?hd (cs:=#[.string a0_0,.slice A0_1 l0_1.length c0_1,.bool a0_2]) (t:=41) ?hr ?_;(case hd=>rfl);(case hg=>rfl);(case hr=>first|(go_simp;done)|(go_simp;rfl));intro gb103 hg w19 hbox hb;have n0_:=asd_ (below_step wb_ hb);have n1_:=asd_ (hbox);have n2_:=asd_ ((by rw [hg];exact (below_size wb_):w.heap.size≤gb103));have n3_:=asd_ ((by rw [hg];exact (below_size wb_):w.heap.size≤gb103));clear HB;have HB:=n0_;have BK103:=n1_;have GW103:=n2_;have GE103:=n3_;clear n0_ n1_ n2_ n3_;clear hb hbox hg;have hc20_0:=cb_ BK103.out))
   go_ret
   exact ⟨er_,wb_⟩
def spec_Easy.l0:Nat→ByteArray→Int→Option (Bool)
 |0,_,_=>none
 |k + 1,x0,x3=>if x3 < (x0.size:Int) then (if 0≤x3 then (if (bt x0 x3)=9 then (spec_Easy.l0 k x0 (wrap64 (x3 + 1))) else (if (bt x0 x3)=10 then (spec_Easy.l0 k x0 (wrap64 (x3 + 1))) else (if (bt x0 x3) < 32 then (some false) else (if (bt x0 x3) > 126 then (some false) else (spec_Easy.l0 k x0 (wrap64 (x3 + 1))))))) else (none)) else (some (decide ((x0.size:Int)≤65536)))
def spec_Easy.f (k:Nat) (a0:ByteArray):Option (Bool):=spec_Easy.l0 k a0 0
theorem spec_Easy.calls (k:Nat) (a0:ByteArray) (r:Bool) (w:World) (h:spec_Easy.f k a0=some r):
  Calls Tryz.prog 46 #[.string a0] w fun e w'=>e= .returned (.bool r)∧Drawn0 w w':=by
 have H:(spec_Easy.l0 k a0 0)=some r:=h
 clear h
 have H':=asd_ H
 clear H
 go_enter Tryz.func46,Tryz.ntmps46
 go_wp2
 go_loopg [3] k (fun kq v3 w'=>∃ (x3_1:Int),v3= .int .i64 x3_1∧Aside0 (spec_Easy.l0 kq a0 x3_1=some r)∧Aside0 (kq≤k)∧Drawn0 w w')
 case atStart=>exact ⟨(0),r1_,H',⟨Nat.le_refl _⟩,dr_⟩
 case round=>
  clear H'
  obtain ⟨x3_1,rfl,HA,HK1,⟨m1,rfl⟩⟩:=hrel
  cases gk with
  |zero=>exact absurd HA.out (by simp [spec_Easy.l0])
  |succ k1=>
   have H:=HA.out
   clear HA
   simp only [spec_Easy.l0] at H
   by_cases c2:x3_1 < (a0.size:Int)
   ·rw [if_pos c2] at H
    have c2b0:=decide_eq_true c2
    clear c2
    by_cases c3:0≤x3_1
    ·rw [if_pos c3] at H
     have c3b0:=decide_eq_true c3
     clear c3
     by_cases c5:(bt a0 x3_1)=9
     ·rw [if_pos c5] at H
      have c5b0:=beq_iff_eq.mpr c5
      have c5b1:=bne_eq_false_iff_eq.mpr c5
      clear c5
      have H':=asd_ H
      clear H
      have p4:0≤(x3_1:Int):=of_decide_eq_true as_
      have q4:x3_1 < (a0.size:Int):=of_decide_eq_true as_
      have hx4:=bt_at a0 x3_1
      replace p4:=eq_true p4
      replace q4:=eq_true q4
      go_wp2
      go_roundg k1
      case measure=>have:=HK1.out;omega
      case rel=>exact ⟨(wrap64 (x3_1 + 1)),r1_,H',⟨by have:=HK1.out;omega⟩,dr_⟩
     ·rw [if_neg c5] at H
      have c5b0:=beq_eq_false_iff_ne.mpr c5
      have c5b1:=bne_iff_ne.mpr c5
      by_cases c7:(bt a0 x3_1)=10
      ·rw [if_pos c7] at H
       have c7b0:=beq_iff_eq.mpr c7
       have c7b1:=bne_eq_false_iff_eq.mpr c7
       clear c7
       have H':=asd_ H
       clear H
       have p4:0≤(x3_1:Int):=of_decide_eq_true as_
       have q4:x3_1 < (a0.size:Int):=of_decide_eq_true as_
       have hx4:=bt_at a0 x3_1
       replace p4:=eq_true p4
       replace q4:=eq_true q4
       have p6:0≤(x3_1:Int):=of_decide_eq_true as_
       have q6:x3_1 < (a0.size:Int):=of_decide_eq_true as_
       have hx6:=bt_at a0 x3_1
       replace p6:=eq_true p6
       replace q6:=eq_true q6
       go_wp2
       go_roundg k1
       case measure=>have:=HK1.out;omega
       case rel=>exact ⟨(wrap64 (x3_1 + 1)),r1_,H',⟨by have:=HK1.out;omega⟩,dr_⟩
      ·rw [if_neg c7] at H
       have c7b0:=beq_eq_false_iff_ne.mpr c7
       have c7b1:=bne_iff_ne.mpr c7
       by_cases c9:(bt a0 x3_1) < 32
       ·rw [if_pos c9] at H
        have c9b0:=decide_eq_true c9
        clear c9
        obtain rfl:=Option.some.inj H
        have p4:0≤(x3_1:Int):=of_decide_eq_true as_
        have q4:x3_1 < (a0.size:Int):=of_decide_eq_true as_
        have hx4:=bt_at a0 x3_1
        replace p4:=eq_true p4
        replace q4:=eq_true q4
        have p6:0≤(x3_1:Int):=of_decide_eq_true as_
        have q6:x3_1 < (a0.size:Int):=of_decide_eq_true as_
        have hx6:=bt_at a0 x3_1
        replace p6:=eq_true p6
        replace q6:=eq_true q6
        have p8:0≤(x3_1:Int):=of_decide_eq_true as_
        have q8:x3_1 < (a0.size:Int):=of_decide_eq_true as_
        have hx8:=bt_at a0 x3_1
        replace p8:=eq_true p8
        replace q8:=eq_true q8
        go_wp2
        go_ret
        exact ⟨r1_,dr_⟩
       ·rw [if_neg c9] at H
        have c9b0:=decide_eq_false c9
        clear c9
        by_cases c11:(bt a0 x3_1) > 126
        ·rw [if_pos c11] at H
         have c11b0:=decide_eq_true c11
         clear c11
         obtain rfl:=Option.some.inj H
         have p4:0≤(x3_1:Int):=of_decide_eq_true as_
         have q4:x3_1 < (a0.size:Int):=of_decide_eq_true as_
         have hx4:=bt_at a0 x3_1
         replace p4:=eq_true p4
         replace q4:=eq_true q4
         have p6:0≤(x3_1:Int):=of_decide_eq_true as_
         have q6:x3_1 < (a0.size:Int):=of_decide_eq_true as_
         have hx6:=bt_at a0 x3_1
         replace p6:=eq_true p6
         replace q6:=eq_true q6
         have p8:0≤(x3_1:Int):=of_decide_eq_true as_
         have q8:x3_1 < (a0.size:Int):=of_decide_eq_true as_
         have hx8:=bt_at a0 x3_1
         replace p8:=eq_true p8
         replace q8:=eq_true q8
         have p10:0≤(x3_1:Int):=of_decide_eq_true as_
         have q10:x3_1 < (a0.size:Int):=of_decide_eq_true as_
         have hx10:=bt_at a0 x3_1
         replace p10:=eq_true p10
         replace q10:=eq_true q10
         go_wp2
         go_ret
         exact ⟨r1_,dr_⟩
        ·rw [if_neg c11] at H
         have c11b0:=decide_eq_false c11
         clear c11
         have H':=asd_ H
         clear H
         have p4:0≤(x3_1:Int):=of_decide_eq_true as_
         have q4:x3_1 < (a0.size:Int):=of_decide_eq_true as_
         have hx4:=bt_at a0 x3_1
         replace p4:=eq_true p4
         replace q4:=eq_true q4
         have p6:0≤(x3_1:Int):=of_decide_eq_true as_
         have q6:x3_1 < (a0.size:Int):=of_decide_eq_true as_
         have hx6:=bt_at a0 x3_1
         replace p6:=eq_true p6
         replace q6:=eq_true q6
         have p8:0≤(x3_1:Int):=of_decide_eq_true as_
         have q8:x3_1 < (a0.size:Int):=of_decide_eq_true as_
         have hx8:=bt_at a0 x3_1
         replace p8:=eq_true p8
         replace q8:=eq_true q8
         have p10:0≤(x3_1:Int):=of_decide_eq_true as_
         have q10:x3_1 < (a0.size:Int):=of_decide_eq_true as_
         have hx10:=bt_at a0 x3_1
         replace p10:=eq_true p10
         replace q10:=eq_true q10
         go_wp2
         go_roundg k1
         case measure=>have:=HK1.out;omega
         case rel=>exact ⟨(wrap64 (x3_1 + 1)),r1_,H',⟨by have:=HK1.out;omega⟩,dr_⟩
    ·rw [if_neg c3] at H
     exact absurd H (by simp)
   ·rw [if_neg c2] at H
    have c2b0:=decide_eq_false c2
    clear c2
    obtain rfl:=Option.some.inj H
    go_wp2
    go_ret
    exact ⟨r1_,dr_⟩
def spec_nameKind.j0:Nat→ByteArray→Bool→Option (Int)
 |0,_,_=>none
 |k + 1,x3,x4=>if x4=true then (some 5) else (if x3.toList=([110,117,108,108]:List UInt8) then (some 6) else (some 7))
def spec_nameKind.f (k:Nat) (a0:ByteArray):Option (Int):=if a0.toList=([116,114,117,101]:List UInt8) then (spec_nameKind.j0 k a0 (a0.toList == ([116,114,117,101]:List UInt8))) else (spec_nameKind.j0 k a0 (a0.toList == ([102,97,108,115,101]:List UInt8)))
theorem spec_nameKind.calls (k:Nat) (a0:ByteArray) (r:Int) (w:World) (h:spec_nameKind.f k a0=some r):
  Calls Tryz.prog 48 #[.string a0] w fun e w'=>e= .returned (.int .i64 r)∧Drawn0 w w':=by
 have H:(if a0.toList=([116,114,117,101]:List UInt8) then (spec_nameKind.j0 k a0 (a0.toList == ([116,114,117,101]:List UInt8))) else (spec_nameKind.j0 k a0 (a0.toList == ([102,97,108,115,101]:List UInt8))))=some r:=h
 clear h
 have HC2:=asd_ H
 clear H
 go_enter Tryz.func48,Tryz.ntmps48
 go_upto_if 4 with (fail)
 go_cut [4] (fun v4 wc=>∃ (kq:Nat) (x4_1:Bool),v4= .bool x4_1∧Aside0 (spec_nameKind.j0 kq a0 x4_1=some r)∧Aside0 (kq≤k)∧Drawn0 w wc)
 case first=>
  have H:=HC2.out
  clear HC2
  by_cases c3:a0.toList=([116,114,117,101]:List UInt8)
  ·rw [if_pos c3] at H
   have c3b0:=beq_iff_eq.mpr c3
   have c3b1:=bne_eq_false_iff_eq.mpr c3
   clear c3
   (first|rw [c3b0]|(simp only [i64_w,i32_w];rw [c3b0])|skip)
   have H':=asd_ H
   clear H
   go_wp2
   go_meet
   case rel=>exact ⟨_,((a0.toList == ([116,114,117,101]:List UInt8))),r1_,H',⟨by first|omega|exact Nat.le_refl _⟩,dr_⟩
  ·rw [if_neg c3] at H
   have c3b0:=beq_eq_false_iff_ne.mpr c3
   have c3b1:=bne_iff_ne.mpr c3
   (first|rw [c3b0]|(simp only [i64_w,i32_w];rw [c3b0])|skip)
   have H':=asd_ H
   clear H
   go_wp2
   go_meet
   case rel=>exact ⟨_,((a0.toList == ([102,97,108,115,101]:List UInt8))),r1_,H',⟨by first|omega|exact Nat.le_refl _⟩,dr_⟩
 case rest=>
  clear HC2
  obtain ⟨kq,x4_1,rfl,HA,HJ1,⟨mc1,rfl⟩⟩:=hcut
  cases kq with
  |zero=>exact absurd HA.out (by simp [spec_nameKind.j0])
  |succ kj1=>
   have H:=HA.out
   clear HA
   simp only [spec_nameKind.j0] at H
   by_cases c4:x4_1=true
   ·subst c4
    have H1:(some 5)=some r:=by rw [if_pos rfl] at H;exact H
    clear H
    have H:=H1
    clear H1
    obtain rfl:=Option.some.inj H
    go_wp2
    go_ret
    exact ⟨r1_,dr_⟩
   ·replace c4:=Bool.eq_false_iff.mpr c4
    subst c4
    have H1:(if a0.toList=([110,117,108,108]:List UInt8) then (some 6) else (some 7))=some r:=by rw [if_neg (show ¬ (false=true) by decide)] at H;exact H
    clear H
    have H:=H1
    clear H1
    by_cases c5:a0.toList=([110,117,108,108]:List UInt8)
    ·rw [if_pos c5] at H
     have c5b0:=beq_iff_eq.mpr c5
     have c5b1:=bne_eq_false_iff_eq.mpr c5
     clear c5
     obtain rfl:=Option.some.inj H
     go_wp2
     go_ret
     exact ⟨r1_,dr_⟩
    ·rw [if_neg c5] at H
     have c5b0:=beq_eq_false_iff_ne.mpr c5
     have c5b1:=bne_iff_ne.mpr c5
     obtain rfl:=Option.some.inj H
     go_wp2
     go_ret
     exact ⟨r1_,dr_⟩
def spec_in.l0:Nat→ByteArray→List ByteArray→Int→Int→Option (Bool)
 |0,_,_,_,_=>none
 |k + 1,x0,x7,x8,x9=>if x9 < x8 then (if 0≤x9 then (if x9 < (x7.length:Int) then (if (rdOf ByteArray.empty x7 x9).toList=x0.toList then (some true) else (spec_in.l0 k x0 x7 x8 (wrap64 (x9 + 1)))) else (none)) else (none)) else (some false)
def spec_in.f (k:Nat) (a0:ByteArray) (l1:List ByteArray):Option (Bool):=spec_in.l0 k a0 l1 (l1.length:Int) 0
theorem spec_in.mono_l:∀ k,(∀ y0 y1 y2 y3,LeO (spec_in.l0 k y0 y1 y2 y3) (spec_in.l0 (k + 1) y0 y1 y2 y3))
 |0=>fun _ _ _ _ r h=>by simp [spec_in.l0] at h
 |k + 1=>by
  have ih0:=spec_in.mono_l k
  ·intro y0 y1 y2 y3
   unfold spec_in.l0
   repeat' first
   |(with_reducible exact ih0 _ _ _ _)
   |(with_reducible exact LeO.refl _)
   |(with_reducible exact LeO.none _)
   |(with_reducible refine LeO.ite ?_ ?_)
   |(with_reducible refine LeO.bind ?_ (fun _=> ?_))
theorem spec_in.mono:∀ a0 a1 k,LeO (spec_in.f k a0 a1) (spec_in.f (k + 1) a0 a1):=by
 intro a0 a1 k
 have ih0:=spec_in.mono_l k
 unfold spec_in.f
 repeat' first
   |(with_reducible exact ih0 _ _ _ _)
   |(with_reducible exact LeO.refl _)
   |(with_reducible exact LeO.none _)
   |(with_reducible refine LeO.ite ?_ ?_)
   |(with_reducible refine LeO.bind ?_ (fun _=> ?_))
theorem spec_in.calls (k:Nat) (a0:ByteArray) (A1:Option Addr) (c1:Nat) (l1:List ByteArray) (r:Bool) (w:World) (hr1:Kd.C Kd.string w A1 l1.length l1) (hc1:l1.length≤c1) (h:spec_in.f k a0 l1=some r):
  Calls Tryz.prog 26 #[.string a0,.slice A1 l1.length c1] w fun e w'=>e= .returned (.bool r)∧Drawn0 w w':=by
 have HR1:=asd_ hr1
 have HC1:=asd_ hc1
 clear hr1 hc1
 have H:(spec_in.l0 k a0 l1 (l1.length:Int) 0)=some r:=h
 clear h
 have H':=asd_ H
 clear H
 go_enter Tryz.func26,Tryz.ntmps26
 go_wp2
 go_loopg [9] k (fun kq v9 w'=>∃ (x9_1:Int),v9= .int .i64 x9_1∧Aside0 (spec_in.l0 kq a0 l1 (l1.length:Int) x9_1=some r)∧Aside0 (kq≤k)∧Drawn0 w w')
 case atStart=>exact ⟨(0),r1_,H',⟨Nat.le_refl _⟩,dr_⟩
 case round=>
  clear H'
  obtain ⟨x9_1,rfl,HA,HK1,⟨m1,rfl⟩⟩:=hrel
  cases gk with
  |zero=>exact absurd HA.out (by simp [spec_in.l0])
  |succ k1=>
   have H:=HA.out
   clear HA
   simp only [spec_in.l0] at H
   by_cases c3:x9_1 < (l1.length:Int)
   ·rw [if_pos c3] at H
    have c3b0:=decide_eq_true c3
    clear c3
    by_cases c4:0≤x9_1
    ·rw [if_pos c4] at H
     have c4b0:=decide_eq_true c4
     clear c4
     by_cases c5:x9_1 < (l1.length:Int)
     ·rw [if_pos c5] at H
      have c5b0:=decide_eq_true c5
      clear c5
      by_cases c6:(rdOf ByteArray.empty l1 x9_1).toList=a0.toList
      ·rw [if_pos c6] at H
       have c6b0:=beq_iff_eq.mpr c6
       have c6b1:=bne_eq_false_iff_eq.mpr c6
       clear c6
       obtain rfl:=Option.some.inj H
       have p107:0≤(x9_1:Int):=of_decide_eq_true as_
       have q107:x9_1 < (l1.length:Int):=of_decide_eq_true as_
       obtain ⟨ad107,e107,hx107_0⟩:=Kd.at_string HR1.out x9_1 p107 q107
       cases e107
       replace p107:=eq_true p107
       replace q107:=eq_true q107
       go_wp2
       go_ret
       exact ⟨r1_,dr_⟩
      ·rw [if_neg c6] at H
       have c6b0:=beq_eq_false_iff_ne.mpr c6
       have c6b1:=bne_iff_ne.mpr c6
       have H':=asd_ H
       clear H
       have p107:0≤(x9_1:Int):=of_decide_eq_true as_
       have q107:x9_1 < (l1.length:Int):=of_decide_eq_true as_
       obtain ⟨ad107,e107,hx107_0⟩:=Kd.at_string HR1.out x9_1 p107 q107
       cases e107
       replace p107:=eq_true p107
       replace q107:=eq_true q107
       go_wp2
       go_roundg k1
       case measure=>have:=HK1.out;omega
       case rel=>exact ⟨(wrap64 (x9_1 + 1)),r1_,H',⟨by have:=HK1.out;omega⟩,dr_⟩
     ·rw [if_neg c5] at H
      exact absurd H (by simp)
    ·rw [if_neg c4] at H
     exact absurd H (by simp)
   ·rw [if_neg c3] at H
    have c3b0:=decide_eq_false c3
    clear c3
    obtain rfl:=Option.some.inj H
    go_wp2
    go_ret
    exact ⟨r1_,dr_⟩
def spec_apart.l0:Nat→List ByteArray→List ByteArray→Int→Int→Option (Bool)
 |0,_,_,_,_=>none
 |k + 1,x0,x5,x6,x7=>if x7 < x6 then (if 0≤x7 then (if x7 < (x5.length:Int) then (if x7≤(x0.length:Int) then ((spec_in.f k (rdOf ByteArray.empty x5 x7) (x0.take (x7:Int).toNat)).bind fun t110=>(if t110=true then (some false) else (spec_apart.l0 k x0 x5 x6 (wrap64 (x7 + 1))))) else (none)) else (none)) else (none)) else (some true)
def spec_apart.f (k:Nat) (l0:List ByteArray):Option (Bool):=spec_apart.l0 k l0 l0 (l0.length:Int) 0
theorem spec_apart.mono_l:∀ k,(∀ y0 y1 y2 y3,LeO (spec_apart.l0 k y0 y1 y2 y3) (spec_apart.l0 (k + 1) y0 y1 y2 y3))
 |0=>fun _ _ _ _ r h=>by simp [spec_apart.l0] at h
 |k + 1=>by
  have ih0:=spec_apart.mono_l k
  ·intro y0 y1 y2 y3
   unfold spec_apart.l0
   repeat' first
   |(with_reducible exact ih0 _ _ _ _)
   |(with_reducible exact spec_in.mono _ _ _)
   |(with_reducible exact LeO.refl _)
   |(with_reducible exact LeO.none _)
   |(with_reducible refine LeO.ite ?_ ?_)
   |(with_reducible refine LeO.bind ?_ (fun _=> ?_))
theorem spec_apart.mono:∀ a0 k,LeO (spec_apart.f k a0) (spec_apart.f (k + 1) a0):=by
 intro a0 k
 have ih0:=spec_apart.mono_l k
 unfold spec_apart.f
 repeat' first
   |(with_reducible exact ih0 _ _ _ _)
   |(with_reducible exact spec_in.mono _ _ _)
   |(with_reducible exact LeO.refl _)
   |(with_reducible exact LeO.none _)
   |(with_reducible refine LeO.ite ?_ ?_)
   |(with_reducible refine LeO.bind ?_ (fun _=> ?_))
theorem spec_apart.calls (k:Nat) (A0:Option Addr) (c0:Nat) (l0:List ByteArray) (r:Bool) (w:World) (hr0:Kd.C Kd.string w A0 l0.length l0) (hc0:l0.length≤c0) (h:spec_apart.f k l0=some r):
  Calls Tryz.prog 11 #[.slice A0 l0.length c0] w fun e w'=>e= .returned (.bool r)∧Drawn0 w w':=by
 have HR0:=asd_ hr0
 have HC0:=asd_ hc0
 clear hr0 hc0
 have H:(spec_apart.l0 k l0 l0 (l0.length:Int) 0)=some r:=h
 clear h
 have H':=asd_ H
 clear H
 go_enter Tryz.func11,Tryz.ntmps11
 go_wp2
 go_loopg [7] k (fun kq v7 w'=>∃ (x7_1:Int),v7= .int .i64 x7_1∧Aside0 (spec_apart.l0 kq l0 l0 (l0.length:Int) x7_1=some r)∧Aside0 (kq≤k)∧Drawn0 w w')
 case atStart=>exact ⟨(0),r1_,H',⟨Nat.le_refl _⟩,dr_⟩
 case round=>
  clear H'
  obtain ⟨x7_1,rfl,HA,HK1,⟨m1,rfl⟩⟩:=hrel
  cases gk with
  |zero=>exact absurd HA.out (by simp [spec_apart.l0])
  |succ k1=>
   have H:=HA.out
   clear HA
   simp only [spec_apart.l0] at H
   by_cases c2:x7_1 < (l0.length:Int)
   ·rw [if_pos c2] at H
    have c2b0:=decide_eq_true c2
    clear c2
    by_cases c3:0≤x7_1
    ·rw [if_pos c3] at H
     have c3b0:=decide_eq_true c3
     clear c3
     by_cases c4:x7_1 < (l0.length:Int)
     ·rw [if_pos c4] at H
      have c4b0:=decide_eq_true c4
      clear c4
      have c5b0:=eq_true (of_decide_eq_true as_:0≤x7_1)
      by_cases c6:x7_1≤(l0.length:Int)
      ·rw [if_pos c6] at H
       have c6b0:=eq_true c6
       have c6b1:=decide_eq_true c6
       clear c6
       replace H:=Option.bind_eq_some_iff.mp H
       obtain ⟨t110,A70,H⟩:=H
       replace H:(if t110=true then (some false) else (spec_apart.l0 k1 l0 l0 (l0.length:Int) (wrap64 (x7_1 + 1))))=some r:=H
       have A7:=asd_ A70
       clear A70
       by_cases c8:t110=true
       ·subst c8
        have H1:(some false)=some r:=by rw [if_pos rfl] at H;exact H
        clear H
        have H:=H1
        clear H1
        obtain rfl:=Option.some.inj H
        have p108:0≤(x7_1:Int):=of_decide_eq_true as_
        have q108:x7_1 < (l0.length:Int):=of_decide_eq_true as_
        obtain ⟨ad108,e108,hx108_0⟩:=Kd.at_string HR0.out x7_1 p108 q108
        cases e108
        replace p108:=eq_true p108
        replace q108:=eq_true q108
        obtain ⟨i09,hi09,_,hsz9,_⟩:=info_parts info9
        obtain ⟨hcut9,hA9,hC9⟩:=print_take_of (P:=Tryz.prog) Value.string (⟨#[]⟩:ByteArray) 37 9 .i64 Tryz.underlying37 hi09 hsz9 (some ad108) c0 l0 x7_1 (of_decide_eq_true as_) (of_decide_eq_true as_) HC0.out
        have HR109:=asd_ (Kd.C_of_reads (h1:=fun _=>rfl) (hA9 _ (Kd.reads_of_C HR0.out)))
        have HC109:=asd_ hC9
        clear hA9 hC9 hi09 hsz9
        go_wp2_with (first|((with_reducible refine gate_callee (f:=26) rfl ?_);refine goesL_ (some 16) rfl rfl Tryz.func26 kr_ rfl #[.string (rdOf ByteArray.empty l0 x7_1),.slice (some ad108) (l0.take (x7_1:Int).toNat).length c0] rfl (by (try simp only [List.map_toArray,List.map_cons,List.map_nil]);first|done|(rw [show (l0.take (x7_1:Int).toNat).length=x7_1.toNat from (by rw [List.length_take];have h_:(x7_1:Int)≤(l0.length:Int):=of_decide_eq_true as_;omega)]<;>rfl)|rfl|(simp only [List.length_drop,List.length_take];rfl)) ?_;(with_reducible refine (spec_in.calls k1 (rdOf ByteArray.empty l0 x7_1) _ _ (l0.take (x7_1:Int).toNat) true _ ?side1 ?side2 A7.out).mono ?_);(case side1=>repeat (first|exact HR109.out|(with_reducible refine Kd.C_alloc ?_ _)|(with_reducible refine Kd.C_drewN ?_ _)|(with_reducible refine Kd.C_drew ?_)));(case side2=>exact HC109.out);rintro e w' ⟨rfl,⟨nd,rfl⟩⟩;refine ⟨_,rfl,?_⟩))
        go_ret
        exact ⟨r1_,dr_⟩
       ·replace c8:=Bool.eq_false_iff.mpr c8
        subst c8
        have H1:(spec_apart.l0 k1 l0 l0 (l0.length:Int) (wrap64 (x7_1 + 1)))=some r:=by rw [if_neg (show ¬ (false=true) by decide)] at H;exact H
        clear H
        have H:=H1
        clear H1
        have H':=asd_ H
        clear H
        have p108:0≤(x7_1:Int):=of_decide_eq_true as_
        have q108:x7_1 < (l0.length:Int):=of_decide_eq_true as_
        obtain ⟨ad108,e108,hx108_0⟩:=Kd.at_string HR0.out x7_1 p108 q108
        cases e108
        replace p108:=eq_true p108
        replace q108:=eq_true q108
        obtain ⟨i010,hi010,_,hsz10,_⟩:=info_parts info9
        obtain ⟨hcut10,hA10,hC10⟩:=print_take_of (P:=Tryz.prog) Value.string (⟨#[]⟩:ByteArray) 37 9 .i64 Tryz.underlying37 hi010 hsz10 (some ad108) c0 l0 x7_1 (of_decide_eq_true as_) (of_decide_eq_true as_) HC0.out
        have HR109:=asd_ (Kd.C_of_reads (h1:=fun _=>rfl) (hA10 _ (Kd.reads_of_C HR0.out)))
        have HC109:=asd_ hC10
        clear hA10 hC10 hi010 hsz10
        go_wp2_with (first|((with_reducible refine gate_callee (f:=26) rfl ?_);refine goesL_ (some 16) rfl rfl Tryz.func26 kr_ rfl #[.string (rdOf ByteArray.empty l0 x7_1),.slice (some ad108) (l0.take (x7_1:Int).toNat).length c0] rfl (by (try simp only [List.map_toArray,List.map_cons,List.map_nil]);first|done|(rw [show (l0.take (x7_1:Int).toNat).length=x7_1.toNat from (by rw [List.length_take];have h_:(x7_1:Int)≤(l0.length:Int):=of_decide_eq_true as_;omega)]<;>rfl)|rfl|(simp only [List.length_drop,List.length_take];rfl)) ?_;(with_reducible refine (spec_in.calls k1 (rdOf ByteArray.empty l0 x7_1) _ _ (l0.take (x7_1:Int).toNat) false _ ?side1 ?side2 A7.out).mono ?_);(case side1=>repeat (first|exact HR109.out|(with_reducible refine Kd.C_alloc ?_ _)|(with_reducible refine Kd.C_drewN ?_ _)|(with_reducible refine Kd.C_drew ?_)));(case side2=>exact HC109.out);rintro e w' ⟨rfl,⟨nd,rfl⟩⟩;refine ⟨_,rfl,?_⟩))
        go_roundg k1
        case measure=>have:=HK1.out;omega
        case rel=>exact ⟨(wrap64 (x7_1 + 1)),r1_,H',⟨by have:=HK1.out;omega⟩,dr_⟩
      ·rw [if_neg c6] at H
       exact absurd H (by simp)
     ·rw [if_neg c4] at H
      exact absurd H (by simp)
    ·rw [if_neg c3] at H
     exact absurd H (by simp)
   ·rw [if_neg c2] at H
    have c2b0:=decide_eq_false c2
    clear c2
    obtain rfl:=Option.some.inj H
    go_wp2
    go_ret
    exact ⟨r1_,dr_⟩
end Go.Proofs.YtlblbefbbibpaaaGreatDoor.PAM
