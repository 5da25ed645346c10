/- Part. -/
import Derived.Test.YtlblbefbbibpaaaGreatDoorQAL
set_option linter.unusedVariables false
set_option linter.unusedSimpArgs false
set_option maxHeartbeats 8000000
set_option maxRecDepth 100000
namespace Go.Proofs.YtlblbefbbibpaaaGreatDoor.PAM
open Go.RowKit Zw.PrintWords Zw.PrintLast Zw.PrintMore
attribute [local go_sem] max2_int min2_int max_two min_two max_three min_three max_four min_four
def spec_Level.l0:Nat→ByteArray→Int→Option (Bool)
 |0,_,_=>none
 |k + 1,x0,x3=>if x3 < (x0.size:Int) then (if 0≤x3 then (if (bt x0 x3)=13 then (some false) else (spec_Level.l0 k x0 (wrap64 (x3 + 1)))) else (none)) else ((spec_Lines.f k x0).bind fun t121=>(if 0 < (t121.length:Int) then ((spec_leading.f k (rdOf ByteArray.empty t121 0)).bind fun t125=>(if t125=((rdOf ByteArray.empty t121 0).size:Int) then (some true) else (if (t121.length:Int)=1 then ((spec_leading.f k x0).bind fun t127=>(some (t127 == 0))) else (some false)))) else (none)))
def spec_Level.f (k:Nat) (a0:ByteArray):Option (Bool):=spec_Level.l0 k a0 0
theorem spec_Level.mono_l:∀ k,(∀ y0 y1,LeO (spec_Level.l0 k y0 y1) (spec_Level.l0 (k + 1) y0 y1))
 |0=>fun _ _ r h=>by simp [spec_Level.l0] at h
 |k + 1=>by
  have ih0:=spec_Level.mono_l k
  ·intro y0 y1
   unfold spec_Level.l0
   repeat' first
   |(with_reducible exact ih0 _ _)
   |(with_reducible exact spec_Lines.mono _ _)
   |(with_reducible exact spec_leading.mono _ _)
   |(with_reducible exact LeO.refl _)
   |(with_reducible exact LeO.none _)
   |(with_reducible refine LeO.ite ?_ ?_)
   |(with_reducible refine LeO.bind ?_ (fun _=> ?_))
theorem spec_Level.mono:∀ a0 k,LeO (spec_Level.f k a0) (spec_Level.f (k + 1) a0):=by
 intro a0 k
 have ih0:=spec_Level.mono_l k
 unfold spec_Level.f
 repeat' first
   |(with_reducible exact ih0 _ _)
   |(with_reducible exact spec_Lines.mono _ _)
   |(with_reducible exact spec_leading.mono _ _)
   |(with_reducible exact LeO.refl _)
   |(with_reducible exact LeO.none _)
   |(with_reducible refine LeO.ite ?_ ?_)
   |(with_reducible refine LeO.bind ?_ (fun _=> ?_))
theorem spec_Level.calls (k:Nat) (a0:ByteArray) (r:Bool) (w:World) (h:spec_Level.f k a0=some r):
  Calls Tryz.prog 125 #[.string a0] w fun e w'=>e= .returned (.bool r)∧Below w.heap.size w w':=by
 have HB:=asd_ (Below.refl w.heap.size w)
 have H:(spec_Level.l0 k a0 0)=some r:=h
 clear h
 have H':=asd_ H
 clear H
 go_enter Tryz.func125,Tryz.ntmps125
 go_wp2
 repeat (go_quiet (fail);try go_wp2)
 go_loopg [3] k (fun kq v3 w'=>∃ (x3_1:Int),v3= .int .i64 x3_1∧Aside0 (spec_Level.l0 kq a0 x3_1=some r)∧Aside0 (kq≤k)∧Aside0 (Below w.heap.size w w'))
 case atStart=>exact ⟨(0),r1_,H',⟨Nat.le_refl _⟩,⟨wb_⟩⟩
 case round=>
  clear H'
  obtain ⟨x3_1,rfl,HA,HK1,HB⟩:=hrel
  cases gk with
  |zero=>exact absurd HA.out (by simp [spec_Level.l0])
  |succ k1=>
   have H:=HA.out
   clear HA
   simp only [spec_Level.l0] at H
   by_cases c2:x3_1 < (a0.size:Int)
   ·rw [if_pos c2] at H
    have c2b0:=decide_eq_true c2
    clear c2
    by_cases c3:0≤x3_1
    ·rw [if_pos c3] at H
     have c3b0:=decide_eq_true c3
     clear c3
     by_cases c5:(bt a0 x3_1)=13
     ·rw [if_pos c5] at H
      have c5b0:=beq_iff_eq.mpr c5
      have c5b1:=bne_eq_false_iff_eq.mpr c5
      clear c5
      obtain rfl:=Option.some.inj H
      have p4:0≤(x3_1:Int):=of_decide_eq_true as_
      have q4:x3_1 < (a0.size:Int):=of_decide_eq_true as_
      have hx4:=bt_at a0 x3_1
      replace p4:=eq_true p4
      replace q4:=eq_true q4
      go_wp2
      repeat (go_quiet (fail);try go_wp2)
      go_ret
      exact ⟨er_,wb_⟩
     ·rw [if_neg c5] at H
      have c5b0:=beq_eq_false_iff_ne.mpr c5
      have c5b1:=bne_iff_ne.mpr c5
      have H':=asd_ H
      clear H
      have p4:0≤(x3_1:Int):=of_decide_eq_true as_
      have q4:x3_1 < (a0.size:Int):=of_decide_eq_true as_
      have hx4:=bt_at a0 x3_1
      replace p4:=eq_true p4
      replace q4:=eq_true q4
      go_wp2
      repeat (go_quiet (fail);try go_wp2)
      go_roundg k1
      case measure=>have:=HK1.out;omega
      case rel=>exact ⟨(wrap64 (x3_1 + 1)),r1_,H',⟨by have:=HK1.out;omega⟩,⟨wb_⟩⟩
    ·rw [if_neg c3] at H
     exact absurd H (by simp)
   ·rw [if_neg c2] at H
    have c2b0:=decide_eq_false c2
    clear c2
    replace H:=Option.bind_eq_some_iff.mp H
    obtain ⟨t121,A60,H⟩:=H
    replace H:(if 0 < (t121.length:Int) then ((spec_leading.f k1 (rdOf ByteArray.empty t121 0)).bind fun t125=>(if t125=((rdOf ByteArray.empty t121 0).size:Int) then (some true) else (if (t121.length:Int)=1 then ((spec_leading.f k1 a0).bind fun t127=>(some (t127 == 0))) else (some false)))) else (none))=some r:=H
    have A6:=asd_ A60
    clear A60
    by_cases c7:0 < (t121.length:Int)
    ·rw [if_pos c7] at H
     have c7b0:=decide_eq_true c7
     have c7b1:decide (0 < t121.length)=true:=decide_eq_true (by omega)
     clear c7
     replace H:=Option.bind_eq_some_iff.mp H
     obtain ⟨t125,A80,H⟩:=H
     replace H:(if t125=((rdOf ByteArray.empty t121 0).size:Int) then (some true) else (if (t121.length:Int)=1 then ((spec_leading.f k1 a0).bind fun t127=>(some (t127 == 0))) else (some false)))=some r:=H
     have A8:=asd_ A80
     clear A80
     by_cases c9:t125=((rdOf ByteArray.empty t121 0).size:Int)
     ·rw [if_pos c9] at H
      have c9b0:=beq_iff_eq.mpr c9
      have c9b1:=bne_eq_false_iff_eq.mpr c9
      clear c9
      obtain rfl:=Option.some.inj H
      go_wp2_with (first|(go_at_call 142;(with_reducible refine (spec_Lines.calls k1 a0 t121 _ A6.out).mono ?_);rintro e w10 ⟨v122,rfl,ho0,hb⟩;have n0_:=asd_ (Kd.R_lower ho0 (below_size wb_));have n1_:=asd_ (below_step wb_ hb);clear HB;have HO123:=n0_;have HB:=n1_;clear n0_ n1_;(try clear hb);(try clear hb2);(try clear hk);(try clear hi);(try clear ho0);obtain ⟨Ao11,co11,eo11⟩:=Kd.R_slice HO123.out;subst eo11;have p124:0≤(0:Int):=(by omega);have q124:0 < (t121.length:Int):=of_decide_eq_true as_;obtain ⟨ad124,e124,hx124_0⟩:=Kd.at_string (Kd.R_reads' HO123.out).2.2 0 p124 q124;cases e124;have qi124:(0 < t121.length)=True:=eq_true (by omega);(try rw [show ((0:Int)).toNat=0 from rfl] at hx124_0);(try rw [Addr.add_zero'] at hx124_0);replace p124:=eq_true p124;replace q124:=eq_true q124)|(go_at_call 143;(with_reducible refine (spec_leading.calls k1 (rdOf ByteArray.empty t121 0) t125 _ A8.out).mono ?_);rintro e w' ⟨rfl,⟨nd,rfl⟩⟩;(try first|exact ⟨rfl,_,World.drewN_drewN _ _ _⟩|exact ⟨rfl,_,Eq.trans (World.drewN_drewN _ _ _) (congrArg (World.drewN _) (Nat.add_assoc _ _ _))⟩);have p126:0≤(0:Int):=(by omega);have q126:0 < (t121.length:Int):=of_decide_eq_true as_;obtain ⟨ad126,e126,hx126_0⟩:=Kd.at_string (Kd.R_reads' HO123.out).2.2 0 p126 q126;obtain rfl:ad124=ad126:=(by injection e126);have qi126:(0 < t121.length)=True:=eq_true (by omega);(try rw [show ((0:Int)).toNat=0 from rfl] at hx126_0);(try rw [Addr.add_zero'] at hx126_0);replace p126:=eq_true p126;replace q126:=eq_true q126))
      repeat (go_quiet (first|(go_at_call 142;(with_reducible refine (spec_Lines.calls k1 a0 t121 _ A6.out).mono ?_);rintro e w10 ⟨v122,rfl,ho0,hb⟩;have n0_:=asd_ (Kd.R_lower ho0 (below_size wb_));have n1_:=asd_ (below_step wb_ hb);clear HB;have HO123:=n0_;have HB:=n1_;clear n0_ n1_;(try clear hb);(try clear hb2);(try clear hk);(try clear hi);(try clear ho0);obtain ⟨Ao11,co11,eo11⟩:=Kd.R_slice HO123.out;subst eo11;have p124:0≤(0:Int):=(by omega);have q124:0 < (t121.length:Int):=of_decide_eq_true as_;obtain ⟨ad124,e124,hx124_0⟩:=Kd.at_string (Kd.R_reads' HO123.out).2.2 0 p124 q124;cases e124;have qi124:(0 < t121.length)=True:=eq_true (by omega);(try rw [show ((0:Int)).toNat=0 from rfl] at hx124_0);(try rw [Addr.add_zero'] at hx124_0);replace p124:=eq_true p124;replace q124:=eq_true q124)|(go_at_call 143;(with_reducible refine (spec_leading.calls k1 (rdOf ByteArray.empty t121 0) t125 _ A8.out).mono ?_);rintro e w' ⟨rfl,⟨nd,rfl⟩⟩;(try first|exact ⟨rfl,_,World.drewN_drewN _ _ _⟩|exact ⟨rfl,_,Eq.trans (World.drewN_drewN _ _ _) (congrArg (World.drewN _) (Nat.add_assoc _ _ _))⟩);have p126:0≤(0:Int):=(by omega);have q126:0 < (t121.length:Int):=of_decide_eq_true as_;obtain ⟨ad126,e126,hx126_0⟩:=Kd.at_string (Kd.R_reads' HO123.out).2.2 0 p126 q126;obtain rfl:ad124=ad126:=(by injection e126);have qi126:(0 < t121.length)=True:=eq_true (by omega);(try rw [show ((0:Int)).toNat=0 from rfl] at hx126_0);(try rw [Addr.add_zero'] at hx126_0);replace p126:=eq_true p126;replace q126:=eq_true q126));try go_wp2_with (first|(go_at_call 142;(with_reducible refine (spec_Lines.calls k1 a0 t121 _ A6.out).mono ?_);rintro e w10 ⟨v122,rfl,ho0,hb⟩;have n0_:=asd_ (Kd.R_lower ho0 (below_size wb_));have n1_:=asd_ (below_step wb_ hb);clear HB;have HO123:=n0_;have HB:=n1_;clear n0_ n1_;(try clear hb);(try clear hb2);(try clear hk);(try clear hi);(try clear ho0);obtain ⟨Ao11,co11,eo11⟩:=Kd.R_slice HO123.out;subst eo11;have p124:0≤(0:Int):=(by omega);have q124:0 < (t121.length:Int):=of_decide_eq_true as_;obtain ⟨ad124,e124,hx124_0⟩:=Kd.at_string (Kd.R_reads' HO123.out).2.2 0 p124 q124;cases e124;have qi124:(0 < t121.length)=True:=eq_true (by omega);(try rw [show ((0:Int)).toNat=0 from rfl] at hx124_0);(try rw [Addr.add_zero'] at hx124_0);replace p124:=eq_true p124;replace q124:=eq_true q124)|(go_at_call 143;(with_reducible refine (spec_leading.calls k1 (rdOf ByteArray.empty t121 0) t125 _ A8.out).mono ?_);rintro e w' ⟨rfl,⟨nd,rfl⟩⟩;(try first|exact ⟨rfl,_,World.drewN_drewN _ _ _⟩|exact ⟨rfl,_,Eq.trans (World.drewN_drewN _ _ _) (congrArg (World.drewN _) (Nat.add_assoc _ _ _))⟩);have p126:0≤(0:Int):=(by omega);have q126:0 < (t121.length:Int):=of_decide_eq_true as_;obtain ⟨ad126,e126,hx126_0⟩:=Kd.at_string (Kd.R_reads' HO123.out).2.2 0 p126 q126;obtain rfl:ad124=ad126:=(by injection e126);have qi126:(0 < t121.length)=True:=eq_true (by omega);(try rw [show ((0:Int)).toNat=0 from rfl] at hx126_0);(try rw [Addr.add_zero'] at hx126_0);replace p126:=eq_true p126;replace q126:=eq_true q126)))
      go_ret
      exact ⟨er_,wb_⟩
     ·rw [if_neg c9] at H
      have c9b0:=beq_eq_false_iff_ne.mpr c9
      have c9b1:=bne_iff_ne.mpr c9
      by_cases c12:(t121.length:Int)=1
      ·rw [if_pos c12] at H
       have c12b0:=beq_iff_eq.mpr c12
       have c12b1:=bne_eq_false_iff_eq.mpr c12
       clear c12
       replace H:=Option.bind_eq_some_iff.mp H
       obtain ⟨t127,A130,H⟩:=H
       replace H:(some (t127 == 0))=some r:=H
       have A13:=asd_ A130
       clear A130
       obtain rfl:=Option.some.inj H
       go_wp2_with (first|(go_at_call 142;(with_reducible refine (spec_Lines.calls k1 a0 t121 _ A6.out).mono ?_);rintro e w14 ⟨v122,rfl,ho0,hb⟩;have n0_:=asd_ (Kd.R_lower ho0 (below_size wb_));have n1_:=asd_ (below_step wb_ hb);clear HB;have HO123:=n0_;have HB:=n1_;clear n0_ n1_;(try clear hb);(try clear hb2);(try clear hk);(try clear hi);(try clear ho0);obtain ⟨Ao15,co15,eo15⟩:=Kd.R_slice HO123.out;subst eo15;have p124:0≤(0:Int):=(by omega);have q124:0 < (t121.length:Int):=of_decide_eq_true as_;obtain ⟨ad124,e124,hx124_0⟩:=Kd.at_string (Kd.R_reads' HO123.out).2.2 0 p124 q124;cases e124;have qi124:(0 < t121.length)=True:=eq_true (by omega);(try rw [show ((0:Int)).toNat=0 from rfl] at hx124_0);(try rw [Addr.add_zero'] at hx124_0);replace p124:=eq_true p124;replace q124:=eq_true q124)|(go_at_call 143;(with_reducible refine (spec_leading.calls k1 (rdOf ByteArray.empty t121 0) t125 _ A8.out).mono ?_);rintro e w' ⟨rfl,⟨nd,rfl⟩⟩;(try first|exact ⟨rfl,_,World.drewN_drewN _ _ _⟩|exact ⟨rfl,_,Eq.trans (World.drewN_drewN _ _ _) (congrArg (World.drewN _) (Nat.add_assoc _ _ _))⟩);have p126:0≤(0:Int):=(by omega);have q126:0 < (t121.length:Int):=of_decide_eq_true as_;obtain ⟨ad126,e126,hx126_0⟩:=Kd.at_string (Kd.R_reads' HO123.out).2.2 0 p126 q126;obtain rfl:ad124=ad126:=(by injection e126);have qi126:(0 < t121.length)=True:=eq_true (by omega);(try rw [show ((0:Int)).toNat=0 from rfl] at hx126_0);(try rw [Addr.add_zero'] at hx126_0);replace p126:=eq_true p126;replace q126:=eq_true q126)|(go_at_call 143;(with_reducible refine (spec_leading.calls k1 a0 t127 _ A13.out).mono ?_);rintro e w' ⟨rfl,⟨nd,rfl⟩⟩;(try first|exact ⟨rfl,_,World.drewN_drewN _ _ _⟩|exact ⟨rfl,_,Eq.trans (World.drewN_drewN _ _ _) (congrArg (World.drewN _) (Nat.add_assoc _ _ _))⟩)))
       repeat (go_quiet (first|(go_at_call 142;(with_reducible refine (spec_Lines.calls k1 a0 t121 _ A6.out).mono ?_);rintro e w14 ⟨v122,rfl,ho0,hb⟩;have n0_:=asd_ (Kd.R_lower ho0 (below_size wb_));have n1_:=asd_ (below_step wb_ hb);clear HB;have HO123:=n0_;have HB:=n1_;clear n0_ n1_;(try clear hb);(try clear hb2);(try clear hk);(try clear hi);(try clear ho0);obtain ⟨Ao15,co15,eo15⟩:=Kd.R_slice HO123.out;subst eo15;have p124:0≤(0:Int):=(by omega);have q124:0 < (t121.length:Int):=of_decide_eq_true as_;obtain ⟨ad124,e124,hx124_0⟩:=Kd.at_string (Kd.R_reads' HO123.out).2.2 0 p124 q124;cases e124;have qi124:(0 < t121.length)=True:=eq_true (by omega);(try rw [show ((0:Int)).toNat=0 from rfl] at hx124_0);(try rw [Addr.add_zero'] at hx124_0);replace p124:=eq_true p124;replace q124:=eq_true q124)|(go_at_call 143;(with_reducible refine (spec_leading.calls k1 (rdOf ByteArray.empty t121 0) t125 _ A8.out).mono ?_);rintro e w' ⟨rfl,⟨nd,rfl⟩⟩;(try first|exact ⟨rfl,_,World.drewN_drewN _ _ _⟩|exact ⟨rfl,_,Eq.trans (World.drewN_drewN _ _ _) (congrArg (World.drewN _) (Nat.add_assoc _ _ _))⟩);have p126:0≤(0:Int):=(by omega);have q126:0 < (t121.length:Int):=of_decide_eq_true as_;obtain ⟨ad126,e126,hx126_0⟩:=Kd.at_string (Kd.R_reads' HO123.out).2.2 0 p126 q126;obtain rfl:ad124=ad126:=(by injection e126);have qi126:(0 < t121.length)=True:=eq_true (by omega);(try rw [show ((0:Int)).toNat=0 from rfl] at hx126_0);(try rw [Addr.add_zero'] at hx126_0);replace p126:=eq_true p126;replace q126:=eq_true q126)|(go_at_call 143;(with_reducible refine (spec_leading.calls k1 a0 t127 _ A13.out).mono ?_);rintro e w' ⟨rfl,⟨nd,rfl⟩⟩;(try first|exact ⟨rfl,_,World.drewN_drewN _ _ _⟩|exact ⟨rfl,_,Eq.trans (World.drewN_drewN _ _ _) (congrArg (World.drewN _) (Nat.add_assoc _ _ _))⟩)));try go_wp2_with (first|(go_at_call 142;(with_reducible refine (spec_Lines.calls k1 a0 t121 _ A6.out).mono ?_);rintro e w14 ⟨v122,rfl,ho0,hb⟩;have n0_:=asd_ (Kd.R_lower ho0 (below_size wb_));have n1_:=asd_ (below_step wb_ hb);clear HB;have HO123:=n0_;have HB:=n1_;clear n0_ n1_;(try clear hb);(try clear hb2);(try clear hk);(try clear hi);(try clear ho0);obtain ⟨Ao15,co15,eo15⟩:=Kd.R_slice HO123.out;subst eo15;have p124:0≤(0:Int):=(by omega);have q124:0 < (t121.length:Int):=of_decide_eq_true as_;obtain ⟨ad124,e124,hx124_0⟩:=Kd.at_string (Kd.R_reads' HO123.out).2.2 0 p124 q124;cases e124;have qi124:(0 < t121.length)=True:=eq_true (by omega);(try rw [show ((0:Int)).toNat=0 from rfl] at hx124_0);(try rw [Addr.add_zero'] at hx124_0);replace p124:=eq_true p124;replace q124:=eq_true q124)|(go_at_call 143;(with_reducible refine (spec_leading.calls k1 (rdOf ByteArray.empty t121 0) t125 _ A8.out).mono ?_);rintro e w' ⟨rfl,⟨nd,rfl⟩⟩;(try first|exact ⟨rfl,_,World.drewN_drewN _ _ _⟩|exact ⟨rfl,_,Eq.trans (World.drewN_drewN _ _ _) (congrArg (World.drewN _) (Nat.add_assoc _ _ _))⟩);have p126:0≤(0:Int):=(by omega);have q126:0 < (t121.length:Int):=of_decide_eq_true as_;obtain ⟨ad126,e126,hx126_0⟩:=Kd.at_string (Kd.R_reads' HO123.out).2.2 0 p126 q126;obtain rfl:ad124=ad126:=(by injection e126);have qi126:(0 < t121.length)=True:=eq_true (by omega);(try rw [show ((0:Int)).toNat=0 from rfl] at hx126_0);(try rw [Addr.add_zero'] at hx126_0);replace p126:=eq_true p126;replace q126:=eq_true q126)|(go_at_call 143;(with_reducible refine (spec_leading.calls k1 a0 t127 _ A13.out).mono ?_);rintro e w' ⟨rfl,⟨nd,rfl⟩⟩;(try first|exact ⟨rfl,_,World.drewN_drewN _ _ _⟩|exact ⟨rfl,_,Eq.trans (World.drewN_drewN _ _ _) (congrArg (World.drewN _) (Nat.add_assoc _ _ _))⟩))))
       go_ret
       exact ⟨er_,wb_⟩
      ·rw [if_neg c12] at H
       have c12b0:=beq_eq_false_iff_ne.mpr c12
       have c12b1:=bne_iff_ne.mpr c12
       obtain rfl:=Option.some.inj H
       go_wp2_with (first|(go_at_call 142;(with_reducible refine (spec_Lines.calls k1 a0 t121 _ A6.out).mono ?_);rintro e w16 ⟨v122,rfl,ho0,hb⟩;have n0_:=asd_ (Kd.R_lower ho0 (below_size wb_));have n1_:=asd_ (below_step wb_ hb);clear HB;have HO123:=n0_;have HB:=n1_;clear n0_ n1_;(try clear hb);(try clear hb2);(try clear hk);(try clear hi);(try clear ho0);obtain ⟨Ao17,co17,eo17⟩:=Kd.R_slice HO123.out;subst eo17;have p124:0≤(0:Int):=(by omega);have q124:0 < (t121.length:Int):=of_decide_eq_true as_;obtain ⟨ad124,e124,hx124_0⟩:=Kd.at_string (Kd.R_reads' HO123.out).2.2 0 p124 q124;cases e124;have qi124:(0 < t121.length)=True:=eq_true (by omega);(try rw [show ((0:Int)).toNat=0 from rfl] at hx124_0);(try rw [Addr.add_zero'] at hx124_0);replace p124:=eq_true p124;replace q124:=eq_true q124)|(go_at_call 143;(with_reducible refine (spec_leading.calls k1 (rdOf ByteArray.empty t121 0) t125 _ A8.out).mono ?_);rintro e w' ⟨rfl,⟨nd,rfl⟩⟩;(try first|exact ⟨rfl,_,World.drewN_drewN _ _ _⟩|exact ⟨rfl,_,Eq.trans (World.drewN_drewN _ _ _) (congrArg (World.drewN _) (Nat.add_assoc _ _ _))⟩);have p126:0≤(0:Int):=(by omega);have q126:0 < (t121.length:Int):=of_decide_eq_true as_;obtain ⟨ad126,e126,hx126_0⟩:=Kd.at_string (Kd.R_reads' HO123.out).2.2 0 p126 q126;obtain rfl:ad124=ad126:=(by injection e126);have qi126:(0 < t121.length)=True:=eq_true (by omega);(try rw [show ((0:Int)).toNat=0 from rfl] at hx126_0);(try rw [Addr.add_zero'] at hx126_0);replace p126:=eq_true p126;replace q126:=eq_true q126))
       repeat (go_quiet (first|(go_at_call 142;(with_reducible refine (spec_Lines.calls k1 a0 t121 _ A6.out).mono ?_);rintro e w16 ⟨v122,rfl,ho0,hb⟩;have n0_:=asd_ (Kd.R_lower ho0 (below_size wb_));have n1_:=asd_ (below_step wb_ hb);clear HB;have HO123:=n0_;have HB:=n1_;clear n0_ n1_;(try clear hb);(try clear hb2);(try clear hk);(try clear hi);(try clear ho0);obtain ⟨Ao17,co17,eo17⟩:=Kd.R_slice HO123.out;subst eo17;have p124:0≤(0:Int):=(by omega);have q124:0 < (t121.length:Int):=of_decide_eq_true as_;obtain ⟨ad124,e124,hx124_0⟩:=Kd.at_string (Kd.R_reads' HO123.out).2.2 0 p124 q124;cases e124;have qi124:(0 < t121.length)=True:=eq_true (by omega);(try rw [show ((0:Int)).toNat=0 from rfl] at hx124_0);(try rw [Addr.add_zero'] at hx124_0);replace p124:=eq_true p124;replace q124:=eq_true q124)|(go_at_call 143;(with_reducible refine (spec_leading.calls k1 (rdOf ByteArray.empty t121 0) t125 _ A8.out).mono ?_);rintro e w' ⟨rfl,⟨nd,rfl⟩⟩;(try first|exact ⟨rfl,_,World.drewN_drewN _ _ _⟩|exact ⟨rfl,_,Eq.trans (World.drewN_drewN _ _ _) (congrArg (World.drewN _) (Nat.add_assoc _ _ _))⟩);have p126:0≤(0:Int):=(by omega);have q126:0 < (t121.length:Int):=of_decide_eq_true as_;obtain ⟨ad126,e126,hx126_0⟩:=Kd.at_string (Kd.R_reads' HO123.out).2.2 0 p126 q126;obtain rfl:ad124=ad126:=(by injection e126);have qi126:(0 < t121.length)=True:=eq_true (by omega);(try rw [show ((0:Int)).toNat=0 from rfl] at hx126_0);(try rw [Addr.add_zero'] at hx126_0);replace p126:=eq_true p126;replace q126:=eq_true q126));try go_wp2_with (first|(go_at_call 142;(with_reducible refine (spec_Lines.calls k1 a0 t121 _ A6.out).mono ?_);rintro e w16 ⟨v122,rfl,ho0,hb⟩;have n0_:=asd_ (Kd.R_lower ho0 (below_size wb_));have n1_:=asd_ (below_step wb_ hb);clear HB;have HO123:=n0_;have HB:=n1_;clear n0_ n1_;(try clear hb);(try clear hb2);(try clear hk);(try clear hi);(try clear ho0);obtain ⟨Ao17,co17,eo17⟩:=Kd.R_slice HO123.out;subst eo17;have p124:0≤(0:Int):=(by omega);have q124:0 < (t121.length:Int):=of_decide_eq_true as_;obtain ⟨ad124,e124,hx124_0⟩:=Kd.at_string (Kd.R_reads' HO123.out).2.2 0 p124 q124;cases e124;have qi124:(0 < t121.length)=True:=eq_true (by omega);(try rw [show ((0:Int)).toNat=0 from rfl] at hx124_0);(try rw [Addr.add_zero'] at hx124_0);replace p124:=eq_true p124;replace q124:=eq_true q124)|(go_at_call 143;(with_reducible refine (spec_leading.calls k1 (rdOf ByteArray.empty t121 0) t125 _ A8.out).mono ?_);rintro e w' ⟨rfl,⟨nd,rfl⟩⟩;(try first|exact ⟨rfl,_,World.drewN_drewN _ _ _⟩|exact ⟨rfl,_,Eq.trans (World.drewN_drewN _ _ _) (congrArg (World.drewN _) (Nat.add_assoc _ _ _))⟩);have p126:0≤(0:Int):=(by omega);have q126:0 < (t121.length:Int):=of_decide_eq_true as_;obtain ⟨ad126,e126,hx126_0⟩:=Kd.at_string (Kd.R_reads' HO123.out).2.2 0 p126 q126;obtain rfl:ad124=ad126:=(by injection e126);have qi126:(0 < t121.length)=True:=eq_true (by omega);(try rw [show ((0:Int)).toNat=0 from rfl] at hx126_0);(try rw [Addr.add_zero'] at hx126_0);replace p126:=eq_true p126;replace q126:=eq_true q126)))
       go_ret
       exact ⟨er_,wb_⟩
    ·rw [if_neg c7] at H
     exact absurd H (by simp)
end Go.Proofs.YtlblbefbbibpaaaGreatDoor.PAM
namespace Go.Proofs.YtlblbefbbibpaaaGreatDoor.J
open Go.RowKit Zw Zw.PrintWords Zw.PrintLast Zw.PrintMore PAM
theorem lines_up (s:ByteArray) {k:Nat} {r:List ByteArray} (h:spec_Lines.f k s=some r):∀ j,spec_Lines.f (k + j) s=some r
 |0=>h
 |j + 1=>spec_Lines.mono s (k + j) r (lines_up s h j)
theorem lead_up (s:ByteArray) {k:Nat} {r:Int} (h:spec_leading.f k s=some r):∀ j,spec_leading.f (k + j) s=some r
 |0=>h
 |j + 1=>spec_leading.mono s (k + j) r (lead_up s h j)
theorem level_l0 (s:ByteArray) (hs:s.size≤33554432):∀ (m:Nat) (x:Int),0≤x→x≤s.size→(s.size:Int) - x≤m→∃ b,∀ K,2 * s.size + 1≤K→spec_Level.l0 (K + m + 1) s x=some b
 |0,x,h0,h1,h2=>by
  obtain ⟨r,⟨e1,e2,e3⟩,hr⟩:=(lines_both s (by omega) s.size).1 [] 0 0 (Int.le_refl _) (Int.le_refl _) (by omega) (by simp) (fun _ h=>by simp at h) (by omega)
  cases r with
  |nil=>exact absurd rfl e1
  |cons t rest=>
   obtain ⟨q,-,-,hq⟩:=lead_l0 t (by have:=e3 t List.mem_cons_self;omega) t.size 0 (Int.le_refl _) (by omega) (by omega)
   obtain ⟨q2,-,-,hq2⟩:=lead_l0 s (by omega) s.size 0 (Int.le_refl _) (by omega) (by omega)
   have ht:=e3 t List.mem_cons_self
   refine ⟨if q=(t.size:Int) then true else if ((t::rest).length:Int)=1 then (q2 == 0) else false,fun K hK=> ?_⟩
   obtain ⟨a,rfl⟩:=Nat.exists_eq_add_of_le hK
   obtain ⟨c,hc⟩:=Nat.exists_eq_add_of_le (show t.size + 1≤2 * s.size + 1 + a by omega)
   obtain ⟨c2,hc2⟩:=Nat.exists_eq_add_of_le (show s.size + 1≤2 * s.size + 1 + a by omega)
   have hL:spec_Lines.f (2 * s.size + 1 + a) s=some (t::rest):=lines_up s hr a
   have hQ:spec_leading.f (2 * s.size + 1 + a) t=some q:=by rw [hc];exact lead_up t hq c
   have hQ2:spec_leading.f (2 * s.size + 1 + a) s=some q2:=by rw [hc2];exact lead_up s hq2 c2
   have hrd:rdOf ByteArray.empty (t::rest) 0=t:=rfl
   rw [Nat.add_zero]
   unfold spec_Level.l0
   rw [if_neg (by omega),hL,Option.bind_some,if_pos (by simp<;>omega),hrd,hQ,Option.bind_some]
   split
   ·rfl
   ·split
    ·rw [hQ2,Option.bind_some]
    ·rfl
 |m + 1,x,h0,h1,h2=>by
  by_cases h:x < (s.size:Int)
  ·by_cases c:bt s x=13
   ·exact ⟨false,fun K hK=>by unfold spec_Level.l0;rw [if_pos h,if_pos h0,if_pos c]⟩
   ·obtain ⟨b,e⟩:=level_l0 s hs m (x + 1) (by omega) (by omega) (by omega)
    refine ⟨b,fun K hK=> ?_⟩
    unfold spec_Level.l0
    rw [if_pos h,if_pos h0,if_neg c,wr64 (by omega) (by omega)]
    exact e K hK
  ·obtain ⟨b,e⟩:=level_l0 s hs 0 x h0 h1 (by omega)
   exact ⟨b,fun K hK=>by have:=e (K + (m + 1)) (by omega);rwa [Nat.add_zero] at this⟩
theorem level_calls (s:ByteArray) (hs:s.size≤33554432):∃ b:Bool,∀ w,Calls Tryz.prog 125 #[.string s] w fun e w'=>e= .returned (.bool b)∧Below w.heap.size w w':=by
 obtain ⟨b,h⟩:=level_l0 s hs s.size 0 (Int.le_refl _) (by omega) (by omega)
 exact ⟨b,fun w=>spec_Level.calls _ s b w (h _ (Nat.le_refl _))⟩
theorem reads_kds {α:Type} {W:World} {enc:α→Value} {e:TypeId} {g:Nat} {ps:List α} {kc:Array Value} (hk:kc.toList=ps.map enc) (hl:ps.length≤8) (h:W.heap[g]? =some (row kc e)):ReadsRow (fun x cs=>cs=[enc x]) 1 W (some ⟨g,0,none⟩) ps.length ps:=by
 refine ⟨rfl,by omega,fun _=>⟨_,rfl,fun j q hj=> ?_⟩⟩
 refine ⟨[enc q],rfl,rfl,fun i u hu=> ?_⟩
 cases i with
 |succ i=>simp at hu
 |zero=>
  have hb:=blk_cell h j
  have ea:Addr.add (⟨g,0,none⟩:Addr) (j * 1 + 0)=⟨g,j,none⟩:=by simp [Addr.add];exact fun h=>h.symm
  rw [ea,hb,← hu,← Array.getElem?_toList,hk,List.getElem?_map,hj]
  rfl
section
variable {P:Program} {ops:Array Oper} {rest:List Oper} {o:Oper} {a:Act} {Q:Exit→Act→World→Prop} {w W:World} {l:List Blk}
theorem appends_at {α:Type} {enc:α→Value} {h1:∀ x,(enc x).oneCell'=true} {e:Nat} {hE:∀ q,q∈e::(Kd.scalar enc h1).E→datT q=true} {v:Value} {xs:List α} (ps:List α) {g:Nat} {kc:Array Value} {s x:Operand} {t:TypeId} {z:Value} {bytes:Nat}
  (H:At w (.b g (row kc e):: .f (Fact.rows (Kd.scalar enc h1) e w.heap.size hE v xs)::l) W) (hkc:kc.toList=ps.map enc) (hl8:ps.length≤8) (hl:offF e l) (hgd:o.guard=none)
  (ho:o.op= .call {callee:= .builtin .append,args:=#[s,x],argTypes:=#[t,t]}) (ht:P.underlying t=some (.slice e)) (hinfo:(P.info? e).map (fun i=>(i.zero,i.size,i.bytes))=some (some z,1,bytes)) (hz:z.cells.size=1) (hb0:0 < bytes) (hs:a.eval s=v) (hx:a.eval x= .slice (some ⟨g,0,none⟩) ps.length ps.length) (hlen:(xs.length + ps.length) * bytes≤140737488355328)
  (h:∀ v1 w1,At w (.f (Fact.rows (Kd.scalar enc h1) e w.heap.size hE v1 (xs ++ ps))::l) w1→wpList P ops Q rest (a.put o.dst v1) w1):wpList P ops Q (o::rest) a W:=by
 have HO:Kd.R (Kd.scalar enc h1) e W w.heap.size (fun _=>True) v xs:=H.k.2.1
 refine Kd.R_append_rows (Kd.scalar enc h1) (w0:=w) w.heap.size hgd s x t e z bytes ho ht hinfo hz Nat.zero_lt_one hb0 v xs ps _ ps.length ps.length (fun _=>True) (fun _=>False) hs hx HO (reads_kds hkc hl8 H.k.1) (fun x cs hc=>hc) (fun _ h=>h.elim) (fun _ _=>trivial) H.b H.b.size hlen ?_
 intro v1 w1 hR hB hg hat
 refine h v1 w1 ?_
 obtain ⟨_,inner,hown,_⟩:=HO
 exact (H.drop.drop.grownF hl (fun k hk=>⟨own_base hown k hk,own_typed hown k hk⟩) hg).fact _ hR
end
end Go.Proofs.YtlblbefbbibpaaaGreatDoor.J
