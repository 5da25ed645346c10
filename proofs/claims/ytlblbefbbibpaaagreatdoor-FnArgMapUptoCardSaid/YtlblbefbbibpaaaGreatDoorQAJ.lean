/- Part. -/
import Derived.Test.YtlblbefbbibpaaaGreatDoorQAI
set_option linter.unusedVariables false
set_option linter.unusedSimpArgs false
set_option maxHeartbeats 8000000
set_option maxRecDepth 100000
namespace Go.Proofs.YtlblbefbbibpaaaGreatDoor.PAM
open Go.RowKit Zw.PrintWords Zw.PrintLast Zw.PrintMore
attribute [local go_sem] max2_int min2_int max_two min_two max_three min_three max_four min_four
mutual
def spec_Lines.l0:Nat→ByteArray→List ByteArray→Int→Int→Option (List ByteArray)
 |0,_,_,_,_=>none
 |k + 1,x0,x3,x4,x5=>if x5 < (x0.size:Int) then (if 0≤x5 then (if (bt x0 x5)=10 then (spec_Lines.j1 k x0 x3 x4 x5 false) else (spec_Lines.j1 k x0 x3 x4 x5 ((bt x0 x5) != 13))) else (none)) else (if 0≤x4 then (if x4≤(x0.size:Int) then (if x3.length < 8796093022208 then (some (x3 ++ [x0.extract (x4:Int).toNat x0.size])) else (none)) else (none)) else (none))
def spec_Lines.j1:Nat→ByteArray→List ByteArray→Int→Int→Bool→Option (List ByteArray)
 |0,_,_,_,_,_=>none
 |k + 1,x0,x3,x4,x5,x22=>if x22=true then (spec_Lines.l0 k x0 x3 x4 (wrap64 (x5 + 1))) else (if 0≤x4 then (if x4≤x5 then (if x5≤(x0.size:Int) then (if x3.length < 8796093022208 then ((some (x3 ++ [x0.extract (x4:Int).toNat (x5:Int).toNat]:List ByteArray)).bind fun y118=>(if 0≤x5 then (if x5 < (x0.size:Int) then (if (bt x0 x5)=13 then (if (wrap64 (x5 + 1)) < (x0.size:Int) then (if 0≤(wrap64 (x5 + 1)) then (if (bt x0 (wrap64 (x5 + 1)))=10 then (spec_Lines.l0 k x0 y118 (wrap64 ((wrap64 (x5 + 1)) + 1)) (wrap64 ((wrap64 (x5 + 1)) + 1))) else (spec_Lines.l0 k x0 y118 (wrap64 (x5 + 1)) (wrap64 (x5 + 1)))) else (none)) else (spec_Lines.l0 k x0 y118 (wrap64 (x5 + 1)) (wrap64 (x5 + 1)))) else (spec_Lines.l0 k x0 y118 (wrap64 (x5 + 1)) (wrap64 (x5 + 1)))) else (none)) else (none))) else (none)) else (none)) else (none)) else (none))
end
def spec_Lines.f (k:Nat) (a0:ByteArray):Option (List ByteArray):=spec_Lines.l0 k a0 (([]:List ByteArray)) 0 0
theorem spec_Lines.mono_l:∀ k,(∀ y0 y1 y2 y3,LeO (spec_Lines.l0 k y0 y1 y2 y3) (spec_Lines.l0 (k + 1) y0 y1 y2 y3))∧(∀ y0 y1 y2 y3 y4,LeO (spec_Lines.j1 k y0 y1 y2 y3 y4) (spec_Lines.j1 (k + 1) y0 y1 y2 y3 y4))
 |0=>⟨fun _ _ _ _ r h=>by simp [spec_Lines.l0] at h,fun _ _ _ _ _ r h=>by simp [spec_Lines.j1] at h⟩
 |k + 1=>by
  obtain ⟨ih0,ih1⟩:=spec_Lines.mono_l k
  refine ⟨?_,?_⟩
  ·intro y0 y1 y2 y3
   unfold spec_Lines.l0
   repeat' first
   |(with_reducible exact ih0 _ _ _ _)
   |(with_reducible exact ih1 _ _ _ _ _)
   |(with_reducible exact LeO.refl _)
   |(with_reducible exact LeO.none _)
   |(with_reducible refine LeO.ite ?_ ?_)
   |(with_reducible refine LeO.bind ?_ (fun _=> ?_))
  ·intro y0 y1 y2 y3 y4
   unfold spec_Lines.j1
   repeat' first
   |(with_reducible exact ih0 _ _ _ _)
   |(with_reducible exact ih1 _ _ _ _ _)
   |(with_reducible exact LeO.refl _)
   |(with_reducible exact LeO.none _)
   |(with_reducible refine LeO.ite ?_ ?_)
   |(with_reducible refine LeO.bind ?_ (fun _=> ?_))
theorem spec_Lines.mono:∀ a0 k,LeO (spec_Lines.f k a0) (spec_Lines.f (k + 1) a0):=by
 intro a0 k
 obtain ⟨ih0,ih1⟩:=spec_Lines.mono_l k
 unfold spec_Lines.f
 repeat' first
   |(with_reducible exact ih0 _ _ _ _)
   |(with_reducible exact ih1 _ _ _ _ _)
   |(with_reducible exact LeO.refl _)
   |(with_reducible exact LeO.none _)
   |(with_reducible refine LeO.ite ?_ ?_)
   |(with_reducible refine LeO.bind ?_ (fun _=> ?_))
theorem spec_Lines.calls (k:Nat) (a0:ByteArray) (r:List ByteArray) (w:World) (h:spec_Lines.f k a0=some r):
  Calls Tryz.prog 142 #[.string a0] w fun e w'=>∃ v0_:Value,e= .returned (v0_)∧Kd.R Kd.string 9 w' w.heap.size (fun _=>True) v0_ r∧Below w.heap.size w w':=by
 have HB:=asd_ (Below.refl w.heap.size w)
 have H:(spec_Lines.l0 k a0 (([]:List ByteArray)) 0 0)=some r:=h
 clear h
 obtain ⟨y112,hy112⟩:∃ y_:List ByteArray,y_=(([]:List ByteArray)):=⟨_,rfl⟩
 replace H:(spec_Lines.l0 k a0 y112 0 0)=some r:=by first|(rw [hy112];with_reducible exact H)|(have H2_:=(Option.bind_some _ _).symm.trans H;rw [hy112];with_reducible exact H2_)|(have H2_:=(Option.bind_some _ _).symm.trans H;with_reducible exact H2_)|with_reducible exact H|(rw [hy112];exact H)|exact H
 have Ny112:=asd_ hy112
 clear hy112
 have H':=asd_ H
 clear H
 go_enter Tryz.func142,Tryz.ntmps142
 go_wp2_with (first|((with_reducible refine gate_dst (N:=6) rfl ?_);(try (refine gate_guard (by rfl) ?_;dsimp only));refine Kd.R_lit Kd.string _ 9 ?hg (N:=6) ?hd (xs:=([]:List ByteArray)) (inner:=[]) (ok:=fun _=>True) (okp:=fun _=>True) ?hr ?hp (fun _ hk=>hk) trivial (Below.refl _ _) (Nat.le_refl _) (by simp) ?_;(case hd=>rfl);(case hg=>rfl);(case hr=>first|(go_simp;done)|(go_simp;rfl));(case hp=>exact (Reps.none _ _));intro v113 w2 ho3 hb hg_ hnew_;clear hg_ hnew_;(first|rw [← Ny112.out] at ho3|(simp only [Int.reduceToNat] at ho3;rw [← Ny112.out] at ho3));have n0_:=asd_ (Kd.R_lower ho3 (below_size wb_));have n1_:=asd_ (below_step wb_ hb);clear HB;have HO114:=n0_;have HB:=n1_;clear n0_ n1_;clear hb ho3))
 go_loopg [3,4,5] k (fun kq v3 v4 v5 w'=>∃ (x3_1:List ByteArray) (x4_1:Int) (x5_1:Int),v4= .int .i64 x4_1∧v5= .int .i64 x5_1∧Aside0 (spec_Lines.l0 kq a0 x3_1 x4_1 x5_1=some r)∧Aside0 (kq≤k)∧Aside0 (Kd.R Kd.string 9 w' w.heap.size (fun _=>True) v3 x3_1)∧Aside0 (Below w.heap.size w w'))
 case atStart=>exact ⟨(y112),(0),(0),r1_,r1_,H',⟨Nat.le_refl _⟩,⟨by (with_reducible repeat (first|apply Kd.R_alloc|apply Kd.R_drewN|apply Kd.R_drew));exact HO114.out⟩,⟨wb_⟩⟩
 case round=>
  clear H'
  obtain ⟨x3_1,x4_1,x5_1,rfl,rfl,HA,HK1,HO_3,HB⟩:=hrel
  cases gk with
  |zero=>exact absurd HA.out (by simp [spec_Lines.l0])
  |succ k1=>
   have H:=HA.out
   clear HA
   simp only [spec_Lines.l0] at H
   by_cases c4:x5_1 < (a0.size:Int)
   ·rw [if_pos c4] at H
    have c4b0:=decide_eq_true c4
    clear c4
    have HC5:=asd_ H
    clear H
    go_upto_region 6 with (fail)
    go_cut [22] (fun v22 wc=>∃ (kq:Nat) (x22_4:Bool),v22= .bool x22_4∧Aside0 (spec_Lines.j1 kq a0 x3_1 x4_1 x5_1 x22_4=some r)∧Aside0 (kq≤k1)∧Aside0 (Kd.R Kd.string 9 wc w.heap.size (fun _=>True) u3 x3_1)∧Aside0 (Below w.heap.size w wc))
    case first=>
     have H:=HC5.out
     clear HC5
     by_cases c6:0≤x5_1
     ·rw [if_pos c6] at H
      have c6b0:=decide_eq_true c6
      clear c6
      (first|rw [c6b0]|(simp only [i64_w,i32_w];rw [c6b0])|skip)
      by_cases c8:(bt a0 x5_1)=10
      ·rw [if_pos c8] at H
       have c8b0:=beq_iff_eq.mpr c8
       have c8b1:=bne_eq_false_iff_eq.mpr c8
       clear c8
       have H':=asd_ H
       clear H
       have p7:0≤(x5_1:Int):=of_decide_eq_true as_
       have q7:x5_1 < (a0.size:Int):=of_decide_eq_true as_
       have hx7:=bt_at a0 x5_1
       replace p7:=eq_true p7
       replace q7:=eq_true q7
       go_wp2
       go_meet
       case rel=>exact ⟨_,(false),r1_,H',⟨by have:=HK1.out;first|omega|exact Nat.le_refl _⟩,⟨by (with_reducible repeat (first|apply Kd.R_alloc|apply Kd.R_drewN|apply Kd.R_drew));exact HO_3.out⟩,⟨wb_⟩⟩
      ·rw [if_neg c8] at H
       have c8b0:=beq_eq_false_iff_ne.mpr c8
       have c8b1:=bne_iff_ne.mpr c8
       have H':=asd_ H
       clear H
       have p7:0≤(x5_1:Int):=of_decide_eq_true as_
       have q7:x5_1 < (a0.size:Int):=of_decide_eq_true as_
       have hx7:=bt_at a0 x5_1
       replace p7:=eq_true p7
       replace q7:=eq_true q7
       have p9:0≤(x5_1:Int):=of_decide_eq_true as_
       have q9:x5_1 < (a0.size:Int):=of_decide_eq_true as_
       have hx9:=bt_at a0 x5_1
       replace p9:=eq_true p9
       replace q9:=eq_true q9
       go_wp2
       go_meet
       case rel=>exact ⟨_,(((bt a0 x5_1) != 13)),r1_,H',⟨by have:=HK1.out;first|omega|exact Nat.le_refl _⟩,⟨by (with_reducible repeat (first|apply Kd.R_alloc|apply Kd.R_drewN|apply Kd.R_drew));exact HO_3.out⟩,⟨wb_⟩⟩
     ·rw [if_neg c6] at H
      exact absurd H (by simp)
    case rest=>
     clear HC5
     obtain ⟨kq,x22_4,rfl,HA,HJ4,HO_3,HB⟩:=hcut
     cases kq with
     |zero=>exact absurd HA.out (by simp [spec_Lines.j1])
     |succ kj4=>
      have H:=HA.out
      clear HA
      simp only [spec_Lines.j1] at H
      by_cases c10:x22_4=true
      ·subst c10
       have H1:(spec_Lines.l0 kj4 a0 x3_1 x4_1 (wrap64 (x5_1 + 1)))=some r:=by rw [if_pos rfl] at H;exact H
       clear H
       have H:=H1
       clear H1
       have H':=asd_ H
       clear H
       go_wp2
       go_roundg kj4
       case measure=>have:=HK1.out;have:=HJ4.out;omega
       case rel=>exact ⟨(x3_1),(x4_1),(wrap64 (x5_1 + 1)),r1_,r1_,H',⟨by have:=HK1.out;have:=HJ4.out;omega⟩,⟨by (with_reducible repeat (first|apply Kd.R_alloc|apply Kd.R_drewN|apply Kd.R_drew));exact HO_3.out⟩,⟨wb_⟩⟩
      ·replace c10:=Bool.eq_false_iff.mpr c10
       subst c10
       have H1:(if 0≤x4_1 then (if x4_1≤x5_1 then (if x5_1≤(a0.size:Int) then (if x3_1.length < 8796093022208 then ((some (x3_1 ++ [a0.extract (x4_1:Int).toNat (x5_1:Int).toNat]:List ByteArray)).bind fun y118=>(if 0≤x5_1 then (if x5_1 < (a0.size:Int) then (if (bt a0 x5_1)=13 then (if (wrap64 (x5_1 + 1)) < (a0.size:Int) then (if 0≤(wrap64 (x5_1 + 1)) then (if (bt a0 (wrap64 (x5_1 + 1)))=10 then (spec_Lines.l0 kj4 a0 y118 (wrap64 ((wrap64 (x5_1 + 1)) + 1)) (wrap64 ((wrap64 (x5_1 + 1)) + 1))) else (spec_Lines.l0 kj4 a0 y118 (wrap64 (x5_1 + 1)) (wrap64 (x5_1 + 1)))) else (none)) else (spec_Lines.l0 kj4 a0 y118 (wrap64 (x5_1 + 1)) (wrap64 (x5_1 + 1)))) else (spec_Lines.l0 kj4 a0 y118 (wrap64 (x5_1 + 1)) (wrap64 (x5_1 + 1)))) else (none)) else (none))) else (none)) else (none)) else (none)) else (none))=some r:=by rw [if_neg (show ¬ (false=true) by decide)] at H;exact H
       clear H
       have H:=H1
       clear H1
       by_cases c11:0≤x4_1
       ·rw [if_pos c11] at H
        have c11b0:=eq_true c11
        have c11b1:=decide_eq_true c11
        clear c11
        by_cases c12:x4_1≤x5_1
        ·rw [if_pos c12] at H
         have c12b0:=eq_true c12
         have c12b1:=decide_eq_true c12
         clear c12
         by_cases c13:x5_1≤(a0.size:Int)
         ·rw [if_pos c13] at H
          have c13b0:=eq_true c13
          have c13b1:=decide_eq_true c13
          clear c13
          by_cases c14:x3_1.length < 8796093022208
          ·rw [if_pos c14] at H
           have LMc14:=asd_ c14
           clear c14
           obtain ⟨y118,hy118⟩:∃ y_:List ByteArray,y_=(x3_1 ++ [a0.extract (x4_1:Int).toNat (x5_1:Int).toNat]):=⟨_,rfl⟩
           replace H:(if 0≤x5_1 then (if x5_1 < (a0.size:Int) then (if (bt a0 x5_1)=13 then (if (wrap64 (x5_1 + 1)) < (a0.size:Int) then (if 0≤(wrap64 (x5_1 + 1)) then (if (bt a0 (wrap64 (x5_1 + 1)))=10 then (spec_Lines.l0 kj4 a0 y118 (wrap64 ((wrap64 (x5_1 + 1)) + 1)) (wrap64 ((wrap64 (x5_1 + 1)) + 1))) else (spec_Lines.l0 kj4 a0 y118 (wrap64 (x5_1 + 1)) (wrap64 (x5_1 + 1)))) else (none)) else (spec_Lines.l0 kj4 a0 y118 (wrap64 (x5_1 + 1)) (wrap64 (x5_1 + 1)))) else (spec_Lines.l0 kj4 a0 y118 (wrap64 (x5_1 + 1)) (wrap64 (x5_1 + 1)))) else (none)) else (none))=some r:=by first|(rw [hy118];with_reducible exact H)|(have H2_:=(Option.bind_some _ _).symm.trans H;rw [hy118];with_reducible exact H2_)|(have H2_:=(Option.bind_some _ _).symm.trans H;with_reducible exact H2_)|with_reducible exact H|(rw [hy118];exact H)|exact H
           have Ny118:=asd_ hy118
           clear hy118
           by_cases c15:0≤x5_1
           ·rw [if_pos c15] at H
            have c15b0:=decide_eq_true c15
            clear c15
            by_cases c16:x5_1 < (a0.size:Int)
            ·rw [if_pos c16] at H
             have c16b0:=decide_eq_true c16
             clear c16
             by_cases c18:(bt a0 x5_1)=13
             ·rw [if_pos c18] at H
              have c18b0:=beq_iff_eq.mpr c18
              have c18b1:=bne_eq_false_iff_eq.mpr c18
              clear c18
              by_cases c19:(wrap64 (x5_1 + 1)) < (a0.size:Int)
              ·rw [if_pos c19] at H
               have c19b0:=decide_eq_true c19
               clear c19
               obtain ⟨ji20,hji20⟩:∃ j_:Int,(wrap64 (x5_1 + 1))=j_:=⟨_,rfl⟩
               replace H:(if 0≤(ji20) then (if (bt a0 (ji20))=10 then (spec_Lines.l0 kj4 a0 y118 (wrap64 ((ji20) + 1)) (wrap64 ((ji20) + 1))) else (spec_Lines.l0 kj4 a0 y118 ji20 ji20)) else (none))=some r:=by first|(rw [hji20] at H;exact H)|(simp only [hji20] at H ⊢;exact H)
               (try rw [hji20] at c19b0)
               have hji20w:(IntKind.i64.wrap (x5_1 + 1))=ji20:=(i64_w _).trans hji20
               by_cases c21:0≤(ji20)
               ·rw [if_pos c21] at H
                have c21b0:=decide_eq_true c21
                clear c21
                by_cases c23:(bt a0 (ji20))=10
                ·rw [if_pos c23] at H
                 have c23b0:=beq_iff_eq.mpr c23
                 have c23b1:=bne_eq_false_iff_eq.mpr c23
                 clear c23
                 have H':=asd_ H
                 clear H
                 go_wp2_with (first|((with_reducible refine gate_builtin (b:= .append) (xs:=#[.tmp 23,.tmp 28]) rfl ?_);(try (refine gate_guard (by rfl) ?_;dsimp only));at_builtin;refine Kd.R_append Kd.string (w0:=w) w.heap.size rfl (.tmp 23) (.tmp 28) 37 9 (.string ⟨#[]⟩) 16 rfl Tryz.underlying37 info9 rfl (by decide) (by omega) u3 x3_1 (a0.extract (x4_1:Int).toNat (x5_1:Int).toNat) [.string (a0.extract (x4_1:Int).toNat (x5_1:Int).toNat)] (fun _=>True) (fun _=>False) rfl rfl ?aP (fun _ hk=>hk.elim) ?aF ?aO ?aB ?aS ?aL ?_;(case aP=>exact rfl);(case aB=>exact wb_);(case aF=>exact (fun _ _=>trivial));(case aO=>exact (by (with_reducible repeat (first|apply Kd.R_alloc|apply Kd.R_drewN|apply Kd.R_drew));exact HO_3.out));(case aS=>exact (below_size wb_));(case aL=>have:=LMc14.out;omega);intro v119 w24 ho hb hg hat;rw [← Ny118.out] at ho;have n0_:=asd_ (hb);have n1_:=asd_ (ho);clear HB;clear HO_3;have HB:=n0_;have HO120:=n1_;clear n0_ n1_;clear ho hb hg hat;have p17:0≤(x5_1:Int):=of_decide_eq_true as_;have q17:x5_1 < (a0.size:Int):=of_decide_eq_true as_;have hx17:=bt_at a0 x5_1;replace p17:=eq_true p17;replace q17:=eq_true q17;have p22:0≤((ji20):Int):=of_decide_eq_true as_;have q22:(ji20) < (a0.size:Int):=of_decide_eq_true as_;have hx22:=bt_at a0 (ji20);replace p22:=eq_true p22;replace q22:=eq_true q22))
                 go_roundg kj4
                 case measure=>have:=HK1.out;have:=HJ4.out;omega
                 case rel=>exact ⟨(y118),(wrap64 ((ji20) + 1)),(wrap64 ((ji20) + 1)),(by first|rfl|(simp;done)|(simp only [← hji20]<;>(first|rfl|simp))|(simp [*];done)),(by first|rfl|(simp;done)|(simp only [← hji20]<;>(first|rfl|simp))|(simp [*];done)),H',⟨by have:=HK1.out;have:=HJ4.out;omega⟩,⟨by (with_reducible repeat (first|apply Kd.R_alloc|apply Kd.R_drewN|apply Kd.R_drew));exact HO120.out⟩,⟨wb_⟩⟩
                ·rw [if_neg c23] at H
                 have c23b0:=beq_eq_false_iff_ne.mpr c23
                 have c23b1:=bne_iff_ne.mpr c23
                 have H':=asd_ H
                 clear H
                 go_wp2_with (first|((with_reducible refine gate_builtin (b:= .append) (xs:=#[.tmp 23,.tmp 28]) rfl ?_);(try (refine gate_guard (by rfl) ?_;dsimp only));at_builtin;refine Kd.R_append Kd.string (w0:=w) w.heap.size rfl (.tmp 23) (.tmp 28) 37 9 (.string ⟨#[]⟩) 16 rfl Tryz.underlying37 info9 rfl (by decide) (by omega) u3 x3_1 (a0.extract (x4_1:Int).toNat (x5_1:Int).toNat) [.string (a0.extract (x4_1:Int).toNat (x5_1:Int).toNat)] (fun _=>True) (fun _=>False) rfl rfl ?aP (fun _ hk=>hk.elim) ?aF ?aO ?aB ?aS ?aL ?_;(case aP=>exact rfl);(case aB=>exact wb_);(case aF=>exact (fun _ _=>trivial));(case aO=>exact (by (with_reducible repeat (first|apply Kd.R_alloc|apply Kd.R_drewN|apply Kd.R_drew));exact HO_3.out));(case aS=>exact (below_size wb_));(case aL=>have:=LMc14.out;omega);intro v119 w25 ho hb hg hat;rw [← Ny118.out] at ho;have n0_:=asd_ (hb);have n1_:=asd_ (ho);clear HB;clear HO_3;have HB:=n0_;have HO120:=n1_;clear n0_ n1_;clear ho hb hg hat;have p17:0≤(x5_1:Int):=of_decide_eq_true as_;have q17:x5_1 < (a0.size:Int):=of_decide_eq_true as_;have hx17:=bt_at a0 x5_1;replace p17:=eq_true p17;replace q17:=eq_true q17;have p22:0≤((ji20):Int):=of_decide_eq_true as_;have q22:(ji20) < (a0.size:Int):=of_decide_eq_true as_;have hx22:=bt_at a0 (ji20);replace p22:=eq_true p22;replace q22:=eq_true q22))
                 go_roundg kj4
                 case measure=>have:=HK1.out;have:=HJ4.out;omega
                 case rel=>exact ⟨(y118),(ji20),(ji20),(by first|rfl|(simp;done)|(simp only [← hji20]<;>(first|rfl|simp))|(simp [*];done)),(by first|rfl|(simp;done)|(simp only [← hji20]<;>(first|rfl|simp))|(simp [*];done)),H',⟨by have:=HK1.out;have:=HJ4.out;omega⟩,⟨by (with_reducible repeat (first|apply Kd.R_alloc|apply Kd.R_drewN|apply Kd.R_drew));exact HO120.out⟩,⟨wb_⟩⟩
               ·rw [if_neg c21] at H
                exact absurd H (by simp)
              ·rw [if_neg c19] at H
               have c19b0:=decide_eq_false c19
               clear c19
               have H':=asd_ H
               clear H
               go_wp2_with (first|((with_reducible refine gate_builtin (b:= .append) (xs:=#[.tmp 23,.tmp 28]) rfl ?_);(try (refine gate_guard (by rfl) ?_;dsimp only));at_builtin;refine Kd.R_append Kd.string (w0:=w) w.heap.size rfl (.tmp 23) (.tmp 28) 37 9 (.string ⟨#[]⟩) 16 rfl Tryz.underlying37 info9 rfl (by decide) (by omega) u3 x3_1 (a0.extract (x4_1:Int).toNat (x5_1:Int).toNat) [.string (a0.extract (x4_1:Int).toNat (x5_1:Int).toNat)] (fun _=>True) (fun _=>False) rfl rfl ?aP (fun _ hk=>hk.elim) ?aF ?aO ?aB ?aS ?aL ?_;(case aP=>exact rfl);(case aB=>exact wb_);(case aF=>exact (fun _ _=>trivial));(case aO=>exact (by (with_reducible repeat (first|apply Kd.R_alloc|apply Kd.R_drewN|apply Kd.R_drew));exact HO_3.out));(case aS=>exact (below_size wb_));(case aL=>have:=LMc14.out;omega);intro v119 w26 ho hb hg hat;rw [← Ny118.out] at ho;have n0_:=asd_ (hb);have n1_:=asd_ (ho);clear HB;clear HO_3;have HB:=n0_;have HO120:=n1_;clear n0_ n1_;clear ho hb hg hat;have p17:0≤(x5_1:Int):=of_decide_eq_true as_;have q17:x5_1 < (a0.size:Int):=of_decide_eq_true as_;have hx17:=bt_at a0 x5_1;replace p17:=eq_true p17;replace q17:=eq_true q17))
               go_roundg kj4
               case measure=>have:=HK1.out;have:=HJ4.out;omega
               case rel=>exact ⟨(y118),(wrap64 (x5_1 + 1)),(wrap64 (x5_1 + 1)),r1_,r1_,H',⟨by have:=HK1.out;have:=HJ4.out;omega⟩,⟨by (with_reducible repeat (first|apply Kd.R_alloc|apply Kd.R_drewN|apply Kd.R_drew));exact HO120.out⟩,⟨wb_⟩⟩
             ·rw [if_neg c18] at H
              have c18b0:=beq_eq_false_iff_ne.mpr c18
              have c18b1:=bne_iff_ne.mpr c18
              have H':=asd_ H
              clear H
              go_wp2_with (first|((with_reducible refine gate_builtin (b:= .append) (xs:=#[.tmp 23,.tmp 28]) rfl ?_);(try (refine gate_guard (by rfl) ?_;dsimp only));at_builtin;refine Kd.R_append Kd.string (w0:=w) w.heap.size rfl (.tmp 23) (.tmp 28) 37 9 (.string ⟨#[]⟩) 16 rfl Tryz.underlying37 info9 rfl (by decide) (by omega) u3 x3_1 (a0.extract (x4_1:Int).toNat (x5_1:Int).toNat) [.string (a0.extract (x4_1:Int).toNat (x5_1:Int).toNat)] (fun _=>True) (fun _=>False) rfl rfl ?aP (fun _ hk=>hk.elim) ?aF ?aO ?aB ?aS ?aL ?_;(case aP=>exact rfl);(case aB=>exact wb_);(case aF=>exact (fun _ _=>trivial));(case aO=>exact (by (with_reducible repeat (first|apply Kd.R_alloc|apply Kd.R_drewN|apply Kd.R_drew));exact HO_3.out));(case aS=>exact (below_size wb_));(case aL=>have:=LMc14.out;omega);intro v119 w27 ho hb hg hat;rw [← Ny118.out] at ho;have n0_:=asd_ (hb);have n1_:=asd_ (ho);clear HB;clear HO_3;have HB:=n0_;have HO120:=n1_;clear n0_ n1_;clear ho hb hg hat;have p17:0≤(x5_1:Int):=of_decide_eq_true as_;have q17:x5_1 < (a0.size:Int):=of_decide_eq_true as_;have hx17:=bt_at a0 x5_1;replace p17:=eq_true p17;replace q17:=eq_true q17))
              go_roundg kj4
              case measure=>have:=HK1.out;have:=HJ4.out;omega
              case rel=>exact ⟨(y118),(wrap64 (x5_1 + 1)),(wrap64 (x5_1 + 1)),r1_,r1_,H',⟨by have:=HK1.out;have:=HJ4.out;omega⟩,⟨by (with_reducible repeat (first|apply Kd.R_alloc|apply Kd.R_drewN|apply Kd.R_drew));exact HO120.out⟩,⟨wb_⟩⟩
            ·rw [if_neg c16] at H
             exact absurd H (by simp)
           ·rw [if_neg c15] at H
            exact absurd H (by simp)
          ·rw [if_neg c14] at H
           exact absurd H (by simp)
         ·rw [if_neg c13] at H
          exact absurd H (by simp)
        ·rw [if_neg c12] at H
         exact absurd H (by simp)
       ·rw [if_neg c11] at H
        exact absurd H (by simp)
   ·rw [if_neg c4] at H
    have c4b0:=decide_eq_false c4
    clear c4
    by_cases c28:0≤x4_1
    ·rw [if_pos c28] at H
     have c28b0:=eq_true c28
     have c28b1:=decide_eq_true c28
     clear c28
     by_cases c29:x4_1≤(a0.size:Int)
     ·rw [if_pos c29] at H
      have c29b0:=eq_true c29
      have c29b1:=decide_eq_true c29
      clear c29
      by_cases c30:x3_1.length < 8796093022208
      ·rw [if_pos c30] at H
       have LMc30:=asd_ c30
       clear c30
       obtain ⟨y115,hy115⟩:∃ y_:List ByteArray,y_=(x3_1 ++ [a0.extract (x4_1:Int).toNat a0.size]):=⟨_,rfl⟩
       replace H:(some y115)=some r:=by first|(rw [hy115];with_reducible exact H)|(have H2_:=(Option.bind_some _ _).symm.trans H;rw [hy115];with_reducible exact H2_)|(have H2_:=(Option.bind_some _ _).symm.trans H;with_reducible exact H2_)|with_reducible exact H|(rw [hy115];exact H)|exact H
       have Ny115:=asd_ hy115
       clear hy115
       obtain rfl:=Option.some.inj H
       go_wp2_with (first|((with_reducible refine gate_builtin (b:= .append) (xs:=#[.tmp 52,.tmp 56]) rfl ?_);(try (refine gate_guard (by rfl) ?_;dsimp only));at_builtin;refine Kd.R_append Kd.string (w0:=w) w.heap.size rfl (.tmp 52) (.tmp 56) 37 9 (.string ⟨#[]⟩) 16 rfl Tryz.underlying37 info9 rfl (by decide) (by omega) u3 x3_1 (a0.extract (x4_1:Int).toNat a0.size) [.string (a0.extract (x4_1:Int).toNat a0.size)] (fun _=>True) (fun _=>False) rfl rfl ?aP (fun _ hk=>hk.elim) ?aF ?aO ?aB ?aS ?aL ?_;(case aP=>exact rfl);(case aB=>exact wb_);(case aF=>exact (fun _ _=>trivial));(case aO=>exact (by (with_reducible repeat (first|apply Kd.R_alloc|apply Kd.R_drewN|apply Kd.R_drew));exact HO_3.out));(case aS=>exact (below_size wb_));(case aL=>have:=LMc30.out;omega);intro v116 w31 ho hb hg hat;rw [← Ny115.out] at ho;have n0_:=asd_ (hb);have n1_:=asd_ (ho);clear HB;clear HO_3;have HB:=n0_;have HO117:=n1_;clear n0_ n1_;clear ho hb hg hat))
       go_ret
       exact ⟨_,er_,by (with_reducible repeat (first|apply Kd.R_alloc|apply Kd.R_drewN|apply Kd.R_drew));exact HO117.out,wb_⟩
      ·rw [if_neg c30] at H
       exact absurd H (by simp)
     ·rw [if_neg c29] at H
      exact absurd H (by simp)
    ·rw [if_neg c28] at H
     exact absurd H (by simp)
def spec_leading.l0:Nat→ByteArray→Int→Option (Int)
 |0,_,_=>none
 |k + 1,x0,x3=>if x3 < (x0.size:Int) then (if 0≤x3 then (if (bt x0 x3)=32 then (spec_leading.l0 k x0 (wrap64 (x3 + 1))) else (if (bt x0 x3)=9 then (spec_leading.l0 k x0 (wrap64 (x3 + 1))) else (some x3))) else (none)) else (some x3)
def spec_leading.f (k:Nat) (a0:ByteArray):Option (Int):=spec_leading.l0 k a0 0
theorem spec_leading.mono_l:∀ k,(∀ y0 y1,LeO (spec_leading.l0 k y0 y1) (spec_leading.l0 (k + 1) y0 y1))
 |0=>fun _ _ r h=>by simp [spec_leading.l0] at h
 |k + 1=>by
  have ih0:=spec_leading.mono_l k
  ·intro y0 y1
   unfold spec_leading.l0
   repeat' first
   |(with_reducible exact ih0 _ _)
   |(with_reducible exact LeO.refl _)
   |(with_reducible exact LeO.none _)
   |(with_reducible refine LeO.ite ?_ ?_)
   |(with_reducible refine LeO.bind ?_ (fun _=> ?_))
theorem spec_leading.mono:∀ a0 k,LeO (spec_leading.f k a0) (spec_leading.f (k + 1) a0):=by
 intro a0 k
 have ih0:=spec_leading.mono_l k
 unfold spec_leading.f
 repeat' first
   |(with_reducible exact ih0 _ _)
   |(with_reducible exact LeO.refl _)
   |(with_reducible exact LeO.none _)
   |(with_reducible refine LeO.ite ?_ ?_)
   |(with_reducible refine LeO.bind ?_ (fun _=> ?_))
theorem spec_leading.calls (k:Nat) (a0:ByteArray) (r:Int) (w:World) (h:spec_leading.f k a0=some r):
  Calls Tryz.prog 143 #[.string a0] w fun e w'=>e= .returned (.int .i64 r)∧Drawn0 w w':=by
 have H:(spec_leading.l0 k a0 0)=some r:=h
 clear h
 have H':=asd_ H
 clear H
 go_enter Tryz.func143,Tryz.ntmps143
 go_wp2
 go_loopg [3] k (fun kq v3 w'=>∃ (x3_1:Int),v3= .int .i64 x3_1∧Aside0 (spec_leading.l0 kq a0 x3_1=some r)∧Aside0 (kq≤k)∧Drawn0 w w')
 case atStart=>exact ⟨(0),r1_,H',⟨Nat.le_refl _⟩,dr_⟩
 case round=>
  clear H'
  obtain ⟨x3_1,rfl,HA,HK1,⟨m1,rfl⟩⟩:=hrel
  cases gk with
  |zero=>exact absurd HA.out (by simp [spec_leading.l0])
  |succ k1=>
   have H:=HA.out
   clear HA
   simp only [spec_leading.l0] at H
   by_cases c2:x3_1 < (a0.size:Int)
   ·rw [if_pos c2] at H
    have c2b0:=decide_eq_true c2
    clear c2
    by_cases c3:0≤x3_1
    ·rw [if_pos c3] at H
     have c3b0:=decide_eq_true c3
     clear c3
     by_cases c5:(bt a0 x3_1)=32
     ·rw [if_pos c5] at H
      have c5b0:=beq_iff_eq.mpr c5
      have c5b1:=bne_eq_false_iff_eq.mpr c5
      clear c5
      have H':=asd_ H
      clear H
      have p4:0≤(x3_1:Int):=of_decide_eq_true as_
      have q4:x3_1 < (a0.size:Int):=of_decide_eq_true as_
      have hx4:=bt_at a0 x3_1
      replace p4:=eq_true p4
      replace q4:=eq_true q4
      go_wp2
      go_roundg k1
      case measure=>have:=HK1.out;omega
      case rel=>exact ⟨(wrap64 (x3_1 + 1)),r1_,H',⟨by have:=HK1.out;omega⟩,dr_⟩
     ·rw [if_neg c5] at H
      have c5b0:=beq_eq_false_iff_ne.mpr c5
      have c5b1:=bne_iff_ne.mpr c5
      by_cases c7:(bt a0 x3_1)=9
      ·rw [if_pos c7] at H
       have c7b0:=beq_iff_eq.mpr c7
       have c7b1:=bne_eq_false_iff_eq.mpr c7
       clear c7
       have H':=asd_ H
       clear H
       have p4:0≤(x3_1:Int):=of_decide_eq_true as_
       have q4:x3_1 < (a0.size:Int):=of_decide_eq_true as_
       have hx4:=bt_at a0 x3_1
       replace p4:=eq_true p4
       replace q4:=eq_true q4
       have p6:0≤(x3_1:Int):=of_decide_eq_true as_
       have q6:x3_1 < (a0.size:Int):=of_decide_eq_true as_
       have hx6:=bt_at a0 x3_1
       replace p6:=eq_true p6
       replace q6:=eq_true q6
       go_wp2
       go_roundg k1
       case measure=>have:=HK1.out;omega
       case rel=>exact ⟨(wrap64 (x3_1 + 1)),r1_,H',⟨by have:=HK1.out;omega⟩,dr_⟩
      ·rw [if_neg c7] at H
       have c7b0:=beq_eq_false_iff_ne.mpr c7
       have c7b1:=bne_iff_ne.mpr c7
       obtain rfl:=Option.some.inj H
       have p4:0≤(x3_1:Int):=of_decide_eq_true as_
       have q4:x3_1 < (a0.size:Int):=of_decide_eq_true as_
       have hx4:=bt_at a0 x3_1
       replace p4:=eq_true p4
       replace q4:=eq_true q4
       have p6:0≤(x3_1:Int):=of_decide_eq_true as_
       have q6:x3_1 < (a0.size:Int):=of_decide_eq_true as_
       have hx6:=bt_at a0 x3_1
       replace p6:=eq_true p6
       replace q6:=eq_true q6
       go_wp2
       go_ret
       exact ⟨r1_,dr_⟩
    ·rw [if_neg c3] at H
     exact absurd H (by simp)
   ·rw [if_neg c2] at H
    have c2b0:=decide_eq_false c2
    clear c2
    obtain rfl:=Option.some.inj H
    go_wp2
    go_ret
    exact ⟨r1_,dr_⟩
end Go.Proofs.YtlblbefbbibpaaaGreatDoor.PAM
namespace Go.Proofs.YtlblbefbbibpaaaGreatDoor.J
open Go.RowKit Zw.PrintWords Zw.PrintLast Zw.PrintMore
open PAM
theorem wr64 {x:Int} (h:0≤x) (h':x≤8796093022208):wrap64 x=x:=by
 unfold wrap64;omega
theorem lead_l0 (s:ByteArray) (hs:s.size≤1099511627776):∀ (m:Nat) (x:Int),0≤x→x≤s.size→(s.size:Int) - x≤m→∃ r:Int,0≤r∧r≤s.size∧spec_leading.l0 (m + 1) s x=some r
 |0,x,h0,h1,h2=>⟨x,h0,h1,by unfold spec_leading.l0;rw [if_neg (by omega)]⟩
 |m + 1,x,h0,h1,h2=>by
  unfold spec_leading.l0
  by_cases h:x < (s.size:Int)
  ·rw [if_pos h,if_pos h0,wr64 (by omega) (by omega)]
   obtain ⟨r,a,b,e⟩:=lead_l0 s hs m (x + 1) (by omega) (by omega) (by omega)
   by_cases c:bt s x=32
   ·rw [if_pos c];exact ⟨r,a,b,e⟩
   ·rw [if_neg c]
    by_cases d:bt s x=9
    ·rw [if_pos d];exact ⟨r,a,b,e⟩
    ·rw [if_neg d];exact ⟨x,h0,h1,rfl⟩
  ·rw [if_neg h];exact ⟨x,h0,h1,rfl⟩
theorem lead_some (s:ByteArray) (hs:s.size≤1099511627776):∃ (k:Nat) (r:Int),0≤r∧r≤s.size∧spec_leading.f k s=some r:=
 let ⟨r,a,b,e⟩:=lead_l0 s hs s.size 0 (Int.le_refl _) (by omega) (by omega)
 ⟨_,r,a,b,e⟩
def LinesOf (s:ByteArray) (r:List ByteArray):Prop:=r≠[]∧r.length≤s.size + 1∧∀ t∈r,t.size≤s.size
theorem lines_both (s:ByteArray) (hs:s.size≤1099511627776):∀ (m:Nat),
  (∀ (xs:List ByteArray) (a x:Int),0≤a→a≤x→x≤s.size→(xs.length:Int)≤x→(∀ t∈xs,t.size≤s.size)→(s.size:Int) - x≤m→∃ r,LinesOf s r∧spec_Lines.l0 (2 * m + 1) s xs a x=some r)∧
  (∀ (xs:List ByteArray) (a x:Int) (b:Bool),0≤a→a≤x→x < s.size→(xs.length:Int)≤x→(∀ t∈xs,t.size≤s.size)→(s.size:Int) - x≤m→∃ r,LinesOf s r∧spec_Lines.j1 (2 * m) s xs a x b=some r)
 |0=>by
  refine ⟨?_,fun xs a x b h0 h1 h2 h3 h4 h5=>by omega⟩
  intro xs a x h0 h1 h2 h3 h4 h5
  unfold spec_Lines.l0
  rw [if_neg (by omega),if_pos h0,if_pos (by omega),if_pos (by omega)]
  refine ⟨_,⟨by simp,by simp;omega,?_⟩,rfl⟩
  intro t ht
  rcases List.mem_append.1 ht with h|h
  ·exact h4 t h
  ·rw [List.mem_singleton.1 h,ByteArray.size_extract];omega
 |m + 1=>by
  obtain ⟨IL,-⟩:=lines_both s hs m
  have J:∀ (xs:List ByteArray) (a x:Int) (b:Bool),0≤a→a≤x→x < s.size→(xs.length:Int)≤x→(∀ t∈xs,t.size≤s.size)→(s.size:Int) - x≤(m + 1:Nat)→∃ r,LinesOf s r∧spec_Lines.j1 (2 * (m + 1)) s xs a x b=some r:=by
   intro xs a x b h0 h1 h2 h3 h4 h5
   rw [show 2 * (m + 1)=(2 * m + 1) + 1 by omega]
   unfold spec_Lines.j1
   rw [wr64 (x:=x + 1) (by omega) (by omega)]
   cases b with
   |true=>rw [if_pos rfl];exact IL xs a (x + 1) h0 (by omega) (by omega) (by omega) h4 (by omega)
   |false=>
    rw [if_neg (by simp),if_pos h0,if_pos h1,if_pos (by omega),if_pos (by omega),Option.bind_some,if_pos (by omega),if_pos h2]
    have h4':∀ t∈xs ++ [s.extract a.toNat x.toNat],t.size≤s.size:=by
     intro t ht
     rcases List.mem_append.1 ht with h|h
     ·exact h4 t h
     ·rw [List.mem_singleton.1 h,ByteArray.size_extract];omega
    have hl:((xs ++ [s.extract a.toNat x.toNat]).length:Int)≤x + 1:=by simp;omega
    have E1:=IL (xs ++ [s.extract a.toNat x.toNat]) (x + 1) (x + 1) (by omega) (by omega) (by omega) hl h4' (by omega)
    by_cases c:bt s x=13
    ·rw [if_pos c]
     by_cases d:x + 1 < (s.size:Int)
     ·rw [if_pos d,if_pos (by omega)]
      by_cases e:bt s (x + 1)=10
      ·rw [if_pos e,wr64 (x:=x + 1 + 1) (by omega) (by omega)]
       exact IL (xs ++ [s.extract a.toNat x.toNat]) (x + 1 + 1) (x + 1 + 1) (by omega) (by omega) (by omega) (by omega) h4' (by omega)
      ·rw [if_neg e];exact E1
     ·rw [if_neg d];exact E1
    ·rw [if_neg c];exact E1
  refine ⟨?_,J⟩
  intro xs a x h0 h1 h2 h3 h4 h5
  unfold spec_Lines.l0
  by_cases h:x < (s.size:Int)
  ·rw [if_pos h,if_pos (by omega)]
   by_cases c:bt s x=10
   ·rw [if_pos c];exact J xs a x _ h0 h1 h h3 h4 h5
   ·rw [if_neg c];exact J xs a x _ h0 h1 h h3 h4 h5
  ·rw [if_neg h,if_pos h0,if_pos (by omega),if_pos (by omega)]
   refine ⟨_,⟨by simp,by simp;omega,?_⟩,rfl⟩
   intro t ht
   rcases List.mem_append.1 ht with h|h
   ·exact h4 t h
   ·rw [List.mem_singleton.1 h,ByteArray.size_extract];omega
theorem lines_some (s:ByteArray) (hs:s.size≤1099511627776):∃ (k:Nat) (r:List ByteArray),LinesOf s r∧spec_Lines.f k s=some r:=
 let ⟨r,a,e⟩:=(lines_both s hs s.size).1 [] 0 0 (Int.le_refl _) (Int.le_refl _) (by omega) (by simp) (fun _ h=>by simp at h) (by omega)
 ⟨_,r,a,e⟩
end Go.Proofs.YtlblbefbbibpaaaGreatDoor.J
namespace Go.Proofs.YtlblbefbbibpaaaGreatDoor.PAM
open Go.RowKit Zw.PrintWords Zw.PrintLast Zw.PrintMore
attribute [local go_sem] max2_int min2_int max_two min_two max_three min_three max_four min_four
def spec_IsDigit.f (a0:Int):Option (Bool):=if a0 ≥ 48 then (some (decide (a0≤57))) else (some false)
theorem spec_IsDigit.calls (a0:Int) (r:Bool) (w:World) (h:spec_IsDigit.f a0=some r):
  Calls Tryz.prog 44 #[.int .i32 a0] w fun e w'=>e= .returned (.bool r)∧Drawn0 w w':=by
 have H:(if a0 ≥ 48 then (some (decide (a0≤57))) else (some false))=some r:=h
 clear h
 by_cases c2:a0 ≥ 48
 ·rw [if_pos c2] at H
  have c2b0:=decide_eq_true c2
  clear c2
  obtain rfl:=Option.some.inj H
  go_enter Tryz.func44,Tryz.ntmps44
  go_wp2
  go_ret
  exact ⟨r1_,dr_⟩
 ·rw [if_neg c2] at H
  have c2b0:=decide_eq_false c2
  clear c2
  obtain rfl:=Option.some.inj H
  go_enter Tryz.func44,Tryz.ntmps44
  go_wp2
  go_ret
  exact ⟨r1_,dr_⟩
end Go.Proofs.YtlblbefbbibpaaaGreatDoor.PAM
namespace Go.Proofs.YtlblbefbbibpaaaGreatDoor.J
open Go.RowKit Zw Zw.PrintWords Zw.PrintLast Zw.PrintMore PAM
theorem digits_more {w0 w:World} {l:List Blk} {g n c:Nat} {A:Option Addr} {xs:List Int} {i seen line from_:Int} {v:Value} {sure:Bool} (H:At w0 (.b g (row (LXc A n c i v sure seen line from_) 194)::l) w) (hn:n=xs.length) (ht:Txt w0 A xs) (hL:xs.length≤8388608) (hg:w0.heap.size≤g) (h0:0≤i) (h1:i≤xs.length):
  Calls Tryz.prog 124 #[.pointer (some ⟨g,0,none⟩)] w fun e w'=>∃ (b:Bool) (q:Int),e= .returned (.bool b)∧i≤q∧q≤xs.length∧(b=true→i < q)∧At w0 (.b g (row (LXc A n c q v sure seen line from_) 194)::l) w':=by
 obtain ⟨Hg,Ht,Hn,HL,H0,H1⟩:=as6_ hg ht hn hL h0 h1;clear hg ht hn hL h0 h1
 have HK:=asd_ H
 clear H
 replace Bc:=ce1_ HK 0;replace Bf:=fe1_ HK 0
 go_enter Tryz.func124,Tryz.ntmps124
 have Gg:=Hg
 go_wp2_with fail
 go_loopg [] (xs.length - i).toNat (fun kq w'=>∃ q:Int,Aside0 (i≤q)∧Aside0 (q + kq=xs.length)∧Aside0 (At w0 (.b g (row (LXc A n c q v sure seen line from_) 194)::l) w'))
 case atStart=>exact ⟨i,⟨Int.le_refl _⟩,⟨by have:=H0.out;have:=H1.out;omega⟩,⟨at_⟩⟩
 case round=>
  clear HK
  obtain ⟨q,Hij,Hjk,HK⟩:=hrel
  replace Bc:=ce1_ HK 0;replace Bf:=fe1_ HK 0
  obtain ⟨r,hr⟩:∃ r,pk xs (q + 0)=r:=⟨_,rfl⟩
  obtain ⟨b,hb⟩:∃ b,spec_IsDigit.f r=some b:=by unfold spec_IsDigit.f;split<;>exact ⟨_,rfl⟩
  obtain ⟨Hr,Hb⟩:=as2_ hr hb;clear hr hb
  have hpk:∀ W,At w0 (.b g (row (LXc A n c q v sure seen line from_) 194)::l) W→Calls Tryz.prog 104 #[.pointer (some ⟨g,0,none⟩),.int .i64 0] W fun e w'=>e= .returned (.int .i32 r)∧Below W.heap.size W w':=fun W hW=>by have:=peek_ok 0 hW Hn.out Ht.out HL.out (by have:=H0.out;have:=Hij.out;omega) (by have:=Hjk.out;have:=HL.out;omega) (Int.le_refl _) (by omega);rw [Hr.out] at this;exact this
  have Hpk:=asd_ hpk;clear hpk
  cases b
  case false=>
   go_wp2_with (first|((first|((with_reducible refine gd_ 9 ?_);refine cl_ #[.pointer (some ⟨g,0,none⟩),.int .i64 0] (.int .i32 r) Tryz.func104 (Hpk.out _ at_) ?_)|((with_reducible refine gd_ 10 ?_);refine cl_ #[.int .i32 r] (.bool false) Tryz.func44 ((spec_IsDigit.calls r false _ Hb.out).mono (fun _ _ h=>⟨h.1,h.2.below⟩)) ?_));intro wc9 HK1;replace HK:=asd_ HK1;clear HK1;replace Bc:=ce1_ HK 0;replace Bf:=fe1_ HK 0))
   go_ret
   exact ⟨_,q,rfl,Hij.out,by have:=Hjk.out;omega,fun h=>by simpa using h,at_⟩
  case true=>
   have hjl:q < xs.length:=by have:=pk_in (xs:=xs) (i:=q + 0) (fun e=>by have h1:=Hb.out;rw [← Hr.out,e] at h1;simp [spec_IsDigit.f] at h1);omega
   have Hjl:=asd_ hjl;clear hjl
   have hs:IntKind.i64.wrap (q + 1)=q + 1:=IntWalk.i64_in _ (by have:=H0.out;have:=Hij.out;have:=Hjl.out;have:=HL.out;omega)
   go_wp2_with (first|((first|((with_reducible refine gd_ 9 ?_);refine cl_ #[.pointer (some ⟨g,0,none⟩),.int .i64 0] (.int .i32 r) Tryz.func104 (Hpk.out _ at_) ?_)|((with_reducible refine gd_ 10 ?_);refine cl_ #[.int .i32 r] (.bool true) Tryz.func44 ((spec_IsDigit.calls r true _ Hb.out).mono (fun _ _ h=>⟨h.1,h.2.below⟩)) ?_)|((with_reducible refine gate_ (.store 3 (.tmp 17) (.tmp 15)) rfl ?_);refine store_at (t:=3) (p:=17) (g:=g) (i:=1) (v:= .int .i64 (q + 1)) 0 (LXc A n c (q + 1) v sure seen line from_) rfl at_ rfl Gg.out rfl rfl rfl rfl gs_ ?_));intro wc9 HK1;replace HK:=asd_ HK1;clear HK1;replace Bc:=ce1_ HK 0;replace Bf:=fe1_ HK 0))
   obtain ⟨kk,rfl⟩:∃ kk,gk=kk + 1:=⟨gk - 1,by have:=Hjk.out;have:=Hjl.out;omega⟩
   go_roundg kk
   case measure=>exact Nat.lt_succ_self _
   case rel=>exact ⟨q + 1,⟨by have:=Hij.out;omega⟩,⟨by have:=Hjk.out;omega⟩,⟨at_⟩⟩
theorem lines_ok {w0 w:World} {l:List Blk} {g n c:Nat} {A:Option Addr} {xs:List Int} {i seen line from_:Int} {v:Value} {sure:Bool} {tq:Int} (H:At w0 (.b g (row (LXc A n c i v sure seen line from_) 194)::l) w) (hn:n=xs.length) (ht:Txt w0 A xs) (hL:xs.length≤8388608) (hg:w0.heap.size≤g) (h0:0≤seen) (h1:seen≤xs.length) (h2:0≤tq) (h3:tq≤xs.length):
  Calls Tryz.prog 123 #[.pointer (some ⟨g,0,none⟩),.int .i64 tq] w fun e w'=>∃ s ln fr:Int,e= .returned (.tuple #[])∧0≤s∧s≤xs.length∧At w0 (.b g (row (LXc A n c i v sure s ln fr) 194)::l) w':=by
 obtain ⟨Hg,Ht,Hn,HL,H0,H1,H2,H3⟩:=as8_ hg ht hn hL h0 h1 h2 h3;clear hg ht hL h0 h1 h2 h3
 have Gg:=Hg
 obtain rfl:n=xs.length:=Hn.out
 clear hn
 have HK:=asd_ H
 clear H
 replace Bc:=ce1_ HK 0;replace Bf:=fe1_ HK 0
 go_enter Tryz.func123,Tryz.ntmps123
 go_wp2_with fail
 go_loopg [] (tq - seen).toNat (fun kq w'=>∃ s ln fr:Int,Aside0 (0≤s)∧Aside0 (s≤xs.length)∧Aside0 (kq=(tq - s).toNat)∧Aside0 (At w0 (.b g (row (LXc A xs.length c i v sure s ln fr) 194)::l) w'))
 case atStart=>exact ⟨seen,line,from_,⟨H0.out⟩,⟨H1.out⟩,⟨rfl⟩,⟨at_⟩⟩
 case round=>
  clear HK
  obtain ⟨s,ln,fr,Hs0,Hs1,Hk,HK⟩:=hrel
  replace Bc:=ce1_ HK 0;replace Bf:=fe1_ HK 0
  by_cases hlt:s < tq
  case neg=>
   have hd:decide (s < tq)=false:=decide_eq_false hlt
   clear hlt
   go_wp2_with fail
   go_end0
   exact ⟨s,ln,fr,rfl,Hs0.out,Hs1.out,at_⟩
  case pos=>
   have hd:decide (s < tq)=true:=decide_eq_true hlt
   have Hlt:=asd_ hlt;clear hlt
   have Hsl:Aside0 (s < xs.length):=⟨by have:=Hlt.out;have:=H3.out;omega⟩
   obtain ⟨ad,rfl,hcell⟩:=Txt.at Ht.out HK.out s Hs0.out Hsl.out
   generalize xs.getD s.toNat 0=r at hcell
   have e1:IntKind.i64.wrap (s + 1)=s + 1:=IntWalk.i64_in _ (by have:=Hs0.out;have:=Hsl.out;have:=HL.out;omega)
   have p0:0≤s:=Hs0.out
   have p1:s < (xs.length:Int):=Hsl.out
   obtain ⟨kk,hkk⟩:∃ kk,gk=kk + 1:=⟨gk - 1,by have:=Hk.out;have:=Hlt.out;omega⟩
   subst hkk
   by_cases h13:r=13
   case neg=>
    have f13:(r == 13)=false:=by simpa using h13
    clear h13
    by_cases h10:r=10
    case pos=>
     subst h10
     go_wp2_with fail
     go_quiet (fail)
     go_wp2_with fail
     go_quiet (fail)
     go_wp2_with fail
     refine su1_ 18 HK 0 [14,17] (fun HS hHeld=> ?_)
     refine pu_ 0 63 1 ?_
     refine pu_ 1 64 3 ?_
     refine pu_ 2 65 7 ?_
     refine pu_ 3 66 15 ?_
     refine pu_ 4 67 31 ?_
     refine pu_ 7 70 159 ?_
     refine pu_ 8 71 415 ?_
     refine pu_ 9 72 927 ?_
     refine ta2_ 5 68 959 hHeld ?_
     refine pu_ 6 69 1023 ?_
     refine ta2_ 10 73 2047 hHeld ?_
     refine pu_ 11 74 4095 ?_
     refine pu_ 12 75 8191 ?_
     refine pu_ 13 76 16383 ?_
     refine lz_ 14 32767 (fun K hK=> ?_)
     have HKs:=asd_ (hHeld.1)
     have fg_:=fE_ HKs 0
     have cg_:=cE_ HKs 0
     refine sk_ ?_
     have HKt:=asd_ (At.store_to (i:=5) (v:= .int .i64 (wrap64 (ln + 1))) 0 (LXc (some ad) xs.length c i v sure s (wrap64 (ln + 1)) fr) HKs.out rfl Gg.out rfl rfl)
     clear HKs;have HKs:=HKt;clear HKt
     clear fg_ cg_
     refine hK.out _ _ ?_
     clear hK K
     refine pu_ 15 77 65535 ?_
     refine pu_ 16 78 131071 ?_
     refine lz_ 17 262143 (fun K hK=> ?_)
     have fg_:=fE_ HKs 0
     have cg_:=cE_ HKs 0
     refine sk_ ?_
     have HKt:=asd_ (At.store_to (i:=6) (v:= .int .i64 (s + 1)) 0 (LXc (some ad) xs.length c i v sure s (wrap64 (ln + 1)) (s + 1)) HKs.out rfl Gg.out rfl rfl)
     clear HKs;have HKs:=HKt;clear HKt
     clear fg_ cg_
     refine hK.out _ _ ?_
     clear hK K
     refine done_ kr_ ?_
     clear HK;have HK:=HKs;clear HKs
     clear hHeld
     replace Bc:=ce1_ HK 0
     replace Bf:=fe1_ HK 0
     (try rw [drewN_drew_] at HK)
     revert HK;generalize World.setCell (World.setCell _ _ _) _ _=W1;intro HK
     replace Bc:=ce1_ HK 0;replace Bf:=fe1_ HK 0
     go_wp2_with (first|((with_reducible refine gate_ (.store 3 (.tmp 17) (.tmp 15)) rfl ?_);refine store_at (t:=3) (p:=17) (g:=g) (i:=4) (v:= .int .i64 (s + 1)) 0 (LXc (some ad) xs.length c i v sure (s + 1) (wrap64 (ln + 1)) (s + 1)) rfl at_ rfl Gg.out rfl rfl rfl rfl gs_ ?_;intro ws3 HK1;replace HK:=asd_ HK1;clear HK1;replace Bc:=ce1_ HK 0;replace Bf:=fe1_ HK 0))
     go_roundg kk
     case measure=>exact Nat.lt_succ_self _
     case rel=>exact ⟨s + 1,_,_,⟨by have:=Hs0.out;omega⟩,⟨by have:=Hsl.out;omega⟩,⟨by have:=Hk.out;omega⟩,⟨at_⟩⟩
    case neg=>
     have f10:(r == 10)=false:=by simpa using h10
     clear h10
     go_wp2_with fail
     go_quiet (fail)
     go_wp2_with fail
     go_quiet (fail)
     go_wp2_with (first|((with_reducible refine gate_ (.store 3 (.tmp 17) (.tmp 15)) rfl ?_);refine store_at (t:=3) (p:=17) (g:=g) (i:=4) (v:= .int .i64 (s + 1)) 0 (LXc (some ad) xs.length c i v sure (s + 1) ln fr) rfl at_ rfl Gg.out rfl rfl rfl rfl gs_ ?_;intro ws4 HK1;replace HK:=asd_ HK1;clear HK1;replace Bc:=ce1_ HK 0;replace Bf:=fe1_ HK 0))
     go_roundg kk
     case measure=>exact Nat.lt_succ_self _
     case rel=>exact ⟨s + 1,_,_,⟨by have:=Hs0.out;omega⟩,⟨by have:=Hsl.out;omega⟩,⟨by have:=Hk.out;omega⟩,⟨at_⟩⟩
   case pos=>
    subst h13
    by_cases hm:s + 1 < xs.length
    case neg=>
     have hd2:decide (s + 1 < (xs.length:Int))=false:=decide_eq_false hm
     clear hm
     go_wp2_with fail
     go_quiet (fail)
     go_wp2_with fail
     go_quiet (fail)
     go_wp2_with fail
     refine su1_ 18 HK 0 [14,17] (fun HS hHeld=> ?_)
     refine pu_ 0 63 1 ?_
     refine pu_ 1 64 3 ?_
     refine pu_ 2 65 7 ?_
     refine pu_ 3 66 15 ?_
     refine pu_ 4 67 31 ?_
     refine pu_ 7 70 159 ?_
     refine pu_ 8 71 415 ?_
     refine pu_ 9 72 927 ?_
     refine ta2_ 5 68 959 hHeld ?_
     refine pu_ 6 69 1023 ?_
     refine ta2_ 10 73 2047 hHeld ?_
     refine pu_ 11 74 4095 ?_
     refine pu_ 12 75 8191 ?_
     refine pu_ 13 76 16383 ?_
     refine lz_ 14 32767 (fun K hK=> ?_)
     have HKs:=asd_ (hHeld.1)
     have fg_:=fE_ HKs 0
     have cg_:=cE_ HKs 0
     refine sk_ ?_
     have HKt:=asd_ (At.store_to (i:=5) (v:= .int .i64 (wrap64 (ln + 1))) 0 (LXc (some ad) xs.length c i v sure s (wrap64 (ln + 1)) fr) HKs.out rfl Gg.out rfl rfl)
     clear HKs;have HKs:=HKt;clear HKt
     clear fg_ cg_
     refine hK.out _ _ ?_
     clear hK K
     refine pu_ 15 77 65535 ?_
     refine pu_ 16 78 131071 ?_
     refine lz_ 17 262143 (fun K hK=> ?_)
     have fg_:=fE_ HKs 0
     have cg_:=cE_ HKs 0
     refine sk_ ?_
     have HKt:=asd_ (At.store_to (i:=6) (v:= .int .i64 (s + 1)) 0 (LXc (some ad) xs.length c i v sure s (wrap64 (ln + 1)) (s + 1)) HKs.out rfl Gg.out rfl rfl)
     clear HKs;have HKs:=HKt;clear HKt
     clear fg_ cg_
     refine hK.out _ _ ?_
     clear hK K
     refine done_ kr_ ?_
     clear HK;have HK:=HKs;clear HKs
     clear hHeld
     replace Bc:=ce1_ HK 0
     replace Bf:=fe1_ HK 0
     (try rw [drewN_drew_] at HK)
     revert HK;generalize World.setCell (World.setCell _ _ _) _ _=W1;intro HK
     replace Bc:=ce1_ HK 0;replace Bf:=fe1_ HK 0
     go_wp2_with (first|((with_reducible refine gate_ (.store 3 (.tmp 17) (.tmp 15)) rfl ?_);refine store_at (t:=3) (p:=17) (g:=g) (i:=4) (v:= .int .i64 (s + 1)) 0 (LXc (some ad) xs.length c i v sure (s + 1) (wrap64 (ln + 1)) (s + 1)) rfl at_ rfl Gg.out rfl rfl rfl rfl gs_ ?_;intro ws7 HK1;replace HK:=asd_ HK1;clear HK1;replace Bc:=ce1_ HK 0;replace Bf:=fe1_ HK 0))
     go_roundg kk
     case measure=>exact Nat.lt_succ_self _
     case rel=>exact ⟨s + 1,_,_,⟨by have:=Hs0.out;omega⟩,⟨by have:=Hsl.out;omega⟩,⟨by have:=Hk.out;omega⟩,⟨at_⟩⟩
    case pos=>
     have hd2:decide (s + 1 < (xs.length:Int))=true:=decide_eq_true hm
     obtain ⟨ad2,ead,hcell2⟩:=Txt.at Ht.out HK.out (s + 1) (by omega) hm
     cases ead
     generalize xs.getD (s + 1).toNat 0=r2 at hcell2
     have p2:0≤s + 1:=by omega
     have p3:s + 1 < (xs.length:Int):=hm
     clear hm
     by_cases h2:r2=10
     case neg=>
      have f2:(r2 == 10)=false:=by simpa using h2
      clear h2
      go_wp2_with fail
      go_quiet (fail)
      go_wp2_with fail
      go_quiet (fail)
      go_wp2_with fail
      refine su1_ 18 HK 0 [14,17] (fun HS hHeld=> ?_)
      refine pu_ 0 63 1 ?_
      refine pu_ 1 64 3 ?_
      refine pu_ 2 65 7 ?_
      refine pu_ 3 66 15 ?_
      refine pu_ 4 67 31 ?_
      refine pu_ 7 70 159 ?_
      refine pu_ 8 71 415 ?_
      refine pu_ 9 72 927 ?_
      refine ta2_ 5 68 959 hHeld ?_
      refine pu_ 6 69 1023 ?_
      refine ta2_ 10 73 2047 hHeld ?_
      refine pu_ 11 74 4095 ?_
      refine pu_ 12 75 8191 ?_
      refine pu_ 13 76 16383 ?_
      refine lz_ 14 32767 (fun K hK=> ?_)
      have HKs:=asd_ (hHeld.1)
      have fg_:=fE_ HKs 0
      have cg_:=cE_ HKs 0
      refine sk_ ?_
      have HKt:=asd_ (At.store_to (i:=5) (v:= .int .i64 (wrap64 (ln + 1))) 0 (LXc (some ad) xs.length c i v sure s (wrap64 (ln + 1)) fr) HKs.out rfl Gg.out rfl rfl)
      clear HKs;have HKs:=HKt;clear HKt
      clear fg_ cg_
      refine hK.out _ _ ?_
      clear hK K
      refine pu_ 15 77 65535 ?_
      refine pu_ 16 78 131071 ?_
      refine lz_ 17 262143 (fun K hK=> ?_)
      have fg_:=fE_ HKs 0
      have cg_:=cE_ HKs 0
      refine sk_ ?_
      have HKt:=asd_ (At.store_to (i:=6) (v:= .int .i64 (s + 1)) 0 (LXc (some ad) xs.length c i v sure s (wrap64 (ln + 1)) (s + 1)) HKs.out rfl Gg.out rfl rfl)
      clear HKs;have HKs:=HKt;clear HKt
      clear fg_ cg_
      refine hK.out _ _ ?_
      clear hK K
      refine done_ kr_ ?_
      clear HK;have HK:=HKs;clear HKs
      clear hHeld
      replace Bc:=ce1_ HK 0
      replace Bf:=fe1_ HK 0
      (try rw [drewN_drew_] at HK)
      revert HK;generalize World.setCell (World.setCell _ _ _) _ _=W1;intro HK
      replace Bc:=ce1_ HK 0;replace Bf:=fe1_ HK 0
      go_wp2_with (first|((with_reducible refine gate_ (.store 3 (.tmp 17) (.tmp 15)) rfl ?_);refine store_at (t:=3) (p:=17) (g:=g) (i:=4) (v:= .int .i64 (s + 1)) 0 (LXc (some ad) xs.length c i v sure (s + 1) (wrap64 (ln + 1)) (s + 1)) rfl at_ rfl Gg.out rfl rfl rfl rfl gs_ ?_;intro ws10 HK1;replace HK:=asd_ HK1;clear HK1;replace Bc:=ce1_ HK 0;replace Bf:=fe1_ HK 0))
      go_roundg kk
      case measure=>exact Nat.lt_succ_self _
      case rel=>exact ⟨s + 1,_,_,⟨by have:=Hs0.out;omega⟩,⟨by have:=Hsl.out;omega⟩,⟨by have:=Hk.out;omega⟩,⟨at_⟩⟩
     case pos=>
      subst h2
      go_wp2_with fail
      go_quiet (fail)
      go_wp2_with fail
      go_quiet (fail)
      go_wp2_with (first|((with_reducible refine gate_ (.store 3 (.tmp 17) (.tmp 15)) rfl ?_);refine store_at (t:=3) (p:=17) (g:=g) (i:=4) (v:= .int .i64 (s + 1)) 0 (LXc (some ad) xs.length c i v sure (s + 1) ln fr) rfl at_ rfl Gg.out rfl rfl rfl rfl gs_ ?_;intro ws11 HK1;replace HK:=asd_ HK1;clear HK1;replace Bc:=ce1_ HK 0;replace Bf:=fe1_ HK 0))
      go_roundg kk
      case measure=>exact Nat.lt_succ_self _
      case rel=>exact ⟨s + 1,_,_,⟨by have:=Hs0.out;omega⟩,⟨by have:=Hsl.out;omega⟩,⟨by have:=Hk.out;omega⟩,⟨at_⟩⟩
def PutP (w0:World) (l:List Blk) (g n c:Nat) (A:Option Addr) (xs:List Int) (i:Int) (sure:Bool) (ts:List Tok) (w':World):Prop:=
 ∃ (v1:Value) (tk:Tok) (s ln fr:Int),0≤s∧s≤xs.length∧At w0 (.b g (row (LXc A n c i v1 sure s ln fr) 194):: .f (Toks w0 v1 (ts ++ [tk]))::l) w'
theorem ret_lines {w:World} {n:FuncId} {args:Array Value} {F:Int→Int→Int→World→Prop} (h:Calls Tryz.prog n args w fun e w'=>∃ s ln fr:Int,e= .returned (.tuple #[])∧F s ln fr w'):Calls Tryz.prog n args w fun e w'=>e= .returned (.tuple #[])∧∃ s ln fr:Int,F s ln fr w':=
 h.mono fun _ _ ⟨s,ln,fr,he,hF⟩=>⟨he,s,ln,fr,hF⟩
theorem put_ok {w0 w:World} {l:List Blk} {g n c:Nat} {A:Option Addr} {xs:List Int} {i seen line from_:Int} {v:Value} {sure:Bool} {ts:List Tok} {kind st:Int} {val:ByteArray} (H:At w0 (.b g (row (LXc A n c i v sure seen line from_) 194):: .f (Toks w0 v ts)::l) w) (hn:n=xs.length) (ht:Txt w0 A xs) (hL:xs.length≤8388608) (hg:w0.heap.size≤g) (hl:offF 162 l) (h0:0≤seen) (h1:seen≤xs.length) (h2:0≤st) (h3:st≤xs.length) (hts:ts.length≤8388608):
  Calls Tryz.prog 102 #[.pointer (some ⟨g,0,none⟩),.int .i64 kind,.string val,.int .i64 st] w fun e w'=>e= .returned (.tuple #[])∧PutP w0 l g n c A xs i sure ts w':=by
 obtain ⟨Hg,Ht,Hn,HL,H0,H1,H2,H3,Hts,Hl⟩:=as10_ hg ht hn hL h0 h1 h2 h3 hts hl;clear hg ht hn hL h0 h1 h2 h3 hts hl
 have Gg:=Hg
 have HK:=asd_ H
 clear H
 replace Bc:=ce1_ HK 0;replace Bf:=fe1_ HK 0
 go_enter Tryz.func102,Tryz.ntmps102
 go_wp2_with (first|((with_reducible refine gd_ 10 ?_);refine call_to #[.pointer (some ⟨g,0,none⟩),.int .i64 st] (.tuple #[]) _ rfl Tryz.func123 kr_ rfl rfl ar_ (ret_lines (lines_ok at_ Hn.out Ht.out HL.out Hg.out H0.out H1.out H2.out H3.out)) ?_;rintro wc10 ⟨s,ln,fr,hs0,hs1,HK1⟩;obtain ⟨Hs0,Hs1⟩:=as2_ hs0 hs1;clear hs0 hs1;replace HK:=asd_ HK1;clear HK1;replace Bc:=ce1_ HK 0;replace Bf:=fe1_ HK 0))
 refine su1_ 29 HK 0 [25,28] (fun HS hHeld=> ?_)
 refine pu_ 0 11 1 ?_
 refine pu_ 1 12 3 ?_
 refine pu_ 2 13 7 ?_
 refine pu_ 3 14 15 ?_
 refine pu_ 5 16 47 ?_
 refine pu_ 6 17 111 ?_
 refine pu_ 7 18 239 ?_
 refine pu_ 8 19 495 ?_
 refine pu_ 9 20 1007 ?_
 refine pu_ 10 21 2031 ?_
 refine pu_ 12 23 6127 ?_
 refine pu_ 13 24 14319 ?_
 refine pu_ 14 25 30703 ?_
 refine pu_ 16 27 96239 ?_
 refine pu_ 17 28 227311 ?_
 refine pu_ 18 29 489455 ?_
 refine pu_ 19 30 1013743 ?_
 refine ta2_ 4 15 1013759 hHeld ?_
 refine ta2_ 11 22 1015807 hHeld ?_
 refine ta2_ 15 26 1048575 hHeld ?_
 refine ta2_ 20 31 2097151 hHeld ?_
 refine pu_ 21 32 4194303 ?_
 refine pu_ 22 33 8388607 ?_
 refine pu_ 23 34 16777215 ?_
 refine on_ 24 35 33554431 (fun K hK=> ?_)
 have HE:=asd_ (hHeld.1)
 refine ne_ 35 (row (#[.int .i64 kind,.string val,.int .i64 st,.int .i64 i,.int .i64 ln,.int .i64 (wrap64 (wrap64 (st - fr) + 1))]) 162) ((fun b=> .slice (some ⟨b,0,none⟩) 1 1)) ?_
 intro gt w3 HE0 hggt
 have Ggt:=asd_ hggt
 clear hggt
 replace HE:=asd_ HE0;clear HE0
 refine hK.out _ _ ⟨HE.out.drop,(cel_ HE.out.drop.k.1)⟩ (fun hHeld=> ?_)
 clear hK K
 refine nq_ 35 ?_
 refine la_ 25 36 67108863 (fun K hK=> ?_)
 refine appendk_ (d:=kTok) (p:=⟨kind,val,st,i,ln,wrap64 (wrap64 (st - fr) + 1)⟩) (xs:=ts) (g:=gt) (kc:=#[.int .i64 kind,.string val,.int .i64 st,.int .i64 i,.int .i64 ln,.int .i64 (wrap64 (wrap64 (st - fr) + 1))]) (t:=158) (s:= .tmp 15) (x:= .tmp 35) (fun _=>rfl) (At.front 1 (At.front 2 HE.out rfl) rfl) (⟨by decide,Hl.out⟩) (by rfl) rfl Tryz.underlying158 info162 rfl (by decide) rfl (by decide) rfl rfl (by have:=Hts.out;omega) ?_
 intro v36 w3 HE0
 replace HE:=asd_ HE0;clear HE0
 obtain ⟨A36,c36,e36⟩:=Kd.R_slice (show Kd.R kTok 162 _ _ _ v36 _ from HE.out.k.1)
 generalize (ts ++ [_]).length=m36 at e36
 subst e36
 refine hK.out _ _ ?_
 clear hK K
 refine nq_ 36 ?_
 refine pu_ 26 37 134217727 ?_
 refine pu_ 27 38 268435455 ?_
 refine lz_ 28 536870911 (fun K hK=> ?_)
 have fg_:=fE_ HE 1
 have cg_:=cE_ HE 1
 refine sk_ ?_
 replace HE:=asd_ (At.store_to (i:=2) (v:= .slice A36 m36 c36) 1 (LXc A n c i (.slice A36 m36 c36) sure s ln fr) HE.out rfl Gg.out rfl rfl)
 clear fg_ cg_
 refine hK.out _ _ ?_
 clear hK K
 refine done_ kr_ ?_
 clear HK;have HK:=HE;clear HE
 clear hHeld
 replace Bc:=ce1_ HK 1
 replace Bf:=fe1_ HK 1
 go_wp2_with fail
 go_end0
 exact ⟨rfl,_,_,s,ln,fr,Hs0.out,Hs1.out,At.front 1 at_ rfl⟩
end Go.Proofs.YtlblbefbbibpaaaGreatDoor.J
namespace Go.Proofs.YtlblbefbbibpaaaGreatDoor.PAM
open Go.RowKit Zw.PrintWords Zw.PrintLast Zw.PrintMore
attribute [local go_sem] max2_int min2_int max_two min_two max_three min_three max_four min_four
def spec_IsStart.f (a0:Int):Option (Bool):=if a0=95 then (some true) else (if a0 ≥ 97 then (if a0≤122 then (some true) else (if a0 ≥ 65 then (some (decide (a0≤90))) else (some false))) else (if a0 ≥ 65 then (some (decide (a0≤90))) else (some false)))
theorem spec_IsStart.calls (a0:Int) (r:Bool) (w:World) (h:spec_IsStart.f a0=some r):
  Calls Tryz.prog 43 #[.int .i32 a0] w fun e w'=>e= .returned (.bool r)∧Drawn0 w w':=by
 have H:(if a0=95 then (some true) else (if a0 ≥ 97 then (if a0≤122 then (some true) else (if a0 ≥ 65 then (some (decide (a0≤90))) else (some false))) else (if a0 ≥ 65 then (some (decide (a0≤90))) else (some false))))=some r:=h
 clear h
 by_cases c2:a0=95
 ·rw [if_pos c2] at H
  have c2b0:=beq_iff_eq.mpr c2
  have c2b1:=bne_eq_false_iff_eq.mpr c2
  clear c2
  obtain rfl:=Option.some.inj H
  go_enter Tryz.func43,Tryz.ntmps43
  go_wp2
  go_ret
  exact ⟨r1_,dr_⟩
 ·rw [if_neg c2] at H
  have c2b0:=beq_eq_false_iff_ne.mpr c2
  have c2b1:=bne_iff_ne.mpr c2
  by_cases c3:a0 ≥ 97
  ·rw [if_pos c3] at H
   have c3b0:=decide_eq_true c3
   clear c3
   by_cases c4:a0≤122
   ·rw [if_pos c4] at H
    have c4b0:=decide_eq_true c4
    clear c4
    obtain rfl:=Option.some.inj H
    go_enter Tryz.func43,Tryz.ntmps43
    go_wp2
    go_ret
    exact ⟨r1_,dr_⟩
   ·rw [if_neg c4] at H
    have c4b0:=decide_eq_false c4
    clear c4
    by_cases c5:a0 ≥ 65
    ·rw [if_pos c5] at H
     have c5b0:=decide_eq_true c5
     clear c5
     obtain rfl:=Option.some.inj H
     go_enter Tryz.func43,Tryz.ntmps43
     go_wp2
     go_ret
     exact ⟨r1_,dr_⟩
    ·rw [if_neg c5] at H
     have c5b0:=decide_eq_false c5
     clear c5
     obtain rfl:=Option.some.inj H
     go_enter Tryz.func43,Tryz.ntmps43
     go_wp2
     go_ret
     exact ⟨r1_,dr_⟩
  ·rw [if_neg c3] at H
   have c3b0:=decide_eq_false c3
   clear c3
   by_cases c6:a0 ≥ 65
   ·rw [if_pos c6] at H
    have c6b0:=decide_eq_true c6
    clear c6
    obtain rfl:=Option.some.inj H
    go_enter Tryz.func43,Tryz.ntmps43
    go_wp2
    go_ret
    exact ⟨r1_,dr_⟩
   ·rw [if_neg c6] at H
    have c6b0:=decide_eq_false c6
    clear c6
    obtain rfl:=Option.some.inj H
    go_enter Tryz.func43,Tryz.ntmps43
    go_wp2
    go_ret
    exact ⟨r1_,dr_⟩
end Go.Proofs.YtlblbefbbibpaaaGreatDoor.PAM
