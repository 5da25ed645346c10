/- Part. -/
import Derived.Test.YtkphbhncpdcbeaaGreatDoorQAQ
import Derived.Test.YtkphbhncpdcbeaaGreatDoorQAO
set_option linter.unusedVariables false
set_option linter.unusedSimpArgs false
set_option maxHeartbeats 8000000
set_option maxRecDepth 100000
namespace Go.Proofs.YtkphbhncpdcbeaaGreatDoor.PJT
open Go.RowKit YtkphbhncpdcbeaaGreatDoorW.PrintWords YtkphbhncpdcbeaaGreatDoorW.PrintLast YtkphbhncpdcbeaaGreatDoorW.PrintMore
attribute [local go_sem] max2_int min2_int max_two min_two max_three min_three max_four min_four
def spec_jThere.l0:Nat→List ByteArray→Int→Int→Bool→Int→ByteArray→List ByteArray→List (S25)→Option (Bool)
 |0,_,_,_,_,_,_,_,_=>none
 |k + 1,x1,x5,x157000,x157001,x157002,x157003,x157004,x157005=>if x5 < (x1.length:Int) then (if 0≤x5 then ((spec_JMember.f k x157000 x157001 x157002 x157003 x157004 x157005 (rdOf ByteArray.empty x1 x5)).bind fun t158=>(if t158 < 0 then (some false) else (spec_jThere.l0 k x1 (wrap64 (x5 + 1)) x157000 x157001 x157002 x157003 x157004 x157005))) else (none)) else (some true)
def spec_jThere.f (k:Nat) (a0_0:Int) (a0_1:Bool) (a0_2:Int) (a0_3:ByteArray) (l0_4:List ByteArray) (l0_5:List (S25)) (l1:List ByteArray):Option (Bool):=spec_jThere.l0 k l1 0 a0_0 a0_1 a0_2 a0_3 l0_4 l0_5
theorem spec_jThere.calls (k:Nat) (a0_0:Int) (a0_1:Bool) (a0_2:Int) (a0_3:ByteArray) (A0_4:Option Addr) (c0_4:Nat) (l0_4:List ByteArray) (A0_5:Option Addr) (c0_5:Nat) (l0_5:List (S25)) (A1:Option Addr) (c1:Nat) (l1:List ByteArray) (r:Bool) (w:World) (hr0_4:Kd.C Kd.string w A0_4 l0_4.length l0_4) (hc0_4:l0_4.length≤c0_4) (hr0_5:Kd.C k25 w A0_5 l0_5.length l0_5) (hc0_5:l0_5.length≤c0_5) (hr1:Kd.C Kd.string w A1 l1.length l1) (hc1:l1.length≤c1) (h:spec_jThere.f k a0_0 a0_1 a0_2 a0_3 l0_4 l0_5 l1=some r):
  Calls Tryz.prog 116 #[.agg #[.int .i64 a0_0,.bool a0_1,.int .i64 a0_2,.string a0_3,.slice A0_4 l0_4.length c0_4,.slice A0_5 l0_5.length c0_5],.slice A1 l1.length c1] w fun e w'=>e= .returned (.bool r)∧Below w.heap.size w w':=by
 have hu25:=Tryz.underlying25
 have HR0_4:=asd_ hr0_4
 have HC0_4:=asd_ hc0_4
 clear hr0_4 hc0_4
 have HR0_5:=asd_ hr0_5
 have HC0_5:=asd_ hc0_5
 clear hr0_5 hc0_5
 have HR1:=asd_ hr1
 have HC1:=asd_ hc1
 clear hr1 hc1
 have HB:=asd_ (Below.refl w.heap.size w)
 have H:(spec_jThere.l0 k l1 0 a0_0 a0_1 a0_2 a0_3 l0_4 l0_5)=some r:=h
 clear h
 have H':=asd_ H
 clear H
 go_enter Tryz.func116,Tryz.ntmps116
 go_wp2_with (first|((with_reducible refine gate_dst (N:=2) rfl ?_);refine box_event ?hg (N:=2) ?hd (cs:=#[.int .i64 a0_0,.bool a0_1,.int .i64 a0_2,.string a0_3,.slice A0_4 l0_4.length c0_4,.slice A0_5 l0_5.length c0_5]) (t:=25) ?hr ?_;(case hd=>rfl);(case hg=>rfl);(case hr=>first|(go_simp;done)|(go_simp;rfl));intro gb156 hg w3 hbox hb;have n0_:=asd_ (below_step wb_ hb);have n1_:=asd_ (hbox);have n2_:=asd_ ((by rw [hg];exact (below_size wb_):w.heap.size≤gb156));have n3_:=asd_ ((by rw [hg];exact (below_size wb_):w.heap.size≤gb156));clear HB;have HB:=n0_;have BK156:=n1_;have GW156:=n2_;have GE156:=n3_;clear n0_ n1_ n2_ n3_;clear hb hbox hg))
 go_loopg [5] k (fun kq v5 w'=>∃ (x5_1:Int),v5= .int .i64 x5_1∧Aside0 (spec_jThere.l0 kq l1 x5_1 a0_0 a0_1 a0_2 a0_3 l0_4 l0_5=some r)∧Aside0 (kq≤k)∧Aside0 (w'.heap[gb156]? =some (.cells #[.int .i64 a0_0,.bool a0_1,.int .i64 a0_2,.string a0_3,(.slice A0_4 l0_4.length c0_4),(.slice A0_5 l0_5.length c0_5)] 25 (0,0)))∧Aside0 (Below w.heap.size w w'))
 case atStart=>exact ⟨(0),r1_,H',⟨Nat.le_refl _⟩,⟨bk_⟩,⟨wb_⟩⟩
 case round=>
  clear H'
  obtain ⟨x5_1,rfl,HA,HK1,BK156,HB⟩:=hrel
  cases gk with
  |zero=>exact absurd HA.out (by simp [spec_jThere.l0])
  |succ k1=>
   have H:=HA.out
   clear HA
   simp only [spec_jThere.l0] at H
   by_cases c4:x5_1 < (l1.length:Int)
   ·rw [if_pos c4] at H
    have c4b0:=decide_eq_true c4
    clear c4
    by_cases c5:0≤x5_1
    ·rw [if_pos c5] at H
     have c5b0:=decide_eq_true c5
     clear c5
     replace H:=Option.bind_eq_some_iff.mp H
     obtain ⟨t158,A60,H⟩:=H
     replace H:(if t158 < 0 then (some false) else (spec_jThere.l0 k1 l1 (wrap64 (x5_1 + 1)) a0_0 a0_1 a0_2 a0_3 l0_4 l0_5))=some r:=H
     have A6:=asd_ A60
     clear A60
     by_cases c7:t158 < 0
     ·rw [if_pos c7] at H
      have c7b0:=decide_eq_true c7
      clear c7
      obtain rfl:=Option.some.inj H
      try go_wp2
      have n0_:=asd_ (blk_drew BK156.out)
      have n1_:=asd_ (below_drew1 HB.out)
      clear BK156
      clear HB
      have BK156:=n0_
      have HB:=n1_
      clear n0_ n1_
      have p157:0≤(x5_1:Int):=of_decide_eq_true as_
      have q157:x5_1 < (l1.length:Int):=of_decide_eq_true as_
      obtain ⟨ad157,e157,hx157_0⟩:=Kd.at_string HR1.out x5_1 p157 q157
      have hw157_0:=hx157_0
      cases e157
      replace hx157_0:=(HB.out.cell (World.block_lt_of_cell? w _ hx157_0)).trans hx157_0
      replace p157:=eq_true p157
      replace q157:=eq_true q157
      refine start_ (n:=7) (S:=fun w'=>w'.cell? ⟨gb156,0,none⟩=some (.int .i64 a0_0)∧w'.cell? ⟨gb156,1,none⟩=some (.bool a0_1)∧w'.cell? ⟨gb156,2,none⟩=some (.int .i64 a0_2)∧w'.cell? ⟨gb156,3,none⟩=some (.string a0_3)∧w'.cell? ⟨gb156,4,none⟩=some (.slice A0_4 l0_4.length c0_4)∧w'.cell? ⟨gb156,5,none⟩=some (.slice A0_5 l0_5.length c0_5)∧w'.cell? (ad157.add (x5_1).toNat)=some (.string (rdOf ByteArray.empty l1 x5_1))) (ds:=[]) #[false,false,false,false,false,false,false] kr_ rfl rfl ⟨(blk_cell BK156.out 0).trans rfl,(blk_cell BK156.out 1).trans rfl,(blk_cell BK156.out 2).trans rfl,(blk_cell BK156.out 3).trans rfl,(blk_cell BK156.out 4).trans rfl,(blk_cell BK156.out 5).trans rfl,((HB.out.cell (World.block_lt_of_cell? w _ hw157_0)).trans hw157_0)⟩ (fun hHeld=> ?_)
      generalize wr.drew=w8 at BK156 HB hx157_0 hHeld ⊢
      refine pure_ (i:=1) (N:=some 13) (v:= ?_) (a':= ?_) #[false,true,false,false,false,false,false] rfl rfl kr_ (fun _ _ _ h=>h) (Or.inl ⟨by rfl,?_⟩) ?_ ?_
      rotate_left
      ·intro w'
       go_simp
       with_reducible rfl
      rotate_left
      ·simp only [Act.put,List.setIfInBounds_toArray,List.set_cons_zero,List.set_cons_succ,i64_w,i32_w]
       rfl
      refine pure_ (i:=2) (N:=some 14) (v:= ?_) (a':= ?_) #[false,true,true,false,false,false,false] rfl rfl kr_ (fun _ _ _ h=>h) (Or.inl ⟨by rfl,?_⟩) ?_ ?_
      rotate_left
      ·intro w'
       go_simp
       with_reducible rfl
      rotate_left
      ·simp only [Act.put,List.setIfInBounds_toArray,List.set_cons_zero,List.set_cons_succ,i64_w,i32_w]
       rfl
      refine pure_ (i:=3) (N:=some 15) (v:= ?_) (a':= ?_) #[false,true,true,true,false,false,false] rfl rfl kr_ (fun _ _ _ h=>h) (Or.inl ⟨by rfl,?_⟩) ?_ ?_
      rotate_left
      ·intro w'
       go_simp
       with_reducible rfl
      rotate_left
      ·simp only [Act.put,List.setIfInBounds_toArray,List.set_cons_zero,List.set_cons_succ,i64_w,i32_w]
       rfl
      refine take_ (i:=0) (N:=some 12) (v:= ?_) (a':= ?_) #[true,true,true,true,false,false,false] rfl rfl kr_ (fun _ _ _ h=>h) (Or.inl ⟨by rfl,?_⟩) hHeld ?_ ?_
      rotate_left
      ·rintro w' ⟨s0,s1,s2,s3,s4,s5,s6⟩
       go_simp
       with_reducible rfl
      rotate_left
      ·simp only [Act.put,List.setIfInBounds_toArray,List.set_cons_zero,List.set_cons_succ,i64_w,i32_w]
       rfl
      refine take_ (i:=4) (N:=some 16) (v:= ?_) (a':= ?_) #[true,true,true,true,true,false,false] rfl rfl kr_ (fun _ _ _ h=>h) (Or.inl ⟨by rfl,?_⟩) hHeld ?_ ?_
      rotate_left
      ·rintro w' ⟨s0,s1,s2,s3,s4,s5,s6⟩
       go_simp
       with_reducible rfl
      rotate_left
      ·simp only [Act.put,List.setIfInBounds_toArray,List.set_cons_zero,List.set_cons_succ,i64_w,i32_w]
       rfl
      refine one_ (i:=5) (N:=some 17) #[true,true,true,true,true,true,false] rfl rfl kr_ (by decide) (fun K hK=> ?_)
      refine goes_ Tryz.func65 kr_ rfl #[.agg #[.int .i64 a0_0,.bool a0_1,.int .i64 a0_2,.string a0_3,.slice A0_4 l0_4.length c0_4,.slice A0_5 l0_5.length c0_5],.string (rdOf ByteArray.empty l1 x5_1)] (by rfl) rfl rfl ap_ ?_
      with_reducible refine (spec_JMember.calls k1 a0_0 a0_1 a0_2 a0_3 _ _ l0_4 _ _ l0_5 (rdOf ByteArray.empty l1 x5_1) t158 _ ?side1 ?side2 ?side3 ?side4 A6.out).mono ?_
      (case side1=>repeat (first|exact (Kd.C_below HR0_4.out HB.out)|(with_reducible refine Kd.C_alloc ?_ _)|(with_reducible refine Kd.C_drewN ?_ _)|(with_reducible refine Kd.C_drew ?_)))
      (case side2=>exact HC0_4.out)
      (case side3=>repeat (first|exact (Kd.C_below HR0_5.out HB.out)|(with_reducible refine Kd.C_alloc ?_ _)|(with_reducible refine Kd.C_drewN ?_ _)|(with_reducible refine Kd.C_drew ?_)))
      (case side4=>exact HC0_5.out)
      rintro e w9 ⟨rfl,hb⟩
      refine ⟨_,rfl,?_⟩
      have n0_:=asd_ (blk_below (g:=gb156) (o:= .cells #[.int .i64 a0_0,.bool a0_1,.int .i64 a0_2,.string a0_3,.slice A0_4 l0_4.length c0_4,.slice A0_5 l0_5.length c0_5] 25 (0,0)) bk_ hb)
      have n1_:=asd_ (below_step wb_ hb)
      clear BK156
      clear HB
      have BK156:=n0_
      have HB:=n1_
      clear n0_ n1_
      (try clear hb)
      (try clear hb2)
      (try clear hk)
      (try clear hi)
      refine hK.out _ _ ⟨(blk_cell BK156.out 0).trans rfl,(blk_cell BK156.out 1).trans rfl,(blk_cell BK156.out 2).trans rfl,(blk_cell BK156.out 3).trans rfl,(blk_cell BK156.out 4).trans rfl,(blk_cell BK156.out 5).trans rfl,((HB.out.cell (World.block_lt_of_cell? w _ hw157_0)).trans hw157_0)⟩ (fun hHeld=> ?_)
      clear hK K
      refine norm_ (a':= ?_) ?_ ?_
      rotate_left
      ·show Act.put _ (some 17) _=_
       simp only [Act.put,List.setIfInBounds_toArray,List.set_cons_zero,List.set_cons_succ,i64_w,i32_w]
       rfl
      refine pure_ (i:=6) (N:=some 18) (v:= ?_) (a':= ?_) #[true,true,true,true,true,true,true] rfl rfl kr_ (fun _ _ _ h=>h) (Or.inl ⟨by rfl,?_⟩) ?_ ?_
      rotate_left
      ·intro w'
       go_simp
       with_reducible rfl
      rotate_left
      ·simp only [Act.put,List.setIfInBounds_toArray,List.set_cons_zero,List.set_cons_succ,i64_w,i32_w]
       rfl
      refine done_ kr_ ?_
      try go_wp2
      go_ret
      exact ⟨er_,wb_⟩
     ·rw [if_neg c7] at H
      have c7b0:=decide_eq_false c7
      clear c7
      have H':=asd_ H
      clear H
      try go_wp2
      have n0_:=asd_ (blk_drew BK156.out)
      have n1_:=asd_ (below_drew1 HB.out)
      clear BK156
      clear HB
      have BK156:=n0_
      have HB:=n1_
      clear n0_ n1_
      have p157:0≤(x5_1:Int):=of_decide_eq_true as_
      have q157:x5_1 < (l1.length:Int):=of_decide_eq_true as_
      obtain ⟨ad157,e157,hx157_0⟩:=Kd.at_string HR1.out x5_1 p157 q157
      have hw157_0:=hx157_0
      cases e157
      replace hx157_0:=(HB.out.cell (World.block_lt_of_cell? w _ hx157_0)).trans hx157_0
      replace p157:=eq_true p157
      replace q157:=eq_true q157
      refine start_ (n:=7) (S:=fun w'=>w'.cell? ⟨gb156,0,none⟩=some (.int .i64 a0_0)∧w'.cell? ⟨gb156,1,none⟩=some (.bool a0_1)∧w'.cell? ⟨gb156,2,none⟩=some (.int .i64 a0_2)∧w'.cell? ⟨gb156,3,none⟩=some (.string a0_3)∧w'.cell? ⟨gb156,4,none⟩=some (.slice A0_4 l0_4.length c0_4)∧w'.cell? ⟨gb156,5,none⟩=some (.slice A0_5 l0_5.length c0_5)∧w'.cell? (ad157.add (x5_1).toNat)=some (.string (rdOf ByteArray.empty l1 x5_1))) (ds:=[]) #[false,false,false,false,false,false,false] kr_ rfl rfl ⟨(blk_cell BK156.out 0).trans rfl,(blk_cell BK156.out 1).trans rfl,(blk_cell BK156.out 2).trans rfl,(blk_cell BK156.out 3).trans rfl,(blk_cell BK156.out 4).trans rfl,(blk_cell BK156.out 5).trans rfl,((HB.out.cell (World.block_lt_of_cell? w _ hw157_0)).trans hw157_0)⟩ (fun hHeld=> ?_)
      generalize wr.drew=w10 at BK156 HB hx157_0 hHeld ⊢
      refine pure_ (i:=1) (N:=some 13) (v:= ?_) (a':= ?_) #[false,true,false,false,false,false,false] rfl rfl kr_ (fun _ _ _ h=>h) (Or.inl ⟨by rfl,?_⟩) ?_ ?_
      rotate_left
      ·intro w'
       go_simp
       with_reducible rfl
      rotate_left
      ·simp only [Act.put,List.setIfInBounds_toArray,List.set_cons_zero,List.set_cons_succ,i64_w,i32_w]
       rfl
      refine pure_ (i:=2) (N:=some 14) (v:= ?_) (a':= ?_) #[false,true,true,false,false,false,false] rfl rfl kr_ (fun _ _ _ h=>h) (Or.inl ⟨by rfl,?_⟩) ?_ ?_
      rotate_left
      ·intro w'
       go_simp
       with_reducible rfl
      rotate_left
      ·simp only [Act.put,List.setIfInBounds_toArray,List.set_cons_zero,List.set_cons_succ,i64_w,i32_w]
       rfl
      refine pure_ (i:=3) (N:=some 15) (v:= ?_) (a':= ?_) #[false,true,true,true,false,false,false] rfl rfl kr_ (fun _ _ _ h=>h) (Or.inl ⟨by rfl,?_⟩) ?_ ?_
      rotate_left
      ·intro w'
       go_simp
       with_reducible rfl
      rotate_left
      ·simp only [Act.put,List.setIfInBounds_toArray,List.set_cons_zero,List.set_cons_succ,i64_w,i32_w]
       rfl
      refine take_ (i:=0) (N:=some 12) (v:= ?_) (a':= ?_) #[true,true,true,true,false,false,false] rfl rfl kr_ (fun _ _ _ h=>h) (Or.inl ⟨by rfl,?_⟩) hHeld ?_ ?_
      rotate_left
      ·rintro w' ⟨s0,s1,s2,s3,s4,s5,s6⟩
       go_simp
       with_reducible rfl
      rotate_left
      ·simp only [Act.put,List.setIfInBounds_toArray,List.set_cons_zero,List.set_cons_succ,i64_w,i32_w]
       rfl
      refine take_ (i:=4) (N:=some 16) (v:= ?_) (a':= ?_) #[true,true,true,true,true,false,false] rfl rfl kr_ (fun _ _ _ h=>h) (Or.inl ⟨by rfl,?_⟩) hHeld ?_ ?_
      rotate_left
      ·rintro w' ⟨s0,s1,s2,s3,s4,s5,s6⟩
       go_simp
       with_reducible rfl
      rotate_left
      ·simp only [Act.put,List.setIfInBounds_toArray,List.set_cons_zero,List.set_cons_succ,i64_w,i32_w]
       rfl
      refine one_ (i:=5) (N:=some 17) #[true,true,true,true,true,true,false] rfl rfl kr_ (by decide) (fun K hK=> ?_)
      refine goes_ Tryz.func65 kr_ rfl #[.agg #[.int .i64 a0_0,.bool a0_1,.int .i64 a0_2,.string a0_3,.slice A0_4 l0_4.length c0_4,.slice A0_5 l0_5.length c0_5],.string (rdOf ByteArray.empty l1 x5_1)] (by rfl) rfl rfl ap_ ?_
      with_reducible refine (spec_JMember.calls k1 a0_0 a0_1 a0_2 a0_3 _ _ l0_4 _ _ l0_5 (rdOf ByteArray.empty l1 x5_1) t158 _ ?side1 ?side2 ?side3 ?side4 A6.out).mono ?_
      (case side1=>repeat (first|exact (Kd.C_below HR0_4.out HB.out)|(with_reducible refine Kd.C_alloc ?_ _)|(with_reducible refine Kd.C_drewN ?_ _)|(with_reducible refine Kd.C_drew ?_)))
      (case side2=>exact HC0_4.out)
      (case side3=>repeat (first|exact (Kd.C_below HR0_5.out HB.out)|(with_reducible refine Kd.C_alloc ?_ _)|(with_reducible refine Kd.C_drewN ?_ _)|(with_reducible refine Kd.C_drew ?_)))
      (case side4=>exact HC0_5.out)
      rintro e w11 ⟨rfl,hb⟩
      refine ⟨_,rfl,?_⟩
      have n0_:=asd_ (blk_below (g:=gb156) (o:= .cells #[.int .i64 a0_0,.bool a0_1,.int .i64 a0_2,.string a0_3,.slice A0_4 l0_4.length c0_4,.slice A0_5 l0_5.length c0_5] 25 (0,0)) bk_ hb)
      have n1_:=asd_ (below_step wb_ hb)
      clear BK156
      clear HB
      have BK156:=n0_
      have HB:=n1_
      clear n0_ n1_
      (try clear hb)
      (try clear hb2)
      (try clear hk)
      (try clear hi)
      refine hK.out _ _ ⟨(blk_cell BK156.out 0).trans rfl,(blk_cell BK156.out 1).trans rfl,(blk_cell BK156.out 2).trans rfl,(blk_cell BK156.out 3).trans rfl,(blk_cell BK156.out 4).trans rfl,(blk_cell BK156.out 5).trans rfl,((HB.out.cell (World.block_lt_of_cell? w _ hw157_0)).trans hw157_0)⟩ (fun hHeld=> ?_)
      clear hK K
      refine norm_ (a':= ?_) ?_ ?_
      rotate_left
      ·show Act.put _ (some 17) _=_
       simp only [Act.put,List.setIfInBounds_toArray,List.set_cons_zero,List.set_cons_succ,i64_w,i32_w]
       rfl
      refine pure_ (i:=6) (N:=some 18) (v:= ?_) (a':= ?_) #[true,true,true,true,true,true,true] rfl rfl kr_ (fun _ _ _ h=>h) (Or.inl ⟨by rfl,?_⟩) ?_ ?_
      rotate_left
      ·intro w'
       go_simp
       with_reducible rfl
      rotate_left
      ·simp only [Act.put,List.setIfInBounds_toArray,List.set_cons_zero,List.set_cons_succ,i64_w,i32_w]
       rfl
      refine done_ kr_ ?_
      try go_wp2
      go_roundg k1
      case measure=>have:=HK1.out;omega
      case rel=>exact ⟨(wrap64 (x5_1 + 1)),r1_,H',⟨by have:=HK1.out;omega⟩,⟨bk_⟩,⟨wb_⟩⟩
    ·rw [if_neg c5] at H
     exact absurd H (by simp)
   ·rw [if_neg c4] at H
    have c4b0:=decide_eq_false c4
    clear c4
    obtain rfl:=Option.some.inj H
    go_wp2
    go_ret
    exact ⟨er_,wb_⟩
def spec_jBounded.f (a0:Int) (a1_0:Bool) (a1_1:Int) (a2_0:Bool) (a2_1:Int):Option (Bool):=if a1_0=true then (if a0 ≥ a1_1 then (if a2_0=true then (some (decide (a0≤a2_1))) else (some true)) else (some false)) else (if a2_0=true then (some (decide (a0≤a2_1))) else (some true))
theorem spec_jBounded.calls (a0:Int) (a1_0:Bool) (a1_1:Int) (a2_0:Bool) (a2_1:Int) (r:Bool) (w:World) (h:spec_jBounded.f a0 a1_0 a1_1 a2_0 a2_1=some r):
  Calls Tryz.prog 35 #[.int .i64 a0,.agg #[.bool a1_0,.int .i64 a1_1],.agg #[.bool a2_0,.int .i64 a2_1]] w fun e w'=>e= .returned (.bool r)∧Below w.heap.size w w':=by
 have hu35:=Tryz.underlying35
 have HB:=asd_ (Below.refl w.heap.size w)
 have H:(if a1_0=true then (if a0 ≥ a1_1 then (if a2_0=true then (some (decide (a0≤a2_1))) else (some true)) else (some false)) else (if a2_0=true then (some (decide (a0≤a2_1))) else (some true)))=some r:=h
 clear h
 by_cases c4:a1_0=true
 ·subst c4
  have H1:(if a0 ≥ a1_1 then (if a2_0=true then (some (decide (a0≤a2_1))) else (some true)) else (some false))=some r:=by rw [if_pos rfl] at H;exact H
  clear H
  have H:=H1
  clear H1
  by_cases c5:a0 ≥ a1_1
  ·rw [if_pos c5] at H
   have c5b0:=decide_eq_true c5
   clear c5
   by_cases c6:a2_0=true
   ·subst c6
    have H1:(some (decide (a0≤a2_1)))=some r:=by rw [if_pos rfl] at H;exact H
    clear H
    have H:=H1
    clear H1
    obtain rfl:=Option.some.inj H
    go_enter Tryz.func35,Tryz.ntmps35
    go_wp2_with (first|((with_reducible refine gate_dst (N:=4) rfl ?_);refine box_event ?hg (N:=4) ?hd (cs:=#[.bool true,.int .i64 a1_1]) (t:=35) ?hr ?_;(case hd=>rfl);(case hg=>rfl);(case hr=>first|(go_simp;done)|(go_simp;rfl));intro gb159 hg w7 hbox hb;have n0_:=asd_ (below_step wb_ hb);have n1_:=asd_ (hbox);have n2_:=asd_ ((by rw [hg];exact (below_size wb_):w.heap.size≤gb159));have n3_:=asd_ ((by rw [hg];exact (below_size wb_):w.heap.size≤gb159));clear HB;have HB:=n0_;have BK159:=n1_;have GW159:=n2_;have GE159:=n3_;clear n0_ n1_ n2_ n3_;clear hb hbox hg)|((with_reducible refine gate_dst (N:=5) rfl ?_);refine box_event ?hg (N:=5) ?hd (cs:=#[.bool true,.int .i64 a2_1]) (t:=35) ?hr ?_;(case hd=>rfl);(case hg=>rfl);(case hr=>first|(go_simp;done)|(go_simp;rfl));intro gb160 hg w8 hbox hb;have n0_:=asd_ (blk_below (g:=gb159) (o:= .cells #[.bool true,.int .i64 a1_1] 35 (0,0)) bk_ hb);have n1_:=asd_ (below_step wb_ hb);have n2_:=asd_ (hbox);have n3_:=asd_ ((by rw [hg];exact (below_size wb_):w.heap.size≤gb160));have n4_:=asd_ ((by rw [hg];exact (below_size wb_):w.heap.size≤gb160));have n5_:=asd_ ((by rw [hg];exact Nat.ne_of_lt (blk_lt (g:=gb159) (o:= .cells #[.bool true,.int .i64 a1_1] 35 (0,0)) bk_):gb159≠gb160));have n6_:=asd_ ((by rw [hg];exact Nat.ne_of_gt (blk_lt (g:=gb159) (o:= .cells #[.bool true,.int .i64 a1_1] 35 (0,0)) bk_):gb160≠gb159));clear BK159;clear HB;have BK159:=n0_;have HB:=n1_;have BK160:=n2_;have GW160:=n3_;have GE160:=n4_;have NB159_160:=n5_;have NB160_159:=n6_;clear n0_ n1_ n2_ n3_ n4_ n5_ n6_;clear hb hbox hg;have hnb9:=NB159_160.out;have hnc9:=NB160_159.out;have hc10_0:=cb_ BK159.out;have hc10_1:=cb_ BK160.out))
    go_ret
    exact ⟨er_,wb_⟩
   ·replace c6:=Bool.eq_false_iff.mpr c6
    subst c6
    have H1:(some true)=some r:=by rw [if_neg (show ¬ (false=true) by decide)] at H;exact H
    clear H
    have H:=H1
    clear H1
    obtain rfl:=Option.some.inj H
    go_enter Tryz.func35,Tryz.ntmps35
    go_wp2_with (first|((with_reducible refine gate_dst (N:=4) rfl ?_);refine box_event ?hg (N:=4) ?hd (cs:=#[.bool true,.int .i64 a1_1]) (t:=35) ?hr ?_;(case hd=>rfl);(case hg=>rfl);(case hr=>first|(go_simp;done)|(go_simp;rfl));intro gb159 hg w12 hbox hb;have n0_:=asd_ (below_step wb_ hb);have n1_:=asd_ (hbox);have n2_:=asd_ ((by rw [hg];exact (below_size wb_):w.heap.size≤gb159));have n3_:=asd_ ((by rw [hg];exact (below_size wb_):w.heap.size≤gb159));clear HB;have HB:=n0_;have BK159:=n1_;have GW159:=n2_;have GE159:=n3_;clear n0_ n1_ n2_ n3_;clear hb hbox hg)|((with_reducible refine gate_dst (N:=5) rfl ?_);refine box_event ?hg (N:=5) ?hd (cs:=#[.bool false,.int .i64 a2_1]) (t:=35) ?hr ?_;(case hd=>rfl);(case hg=>rfl);(case hr=>first|(go_simp;done)|(go_simp;rfl));intro gb160 hg w13 hbox hb;have n0_:=asd_ (blk_below (g:=gb159) (o:= .cells #[.bool true,.int .i64 a1_1] 35 (0,0)) bk_ hb);have n1_:=asd_ (below_step wb_ hb);have n2_:=asd_ (hbox);have n3_:=asd_ ((by rw [hg];exact (below_size wb_):w.heap.size≤gb160));have n4_:=asd_ ((by rw [hg];exact (below_size wb_):w.heap.size≤gb160));have n5_:=asd_ ((by rw [hg];exact Nat.ne_of_lt (blk_lt (g:=gb159) (o:= .cells #[.bool true,.int .i64 a1_1] 35 (0,0)) bk_):gb159≠gb160));have n6_:=asd_ ((by rw [hg];exact Nat.ne_of_gt (blk_lt (g:=gb159) (o:= .cells #[.bool true,.int .i64 a1_1] 35 (0,0)) bk_):gb160≠gb159));clear BK159;clear HB;have BK159:=n0_;have HB:=n1_;have BK160:=n2_;have GW160:=n3_;have GE160:=n4_;have NB159_160:=n5_;have NB160_159:=n6_;clear n0_ n1_ n2_ n3_ n4_ n5_ n6_;clear hb hbox hg;have hnb14:=NB159_160.out;have hnc14:=NB160_159.out;have hc15_0:=cb_ BK159.out;have hc15_1:=cb_ BK160.out))
    go_ret
    exact ⟨er_,wb_⟩
  ·rw [if_neg c5] at H
   have c5b0:=decide_eq_false c5
   clear c5
   obtain rfl:=Option.some.inj H
   go_enter Tryz.func35,Tryz.ntmps35
   go_wp2_with (first|((with_reducible refine gate_dst (N:=4) rfl ?_);refine box_event ?hg (N:=4) ?hd (cs:=#[.bool true,.int .i64 a1_1]) (t:=35) ?hr ?_;(case hd=>rfl);(case hg=>rfl);(case hr=>first|(go_simp;done)|(go_simp;rfl));intro gb159 hg w17 hbox hb;have n0_:=asd_ (below_step wb_ hb);have n1_:=asd_ (hbox);have n2_:=asd_ ((by rw [hg];exact (below_size wb_):w.heap.size≤gb159));have n3_:=asd_ ((by rw [hg];exact (below_size wb_):w.heap.size≤gb159));clear HB;have HB:=n0_;have BK159:=n1_;have GW159:=n2_;have GE159:=n3_;clear n0_ n1_ n2_ n3_;clear hb hbox hg)|((with_reducible refine gate_dst (N:=5) rfl ?_);refine box_event ?hg (N:=5) ?hd (cs:=#[.bool a2_0,.int .i64 a2_1]) (t:=35) ?hr ?_;(case hd=>rfl);(case hg=>rfl);(case hr=>first|(go_simp;done)|(go_simp;rfl));intro gb160 hg w18 hbox hb;have n0_:=asd_ (blk_below (g:=gb159) (o:= .cells #[.bool true,.int .i64 a1_1] 35 (0,0)) bk_ hb);have n1_:=asd_ (below_step wb_ hb);have n2_:=asd_ (hbox);have n3_:=asd_ ((by rw [hg];exact (below_size wb_):w.heap.size≤gb160));have n4_:=asd_ ((by rw [hg];exact (below_size wb_):w.heap.size≤gb160));have n5_:=asd_ ((by rw [hg];exact Nat.ne_of_lt (blk_lt (g:=gb159) (o:= .cells #[.bool true,.int .i64 a1_1] 35 (0,0)) bk_):gb159≠gb160));have n6_:=asd_ ((by rw [hg];exact Nat.ne_of_gt (blk_lt (g:=gb159) (o:= .cells #[.bool true,.int .i64 a1_1] 35 (0,0)) bk_):gb160≠gb159));clear BK159;clear HB;have BK159:=n0_;have HB:=n1_;have BK160:=n2_;have GW160:=n3_;have GE160:=n4_;have NB159_160:=n5_;have NB160_159:=n6_;clear n0_ n1_ n2_ n3_ n4_ n5_ n6_;clear hb hbox hg;have hnb19:=NB159_160.out;have hnc19:=NB160_159.out;have hc20_0:=cb_ BK159.out))
   go_ret
   exact ⟨er_,wb_⟩
 ·replace c4:=Bool.eq_false_iff.mpr c4
  subst c4
  have H1:(if a2_0=true then (some (decide (a0≤a2_1))) else (some true))=some r:=by rw [if_neg (show ¬ (false=true) by decide)] at H;exact H
  clear H
  have H:=H1
  clear H1
  by_cases c21:a2_0=true
  ·subst c21
   have H1:(some (decide (a0≤a2_1)))=some r:=by rw [if_pos rfl] at H;exact H
   clear H
   have H:=H1
   clear H1
   obtain rfl:=Option.some.inj H
   go_enter Tryz.func35,Tryz.ntmps35
   go_wp2_with (first|((with_reducible refine gate_dst (N:=4) rfl ?_);refine box_event ?hg (N:=4) ?hd (cs:=#[.bool false,.int .i64 a1_1]) (t:=35) ?hr ?_;(case hd=>rfl);(case hg=>rfl);(case hr=>first|(go_simp;done)|(go_simp;rfl));intro gb159 hg w22 hbox hb;have n0_:=asd_ (below_step wb_ hb);have n1_:=asd_ (hbox);have n2_:=asd_ ((by rw [hg];exact (below_size wb_):w.heap.size≤gb159));have n3_:=asd_ ((by rw [hg];exact (below_size wb_):w.heap.size≤gb159));clear HB;have HB:=n0_;have BK159:=n1_;have GW159:=n2_;have GE159:=n3_;clear n0_ n1_ n2_ n3_;clear hb hbox hg)|((with_reducible refine gate_dst (N:=5) rfl ?_);refine box_event ?hg (N:=5) ?hd (cs:=#[.bool true,.int .i64 a2_1]) (t:=35) ?hr ?_;(case hd=>rfl);(case hg=>rfl);(case hr=>first|(go_simp;done)|(go_simp;rfl));intro gb160 hg w23 hbox hb;have n0_:=asd_ (blk_below (g:=gb159) (o:= .cells #[.bool false,.int .i64 a1_1] 35 (0,0)) bk_ hb);have n1_:=asd_ (below_step wb_ hb);have n2_:=asd_ (hbox);have n3_:=asd_ ((by rw [hg];exact (below_size wb_):w.heap.size≤gb160));have n4_:=asd_ ((by rw [hg];exact (below_size wb_):w.heap.size≤gb160));have n5_:=asd_ ((by rw [hg];exact Nat.ne_of_lt (blk_lt (g:=gb159) (o:= .cells #[.bool false,.int .i64 a1_1] 35 (0,0)) bk_):gb159≠gb160));have n6_:=asd_ ((by rw [hg];exact Nat.ne_of_gt (blk_lt (g:=gb159) (o:= .cells #[.bool false,.int .i64 a1_1] 35 (0,0)) bk_):gb160≠gb159));clear BK159;clear HB;have BK159:=n0_;have HB:=n1_;have BK160:=n2_;have GW160:=n3_;have GE160:=n4_;have NB159_160:=n5_;have NB160_159:=n6_;clear n0_ n1_ n2_ n3_ n4_ n5_ n6_;clear hb hbox hg;have hnb24:=NB159_160.out;have hnc24:=NB160_159.out;have hc25_0:=cb_ BK159.out;have hc25_1:=cb_ BK160.out))
   go_ret
   exact ⟨er_,wb_⟩
  ·replace c21:=Bool.eq_false_iff.mpr c21
   subst c21
   have H1:(some true)=some r:=by rw [if_neg (show ¬ (false=true) by decide)] at H;exact H
   clear H
   have H:=H1
   clear H1
   obtain rfl:=Option.some.inj H
   go_enter Tryz.func35,Tryz.ntmps35
   go_wp2_with (first|((with_reducible refine gate_dst (N:=4) rfl ?_);refine box_event ?hg (N:=4) ?hd (cs:=#[.bool false,.int .i64 a1_1]) (t:=35) ?hr ?_;(case hd=>rfl);(case hg=>rfl);(case hr=>first|(go_simp;done)|(go_simp;rfl));intro gb159 hg w27 hbox hb;have n0_:=asd_ (below_step wb_ hb);have n1_:=asd_ (hbox);have n2_:=asd_ ((by rw [hg];exact (below_size wb_):w.heap.size≤gb159));have n3_:=asd_ ((by rw [hg];exact (below_size wb_):w.heap.size≤gb159));clear HB;have HB:=n0_;have BK159:=n1_;have GW159:=n2_;have GE159:=n3_;clear n0_ n1_ n2_ n3_;clear hb hbox hg)|((with_reducible refine gate_dst (N:=5) rfl ?_);refine box_event ?hg (N:=5) ?hd (cs:=#[.bool false,.int .i64 a2_1]) (t:=35) ?hr ?_;(case hd=>rfl);(case hg=>rfl);(case hr=>first|(go_simp;done)|(go_simp;rfl));intro gb160 hg w28 hbox hb;have n0_:=asd_ (blk_below (g:=gb159) (o:= .cells #[.bool false,.int .i64 a1_1] 35 (0,0)) bk_ hb);have n1_:=asd_ (below_step wb_ hb);have n2_:=asd_ (hbox);have n3_:=asd_ ((by rw [hg];exact (below_size wb_):w.heap.size≤gb160));have n4_:=asd_ ((by rw [hg];exact (below_size wb_):w.heap.size≤gb160));have n5_:=asd_ ((by rw [hg];exact Nat.ne_of_lt (blk_lt (g:=gb159) (o:= .cells #[.bool false,.int .i64 a1_1] 35 (0,0)) bk_):gb159≠gb160));have n6_:=asd_ ((by rw [hg];exact Nat.ne_of_gt (blk_lt (g:=gb159) (o:= .cells #[.bool false,.int .i64 a1_1] 35 (0,0)) bk_):gb160≠gb159));clear BK159;clear HB;have BK159:=n0_;have HB:=n1_;have BK160:=n2_;have GW160:=n3_;have GE160:=n4_;have NB159_160:=n5_;have NB160_159:=n6_;clear n0_ n1_ n2_ n3_ n4_ n5_ n6_;clear hb hbox hg;have hnb29:=NB159_160.out;have hnc29:=NB160_159.out;have hc30_0:=cb_ BK159.out;have hc30_1:=cb_ BK160.out))
   go_ret
   exact ⟨er_,wb_⟩
def spec_jTaken.f (k:Nat) (a0:ByteArray) (a1_0:Bool) (l1_1:List ByteArray):Option (Bool):=if a1_0=true then ((spec_JAmong.f k a0 l1_1).bind fun t162=>(some t162)) else (some true)
theorem spec_jTaken.calls (k:Nat) (a0:ByteArray) (a1_0:Bool) (A1_1:Option Addr) (c1_1:Nat) (l1_1:List ByteArray) (r:Bool) (w:World) (hr1_1:Kd.C Kd.string w A1_1 l1_1.length l1_1) (hc1_1:l1_1.length≤c1_1) (h:spec_jTaken.f k a0 a1_0 l1_1=some r):
  Calls Tryz.prog 37 #[.string a0,.agg #[.bool a1_0,.slice A1_1 l1_1.length c1_1]] w fun e w'=>e= .returned (.bool r)∧Below w.heap.size w w':=by
 have hu37:=Tryz.underlying37
 have HR1_1:=asd_ hr1_1
 have HC1_1:=asd_ hc1_1
 clear hr1_1 hc1_1
 have HB:=asd_ (Below.refl w.heap.size w)
 have H:(if a1_0=true then ((spec_JAmong.f k a0 l1_1).bind fun t162=>(some t162)) else (some true))=some r:=h
 clear h
 by_cases c3:a1_0=true
 ·subst c3
  have H1:((spec_JAmong.f k a0 l1_1).bind fun t162=>(some t162))=some r:=by rw [if_pos rfl] at H;exact H
  clear H
  have H:=H1
  clear H1
  replace H:=Option.bind_eq_some_iff.mp H
  obtain ⟨t162,A40,H⟩:=H
  replace H:(some t162)=some r:=H
  have A4:=asd_ A40
  clear A40
  obtain rfl:=Option.some.inj H
  go_enter Tryz.func37,Tryz.ntmps37
  go_wp2_with (first|((with_reducible refine gate_dst (N:=3) rfl ?_);refine box_event ?hg (N:=3) ?hd (cs:=#[.bool true,.slice A1_1 l1_1.length c1_1]) (t:=37) ?hr ?_;(case hd=>rfl);(case hg=>rfl);(case hr=>first|(go_simp;done)|(go_simp;rfl));intro gb161 hg w5 hbox hb;have n0_:=asd_ (below_step wb_ hb);have n1_:=asd_ (hbox);have n2_:=asd_ ((by rw [hg];exact (below_size wb_):w.heap.size≤gb161));have n3_:=asd_ ((by rw [hg];exact (below_size wb_):w.heap.size≤gb161));clear HB;have HB:=n0_;have BK161:=n1_;have GW161:=n2_;have GE161:=n3_;clear n0_ n1_ n2_ n3_;clear hb hbox hg;have hc6_0:=cb_ BK161.out)|(go_at_call 21;(with_reducible refine (spec_JAmong.calls k a0 _ _ l1_1 t162 _ ?side1 ?side2 A4.out).mono ?_);(case side1=>repeat (first|exact (Kd.C_below HR1_1.out HB.out)|(with_reducible refine Kd.C_alloc ?_ _)|(with_reducible refine Kd.C_drewN ?_ _)|(with_reducible refine Kd.C_drew ?_)));(case side2=>exact HC1_1.out);rintro e w' ⟨rfl,⟨nd,rfl⟩⟩))
  go_ret
  exact ⟨er_,wb_⟩
 ·replace c3:=Bool.eq_false_iff.mpr c3
  subst c3
  have H1:(some true)=some r:=by rw [if_neg (show ¬ (false=true) by decide)] at H;exact H
  clear H
  have H:=H1
  clear H1
  obtain rfl:=Option.some.inj H
  go_enter Tryz.func37,Tryz.ntmps37
  go_wp2_with (first|((with_reducible refine gate_dst (N:=3) rfl ?_);refine box_event ?hg (N:=3) ?hd (cs:=#[.bool false,.slice A1_1 l1_1.length c1_1]) (t:=37) ?hr ?_;(case hd=>rfl);(case hg=>rfl);(case hr=>first|(go_simp;done)|(go_simp;rfl));intro gb161 hg w7 hbox hb;have n0_:=asd_ (below_step wb_ hb);have n1_:=asd_ (hbox);have n2_:=asd_ ((by rw [hg];exact (below_size wb_):w.heap.size≤gb161));have n3_:=asd_ ((by rw [hg];exact (below_size wb_):w.heap.size≤gb161));clear HB;have HB:=n0_;have BK161:=n1_;have GW161:=n2_;have GE161:=n3_;clear n0_ n1_ n2_ n3_;clear hb hbox hg;have hc8_0:=cb_ BK161.out))
  go_ret
  exact ⟨er_,wb_⟩
def spec_JRunes.l0:Nat→ByteArray→Int→Int→Option (Int)
 |0,_,_,_=>none
 |k + 1,x0,x3,x4=>if x4 < (x0.size:Int) then (if 0≤x4 then (if (bt x0 x4) < 128 then (spec_JRunes.l0 k x0 (wrap64 (x3 + 1)) (wrap64 (x4 + 1))) else (if (bt x0 x4) > 191 then (spec_JRunes.l0 k x0 (wrap64 (x3 + 1)) (wrap64 (x4 + 1))) else (spec_JRunes.l0 k x0 x3 (wrap64 (x4 + 1))))) else (none)) else (some x3)
def spec_JRunes.f (k:Nat) (a0:ByteArray):Option (Int):=spec_JRunes.l0 k a0 0 0
theorem spec_JRunes.calls (k:Nat) (a0:ByteArray) (r:Int) (w:World) (h:spec_JRunes.f k a0=some r):
  Calls Tryz.prog 36 #[.string a0] w fun e w'=>e= .returned (.int .i64 r)∧Drawn0 w w':=by
 have H:(spec_JRunes.l0 k a0 0 0)=some r:=h
 clear h
 have H':=asd_ H
 clear H
 go_enter Tryz.func36,Tryz.ntmps36
 go_wp2
 go_loopg [3,4] k (fun kq v3 v4 w'=>∃ (x3_1:Int) (x4_1:Int),v3= .int .i64 x3_1∧v4= .int .i64 x4_1∧Aside0 (spec_JRunes.l0 kq a0 x3_1 x4_1=some r)∧Aside0 (kq≤k)∧Drawn0 w w')
 case atStart=>exact ⟨(0),(0),r1_,r1_,H',⟨Nat.le_refl _⟩,dr_⟩
 case round=>
  clear H'
  obtain ⟨x3_1,x4_1,rfl,rfl,HA,HK1,⟨m1,rfl⟩⟩:=hrel
  cases gk with
  |zero=>exact absurd HA.out (by simp [spec_JRunes.l0])
  |succ k1=>
   have H:=HA.out
   clear HA
   simp only [spec_JRunes.l0] at H
   by_cases c2:x4_1 < (a0.size:Int)
   ·rw [if_pos c2] at H
    have c2b0:=decide_eq_true c2
    clear c2
    by_cases c3:0≤x4_1
    ·rw [if_pos c3] at H
     have c3b0:=decide_eq_true c3
     clear c3
     by_cases c5:(bt a0 x4_1) < 128
     ·rw [if_pos c5] at H
      have c5b0:=decide_eq_true c5
      clear c5
      have H':=asd_ H
      clear H
      have p4:0≤(x4_1:Int):=of_decide_eq_true as_
      have q4:x4_1 < (a0.size:Int):=of_decide_eq_true as_
      have hx4:=bt_at a0 x4_1
      replace p4:=eq_true p4
      replace q4:=eq_true q4
      go_wp2
      go_roundg k1
      case measure=>have:=HK1.out;omega
      case rel=>exact ⟨(wrap64 (x3_1 + 1)),(wrap64 (x4_1 + 1)),r1_,r1_,H',⟨by have:=HK1.out;omega⟩,dr_⟩
     ·rw [if_neg c5] at H
      have c5b0:=decide_eq_false c5
      clear c5
      by_cases c7:(bt a0 x4_1) > 191
      ·rw [if_pos c7] at H
       have c7b0:=decide_eq_true c7
       clear c7
       have H':=asd_ H
       clear H
       have p4:0≤(x4_1:Int):=of_decide_eq_true as_
       have q4:x4_1 < (a0.size:Int):=of_decide_eq_true as_
       have hx4:=bt_at a0 x4_1
       replace p4:=eq_true p4
       replace q4:=eq_true q4
       have p6:0≤(x4_1:Int):=of_decide_eq_true as_
       have q6:x4_1 < (a0.size:Int):=of_decide_eq_true as_
       have hx6:=bt_at a0 x4_1
       replace p6:=eq_true p6
       replace q6:=eq_true q6
       go_wp2
       go_roundg k1
       case measure=>have:=HK1.out;omega
       case rel=>exact ⟨(wrap64 (x3_1 + 1)),(wrap64 (x4_1 + 1)),r1_,r1_,H',⟨by have:=HK1.out;omega⟩,dr_⟩
      ·rw [if_neg c7] at H
       have c7b0:=decide_eq_false c7
       clear c7
       have H':=asd_ H
       clear H
       have p4:0≤(x4_1:Int):=of_decide_eq_true as_
       have q4:x4_1 < (a0.size:Int):=of_decide_eq_true as_
       have hx4:=bt_at a0 x4_1
       replace p4:=eq_true p4
       replace q4:=eq_true q4
       have p6:0≤(x4_1:Int):=of_decide_eq_true as_
       have q6:x4_1 < (a0.size:Int):=of_decide_eq_true as_
       have hx6:=bt_at a0 x4_1
       replace p6:=eq_true p6
       replace q6:=eq_true q6
       go_wp2
       go_roundg k1
       case measure=>have:=HK1.out;omega
       case rel=>exact ⟨(x3_1),(wrap64 (x4_1 + 1)),r1_,r1_,H',⟨by have:=HK1.out;omega⟩,dr_⟩
    ·rw [if_neg c3] at H
     exact absurd H (by simp)
   ·rw [if_neg c2] at H
    have c2b0:=decide_eq_false c2
    clear c2
    obtain rfl:=Option.some.inj H
    go_wp2
    go_ret
    exact ⟨r1_,dr_⟩
end Go.Proofs.YtkphbhncpdcbeaaGreatDoor.PJT
