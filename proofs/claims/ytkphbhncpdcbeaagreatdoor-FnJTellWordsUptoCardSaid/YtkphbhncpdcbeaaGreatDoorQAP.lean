/- Part. -/
import Derived.Test.YtkphbhncpdcbeaaGreatDoorQAO
set_option linter.unusedVariables false
set_option linter.unusedSimpArgs false
set_option maxHeartbeats 8000000
set_option maxRecDepth 100000
namespace Go.Proofs.YtkphbhncpdcbeaaGreatDoor.PJT
open Go.RowKit YtkphbhncpdcbeaaGreatDoorW.PrintWords YtkphbhncpdcbeaaGreatDoorW.PrintLast YtkphbhncpdcbeaaGreatDoorW.PrintMore
attribute [local go_sem] max2_int min2_int max_two min_two max_three min_three max_four min_four
def spec_jHas.l0:Nat→Int→Int→Bool→Int→ByteArray→List ByteArray→List (S25)→Int→Bool→Int→ByteArray→List ByteArray→List (S25)→Option (Bool)
 |0,_,_,_,_,_,_,_,_,_,_,_,_,_=>none
 |k + 1,x5,x175000,x175001,x175002,x175003,x175004,x175005,x176000,x176001,x176002,x176003,x176004,x176005=>if x5 < (x175004.length:Int) then (if 0≤x5 then ((spec_JMember.f k x176000 x176001 x176002 x176003 x176004 x176005 (rdOf ByteArray.empty x175004 x5)).bind fun t177=>(if t177 < 0 then (some false) else (spec_jHas.l0 k (wrap64 (x5 + 1)) x175000 x175001 x175002 x175003 x175004 x175005 x176000 x176001 x176002 x176003 x176004 x176005))) else (none)) else (some true)
def spec_jHas.f (k:Nat) (a0_0:Int) (a0_1:Bool) (a0_2:Int) (a0_3:ByteArray) (l0_4:List ByteArray) (l0_5:List (S25)) (a1_0:Int) (a1_1:Bool) (a1_2:Int) (a1_3:ByteArray) (l1_4:List ByteArray) (l1_5:List (S25)):Option (Bool):=spec_jHas.l0 k 0 a0_0 a0_1 a0_2 a0_3 l0_4 l0_5 a1_0 a1_1 a1_2 a1_3 l1_4 l1_5
def spec_jHas.T4:Bool×List (List Nat×List Nat):=(true,[([],[]),([],[]),([1],[1]),([],[]),([2,3],[2,3]),([4],[4]),([0,5],[0,5]),([6],[6])])
def spec_jHas.B4:List Nat:=[0,0,2,0,14,30,63,127]
theorem spec_jHas.tab4:rtab .any (opsOf Tryz.f114 4)=spec_jHas.T4:=by kernel_rfl
theorem spec_jHas.bits4:waitsOk spec_jHas.T4.2 spec_jHas.B4=true:=by kernel_rfl
theorem spec_jHas.calls (k:Nat) (a0_0:Int) (a0_1:Bool) (a0_2:Int) (a0_3:ByteArray) (A0_4:Option Addr) (c0_4:Nat) (l0_4:List ByteArray) (A0_5:Option Addr) (c0_5:Nat) (l0_5:List (S25)) (a1_0:Int) (a1_1:Bool) (a1_2:Int) (a1_3:ByteArray) (A1_4:Option Addr) (c1_4:Nat) (l1_4:List ByteArray) (A1_5:Option Addr) (c1_5:Nat) (l1_5:List (S25)) (r:Bool) (w:World) (hr0_4:Kd.C Kd.string w A0_4 l0_4.length l0_4) (hc0_4:l0_4.length≤c0_4) (hr0_5:Kd.C k25 w A0_5 l0_5.length l0_5) (hc0_5:l0_5.length≤c0_5) (hr1_4:Kd.C Kd.string w A1_4 l1_4.length l1_4) (hc1_4:l1_4.length≤c1_4) (hr1_5:Kd.C k25 w A1_5 l1_5.length l1_5) (hc1_5:l1_5.length≤c1_5) (h:spec_jHas.f k a0_0 a0_1 a0_2 a0_3 l0_4 l0_5 a1_0 a1_1 a1_2 a1_3 l1_4 l1_5=some r):
  Calls Tryz.prog 114 #[.agg #[.int .i64 a0_0,.bool a0_1,.int .i64 a0_2,.string a0_3,.slice A0_4 l0_4.length c0_4,.slice A0_5 l0_5.length c0_5],.agg #[.int .i64 a1_0,.bool a1_1,.int .i64 a1_2,.string a1_3,.slice A1_4 l1_4.length c1_4,.slice A1_5 l1_5.length c1_5]] w fun e w'=>e= .returned (.bool r)∧Below w.heap.size w w':=by
 have hu25:=Tryz.underlying25
 have HR0_4:=asd_ hr0_4
 have HC0_4:=asd_ hc0_4
 clear hr0_4 hc0_4
 have HR0_5:=asd_ hr0_5
 have HC0_5:=asd_ hc0_5
 clear hr0_5 hc0_5
 have HR1_4:=asd_ hr1_4
 have HC1_4:=asd_ hc1_4
 clear hr1_4 hc1_4
 have HR1_5:=asd_ hr1_5
 have HC1_5:=asd_ hc1_5
 clear hr1_5 hc1_5
 have HB:=asd_ (Below.refl w.heap.size w)
 have H:(spec_jHas.l0 k 0 a0_0 a0_1 a0_2 a0_3 l0_4 l0_5 a1_0 a1_1 a1_2 a1_3 l1_4 l1_5)=some r:=h
 clear h
 have H':=asd_ H
 clear H
 go_enter Tryz.func114,Tryz.ntmps114
 go_wp2_with (first|((with_reducible refine gate_dst (N:=2) rfl ?_);refine box_event ?hg (N:=2) ?hd (cs:=#[.int .i64 a0_0,.bool a0_1,.int .i64 a0_2,.string a0_3,.slice A0_4 l0_4.length c0_4,.slice A0_5 l0_5.length c0_5]) (t:=25) ?hr ?_;(case hd=>rfl);(case hg=>rfl);(case hr=>first|(go_simp;done)|(go_simp;rfl));intro gb174 hg w3 hbox hb;have n0_:=asd_ (below_step wb_ hb);have n1_:=asd_ (hbox);have n2_:=asd_ ((by rw [hg];exact (below_size wb_):w.heap.size≤gb174));have n3_:=asd_ ((by rw [hg];exact (below_size wb_):w.heap.size≤gb174));clear HB;have HB:=n0_;have BK174:=n1_;have GW174:=n2_;have GE174:=n3_;clear n0_ n1_ n2_ n3_;clear hb hbox hg)|((with_reducible refine gate_dst (N:=3) rfl ?_);refine box_event ?hg (N:=3) ?hd (cs:=#[.int .i64 a1_0,.bool a1_1,.int .i64 a1_2,.string a1_3,.slice A1_4 l1_4.length c1_4,.slice A1_5 l1_5.length c1_5]) (t:=25) ?hr ?_;(case hd=>rfl);(case hg=>rfl);(case hr=>first|(go_simp;done)|(go_simp;rfl));intro gb175 hg w4 hbox hb;have n0_:=asd_ (blk_below (g:=gb174) (o:= .cells #[.int .i64 a0_0,.bool a0_1,.int .i64 a0_2,.string a0_3,.slice A0_4 l0_4.length c0_4,.slice A0_5 l0_5.length c0_5] 25 (0,0)) bk_ hb);have n1_:=asd_ (below_step wb_ hb);have n2_:=asd_ (hbox);have n3_:=asd_ ((by rw [hg];exact (below_size wb_):w.heap.size≤gb175));have n4_:=asd_ ((by rw [hg];exact (below_size wb_):w.heap.size≤gb175));have n5_:=asd_ ((by rw [hg];exact Nat.ne_of_lt (blk_lt (g:=gb174) (o:= .cells #[.int .i64 a0_0,.bool a0_1,.int .i64 a0_2,.string a0_3,.slice A0_4 l0_4.length c0_4,.slice A0_5 l0_5.length c0_5] 25 (0,0)) bk_):gb174≠gb175));have n6_:=asd_ ((by rw [hg];exact Nat.ne_of_gt (blk_lt (g:=gb174) (o:= .cells #[.int .i64 a0_0,.bool a0_1,.int .i64 a0_2,.string a0_3,.slice A0_4 l0_4.length c0_4,.slice A0_5 l0_5.length c0_5] 25 (0,0)) bk_):gb175≠gb174));clear BK174;clear HB;have BK174:=n0_;have HB:=n1_;have BK175:=n2_;have GW175:=n3_;have GE175:=n4_;have NB174_175:=n5_;have NB175_174:=n6_;clear n0_ n1_ n2_ n3_ n4_ n5_ n6_;clear hb hbox hg))
 go_loopg [5] k (fun kq v5 w'=>∃ (x5_1:Int),v5= .int .i64 x5_1∧Aside0 (spec_jHas.l0 kq x5_1 a0_0 a0_1 a0_2 a0_3 l0_4 l0_5 a1_0 a1_1 a1_2 a1_3 l1_4 l1_5=some r)∧Aside0 (kq≤k)∧Aside0 (w'.heap[gb174]? =some (.cells #[.int .i64 a0_0,.bool a0_1,.int .i64 a0_2,.string a0_3,(.slice A0_4 l0_4.length c0_4),(.slice A0_5 l0_5.length c0_5)] 25 (0,0)))∧Aside0 (w'.heap[gb175]? =some (.cells #[.int .i64 a1_0,.bool a1_1,.int .i64 a1_2,.string a1_3,(.slice A1_4 l1_4.length c1_4),(.slice A1_5 l1_5.length c1_5)] 25 (0,0)))∧Aside0 (Below w.heap.size w w'))
 case atStart=>exact ⟨(0),r1_,H',⟨Nat.le_refl _⟩,⟨bk_⟩,⟨bk_⟩,⟨wb_⟩⟩
 case round=>
  clear H'
  obtain ⟨x5_1,rfl,HA,HK1,BK174,BK175,HB⟩:=hrel
  cases gk with
  |zero=>exact absurd HA.out (by simp [spec_jHas.l0])
  |succ k1=>
   have H:=HA.out
   clear HA
   simp only [spec_jHas.l0] at H
   by_cases c5:x5_1 < (l0_4.length:Int)
   ·rw [if_pos c5] at H
    have c5b0:=decide_eq_true c5
    clear c5
    by_cases c6:0≤x5_1
    ·rw [if_pos c6] at H
     have c6b0:=decide_eq_true c6
     clear c6
     replace H:=Option.bind_eq_some_iff.mp H
     obtain ⟨t177,A70,H⟩:=H
     replace H:(if t177 < 0 then (some false) else (spec_jHas.l0 k1 (wrap64 (x5_1 + 1)) a0_0 a0_1 a0_2 a0_3 l0_4 l0_5 a1_0 a1_1 a1_2 a1_3 l1_4 l1_5))=some r:=H
     have A7:=asd_ A70
     clear A70
     by_cases c8:t177 < 0
     ·rw [if_pos c8] at H
      have c8b0:=decide_eq_true c8
      clear c8
      obtain rfl:=Option.some.inj H
      have hnb9:=NB174_175.out
      have hnc9:=NB175_174.out
      have hc10_0:=cb_ BK174.out
      try go_wp2
      have n0_:=asd_ (blk_drew BK174.out)
      have n1_:=asd_ (blk_drew BK175.out)
      have n2_:=asd_ (below_drew1 HB.out)
      clear BK174
      clear BK175
      clear HB
      have BK174:=n0_
      have BK175:=n1_
      have HB:=n2_
      clear n0_ n1_ n2_
      have p176:0≤(x5_1:Int):=of_decide_eq_true as_
      have q176:x5_1 < (l0_4.length:Int):=of_decide_eq_true as_
      obtain ⟨ad176,e176,hx176_0⟩:=Kd.at_string HR0_4.out x5_1 p176 q176
      have hw176_0:=hx176_0
      cases e176
      replace hx176_0:=(HB.out.cell (World.block_lt_of_cell? w _ hx176_0)).trans hx176_0
      replace p176:=eq_true p176
      replace q176:=eq_true q176
      refine start_ (n:=8) (S:=fun w'=>w'.cell? ⟨gb175,0,none⟩=some (.int .i64 a1_0)∧w'.cell? ⟨gb175,1,none⟩=some (.bool a1_1)∧w'.cell? ⟨gb175,2,none⟩=some (.int .i64 a1_2)∧w'.cell? ⟨gb175,3,none⟩=some (.string a1_3)∧w'.cell? ⟨gb175,4,none⟩=some (.slice A1_4 l1_4.length c1_4)∧w'.cell? ⟨gb175,5,none⟩=some (.slice A1_5 l1_5.length c1_5)∧w'.cell? ⟨gb174,0,none⟩=some (.int .i64 a0_0)∧w'.cell? ⟨gb174,1,none⟩=some (.bool a0_1)∧w'.cell? ⟨gb174,2,none⟩=some (.int .i64 a0_2)∧w'.cell? ⟨gb174,3,none⟩=some (.string a0_3)∧w'.cell? ⟨gb174,4,none⟩=some (.slice (some ad176) l0_4.length c0_4)∧w'.cell? ⟨gb174,5,none⟩=some (.slice A0_5 l0_5.length c0_5)∧w'.cell? (ad176.add (x5_1).toNat)=some (.string (rdOf ByteArray.empty l0_4 x5_1))) (ds:=[]) #[false,false,false,false,false,false,false,false] kr_ rfl rfl ⟨(blk_cell BK175.out 0).trans rfl,(blk_cell BK175.out 1).trans rfl,(blk_cell BK175.out 2).trans rfl,(blk_cell BK175.out 3).trans rfl,(blk_cell BK175.out 4).trans rfl,(blk_cell BK175.out 5).trans rfl,(blk_cell BK174.out 0).trans rfl,(blk_cell BK174.out 1).trans rfl,(blk_cell BK174.out 2).trans rfl,(blk_cell BK174.out 3).trans rfl,(blk_cell BK174.out 4).trans rfl,(blk_cell BK174.out 5).trans rfl,((HB.out.cell (World.block_lt_of_cell? w _ hw176_0)).trans hw176_0)⟩ (fun hHeld=> ?_);refine with_tabW spec_jHas.tab4 spec_jHas.bits4 (fun HT_ HW_=> ?_)
      generalize wr.drew=w11 at BK174 BK175 HB hx176_0 hHeld ⊢
      refine pure_ (i:=1) (N:=some 14) (v:= ?_) (a':= ?_) #[false,true,false,false,false,false,false,false] rfl rfl (any_of HT_.out kr_) (fun _ _ _ h=>h) (Or.inl ⟨by rfl,?_⟩) ?_ ?_
      rotate_left
      ·intro w'
       go_simp
       with_reducible rfl
      rotate_left
      ·simp only [Act.put,List.setIfInBounds_toArray,List.set_cons_zero,List.set_cons_succ,i64_w,i32_w]
       rfl
      refine pure_ (i:=3) (N:=some 16) (v:= ?_) (a':= ?_) #[false,true,false,true,false,false,false,false] rfl rfl (any_of HT_.out kr_) (fun _ _ _ h=>h) (Or.inl ⟨by rfl,?_⟩) ?_ ?_
      rotate_left
      ·intro w'
       go_simp
       with_reducible rfl
      rotate_left
      ·simp only [Act.put,List.setIfInBounds_toArray,List.set_cons_zero,List.set_cons_succ,i64_w,i32_w]
       rfl
      refine take_ (i:=0) (N:=some 13) (v:= ?_) (a':= ?_) #[true,true,false,true,false,false,false,false] rfl rfl (take_ofW HT_.out HW_.out kr_) (fun _ _ _ h=>h) (Or.inl ⟨by rfl,?_⟩) hHeld ?_ ?_
      rotate_left
      ·rintro w' ⟨s0,s1,s2,s3,s4,s5,s6,s7,s8,s9,s10,s11,s12⟩
       go_simp
       with_reducible rfl
      rotate_left
      ·simp only [Act.put,List.setIfInBounds_toArray,List.set_cons_zero,List.set_cons_succ,i64_w,i32_w]
       rfl
      refine take_ (i:=2) (N:=some 15) (v:= ?_) (a':= ?_) #[true,true,true,true,false,false,false,false] rfl rfl (take_ofW HT_.out HW_.out kr_) (fun _ _ _ h=>h) (Or.inl ⟨by rfl,?_⟩) hHeld ?_ ?_
      rotate_left
      ·rintro w' ⟨s0,s1,s2,s3,s4,s5,s6,s7,s8,s9,s10,s11,s12⟩
       go_simp
       with_reducible rfl
      rotate_left
      ·simp only [Act.put,List.setIfInBounds_toArray,List.set_cons_zero,List.set_cons_succ,i64_w,i32_w]
       rfl
      refine pure_ (i:=4) (N:=some 17) (v:= ?_) (a':= ?_) #[true,true,true,true,true,false,false,false] rfl rfl (any_of HT_.out kr_) (fun _ _ _ h=>h) (Or.inl ⟨by rfl,?_⟩) ?_ ?_
      rotate_left
      ·intro w'
       go_simp
       with_reducible rfl
      rotate_left
      ·simp only [Act.put,List.setIfInBounds_toArray,List.set_cons_zero,List.set_cons_succ,i64_w,i32_w]
       rfl
      refine take_ (i:=5) (N:=some 18) (v:= ?_) (a':= ?_) #[true,true,true,true,true,true,false,false] rfl rfl (take_ofW HT_.out HW_.out kr_) (fun _ _ _ h=>h) (Or.inl ⟨by rfl,?_⟩) hHeld ?_ ?_
      rotate_left
      ·rintro w' ⟨s0,s1,s2,s3,s4,s5,s6,s7,s8,s9,s10,s11,s12⟩
       go_simp
       with_reducible rfl
      rotate_left
      ·simp only [Act.put,List.setIfInBounds_toArray,List.set_cons_zero,List.set_cons_succ,i64_w,i32_w]
       rfl
      refine one_ (i:=6) (N:=some 19) #[true,true,true,true,true,true,true,false] rfl rfl (one_of HT_.out kr_) (by decide) (fun K hK=> ?_)
      refine goes_ Tryz.func65 kr_ rfl #[.agg #[.int .i64 a1_0,.bool a1_1,.int .i64 a1_2,.string a1_3,.slice A1_4 l1_4.length c1_4,.slice A1_5 l1_5.length c1_5],.string (rdOf ByteArray.empty l0_4 x5_1)] (by rfl) rfl rfl ap_ ?_
      with_reducible refine (spec_JMember.calls k1 a1_0 a1_1 a1_2 a1_3 _ _ l1_4 _ _ l1_5 (rdOf ByteArray.empty l0_4 x5_1) t177 _ ?side1 ?side2 ?side3 ?side4 A7.out).mono ?_
      (case side1=>repeat (first|exact (Kd.C_below HR1_4.out HB.out)|(with_reducible refine Kd.C_alloc ?_ _)|(with_reducible refine Kd.C_drewN ?_ _)|(with_reducible refine Kd.C_drew ?_)))
      (case side2=>exact HC1_4.out)
      (case side3=>repeat (first|exact (Kd.C_below HR1_5.out HB.out)|(with_reducible refine Kd.C_alloc ?_ _)|(with_reducible refine Kd.C_drewN ?_ _)|(with_reducible refine Kd.C_drew ?_)))
      (case side4=>exact HC1_5.out)
      rintro e w12 ⟨rfl,hb⟩
      refine ⟨_,rfl,?_⟩
      have n0_:=asd_ (blk_below (g:=gb174) (o:= .cells #[.int .i64 a0_0,.bool a0_1,.int .i64 a0_2,.string a0_3,.slice (some ad176) l0_4.length c0_4,.slice A0_5 l0_5.length c0_5] 25 (0,0)) bk_ hb)
      have n1_:=asd_ (blk_below (g:=gb175) (o:= .cells #[.int .i64 a1_0,.bool a1_1,.int .i64 a1_2,.string a1_3,.slice A1_4 l1_4.length c1_4,.slice A1_5 l1_5.length c1_5] 25 (0,0)) bk_ hb)
      have n2_:=asd_ (below_step wb_ hb)
      clear BK174
      clear BK175
      clear HB
      have BK174:=n0_
      have BK175:=n1_
      have HB:=n2_
      clear n0_ n1_ n2_
      (try clear hb)
      (try clear hb2)
      (try clear hk)
      (try clear hi)
      refine hK.out _ _ ⟨(blk_cell BK175.out 0).trans rfl,(blk_cell BK175.out 1).trans rfl,(blk_cell BK175.out 2).trans rfl,(blk_cell BK175.out 3).trans rfl,(blk_cell BK175.out 4).trans rfl,(blk_cell BK175.out 5).trans rfl,(blk_cell BK174.out 0).trans rfl,(blk_cell BK174.out 1).trans rfl,(blk_cell BK174.out 2).trans rfl,(blk_cell BK174.out 3).trans rfl,(blk_cell BK174.out 4).trans rfl,(blk_cell BK174.out 5).trans rfl,((HB.out.cell (World.block_lt_of_cell? w _ hw176_0)).trans hw176_0)⟩ (fun hHeld=> ?_)
      clear hK K
      refine norm_ (a':= ?_) ?_ ?_
      rotate_left
      ·show Act.put _ (some 19) _=_
       simp only [Act.put,List.setIfInBounds_toArray,List.set_cons_zero,List.set_cons_succ,i64_w,i32_w]
       rfl
      refine pure_ (i:=7) (N:=some 20) (v:= ?_) (a':= ?_) #[true,true,true,true,true,true,true,true] rfl rfl (any_of HT_.out kr_) (fun _ _ _ h=>h) (Or.inl ⟨by rfl,?_⟩) ?_ ?_
      rotate_left
      ·intro w'
       go_simp
       with_reducible rfl
      rotate_left
      ·simp only [Act.put,List.setIfInBounds_toArray,List.set_cons_zero,List.set_cons_succ,i64_w,i32_w]
       rfl
      refine done_ (done_of HT_.out kr_) ?_
      try go_wp2
      go_ret
      exact ⟨er_,wb_⟩
     ·rw [if_neg c8] at H
      have c8b0:=decide_eq_false c8
      clear c8
      have H':=asd_ H
      clear H
      have hnb13:=NB174_175.out
      have hnc13:=NB175_174.out
      have hc14_0:=cb_ BK174.out
      try go_wp2
      have n0_:=asd_ (blk_drew BK174.out)
      have n1_:=asd_ (blk_drew BK175.out)
      have n2_:=asd_ (below_drew1 HB.out)
      clear BK174
      clear BK175
      clear HB
      have BK174:=n0_
      have BK175:=n1_
      have HB:=n2_
      clear n0_ n1_ n2_
      have p176:0≤(x5_1:Int):=of_decide_eq_true as_
      have q176:x5_1 < (l0_4.length:Int):=of_decide_eq_true as_
      obtain ⟨ad176,e176,hx176_0⟩:=Kd.at_string HR0_4.out x5_1 p176 q176
      have hw176_0:=hx176_0
      cases e176
      replace hx176_0:=(HB.out.cell (World.block_lt_of_cell? w _ hx176_0)).trans hx176_0
      replace p176:=eq_true p176
      replace q176:=eq_true q176
      refine start_ (n:=8) (S:=fun w'=>w'.cell? ⟨gb175,0,none⟩=some (.int .i64 a1_0)∧w'.cell? ⟨gb175,1,none⟩=some (.bool a1_1)∧w'.cell? ⟨gb175,2,none⟩=some (.int .i64 a1_2)∧w'.cell? ⟨gb175,3,none⟩=some (.string a1_3)∧w'.cell? ⟨gb175,4,none⟩=some (.slice A1_4 l1_4.length c1_4)∧w'.cell? ⟨gb175,5,none⟩=some (.slice A1_5 l1_5.length c1_5)∧w'.cell? ⟨gb174,0,none⟩=some (.int .i64 a0_0)∧w'.cell? ⟨gb174,1,none⟩=some (.bool a0_1)∧w'.cell? ⟨gb174,2,none⟩=some (.int .i64 a0_2)∧w'.cell? ⟨gb174,3,none⟩=some (.string a0_3)∧w'.cell? ⟨gb174,4,none⟩=some (.slice (some ad176) l0_4.length c0_4)∧w'.cell? ⟨gb174,5,none⟩=some (.slice A0_5 l0_5.length c0_5)∧w'.cell? (ad176.add (x5_1).toNat)=some (.string (rdOf ByteArray.empty l0_4 x5_1))) (ds:=[]) #[false,false,false,false,false,false,false,false] kr_ rfl rfl ⟨(blk_cell BK175.out 0).trans rfl,(blk_cell BK175.out 1).trans rfl,(blk_cell BK175.out 2).trans rfl,(blk_cell BK175.out 3).trans rfl,(blk_cell BK175.out 4).trans rfl,(blk_cell BK175.out 5).trans rfl,(blk_cell BK174.out 0).trans rfl,(blk_cell BK174.out 1).trans rfl,(blk_cell BK174.out 2).trans rfl,(blk_cell BK174.out 3).trans rfl,(blk_cell BK174.out 4).trans rfl,(blk_cell BK174.out 5).trans rfl,((HB.out.cell (World.block_lt_of_cell? w _ hw176_0)).trans hw176_0)⟩ (fun hHeld=> ?_);refine with_tabW spec_jHas.tab4 spec_jHas.bits4 (fun HT_ HW_=> ?_)
      generalize wr.drew=w15 at BK174 BK175 HB hx176_0 hHeld ⊢
      refine pure_ (i:=1) (N:=some 14) (v:= ?_) (a':= ?_) #[false,true,false,false,false,false,false,false] rfl rfl (any_of HT_.out kr_) (fun _ _ _ h=>h) (Or.inl ⟨by rfl,?_⟩) ?_ ?_
      rotate_left
      ·intro w'
       go_simp
       with_reducible rfl
      rotate_left
      ·simp only [Act.put,List.setIfInBounds_toArray,List.set_cons_zero,List.set_cons_succ,i64_w,i32_w]
       rfl
      refine pure_ (i:=3) (N:=some 16) (v:= ?_) (a':= ?_) #[false,true,false,true,false,false,false,false] rfl rfl (any_of HT_.out kr_) (fun _ _ _ h=>h) (Or.inl ⟨by rfl,?_⟩) ?_ ?_
      rotate_left
      ·intro w'
       go_simp
       with_reducible rfl
      rotate_left
      ·simp only [Act.put,List.setIfInBounds_toArray,List.set_cons_zero,List.set_cons_succ,i64_w,i32_w]
       rfl
      refine take_ (i:=0) (N:=some 13) (v:= ?_) (a':= ?_) #[true,true,false,true,false,false,false,false] rfl rfl (take_ofW HT_.out HW_.out kr_) (fun _ _ _ h=>h) (Or.inl ⟨by rfl,?_⟩) hHeld ?_ ?_
      rotate_left
      ·rintro w' ⟨s0,s1,s2,s3,s4,s5,s6,s7,s8,s9,s10,s11,s12⟩
       go_simp
       with_reducible rfl
      rotate_left
      ·simp only [Act.put,List.setIfInBounds_toArray,List.set_cons_zero,List.set_cons_succ,i64_w,i32_w]
       rfl
      refine take_ (i:=2) (N:=some 15) (v:= ?_) (a':= ?_) #[true,true,true,true,false,false,false,false] rfl rfl (take_ofW HT_.out HW_.out kr_) (fun _ _ _ h=>h) (Or.inl ⟨by rfl,?_⟩) hHeld ?_ ?_
      rotate_left
      ·rintro w' ⟨s0,s1,s2,s3,s4,s5,s6,s7,s8,s9,s10,s11,s12⟩
       go_simp
       with_reducible rfl
      rotate_left
      ·simp only [Act.put,List.setIfInBounds_toArray,List.set_cons_zero,List.set_cons_succ,i64_w,i32_w]
       rfl
      refine pure_ (i:=4) (N:=some 17) (v:= ?_) (a':= ?_) #[true,true,true,true,true,false,false,false] rfl rfl (any_of HT_.out kr_) (fun _ _ _ h=>h) (Or.inl ⟨by rfl,?_⟩) ?_ ?_
      rotate_left
      ·intro w'
       go_simp
       with_reducible rfl
      rotate_left
      ·simp only [Act.put,List.setIfInBounds_toArray,List.set_cons_zero,List.set_cons_succ,i64_w,i32_w]
       rfl
      refine take_ (i:=5) (N:=some 18) (v:= ?_) (a':= ?_) #[true,true,true,true,true,true,false,false] rfl rfl (take_ofW HT_.out HW_.out kr_) (fun _ _ _ h=>h) (Or.inl ⟨by rfl,?_⟩) hHeld ?_ ?_
      rotate_left
      ·rintro w' ⟨s0,s1,s2,s3,s4,s5,s6,s7,s8,s9,s10,s11,s12⟩
       go_simp
       with_reducible rfl
      rotate_left
      ·simp only [Act.put,List.setIfInBounds_toArray,List.set_cons_zero,List.set_cons_succ,i64_w,i32_w]
       rfl
      refine one_ (i:=6) (N:=some 19) #[true,true,true,true,true,true,true,false] rfl rfl (one_of HT_.out kr_) (by decide) (fun K hK=> ?_)
      refine goes_ Tryz.func65 kr_ rfl #[.agg #[.int .i64 a1_0,.bool a1_1,.int .i64 a1_2,.string a1_3,.slice A1_4 l1_4.length c1_4,.slice A1_5 l1_5.length c1_5],.string (rdOf ByteArray.empty l0_4 x5_1)] (by rfl) rfl rfl ap_ ?_
      with_reducible refine (spec_JMember.calls k1 a1_0 a1_1 a1_2 a1_3 _ _ l1_4 _ _ l1_5 (rdOf ByteArray.empty l0_4 x5_1) t177 _ ?side1 ?side2 ?side3 ?side4 A7.out).mono ?_
      (case side1=>repeat (first|exact (Kd.C_below HR1_4.out HB.out)|(with_reducible refine Kd.C_alloc ?_ _)|(with_reducible refine Kd.C_drewN ?_ _)|(with_reducible refine Kd.C_drew ?_)))
      (case side2=>exact HC1_4.out)
      (case side3=>repeat (first|exact (Kd.C_below HR1_5.out HB.out)|(with_reducible refine Kd.C_alloc ?_ _)|(with_reducible refine Kd.C_drewN ?_ _)|(with_reducible refine Kd.C_drew ?_)))
      (case side4=>exact HC1_5.out)
      rintro e w16 ⟨rfl,hb⟩
      refine ⟨_,rfl,?_⟩
      have n0_:=asd_ (blk_below (g:=gb174) (o:= .cells #[.int .i64 a0_0,.bool a0_1,.int .i64 a0_2,.string a0_3,.slice (some ad176) l0_4.length c0_4,.slice A0_5 l0_5.length c0_5] 25 (0,0)) bk_ hb)
      have n1_:=asd_ (blk_below (g:=gb175) (o:= .cells #[.int .i64 a1_0,.bool a1_1,.int .i64 a1_2,.string a1_3,.slice A1_4 l1_4.length c1_4,.slice A1_5 l1_5.length c1_5] 25 (0,0)) bk_ hb)
      have n2_:=asd_ (below_step wb_ hb)
      clear BK174
      clear BK175
      clear HB
      have BK174:=n0_
      have BK175:=n1_
      have HB:=n2_
      clear n0_ n1_ n2_
      (try clear hb)
      (try clear hb2)
      (try clear hk)
      (try clear hi)
      refine hK.out _ _ ⟨(blk_cell BK175.out 0).trans rfl,(blk_cell BK175.out 1).trans rfl,(blk_cell BK175.out 2).trans rfl,(blk_cell BK175.out 3).trans rfl,(blk_cell BK175.out 4).trans rfl,(blk_cell BK175.out 5).trans rfl,(blk_cell BK174.out 0).trans rfl,(blk_cell BK174.out 1).trans rfl,(blk_cell BK174.out 2).trans rfl,(blk_cell BK174.out 3).trans rfl,(blk_cell BK174.out 4).trans rfl,(blk_cell BK174.out 5).trans rfl,((HB.out.cell (World.block_lt_of_cell? w _ hw176_0)).trans hw176_0)⟩ (fun hHeld=> ?_)
      clear hK K
      refine norm_ (a':= ?_) ?_ ?_
      rotate_left
      ·show Act.put _ (some 19) _=_
       simp only [Act.put,List.setIfInBounds_toArray,List.set_cons_zero,List.set_cons_succ,i64_w,i32_w]
       rfl
      refine pure_ (i:=7) (N:=some 20) (v:= ?_) (a':= ?_) #[true,true,true,true,true,true,true,true] rfl rfl (any_of HT_.out kr_) (fun _ _ _ h=>h) (Or.inl ⟨by rfl,?_⟩) ?_ ?_
      rotate_left
      ·intro w'
       go_simp
       with_reducible rfl
      rotate_left
      ·simp only [Act.put,List.setIfInBounds_toArray,List.set_cons_zero,List.set_cons_succ,i64_w,i32_w]
       rfl
      refine done_ (done_of HT_.out kr_) ?_
      try go_wp2
      go_roundg k1
      case measure=>have:=HK1.out;omega
      case rel=>exact ⟨(wrap64 (x5_1 + 1)),r1_,H',⟨by have:=HK1.out;omega⟩,⟨bk_⟩,⟨bk_⟩,⟨wb_⟩⟩
    ·rw [if_neg c6] at H
     exact absurd H (by simp)
   ·rw [if_neg c5] at H
    have c5b0:=decide_eq_false c5
    clear c5
    obtain rfl:=Option.some.inj H
    have hnb17:=NB174_175.out
    have hnc17:=NB175_174.out
    have hc18_0:=cb_ BK174.out
    go_wp2
    go_ret
    exact ⟨er_,wb_⟩
def spec_jBegins.l0:Nat→List ByteArray→List ByteArray→Int→Option (Bool)
 |0,_,_,_=>none
 |k + 1,x0,x1,x5=>if x5 < (x1.length:Int) then (if x5 ≥ (x0.length:Int) then (some false) else (if 0≤x5 then (if x5 < (x0.length:Int) then (if (rdOf ByteArray.empty x0 x5).toList=(rdOf ByteArray.empty x1 x5).toList then (spec_jBegins.l0 k x0 x1 (wrap64 (x5 + 1))) else (some false)) else (none)) else (none))) else (some true)
def spec_jBegins.f (k:Nat) (l0:List ByteArray) (l1:List ByteArray):Option (Bool):=spec_jBegins.l0 k l0 l1 0
theorem spec_jBegins.calls (k:Nat) (A0:Option Addr) (c0:Nat) (l0:List ByteArray) (A1:Option Addr) (c1:Nat) (l1:List ByteArray) (r:Bool) (w:World) (hr0:Kd.C Kd.string w A0 l0.length l0) (hc0:l0.length≤c0) (hr1:Kd.C Kd.string w A1 l1.length l1) (hc1:l1.length≤c1) (h:spec_jBegins.f k l0 l1=some r):
  Calls Tryz.prog 44 #[.slice A0 l0.length c0,.slice A1 l1.length c1] w fun e w'=>e= .returned (.bool r)∧Drawn0 w w':=by
 have HR0:=asd_ hr0
 have HC0:=asd_ hc0
 clear hr0 hc0
 have HR1:=asd_ hr1
 have HC1:=asd_ hc1
 clear hr1 hc1
 have H:(spec_jBegins.l0 k l0 l1 0)=some r:=h
 clear h
 have H':=asd_ H
 clear H
 go_enter Tryz.func44,Tryz.ntmps44
 go_wp2
 repeat (go_quiet (fail);try go_wp2)
 go_loopg [5] k (fun kq v5 w'=>∃ (x5_1:Int),v5= .int .i64 x5_1∧Aside0 (spec_jBegins.l0 kq l0 l1 x5_1=some r)∧Aside0 (kq≤k)∧Drawn0 w w')
 case atStart=>exact ⟨(0),r1_,H',⟨Nat.le_refl _⟩,dr_⟩
 case round=>
  clear H'
  obtain ⟨x5_1,rfl,HA,HK1,⟨m1,rfl⟩⟩:=hrel
  cases gk with
  |zero=>exact absurd HA.out (by simp [spec_jBegins.l0])
  |succ k1=>
   have H:=HA.out
   clear HA
   simp only [spec_jBegins.l0] at H
   by_cases c3:x5_1 < (l1.length:Int)
   ·rw [if_pos c3] at H
    have c3b0:=decide_eq_true c3
    clear c3
    by_cases c4:x5_1 ≥ (l0.length:Int)
    ·rw [if_pos c4] at H
     have c4b0:=decide_eq_true c4
     clear c4
     obtain rfl:=Option.some.inj H
     go_wp2
     repeat (go_quiet (fail);try go_wp2)
     go_ret
     exact ⟨r1_,dr_⟩
    ·rw [if_neg c4] at H
     have c4b0:=decide_eq_false c4
     clear c4
     by_cases c5:0≤x5_1
     ·rw [if_pos c5] at H
      have c5b0:=decide_eq_true c5
      clear c5
      by_cases c6:x5_1 < (l0.length:Int)
      ·rw [if_pos c6] at H
       have c6b0:=decide_eq_true c6
       clear c6
       by_cases c7:(rdOf ByteArray.empty l0 x5_1).toList=(rdOf ByteArray.empty l1 x5_1).toList
       ·rw [if_pos c7] at H
        have c7b0:=beq_iff_eq.mpr c7
        have c7b1:=bne_eq_false_iff_eq.mpr c7
        clear c7
        have H':=asd_ H
        clear H
        have p178:0≤(x5_1:Int):=of_decide_eq_true as_
        have q178:x5_1 < (l0.length:Int):=of_decide_eq_true as_
        obtain ⟨ad178,e178,hx178_0⟩:=Kd.at_string HR0.out x5_1 p178 q178
        cases e178
        replace p178:=eq_true p178
        replace q178:=eq_true q178
        have p179:0≤(x5_1:Int):=of_decide_eq_true as_
        have q179:x5_1 < (l1.length:Int):=of_decide_eq_true as_
        obtain ⟨ad179,e179,hx179_0⟩:=Kd.at_string HR1.out x5_1 p179 q179
        cases e179
        replace p179:=eq_true p179
        replace q179:=eq_true q179
        go_wp2
        repeat (go_quiet (fail);try go_wp2)
        go_roundg k1
        case measure=>have:=HK1.out;omega
        case rel=>exact ⟨(wrap64 (x5_1 + 1)),r1_,H',⟨by have:=HK1.out;omega⟩,dr_⟩
       ·rw [if_neg c7] at H
        have c7b0:=beq_eq_false_iff_ne.mpr c7
        have c7b1:=bne_iff_ne.mpr c7
        obtain rfl:=Option.some.inj H
        have p178:0≤(x5_1:Int):=of_decide_eq_true as_
        have q178:x5_1 < (l0.length:Int):=of_decide_eq_true as_
        obtain ⟨ad178,e178,hx178_0⟩:=Kd.at_string HR0.out x5_1 p178 q178
        cases e178
        replace p178:=eq_true p178
        replace q178:=eq_true q178
        have p179:0≤(x5_1:Int):=of_decide_eq_true as_
        have q179:x5_1 < (l1.length:Int):=of_decide_eq_true as_
        obtain ⟨ad179,e179,hx179_0⟩:=Kd.at_string HR1.out x5_1 p179 q179
        cases e179
        replace p179:=eq_true p179
        replace q179:=eq_true q179
        go_wp2
        repeat (go_quiet (fail);try go_wp2)
        go_ret
        exact ⟨r1_,dr_⟩
      ·rw [if_neg c6] at H
       exact absurd H (by simp)
     ·rw [if_neg c5] at H
      exact absurd H (by simp)
   ·rw [if_neg c3] at H
    have c3b0:=decide_eq_false c3
    clear c3
    obtain rfl:=Option.some.inj H
    go_wp2
    repeat (go_quiet (fail);try go_wp2)
    go_ret
    exact ⟨r1_,dr_⟩
def impl_copied.f (l0:List ByteArray):Option (List ByteArray):=(some (([]:List ByteArray):List ByteArray)).bind fun y180=>(if y180.length + l0.length < 8796093022208 then (some (y180 ++ l0)) else (none))
theorem impl_copied.calls (A0:Option Addr) (c0:Nat) (l0:List ByteArray) (r:List ByteArray) (w:World) (hr0:Kd.C Kd.string w A0 l0.length l0) (hc0:l0.length≤c0) (h:impl_copied.f l0=some r):
  Calls Tryz.prog 55 #[.slice A0 l0.length c0] w fun e w'=>∃ v0_:Value,e= .returned (v0_)∧Kd.R Kd.string 9 w' w.heap.size (fun _=>True) v0_ r∧Below w.heap.size w w':=by
 have HR0:=asd_ hr0
 have HC0:=asd_ hc0
 clear hr0 hc0
 have HB:=asd_ (Below.refl w.heap.size w)
 have H:((some (([]:List ByteArray):List ByteArray)).bind fun y180=>(if y180.length + l0.length < 8796093022208 then (some (y180 ++ l0)) else (none)))=some r:=h
 clear h
 obtain ⟨y180,hy180⟩:∃ y_:List ByteArray,y_=(([]:List ByteArray)):=⟨_,rfl⟩
 replace H:(if y180.length + l0.length < 8796093022208 then (some (y180 ++ l0)) else (none))=some r:=by first|(rw [hy180];with_reducible exact H)|(have H2_:=(Option.bind_some _ _).symm.trans H;rw [hy180];with_reducible exact H2_)|(have H2_:=(Option.bind_some _ _).symm.trans H;with_reducible exact H2_)|with_reducible exact H|(rw [hy180];exact H)|exact H
 have Ny180:=asd_ hy180
 clear hy180
 by_cases c2:y180.length + l0.length < 8796093022208
 ·rw [if_pos c2] at H
  have LMc2:=asd_ c2
  clear c2
  obtain ⟨y183,hy183⟩:∃ y_:List ByteArray,y_=(y180 ++ l0):=⟨_,rfl⟩
  replace H:(some y183)=some r:=by first|(rw [hy183];with_reducible exact H)|(have H2_:=(Option.bind_some _ _).symm.trans H;rw [hy183];with_reducible exact H2_)|(have H2_:=(Option.bind_some _ _).symm.trans H;with_reducible exact H2_)|with_reducible exact H|(rw [hy183];exact H)|exact H
  have Ny183:=asd_ hy183
  clear hy183
  obtain rfl:=Option.some.inj H
  go_enter Tryz.func55,Tryz.ntmps55
  go_wp2_with (first|((with_reducible refine gate_dst (N:=3) rfl ?_);refine Kd.R_lit Kd.string _ 9 ?hg (N:=3) ?hd (xs:=([]:List ByteArray)) (inner:=[]) (ok:=fun _=>True) (okp:=fun _=>True) ?hr ?hp (fun _ hk=>hk) trivial (Below.refl _ _) (Nat.le_refl _) (by simp) ?_;(case hd=>rfl);(case hg=>rfl);(case hr=>first|(go_simp;done)|(go_simp;rfl));(case hp=>exact (Reps.none _ _));intro v181 w3 ho4 hb hg_ hnew_;clear hg_ hnew_;(first|rw [← Ny180.out] at ho4|(simp only [Int.reduceToNat] at ho4;rw [← Ny180.out] at ho4));have n0_:=asd_ (Kd.R_lower ho4 (below_size wb_));have n1_:=asd_ (below_step wb_ hb);clear HB;have HO182:=n0_;have HB:=n1_;clear n0_ n1_;clear hb ho4)|((with_reducible refine gate_builtin (b:= .append) (xs:=#[.tmp 3,.tmp 4]) rfl ?_);at_builtin;refine Kd.R_append_rows Kd.string (w0:=w) w.heap.size rfl (.tmp 3) (.tmp 4) 22 9 (.string ⟨#[]⟩) 16 rfl Tryz.underlying22 info9 rfl (by decide) (by omega) v181 y180 l0 _ _ _ (fun _=>True) (fun _=>False) rfl rfl ?aO ?aR (fun _ _ h=>h) (fun _ h=>h.elim) ?aF ?aB ?aS ?aL ?_;(case aR=>repeat (first|exact (Kd.C_below HR0.out HB.out)|(with_reducible refine Kd.C_alloc ?_ _)|(with_reducible refine Kd.C_drewN ?_ _)|(with_reducible refine Kd.C_drew ?_)));(case aB=>exact wb_);(case aF=>exact (fun _ _=>trivial));(case aO=>exact (by (with_reducible repeat (first|apply Kd.R_alloc|apply Kd.R_drewN|apply Kd.R_drew));exact HO182.out));(case aS=>exact (below_size wb_));(case aL=>have:=LMc2.out;omega);intro v184 w5 ho hb hg hat;rw [← Ny183.out] at ho;have n0_:=asd_ (hb);have n1_:=asd_ (ho);clear HB;clear HO182;have HB:=n0_;have HO185:=n1_;clear n0_ n1_;clear ho hb hg hat))
  go_ret
  exact ⟨_,er_,by (with_reducible repeat (first|apply Kd.R_alloc|apply Kd.R_drewN|apply Kd.R_drew));exact HO185.out,wb_⟩
 ·rw [if_neg c2] at H
  exact absurd H (by simp)
end Go.Proofs.YtkphbhncpdcbeaaGreatDoor.PJT
