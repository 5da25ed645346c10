/- Part. -/
import Derived.Test.YtkphbhncpdcbeaaGreatDoorQAX
import Derived.Great.Walk
set_option linter.unusedVariables false
set_option linter.unusedSimpArgs false
set_option maxHeartbeats 8000000
set_option maxRecDepth 100000
namespace Go.Proofs.YtkphbhncpdcbeaaGreatDoor.J
open Go.RowKit YtkphbhncpdcbeaaGreatDoorW.PrintWords YtkphbhncpdcbeaaGreatDoorW.PrintLast YtkphbhncpdcbeaaGreatDoorW.PrintMore PJT
theorem judge_all (w:World) (gn cS:Nat) (x:S25) (A4 A5:Option Addr) (c4 c5:Nat) (hx:Rep w x A4 c4 A5 c5) (hV:V x) (n:Nd) (hk0:n.kind=0) (hrq:n.req=nilS) (hne:n.nee=nilS) (hn1:n.cells.all (·.oneCell')=true) (hS:w.heap[gn]? =some (row n.cells 45)) (b p f:Bool)
  (h31:∀ W,Below w.heap.size w W→Calls Tryz.prog 31 #[.agg n.cells,.agg (jvc x A4 A5 c4 c5)] W (rb (.bool b) W))
  (hP:x.f0=3→∀ W,Below w.heap.size w W→Calls Tryz.prog 37 #[.string x.f3,.agg #[.bool n.pi,n.pt]] W (rb (.bool p) W)) (hF:x.f0=3→∀ W,Below w.heap.size w W→Calls Tryz.prog 37 #[.string x.f3,.agg #[.bool n.fi,n.ft]] W (rb (.bool f) W)):
  Calls Tryz.prog 20 #[.int .i64 2020,.agg #[.slice (some ⟨gn,0,none⟩) 1 cS,nilS],.int .i64 1,.agg (jvc x A4 A5 c4 c5)] w fun e w'=>∃ v,e= .returned (.tuple #[.bool (b&&(x.f0 != 3||(p&&f))),v])∧Below w.heap.size w w':=by
 obtain ⟨k0,k5,k2,n3,n4,n5,t4,ee,sub⟩:=id hV
 have e2:(x.f0 == 2)=false:=beq_eq_false_iff_ne.2 k2
 by_cases h5:x.f0=5
 ·have e3:(x.f0 == 3)=false:=by rw [h5];rfl
  have e4:(x.f0 == 4)=false:=by rw [h5];rfl
  have e5:(x.f0 == 5)=true:=by rw [h5];rfl
  have ev:(b&&(x.f0 != 3||(p&&f)))=b:=by rw [h5];simp
  rw [ev]
  cases b with
  |true=>exact jv_object_true w nilS n gn cS x A4 A5 c4 c5 hk0 e2 e3 e4 e5 n4 (Nat.le_of_eq (ee h5)) hn1 hS n5 h31 hx (fun W h=>needs_none W n x A4 A5 c4 c5 hrq hne (hx.below h) n4)
  |false=>exact jv_object_false w nilS n gn cS x A4 A5 c4 c5 hk0 e2 e3 e4 e5 n4 (Nat.le_of_eq (ee h5)) hn1 hS n5 h31 hx (fun W h=>needs_none W n x A4 A5 c4 c5 hrq hne (hx.below h) n4)
 ·have e5:(x.f0 == 5)=false:=beq_eq_false_iff_ne.2 h5
  by_cases h3:x.f0=3
  ·have e3:(x.f0 == 3)=true:=by rw [h3];rfl
   have e4:(x.f0 == 4)=false:=by rw [h3];rfl
   have ev:(b&&(x.f0 != 3||(p&&f)))=(b&&(p&&f)):=by rw [h3];simp
   rw [ev]
   have hP:=hP h3
   have hF:=hF h3
   cases b with
   |false=>exact jv_text_false w nilS n gn cS x A4 A5 c4 c5 hk0 e2 e3 e4 e5 hn1 hS n5 h31
   |true=>
    cases p with
    |false=>exact jv_text_fx w nilS n gn cS x A4 A5 c4 c5 hk0 e2 e3 e4 e5 hn1 hS n5 h31 n3 hP
    |true=>
     cases f with
     |true=>exact jv_text_tt w nilS n gn cS x A4 A5 c4 c5 hk0 e2 e3 e4 e5 hn1 hS n5 h31 n3 hP hF
     |false=>exact jv_text_tf w nilS n gn cS x A4 A5 c4 c5 hk0 e2 e3 e4 e5 hn1 hS n5 h31 n3 hP hF
  ·have e3:(x.f0 == 3)=false:=beq_eq_false_iff_ne.2 h3
   have ev:(b&&(x.f0 != 3||(p&&f)))=b:=by simp [h3]
   rw [ev]
   by_cases h4:x.f0=4
   ·have e4:(x.f0 == 4)=true:=by rw [h4];rfl
    cases b with
    |true=>exact jv_array_true w nilS n gn cS x A4 A5 c4 c5 hk0 e2 e3 e4 hn1 hS n5 h31 hx (fun W h=>twins_ok W hV (hx.below h))
    |false=>exact jv_array_false w nilS n gn cS x A4 A5 c4 c5 hk0 e2 e3 e4 hn1 hS n5 h31 hx (fun W h=>twins_ok W hV (hx.below h))
   ·have e4:(x.f0 == 4)=false:=beq_eq_false_iff_ne.2 h4
    cases b with
    |true=>exact jv_other_true w nilS n gn cS x A4 A5 c4 c5 hk0 e2 e3 e4 e5 hn1 hS n5 h31
    |false=>exact jv_other_false w nilS n gn cS x A4 A5 c4 c5 hk0 e2 e3 e4 e5 hn1 hS n5 h31
theorem eq_form {p:Prop} {f:FuncId} {args:Array Value} {W:World} (h:Calls Tryz.prog f args W fun e w'=>∃ r:Bool,e= .returned (.bool r)∧(r=true↔p)∧Below W.heap.size W w') (b:Bool) (hb:b=true↔p):Calls Tryz.prog f args W (rb (.bool b) W):=by
 refine h.mono ?_
 rintro e w' ⟨r,rfl,hr,hbw⟩
 have e:r=b:=by
  have h:=hr.trans hb.symm
  cases r<;>cases b<;>simp_all
 subst e
 exact ⟨rfl,hbw⟩
theorem judge_const (w:World) (gn cS:Nat) (x:S25) (A4 A5:Option Addr) (c4 c5:Nat) (hx:Rep w x A4 c4 A5 c5) (hV:V x) (gq cq:Nat) (c:S25) (B4 B5:Option Addr) (d4 d5:Nat) (hq:w.heap[gq]? =some (row (jvc c B4 B5 d4 d5) 25)) (hxc:Rep w c B4 d4 B5 d5) (hVc:V c) (hS:w.heap[gn]? =some (row (ndC gq cq) 45)) (b:Bool) (hb:b=true↔JE x c):Calls Tryz.prog 20 #[.int .i64 2020,.agg #[.slice (some ⟨gn,0,none⟩) 1 cS,nilS],.int .i64 1,.agg (jvc x A4 A5 c4 c5)] w fun e w'=>∃ v,e= .returned (.tuple #[.bool b,v])∧Below w.heap.size w w':=by
 have h:=judge_all w gn cS x A4 A5 c4 c5 hx hV ⟨0,false,nilS,.slice (some ⟨gq,0,none⟩) 1 cq,false,nilS,false,nilS,nilS,nilS⟩ rfl rfl rfl (by simp [Nd.cells,Value.oneCell']) hS b true true (fun W h=>values_const W gq cq x A4 A5 c4 c5 c B4 B5 d4 d5 (blk_below hq h) b (fun W1 h1=>eq_form (jequals_ok hV c hVc W1 A4 A5 B4 B5 c4 c5 d4 d5 (hx.below (below_step h h1)) (hxc.below (below_step h h1))) b hb)) (fun _ W _=>taken_no W _) (fun _ W _=>taken_no W _)
 simpa using h
theorem judge_enum (w:World) (gn cS:Nat) (x:S25) (A4 A5:Option Addr) (c4 c5:Nat) (hx:Rep w x A4 c4 A5 c5) (hV:V x) (AE:Option Addr) (l0:List S25) (cE:Nat) (he:Kd.C k25 w AE l0.length l0) (hn:l0.length≤LM) (hv:∀ y∈l0,V y) (hS:w.heap[gn]? =some (row (ndE AE l0 cE) 45)) (b:Bool) (hb:b=true↔∃ y∈l0,JE x y):Calls Tryz.prog 20 #[.int .i64 2020,.agg #[.slice (some ⟨gn,0,none⟩) 1 cS,nilS],.int .i64 1,.agg (jvc x A4 A5 c4 c5)] w fun e w'=>∃ v,e= .returned (.tuple #[.bool b,v])∧Below w.heap.size w w':=by
 have hl:∀ W,Below w.heap.size w W→Calls Tryz.prog 60 #[.agg (jvc x A4 A5 c4 c5),.slice AE l0.length cE] W (rb (.bool b) W):=fun W h=>eq_form (listed_ok W x A4 A5 c4 c5 AE l0 cE (Kd.C_below he h) hn (fun y=>JE x y) (fun y hy W1 B4 B5 d4 d5 h1 hry=>jequals_ok hV y (hv y hy) W1 A4 A5 B4 B5 c4 c5 d4 d5 (hx.below (below_step h h1)) hry)) b hb
 have h:=judge_all w gn cS x A4 A5 c4 c5 hx hV ⟨0,true,.slice AE l0.length cE,nilS,false,nilS,false,nilS,nilS,nilS⟩ rfl rfl rfl (by simp [Nd.cells,Value.oneCell']) hS b true true (fun W h=>by
  cases b with
  |true=>exact values_enum_true W x A4 A5 c4 c5 AE l0 cE (fun W1 h1=>hl W1 (below_step h h1))
  |false=>exact values_enum_false W x A4 A5 c4 c5 AE l0 cE (fun W1 h1=>hl W1 (below_step h h1))) (fun _ W _=>taken_no W _) (fun _ W _=>taken_no W _)
 simpa using h
theorem judge_pattern (w:World) (gn cS:Nat) (x:S25) (A4 A5:Option Addr) (c4 c5:Nat) (hx:Rep w x A4 c4 A5 c5) (hV:V x) {A:Option Addr} {c:Nat} (names:List ByteArray) (hr:Kd.C Kd.string w A names.length names) (hc:names.length≤c) (hn:names.length≤LM) (hS:w.heap[gn]? =some (row (ndP true A names c) 45)) (b:Bool) (hb:b=true↔x.f3∈names):Calls Tryz.prog 20 #[.int .i64 2020,.agg #[.slice (some ⟨gn,0,none⟩) 1 cS,nilS],.int .i64 1,.agg (jvc x A4 A5 c4 c5)] w fun e w'=>∃ v,e= .returned (.tuple #[.bool (x.f0 != 3||b),v])∧Below w.heap.size w w':=by
 have h:=judge_all w gn cS x A4 A5 c4 c5 hx hV ⟨0,false,nilS,nilS,true,.slice A names.length c,false,nilS,nilS,nilS⟩ rfl rfl rfl (by simp [Nd.cells,Value.oneCell']) hS true b true (fun W h=>values_none W ⟨0,false,nilS,nilS,true,.slice A names.length c,false,nilS,nilS,nilS⟩ rfl rfl x A4 A5 c4 c5) (fun _ W h=>taken_is W _ A names c (Kd.C_below hr h) hc hn b hb) (fun _ W _=>taken_no W _)
 simpa using h
theorem judge_format (w:World) (gn cS:Nat) (x:S25) (A4 A5:Option Addr) (c4 c5:Nat) (hx:Rep w x A4 c4 A5 c5) (hV:V x) {A:Option Addr} {c:Nat} (names:List ByteArray) (hr:Kd.C Kd.string w A names.length names) (hc:names.length≤c) (hn:names.length≤LM) (hS:w.heap[gn]? =some (row (ndF true A names c) 45)) (b:Bool) (hb:b=true↔x.f3∈names):Calls Tryz.prog 20 #[.int .i64 2020,.agg #[.slice (some ⟨gn,0,none⟩) 1 cS,nilS],.int .i64 1,.agg (jvc x A4 A5 c4 c5)] w fun e w'=>∃ v,e= .returned (.tuple #[.bool (x.f0 != 3||b),v])∧Below w.heap.size w w':=by
 have h:=judge_all w gn cS x A4 A5 c4 c5 hx hV ⟨0,false,nilS,nilS,false,nilS,true,.slice A names.length c,nilS,nilS⟩ rfl rfl rfl (by simp [Nd.cells,Value.oneCell']) hS true true b (fun W h=>values_none W ⟨0,false,nilS,nilS,false,nilS,true,.slice A names.length c,nilS,nilS⟩ rfl rfl x A4 A5 c4 c5) (fun _ W _=>taken_no W _) (fun _ W h=>taken_is W _ A names c (Kd.C_below hr h) hc hn b hb)
 simpa using h
theorem countless_list (w:World) (AE:Option Addr) (l0:List S25) (cE:Nat) (he:Kd.C k25 w AE l0.length l0) (hn:l0.length≤LM) (PP QQ:S25→Bool)
  (hT:∀ y∈l0,∀ W B4 B5 d4 d5,Below w.heap.size w W→Rep W y B4 d4 B5 d5→Calls Tryz.prog 12 #[.agg (jvc y B4 B5 d4 d5)] W (rb (.bool (PP y)) W))
  (hU:∀ y∈l0,∀ W B4 B5 d4 d5,Below w.heap.size w W→Rep W y B4 d4 B5 d5→Calls Tryz.prog 13 #[.agg (jvc y B4 B5 d4 d5)] W (rb (.bool (QQ y)) W)):
  Calls Tryz.prog 7 #[.slice AE l0.length cE] w (EqP (∀ y∈l0,PP y=true∧QQ y=true) w):=by
 have He:=asd_ he
 have HT:=asd_ hT
 have HU:=asd_ hU
 have Hn:=asd_ hn
 clear he hT hU hn
 have HK:=st0_ w
 go_enter Tryz.func7,Tryz.ntmps7
 go_wp2_with fail
 go_loopg [3] l0.length (fun kq v3 w'=>∃ i:Int,v3= .int .i64 i∧0≤i∧i + kq=l0.length∧Aside0 (∀ j:Nat,(j:Int) < i→PP (rd_T25 l0 j)=true∧QQ (rd_T25 l0 j)=true)∧Aside0 (At w [] w'))
 case atStart=>exact ⟨0,rfl,by omega,by omega,⟨fun j hj=>absurd hj (by omega)⟩,⟨at_⟩⟩
 case round=>
  clear HK
  obtain ⟨i,rfl,hi0,hik,HP,HK⟩:=hrel
  cases gk with
  |zero=>
   have ht:decide (i < (l0.length:Int))=false:=decide_eq_false (by omega)
   go_wp2_with fail
   go_ret
   unfold EqP
   exact ⟨_,rfl,iff_of_true rfl (fun y hy=>by obtain ⟨j,hj,e⟩:=List.mem_iff_getElem.1 hy;have h:=HP.out j (by omega);rw [rd_get hj,e] at h;exact h),be_⟩
  |succ kk=>
   have ht:decide (i < (l0.length:Int))=true:=decide_eq_true (by omega)
   have hil:i < (l0.length:Int):=by omega
   obtain ⟨adp,Ep4,ep4,Ep5,ep5,eqp,h0p,h1p,h2p,h3p,h4p,h5p,m4,n4,m5,n5⟩:=at_T25 He.out i hi0 hil
   subst eqp
   have Hcp:=asd_ (And.intro h0p (And.intro h1p (And.intro h2p (And.intro h3p (And.intro h4p h5p)))));have HNp:=asd_ (And.intro m4 (And.intro n4 (And.intro m5 n5)));clear m4 n4 m5 n5 h0p h1p h2p h3p h4p h5p
   have HY1:=asd_ (rd_T25_in hi0 hil);have Hik:=asd_ hik;have Hi0:=asd_ hi0;have Hil:=asd_ hil
   have p1:=eq_true hi0;have p2:=eq_true hil
   clear hik hi0 hil
   cases hp:PP (rd_T25 l0 i)
   case false=>
    have Hp:=asd_ hp;clear hp
    have hx0:World.cell? wr (adp.add (i.toNat * 6))=some (.int .i64 (rd_T25 l0 i).f0):=((HK.out.b.cell (World.block_lt_of_cell? w _ Hcp.out.1)).trans Hcp.out.1);have hx1:World.cell? wr ⟨(adp.add (i.toNat * 6)).block,(adp.add (i.toNat * 6)).off + 1,none⟩=some (.bool (rd_T25 l0 i).f1):=((HK.out.b.cell (World.block_lt_of_cell? w _ Hcp.out.2.1)).trans Hcp.out.2.1);have hx2:World.cell? wr ⟨(adp.add (i.toNat * 6)).block,(adp.add (i.toNat * 6)).off + 2,none⟩=some (.int .i64 (rd_T25 l0 i).f2):=((HK.out.b.cell (World.block_lt_of_cell? w _ Hcp.out.2.2.1)).trans Hcp.out.2.2.1);have hx3:World.cell? wr ⟨(adp.add (i.toNat * 6)).block,(adp.add (i.toNat * 6)).off + 3,none⟩=some (.string (rd_T25 l0 i).f3):=((HK.out.b.cell (World.block_lt_of_cell? w _ Hcp.out.2.2.2.1)).trans Hcp.out.2.2.2.1);have hx4:World.cell? wr ⟨(adp.add (i.toNat * 6)).block,(adp.add (i.toNat * 6)).off + 4,none⟩=some (.slice Ep4 (rd_T25 l0 i).f4.length ep4):=((HK.out.b.cell (World.block_lt_of_cell? w _ Hcp.out.2.2.2.2.1)).trans Hcp.out.2.2.2.2.1);have hx5:World.cell? wr ⟨(adp.add (i.toNat * 6)).block,(adp.add (i.toNat * 6)).off + 5,none⟩=some (.slice Ep5 (rd_T25 l0 i).f5.length ep5):=((HK.out.b.cell (World.block_lt_of_cell? w _ Hcp.out.2.2.2.2.2)).trans Hcp.out.2.2.2.2.2)
    go_wp2_with (first|((with_reducible refine gd_ 14 ?_);refine cl_ #[.agg (#[.int .i64 (rd_T25 l0 i).f0,.bool (rd_T25 l0 i).f1,.int .i64 (rd_T25 l0 i).f2,.string (rd_T25 l0 i).f3,.slice Ep4 (rd_T25 l0 i).f4.length ep4,.slice Ep5 (rd_T25 l0 i).f5.length ep5])] (.bool false) Tryz.func12 ((HT.out _ HY1.out _ _ _ _ _ HK.out.b ⟨Kd.C_below HNp.out.2.1 HK.out.b,HNp.out.1,Kd.C_below HNp.out.2.2.2 HK.out.b,HNp.out.2.2.1⟩).mono (fun e w' h=>by rw [Hp.out] at h;exact h)) ?_;intro wc14 HK1;replace HK:=asd_ HK1;clear HK1;clear hx0 hx1 hx2 hx3 hx4 hx5;have hx0:World.cell? wc14 (adp.add (i.toNat * 6))=some (.int .i64 (rd_T25 l0 i).f0):=((HK.out.b.cell (World.block_lt_of_cell? w _ Hcp.out.1)).trans Hcp.out.1);have hx1:World.cell? wc14 ⟨(adp.add (i.toNat * 6)).block,(adp.add (i.toNat * 6)).off + 1,none⟩=some (.bool (rd_T25 l0 i).f1):=((HK.out.b.cell (World.block_lt_of_cell? w _ Hcp.out.2.1)).trans Hcp.out.2.1);have hx2:World.cell? wc14 ⟨(adp.add (i.toNat * 6)).block,(adp.add (i.toNat * 6)).off + 2,none⟩=some (.int .i64 (rd_T25 l0 i).f2):=((HK.out.b.cell (World.block_lt_of_cell? w _ Hcp.out.2.2.1)).trans Hcp.out.2.2.1);have hx3:World.cell? wc14 ⟨(adp.add (i.toNat * 6)).block,(adp.add (i.toNat * 6)).off + 3,none⟩=some (.string (rd_T25 l0 i).f3):=((HK.out.b.cell (World.block_lt_of_cell? w _ Hcp.out.2.2.2.1)).trans Hcp.out.2.2.2.1);have hx4:World.cell? wc14 ⟨(adp.add (i.toNat * 6)).block,(adp.add (i.toNat * 6)).off + 4,none⟩=some (.slice Ep4 (rd_T25 l0 i).f4.length ep4):=((HK.out.b.cell (World.block_lt_of_cell? w _ Hcp.out.2.2.2.2.1)).trans Hcp.out.2.2.2.2.1);have hx5:World.cell? wc14 ⟨(adp.add (i.toNat * 6)).block,(adp.add (i.toNat * 6)).off + 5,none⟩=some (.slice Ep5 (rd_T25 l0 i).f5.length ep5):=((HK.out.b.cell (World.block_lt_of_cell? w _ Hcp.out.2.2.2.2.2)).trans Hcp.out.2.2.2.2.2)))
    go_ret
    unfold EqP
    exact ⟨_,rfl,iff_of_false (by simp) (fun h=>by have h1:=(h _ HY1.out).1;rw [Hp.out] at h1;cases h1),be_⟩
   case true=>
    have Hp:=asd_ hp;clear hp
    cases hq:QQ (rd_T25 l0 i)
    case false=>
     have Hq:=asd_ hq;clear hq
     have hx0:World.cell? wr (adp.add (i.toNat * 6))=some (.int .i64 (rd_T25 l0 i).f0):=((HK.out.b.cell (World.block_lt_of_cell? w _ Hcp.out.1)).trans Hcp.out.1);have hx1:World.cell? wr ⟨(adp.add (i.toNat * 6)).block,(adp.add (i.toNat * 6)).off + 1,none⟩=some (.bool (rd_T25 l0 i).f1):=((HK.out.b.cell (World.block_lt_of_cell? w _ Hcp.out.2.1)).trans Hcp.out.2.1);have hx2:World.cell? wr ⟨(adp.add (i.toNat * 6)).block,(adp.add (i.toNat * 6)).off + 2,none⟩=some (.int .i64 (rd_T25 l0 i).f2):=((HK.out.b.cell (World.block_lt_of_cell? w _ Hcp.out.2.2.1)).trans Hcp.out.2.2.1);have hx3:World.cell? wr ⟨(adp.add (i.toNat * 6)).block,(adp.add (i.toNat * 6)).off + 3,none⟩=some (.string (rd_T25 l0 i).f3):=((HK.out.b.cell (World.block_lt_of_cell? w _ Hcp.out.2.2.2.1)).trans Hcp.out.2.2.2.1);have hx4:World.cell? wr ⟨(adp.add (i.toNat * 6)).block,(adp.add (i.toNat * 6)).off + 4,none⟩=some (.slice Ep4 (rd_T25 l0 i).f4.length ep4):=((HK.out.b.cell (World.block_lt_of_cell? w _ Hcp.out.2.2.2.2.1)).trans Hcp.out.2.2.2.2.1);have hx5:World.cell? wr ⟨(adp.add (i.toNat * 6)).block,(adp.add (i.toNat * 6)).off + 5,none⟩=some (.slice Ep5 (rd_T25 l0 i).f5.length ep5):=((HK.out.b.cell (World.block_lt_of_cell? w _ Hcp.out.2.2.2.2.2)).trans Hcp.out.2.2.2.2.2)
     go_wp2_with (first|((with_reducible refine gd_ 14 ?_);refine cl_ #[.agg (#[.int .i64 (rd_T25 l0 i).f0,.bool (rd_T25 l0 i).f1,.int .i64 (rd_T25 l0 i).f2,.string (rd_T25 l0 i).f3,.slice Ep4 (rd_T25 l0 i).f4.length ep4,.slice Ep5 (rd_T25 l0 i).f5.length ep5])] (.bool true) Tryz.func12 ((HT.out _ HY1.out _ _ _ _ _ HK.out.b ⟨Kd.C_below HNp.out.2.1 HK.out.b,HNp.out.1,Kd.C_below HNp.out.2.2.2 HK.out.b,HNp.out.2.2.1⟩).mono (fun e w' h=>by rw [Hp.out] at h;exact h)) ?_;intro wc14 HK1;replace HK:=asd_ HK1;clear HK1;clear hx0 hx1 hx2 hx3 hx4 hx5;have hx0:World.cell? wc14 (adp.add (i.toNat * 6))=some (.int .i64 (rd_T25 l0 i).f0):=((HK.out.b.cell (World.block_lt_of_cell? w _ Hcp.out.1)).trans Hcp.out.1);have hx1:World.cell? wc14 ⟨(adp.add (i.toNat * 6)).block,(adp.add (i.toNat * 6)).off + 1,none⟩=some (.bool (rd_T25 l0 i).f1):=((HK.out.b.cell (World.block_lt_of_cell? w _ Hcp.out.2.1)).trans Hcp.out.2.1);have hx2:World.cell? wc14 ⟨(adp.add (i.toNat * 6)).block,(adp.add (i.toNat * 6)).off + 2,none⟩=some (.int .i64 (rd_T25 l0 i).f2):=((HK.out.b.cell (World.block_lt_of_cell? w _ Hcp.out.2.2.1)).trans Hcp.out.2.2.1);have hx3:World.cell? wc14 ⟨(adp.add (i.toNat * 6)).block,(adp.add (i.toNat * 6)).off + 3,none⟩=some (.string (rd_T25 l0 i).f3):=((HK.out.b.cell (World.block_lt_of_cell? w _ Hcp.out.2.2.2.1)).trans Hcp.out.2.2.2.1);have hx4:World.cell? wc14 ⟨(adp.add (i.toNat * 6)).block,(adp.add (i.toNat * 6)).off + 4,none⟩=some (.slice Ep4 (rd_T25 l0 i).f4.length ep4):=((HK.out.b.cell (World.block_lt_of_cell? w _ Hcp.out.2.2.2.2.1)).trans Hcp.out.2.2.2.2.1);have hx5:World.cell? wc14 ⟨(adp.add (i.toNat * 6)).block,(adp.add (i.toNat * 6)).off + 5,none⟩=some (.slice Ep5 (rd_T25 l0 i).f5.length ep5):=((HK.out.b.cell (World.block_lt_of_cell? w _ Hcp.out.2.2.2.2.2)).trans Hcp.out.2.2.2.2.2))|((with_reducible refine gd_ 21 ?_);(try (refine gate_guard (by rfl) ?_;dsimp only));refine cl_ #[.agg (#[.int .i64 (rd_T25 l0 i).f0,.bool (rd_T25 l0 i).f1,.int .i64 (rd_T25 l0 i).f2,.string (rd_T25 l0 i).f3,.slice Ep4 (rd_T25 l0 i).f4.length ep4,.slice Ep5 (rd_T25 l0 i).f5.length ep5])] (.bool false) Tryz.func13 ((HU.out _ HY1.out _ _ _ _ _ HK.out.b ⟨Kd.C_below HNp.out.2.1 HK.out.b,HNp.out.1,Kd.C_below HNp.out.2.2.2 HK.out.b,HNp.out.2.2.1⟩).mono (fun e w' h=>by rw [Hq.out] at h;exact h)) ?_;intro wc21 HK1;replace HK:=asd_ HK1;clear HK1;clear hx0 hx1 hx2 hx3 hx4 hx5;have hx0:World.cell? wc21 (adp.add (i.toNat * 6))=some (.int .i64 (rd_T25 l0 i).f0):=((HK.out.b.cell (World.block_lt_of_cell? w _ Hcp.out.1)).trans Hcp.out.1);have hx1:World.cell? wc21 ⟨(adp.add (i.toNat * 6)).block,(adp.add (i.toNat * 6)).off + 1,none⟩=some (.bool (rd_T25 l0 i).f1):=((HK.out.b.cell (World.block_lt_of_cell? w _ Hcp.out.2.1)).trans Hcp.out.2.1);have hx2:World.cell? wc21 ⟨(adp.add (i.toNat * 6)).block,(adp.add (i.toNat * 6)).off + 2,none⟩=some (.int .i64 (rd_T25 l0 i).f2):=((HK.out.b.cell (World.block_lt_of_cell? w _ Hcp.out.2.2.1)).trans Hcp.out.2.2.1);have hx3:World.cell? wc21 ⟨(adp.add (i.toNat * 6)).block,(adp.add (i.toNat * 6)).off + 3,none⟩=some (.string (rd_T25 l0 i).f3):=((HK.out.b.cell (World.block_lt_of_cell? w _ Hcp.out.2.2.2.1)).trans Hcp.out.2.2.2.1);have hx4:World.cell? wc21 ⟨(adp.add (i.toNat * 6)).block,(adp.add (i.toNat * 6)).off + 4,none⟩=some (.slice Ep4 (rd_T25 l0 i).f4.length ep4):=((HK.out.b.cell (World.block_lt_of_cell? w _ Hcp.out.2.2.2.2.1)).trans Hcp.out.2.2.2.2.1);have hx5:World.cell? wc21 ⟨(adp.add (i.toNat * 6)).block,(adp.add (i.toNat * 6)).off + 5,none⟩=some (.slice Ep5 (rd_T25 l0 i).f5.length ep5):=((HK.out.b.cell (World.block_lt_of_cell? w _ Hcp.out.2.2.2.2.2)).trans Hcp.out.2.2.2.2.2)))
     go_ret
     unfold EqP
     exact ⟨_,rfl,iff_of_false (by simp) (fun h=>by have h1:=(h _ HY1.out).2;rw [Hq.out] at h1;cases h1),be_⟩
    case true=>
     have Hq:=asd_ hq;clear hq
     have hx0:World.cell? wr (adp.add (i.toNat * 6))=some (.int .i64 (rd_T25 l0 i).f0):=((HK.out.b.cell (World.block_lt_of_cell? w _ Hcp.out.1)).trans Hcp.out.1);have hx1:World.cell? wr ⟨(adp.add (i.toNat * 6)).block,(adp.add (i.toNat * 6)).off + 1,none⟩=some (.bool (rd_T25 l0 i).f1):=((HK.out.b.cell (World.block_lt_of_cell? w _ Hcp.out.2.1)).trans Hcp.out.2.1);have hx2:World.cell? wr ⟨(adp.add (i.toNat * 6)).block,(adp.add (i.toNat * 6)).off + 2,none⟩=some (.int .i64 (rd_T25 l0 i).f2):=((HK.out.b.cell (World.block_lt_of_cell? w _ Hcp.out.2.2.1)).trans Hcp.out.2.2.1);have hx3:World.cell? wr ⟨(adp.add (i.toNat * 6)).block,(adp.add (i.toNat * 6)).off + 3,none⟩=some (.string (rd_T25 l0 i).f3):=((HK.out.b.cell (World.block_lt_of_cell? w _ Hcp.out.2.2.2.1)).trans Hcp.out.2.2.2.1);have hx4:World.cell? wr ⟨(adp.add (i.toNat * 6)).block,(adp.add (i.toNat * 6)).off + 4,none⟩=some (.slice Ep4 (rd_T25 l0 i).f4.length ep4):=((HK.out.b.cell (World.block_lt_of_cell? w _ Hcp.out.2.2.2.2.1)).trans Hcp.out.2.2.2.2.1);have hx5:World.cell? wr ⟨(adp.add (i.toNat * 6)).block,(adp.add (i.toNat * 6)).off + 5,none⟩=some (.slice Ep5 (rd_T25 l0 i).f5.length ep5):=((HK.out.b.cell (World.block_lt_of_cell? w _ Hcp.out.2.2.2.2.2)).trans Hcp.out.2.2.2.2.2)
     go_wp2_with (first|((with_reducible refine gd_ 14 ?_);refine cl_ #[.agg (#[.int .i64 (rd_T25 l0 i).f0,.bool (rd_T25 l0 i).f1,.int .i64 (rd_T25 l0 i).f2,.string (rd_T25 l0 i).f3,.slice Ep4 (rd_T25 l0 i).f4.length ep4,.slice Ep5 (rd_T25 l0 i).f5.length ep5])] (.bool true) Tryz.func12 ((HT.out _ HY1.out _ _ _ _ _ HK.out.b ⟨Kd.C_below HNp.out.2.1 HK.out.b,HNp.out.1,Kd.C_below HNp.out.2.2.2 HK.out.b,HNp.out.2.2.1⟩).mono (fun e w' h=>by rw [Hp.out] at h;exact h)) ?_;intro wc14 HK1;replace HK:=asd_ HK1;clear HK1;clear hx0 hx1 hx2 hx3 hx4 hx5;have hx0:World.cell? wc14 (adp.add (i.toNat * 6))=some (.int .i64 (rd_T25 l0 i).f0):=((HK.out.b.cell (World.block_lt_of_cell? w _ Hcp.out.1)).trans Hcp.out.1);have hx1:World.cell? wc14 ⟨(adp.add (i.toNat * 6)).block,(adp.add (i.toNat * 6)).off + 1,none⟩=some (.bool (rd_T25 l0 i).f1):=((HK.out.b.cell (World.block_lt_of_cell? w _ Hcp.out.2.1)).trans Hcp.out.2.1);have hx2:World.cell? wc14 ⟨(adp.add (i.toNat * 6)).block,(adp.add (i.toNat * 6)).off + 2,none⟩=some (.int .i64 (rd_T25 l0 i).f2):=((HK.out.b.cell (World.block_lt_of_cell? w _ Hcp.out.2.2.1)).trans Hcp.out.2.2.1);have hx3:World.cell? wc14 ⟨(adp.add (i.toNat * 6)).block,(adp.add (i.toNat * 6)).off + 3,none⟩=some (.string (rd_T25 l0 i).f3):=((HK.out.b.cell (World.block_lt_of_cell? w _ Hcp.out.2.2.2.1)).trans Hcp.out.2.2.2.1);have hx4:World.cell? wc14 ⟨(adp.add (i.toNat * 6)).block,(adp.add (i.toNat * 6)).off + 4,none⟩=some (.slice Ep4 (rd_T25 l0 i).f4.length ep4):=((HK.out.b.cell (World.block_lt_of_cell? w _ Hcp.out.2.2.2.2.1)).trans Hcp.out.2.2.2.2.1);have hx5:World.cell? wc14 ⟨(adp.add (i.toNat * 6)).block,(adp.add (i.toNat * 6)).off + 5,none⟩=some (.slice Ep5 (rd_T25 l0 i).f5.length ep5):=((HK.out.b.cell (World.block_lt_of_cell? w _ Hcp.out.2.2.2.2.2)).trans Hcp.out.2.2.2.2.2))|((with_reducible refine gd_ 21 ?_);(try (refine gate_guard (by rfl) ?_;dsimp only));refine cl_ #[.agg (#[.int .i64 (rd_T25 l0 i).f0,.bool (rd_T25 l0 i).f1,.int .i64 (rd_T25 l0 i).f2,.string (rd_T25 l0 i).f3,.slice Ep4 (rd_T25 l0 i).f4.length ep4,.slice Ep5 (rd_T25 l0 i).f5.length ep5])] (.bool true) Tryz.func13 ((HU.out _ HY1.out _ _ _ _ _ HK.out.b ⟨Kd.C_below HNp.out.2.1 HK.out.b,HNp.out.1,Kd.C_below HNp.out.2.2.2 HK.out.b,HNp.out.2.2.1⟩).mono (fun e w' h=>by rw [Hq.out] at h;exact h)) ?_;intro wc21 HK1;replace HK:=asd_ HK1;clear HK1;clear hx0 hx1 hx2 hx3 hx4 hx5;have hx0:World.cell? wc21 (adp.add (i.toNat * 6))=some (.int .i64 (rd_T25 l0 i).f0):=((HK.out.b.cell (World.block_lt_of_cell? w _ Hcp.out.1)).trans Hcp.out.1);have hx1:World.cell? wc21 ⟨(adp.add (i.toNat * 6)).block,(adp.add (i.toNat * 6)).off + 1,none⟩=some (.bool (rd_T25 l0 i).f1):=((HK.out.b.cell (World.block_lt_of_cell? w _ Hcp.out.2.1)).trans Hcp.out.2.1);have hx2:World.cell? wc21 ⟨(adp.add (i.toNat * 6)).block,(adp.add (i.toNat * 6)).off + 2,none⟩=some (.int .i64 (rd_T25 l0 i).f2):=((HK.out.b.cell (World.block_lt_of_cell? w _ Hcp.out.2.2.1)).trans Hcp.out.2.2.1);have hx3:World.cell? wc21 ⟨(adp.add (i.toNat * 6)).block,(adp.add (i.toNat * 6)).off + 3,none⟩=some (.string (rd_T25 l0 i).f3):=((HK.out.b.cell (World.block_lt_of_cell? w _ Hcp.out.2.2.2.1)).trans Hcp.out.2.2.2.1);have hx4:World.cell? wc21 ⟨(adp.add (i.toNat * 6)).block,(adp.add (i.toNat * 6)).off + 4,none⟩=some (.slice Ep4 (rd_T25 l0 i).f4.length ep4):=((HK.out.b.cell (World.block_lt_of_cell? w _ Hcp.out.2.2.2.2.1)).trans Hcp.out.2.2.2.2.1);have hx5:World.cell? wc21 ⟨(adp.add (i.toNat * 6)).block,(adp.add (i.toNat * 6)).off + 5,none⟩=some (.slice Ep5 (rd_T25 l0 i).f5.length ep5):=((HK.out.b.cell (World.block_lt_of_cell? w _ Hcp.out.2.2.2.2.2)).trans Hcp.out.2.2.2.2.2)))
     go_roundg kk
     case measure=>exact Nat.lt_succ_self _
     case rel=>
      have e1:wrap64 (i + 1)=i + 1:=wup Hi0.out Hil.out Hn.out
      refine ⟨wrap64 (i + 1),rfl,by have:=Hi0.out;rw [e1];omega,by have:=Hik.out;rw [e1];omega,⟨fun j hj=> ?_⟩,⟨at_⟩⟩
      rw [e1] at hj
      by_cases hji:(j:Int) < i
      ·exact HP.out j hji
      ·have:(j:Int)=i:=by have:=Hi0.out;omega
       rw [this];exact ⟨Hp.out,Hq.out⟩
theorem fits7_false (w:World) (b:Bool) (A:Option Addr) (l:List ByteArray) (c:Nat) (h5:∀ W,Below w.heap.size w W→Calls Tryz.prog 5 #[.slice A l.length c] W (rb (.bool false) W)):Calls Tryz.prog 11 #[.agg #[.bool b,.slice A l.length c]] w (rb (.bool false) w):=by
 have H5:=asd_ h5
 clear h5
 have HK:=st0_ w
 go_enter Tryz.func11,Tryz.ntmps11
 go_wp2_with (first|((with_reducible refine gd_ 1 ?_);refine bx_ #[.bool b,.slice A l.length c] 37 ?_;clear HK;intro g1 wb1 HK Gg1;replace Bc:=ce1_ HK 0)|((with_reducible refine gd_ 5 ?_);refine cl_ #[.slice A l.length c] (.bool false) Tryz.func5 (H5.out _ HK.out.b) ?_;intro wc5 HK1;replace HK:=asd_ HK1;clear HK1;replace Bc:=ce1_ HK 0))
 go_ret
 exact ⟨rfl,be_⟩
theorem fits7_true (w:World) (b:Bool) (A:Option Addr) (l:List ByteArray) (c:Nat) (h5:∀ W,Below w.heap.size w W→Calls Tryz.prog 5 #[.slice A l.length c] W (rb (.bool true) W)):Calls Tryz.prog 11 #[.agg #[.bool b,.slice A l.length c]] w (rb (.bool true) w):=by
 have H5:=asd_ h5
 clear h5
 have HK:=st0_ w
 go_enter Tryz.func11,Tryz.ntmps11
 go_wp2_with (first|((with_reducible refine gd_ 1 ?_);refine bx_ #[.bool b,.slice A l.length c] 37 ?_;clear HK;intro g1 wb1 HK Gg1;replace Bc:=ce1_ HK 0)|((with_reducible refine gd_ 5 ?_);refine cl_ #[.slice A l.length c] (.bool true) Tryz.func5 (H5.out _ HK.out.b) ?_;intro wc5 HK1;replace HK:=asd_ HK1;clear HK1;replace Bc:=ce1_ HK 0))
 go_ret
 exact ⟨rfl,be_⟩
theorem fits7_of (w:World) (b:Bool) (A:Option Addr) (l:List ByteArray) (c:Nat) (p:Bool) (h5:∀ W,Below w.heap.size w W→Calls Tryz.prog 5 #[.slice A l.length c] W (rb (.bool p) W)):Calls Tryz.prog 11 #[.agg #[.bool b,.slice A l.length c]] w (rb (.bool p) w):=by
 cases p
 ·exact fits7_false w b A l c h5
 ·exact fits7_true w b A l c h5
theorem fits7_ok (b:Bool) (l:List ByteArray) (hn:l.length≤LM):∃ p:Bool,∀ (W:World) (A:Option Addr) (c:Nat),Kd.C Kd.string W A l.length l→l.length≤c→Calls Tryz.prog 11 #[.agg #[.bool b,.slice A l.length c]] W (rb (.bool p) W):=by
 obtain ⟨p,h⟩:=fits4_ok l hn
 refine ⟨p,fun W A c hr hc=> ?_⟩
 exact fits7_of W b A l c p (fun W1 h1=>h W1 A c (Kd.C_below hr h1) hc)
theorem countless_all (l:List S25) (hn:l.length≤LM) (hz:∀ y∈l,Sz y):∃ p:Bool,(p=true→∀ y∈l,V y)∧∀ (W:World) (A:Option Addr) (c:Nat),Kd.C k25 W A l.length l→Calls Tryz.prog 7 #[.slice A l.length c] W (rb (.bool p) W):=by
 classical
 let PP:S25→Bool:=fun y=>if h:Sz y then (proper_ok h).choose else false
 let QQ:S25→Bool:=fun y=>if h:Sz y then (counts_ok h).choose else false
 have eP:∀ y (h:Sz y),PP y=(proper_ok h).choose:=fun y h=>dif_pos h
 have eQ:∀ y (h:Sz y),QQ y=(counts_ok h).choose:=fun y h=>dif_pos h
 refine ⟨decide (∀ y∈l,PP y=true∧QQ y=true),fun h y hy=> ?_,fun W A c hr=> ?_⟩
 ·have h':=of_decide_eq_true h y hy
  rw [eP y (hz y hy),eQ y (hz y hy)] at h'
  obtain ⟨k,hk⟩:=(proper_ok (hz y hy)).choose_spec.1
  obtain ⟨k',hk'⟩:=(counts_ok (hz y hy)).choose_spec.1
  rw [h'.1] at hk
  rw [h'.2] at hk'
  exact v_of (hz y hy) hk hk'
 ·refine eq_form (countless_list W A l c hr hn PP QQ (fun y hy W1 B4 B5 d4 d5 hb hx=> ?_) (fun y hy W1 B4 B5 d4 d5 hb hx=> ?_)) _ (by simp)
  ·rw [eP y (hz y hy)];exact (proper_ok (hz y hy)).choose_spec.2 W1 B4 B5 d4 d5 hx
  ·rw [eQ y (hz y hy)];exact (counts_ok (hz y hy)).choose_spec.2 W1 B4 B5 d4 d5 hx
theorem two_C {W:World} {g:Nat} {x y:S25} {A4 A5 B4 B5:Option Addr} {c4 c5 d4 d5:Nat} (hg:W.heap[g]? =some (row (jvc x A4 A5 c4 c5 ++ jvc y B4 B5 d4 d5) 25)) (hx:Rep W x A4 c4 A5 c5) (hy:Rep W y B4 d4 B5 d5):Kd.C k25 W (some ⟨g,0,none⟩) 2 [x,y]:=by
 refine ⟨rfl,by decide,fun _=>⟨⟨g,0,none⟩,rfl,fun j p hj=> ?_⟩⟩
 have cell:=blk_cell hg
 have hj2:j < 2:=(List.getElem?_eq_some_iff.1 hj).1
 rcases (by omega:j=0∨j=1) with rfl|rfl
 ·obtain rfl:x=p:=by simpa using hj
  refine ⟨_,rfl,k25_mk W x hx.l4 hx.h4 hx.l5 hx.h5,fun i u hu=> ?_⟩
  have hi:i < 6:=by have:=(List.getElem?_eq_some_iff.1 hu).1;simpa using this
  rw [← hu]
  have:=cell (0 * 6 + i)
  rcases (by omega:i=0∨i=1∨i=2∨i=3∨i=4∨i=5) with rfl|rfl|rfl|rfl|rfl|rfl<;>exact this
 ·obtain rfl:y=p:=by simpa using hj
  refine ⟨_,rfl,k25_mk W y hy.l4 hy.h4 hy.l5 hy.h5,fun i u hu=> ?_⟩
  have hi:i < 6:=by have:=(List.getElem?_eq_some_iff.1 hu).1;simpa using this
  rw [← hu]
  have:=cell (1 * 6 + i)
  rcases (by omega:i=0∨i=1∨i=2∨i=3∨i=4∨i=5) with rfl|rfl|rfl|rfl|rfl|rfl<;>exact this
theorem word_schema (w:World):Calls Tryz.prog 79 #[.string ⟨#[83,99,104,101,109,97]⟩] w (rb (.string ⟨#[]⟩) w):=by
 have HK:=st0_ w
 go_enter Tryz.func79,Tryz.ntmps79
 go_wp2_with fail
 go_ret
 exact ⟨by first|rfl|kernel_rfl,be_⟩
theorem word_false (w:World):Calls Tryz.prog 79 #[.string ⟨#[70,97,108,115,101,83,99,104,101,109,97]⟩] w (rb (.string ⟨#[]⟩) w):=by
 have HK:=st0_ w
 go_enter Tryz.func79,Tryz.ntmps79
 go_wp2_with fail
 go_ret
 exact ⟨by first|rfl|kernel_rfl,be_⟩
theorem inside_nil (w:World) (x:S25) (A4 A5:Option Addr) (c4 c5:Nat) (A:Option Addr) (c:Nat):Calls Tryz.prog 78 #[.agg (jvc x A4 A5 c4 c5),.slice A 0 c] w (rb (.bool true) w):=by
 have HK:=st0_ w
 go_enter Tryz.func78,Tryz.ntmps78
 go_wp2_with (first|((with_reducible refine gd_ 2 ?_);refine bx_ (jvc x A4 A5 c4 c5) 25 ?_;clear HK;intro g2 wb2 HK Gg2;replace Bc:=ce1_ HK 0))
 refine wp_loop_once ?_
 go_wp2_with fail
 go_ret
 exact ⟨rfl,be_⟩
theorem part_nil (w:World) (x:S25) (A4 A5:Option Addr) (c4 c5:Nat) (A:Option Addr) (c:Nat):Calls Tryz.prog 40 #[.agg (jvc x A4 A5 c4 c5),.slice A 0 c] w (rb (.tuple #[.agg (jvc x A4 A5 c4 c5),.bool true]) w):=by
 have HK:=st0_ w
 go_enter Tryz.func40,Tryz.ntmps40
 go_wp2_with (first|((with_reducible refine gd_ 2 ?_);refine bx_ (jvc x A4 A5 c4 c5) 25 ?_;clear HK;intro g2 wb2 HK Gg2;replace Bc:=ce1_ HK 0)|((with_reducible refine gd_ 4 ?_);refine bx_ #[i0,bF,i0,eS,nilS,nilS] 25 ?_;clear HK;intro g4 wb4 HK Gg4;replace Bc:=ce2_ HK 1 0)|((with_reducible refine gd_ 7 ?_);refine lo_ 25 2 g2 (jvc x A4 A5 c4 c5) HK.out.k.2.1 Tryz.underlying25 ?_)|((with_reducible refine gd_ 9 ?_);refine cl_ #[.agg (jvc x A4 A5 c4 c5),.slice A 0 c] (.bool true) Tryz.func78 (inside_nil _ x A4 A5 c4 c5 A c) ?_;intro wc9 HK1;replace HK:=asd_ HK1;clear HK1;replace Bc:=ce2_ HK 1 0))
 refine wp_loop_once ?_
 go_wp2_with (first|((with_reducible refine gd_ 40 ?_);refine lo_ 25 2 g2 (jvc x A4 A5 c4 c5) HK.out.k.2.1 Tryz.underlying25 ?_)|((with_reducible refine gate_ (.store 25 (.tmp 4) (.tmp 40)) rfl ?_);refine storerow_at (cs:=#[i0,bF,i0,eS,nilS,nilS]) (g:=g4) 0 (jvc x A4 A5 c4 c5) at_ rfl Gg4.out rfl rfl rfl rfl rfl rfl kr_ rfl (by simp [Value.oneCell']) ?_;intro wr1 HK1;replace HK:=asd_ HK1;clear HK1;replace Bc:=ce2_ HK 1 0))
 ((try simp only [Exit.inBlock,Exit.then]);refine bodyPost_ret (results_ct rfl _ _ g4 25 (jvc x A4 A5 c4 c5) (0,0) _ rfl (HK.out.k.1) Tryz.underlying25 rfl kr_) rfl ?_)
 exact ⟨rfl,be_⟩
section
variable {P:Program} {w:World} {l:List Blk} {W:World} {ops:Array Oper} {rest:List Oper} {o:Oper} {a:Act} {Q:Exit→Act→World→Prop}
theorem buildSlice_at {t e:TypeId} {len:Nat} {parts:Array (Nat×Operand)} {N:Tmp} (cells:Array Value) (H:At w l W) (hgd:o.guard=none) (ho:o.op= .buildSlice t len parts) (hN:o.dst=some N) (hu:P.underlying t=some (.slice e))
  (hf:P.builtSlice e len (parts.map fun (i,x)=>(i,a.eval x)).toList=some cells)
  (h:∀ g w1,At w (.b g (row cells e)::l) w1→w.heap.size≤g→wpList P ops Q rest (a.put (some N) (.slice (some ⟨g,0,none⟩) len len)) w1):wpList P ops Q (o::rest) a W:=
 Great.wpList_buildSliceTo hgd t e len parts ho W.heap.size rfl (some N) hN hu cells hf (h _ _ (H.new _) H.b.size)
theorem build_at {t:TypeId} {parts:Array (Nat×Operand)} {N:Tmp} (cells:Array Value) (hgd:o.guard=none) (ho:o.op= .build t parts) (hN:o.dst=some N)
  (hf:P.built t (parts.map fun (i,x)=>(i,a.eval x)).toList=some cells)
  (h:wpList P ops Q rest (a.put (some N) (.agg cells)) W):wpList P ops Q (o::rest) a W:=
 wpList_buildTo hgd t parts ho (some N) hN cells hf h
end
theorem alone_ok (w:World) (n:Nd) (hn1:n.cells.all (·.oneCell')=true):Calls Tryz.prog 9 #[.agg n.cells] w fun e w'=>∃ gn,e= .returned (.slice (some ⟨gn,0,none⟩) 1 1)∧w'.heap[gn]? =some (row n.cells 45)∧w.heap.size≤gn∧Below w.heap.size w w':=by
 have HK:=st0_ w
 go_enter Tryz.func9,Tryz.ntmps9
 go_wp2_with (first|((with_reducible refine gd_ 1 ?_);refine bx_ n.cells 45 ?_;clear HK;intro g1 wb1 HK Gg1;replace Bc:=ce1_ HK 0)|((with_reducible refine gd_ 3 ?_);refine lo_ 45 1 g1 (n.cells) HK.out.k.1 Tryz.underlying45 ?_)|((with_reducible refine gd_ 4 ?_);refine buildSlice_at (t:=31) (e:=45) (n.cells) at_ rfl rfl rfl Tryz.underlying31 kr_ ?_;intro gn wb4 HK1 hgn;have Ggn:=asd_ hgn;clear hgn;replace HK:=asd_ HK1;clear HK1;replace Bc:=ce1_ HK 1))
 go_ret
 exact ⟨gn,rfl,HK.out.k.1,Ggn.out,be_⟩
theorem words_z (w:World) (AE:Option Addr) (cE:Nat) (l0:List S25) (y:S25) (B4 B5:Option Addr) (d4 d5:Nat) (tb:Bool) (A:Option Addr) (cn:Nat) (names:List ByteArray) (x:S25) (A4 A5:Option Addr) (c4 c5:Nat) (hlm:decide ((l0.length:Int) > 2147483647)=true):Calls Tryz.prog 4 #[.slice AE l0.length cE,.agg (jvc y B4 B5 d4 d5),.agg (#[.bool tb,.slice A names.length cn]),.agg (jvc x A4 A5 c4 c5)] w (rb (.bool true) w):=by
 have HK:=st0_ w
 go_enter Tryz.func4,Tryz.ntmps4
 go_wp2_with (first|((with_reducible refine gd_ 5 ?_);refine bx_ (jvc y B4 B5 d4 d5) 25 ?_;clear HK;intro g5 wb5 HK Gg5;replace Bc:=ce1_ HK 0)|((with_reducible refine gd_ 6 ?_);refine bx_ #[.bool tb,.slice A names.length cn] 37 ?_;clear HK;intro g6 wb6 HK Gg6;replace Bc:=ce2_ HK 1 0)|((with_reducible refine gd_ 7 ?_);refine bx_ (jvc x A4 A5 c4 c5) 25 ?_;clear HK;intro g7 wb7 HK Gg7;replace Bc:=ce3_ HK 2 1 0))
 go_ret
 exact ⟨by first|rfl|simp,be_⟩
theorem words_a (w:World) (AE:Option Addr) (cE:Nat) (l0:List S25) (y:S25) (B4 B5:Option Addr) (d4 d5:Nat) (tb:Bool) (A:Option Addr) (cn:Nat) (names:List ByteArray) (x:S25) (A4 A5:Option Addr) (c4 c5:Nat) (hlm:decide ((l0.length:Int) > 2147483647)=false) (ha:∀ W,Below w.heap.size w W→Calls Tryz.prog 6 #[.agg (jvc y B4 B5 d4 d5)] W (rb (.bool false) W)):Calls Tryz.prog 4 #[.slice AE l0.length cE,.agg (jvc y B4 B5 d4 d5),.agg (#[.bool tb,.slice A names.length cn]),.agg (jvc x A4 A5 c4 c5)] w (rb (.bool true) w):=by
 have HA:=asd_ ha
 clear ha
 have HK:=st0_ w
 go_enter Tryz.func4,Tryz.ntmps4
 go_wp2_with (first|((with_reducible refine gd_ 5 ?_);refine bx_ (jvc y B4 B5 d4 d5) 25 ?_;clear HK;intro g5 wb5 HK Gg5;replace Bc:=ce1_ HK 0)|((with_reducible refine gd_ 6 ?_);refine bx_ #[.bool tb,.slice A names.length cn] 37 ?_;clear HK;intro g6 wb6 HK Gg6;replace Bc:=ce2_ HK 1 0)|((with_reducible refine gd_ 7 ?_);refine bx_ (jvc x A4 A5 c4 c5) 25 ?_;clear HK;intro g7 wb7 HK Gg7;replace Bc:=ce3_ HK 2 1 0)|((with_reducible refine gd_ 13 ?_);(try (refine gate_guard (by rfl) ?_;dsimp only));refine lo_ 25 5 g5 (jvc y B4 B5 d4 d5) HK.out.k.2.2.1 Tryz.underlying25 ?_)|((with_reducible refine gd_ 14 ?_);(try (refine gate_guard (by rfl) ?_;dsimp only));refine cl_ #[.agg (jvc y B4 B5 d4 d5)] (.bool false) Tryz.func6 (HA.out _ HK.out.b) ?_;intro wc14 HK1;replace HK:=asd_ HK1;clear HK1;replace Bc:=ce3_ HK 2 1 0))
 go_ret
 exact ⟨by first|rfl|simp,be_⟩
theorem words_b (w:World) (AE:Option Addr) (cE:Nat) (l0:List S25) (y:S25) (B4 B5:Option Addr) (d4 d5:Nat) (tb:Bool) (A:Option Addr) (cn:Nat) (names:List ByteArray) (x:S25) (A4 A5:Option Addr) (c4 c5:Nat) (hlm:decide ((l0.length:Int) > 2147483647)=false) (ha:∀ W,Below w.heap.size w W→Calls Tryz.prog 6 #[.agg (jvc y B4 B5 d4 d5)] W (rb (.bool true) W)) (hb:∀ W,Below w.heap.size w W→Calls Tryz.prog 11 #[.agg (#[.bool tb,.slice A names.length cn])] W (rb (.bool false) W)):Calls Tryz.prog 4 #[.slice AE l0.length cE,.agg (jvc y B4 B5 d4 d5),.agg (#[.bool tb,.slice A names.length cn]),.agg (jvc x A4 A5 c4 c5)] w (rb (.bool true) w):=by
 have HA:=asd_ ha
 clear ha
 have HB:=asd_ hb
 clear hb
 have HK:=st0_ w
 go_enter Tryz.func4,Tryz.ntmps4
 go_wp2_with (first|((with_reducible refine gd_ 5 ?_);refine bx_ (jvc y B4 B5 d4 d5) 25 ?_;clear HK;intro g5 wb5 HK Gg5;replace Bc:=ce1_ HK 0)|((with_reducible refine gd_ 6 ?_);refine bx_ #[.bool tb,.slice A names.length cn] 37 ?_;clear HK;intro g6 wb6 HK Gg6;replace Bc:=ce2_ HK 1 0)|((with_reducible refine gd_ 7 ?_);refine bx_ (jvc x A4 A5 c4 c5) 25 ?_;clear HK;intro g7 wb7 HK Gg7;replace Bc:=ce3_ HK 2 1 0)|((with_reducible refine gd_ 13 ?_);(try (refine gate_guard (by rfl) ?_;dsimp only));refine lo_ 25 5 g5 (jvc y B4 B5 d4 d5) HK.out.k.2.2.1 Tryz.underlying25 ?_)|((with_reducible refine gd_ 18 ?_);(try (refine gate_guard (by rfl) ?_;dsimp only));refine lo_ 37 6 g6 (#[.bool tb,.slice A names.length cn]) HK.out.k.2.1 Tryz.underlying37 ?_)|((first|((with_reducible refine gd_ 14 ?_);(try (refine gate_guard (by rfl) ?_;dsimp only));refine cl_ #[.agg (jvc y B4 B5 d4 d5)] (.bool true) Tryz.func6 (HA.out _ HK.out.b) ?_)|((with_reducible refine gd_ 19 ?_);(try (refine gate_guard (by rfl) ?_;dsimp only));refine cl_ #[.agg (#[.bool tb,.slice A names.length cn])] (.bool false) Tryz.func11 (HB.out _ HK.out.b) ?_));intro wc14 HK1;replace HK:=asd_ HK1;clear HK1;replace Bc:=ce3_ HK 2 1 0))
 go_ret
 exact ⟨by first|rfl|simp,be_⟩
theorem words_c (w:World) (AE:Option Addr) (cE:Nat) (l0:List S25) (y:S25) (B4 B5:Option Addr) (d4 d5:Nat) (tb:Bool) (A:Option Addr) (cn:Nat) (names:List ByteArray) (x:S25) (A4 A5:Option Addr) (c4 c5:Nat) (hlm:decide ((l0.length:Int) > 2147483647)=false) (ha:∀ W,Below w.heap.size w W→Calls Tryz.prog 6 #[.agg (jvc y B4 B5 d4 d5)] W (rb (.bool true) W)) (hb:∀ W,Below w.heap.size w W→Calls Tryz.prog 11 #[.agg (#[.bool tb,.slice A names.length cn])] W (rb (.bool true) W)) (hc:∀ W,Below w.heap.size w W→Calls Tryz.prog 6 #[.agg (jvc x A4 A5 c4 c5)] W (rb (.bool false) W)):Calls Tryz.prog 4 #[.slice AE l0.length cE,.agg (jvc y B4 B5 d4 d5),.agg (#[.bool tb,.slice A names.length cn]),.agg (jvc x A4 A5 c4 c5)] w (rb (.bool true) w):=by
 have HA:=asd_ ha
 clear ha
 have HB:=asd_ hb
 clear hb
 have HC:=asd_ hc
 clear hc
 have HK:=st0_ w
 go_enter Tryz.func4,Tryz.ntmps4
 go_wp2_with (first|((with_reducible refine gd_ 5 ?_);refine bx_ (jvc y B4 B5 d4 d5) 25 ?_;clear HK;intro g5 wb5 HK Gg5;replace Bc:=ce1_ HK 0)|((with_reducible refine gd_ 6 ?_);refine bx_ #[.bool tb,.slice A names.length cn] 37 ?_;clear HK;intro g6 wb6 HK Gg6;replace Bc:=ce2_ HK 1 0)|((with_reducible refine gd_ 7 ?_);refine bx_ (jvc x A4 A5 c4 c5) 25 ?_;clear HK;intro g7 wb7 HK Gg7;replace Bc:=ce3_ HK 2 1 0)|((with_reducible refine gd_ 13 ?_);(try (refine gate_guard (by rfl) ?_;dsimp only));refine lo_ 25 5 g5 (jvc y B4 B5 d4 d5) HK.out.k.2.2.1 Tryz.underlying25 ?_)|((with_reducible refine gd_ 18 ?_);(try (refine gate_guard (by rfl) ?_;dsimp only));refine lo_ 37 6 g6 (#[.bool tb,.slice A names.length cn]) HK.out.k.2.1 Tryz.underlying37 ?_)|((with_reducible refine gd_ 23 ?_);(try (refine gate_guard (by rfl) ?_;dsimp only));refine lo_ 25 7 g7 (jvc x A4 A5 c4 c5) HK.out.k.1 Tryz.underlying25 ?_)|((first|((with_reducible refine gd_ 14 ?_);(try (refine gate_guard (by rfl) ?_;dsimp only));refine cl_ #[.agg (jvc y B4 B5 d4 d5)] (.bool true) Tryz.func6 (HA.out _ HK.out.b) ?_)|((with_reducible refine gd_ 19 ?_);(try (refine gate_guard (by rfl) ?_;dsimp only));refine cl_ #[.agg (#[.bool tb,.slice A names.length cn])] (.bool true) Tryz.func11 (HB.out _ HK.out.b) ?_)|((with_reducible refine gd_ 24 ?_);(try (refine gate_guard (by rfl) ?_;dsimp only));refine cl_ #[.agg (jvc x A4 A5 c4 c5)] (.bool false) Tryz.func6 (HC.out _ HK.out.b) ?_));intro wc14 HK1;replace HK:=asd_ HK1;clear HK1;replace Bc:=ce3_ HK 2 1 0))
 go_ret
 exact ⟨by first|rfl|simp,be_⟩
theorem words_d (w:World) (AE:Option Addr) (cE:Nat) (l0:List S25) (y:S25) (B4 B5:Option Addr) (d4 d5:Nat) (tb:Bool) (A:Option Addr) (cn:Nat) (names:List ByteArray) (x:S25) (A4 A5:Option Addr) (c4 c5:Nat) (hlm:decide ((l0.length:Int) > 2147483647)=false) (ha:∀ W,Below w.heap.size w W→Calls Tryz.prog 6 #[.agg (jvc y B4 B5 d4 d5)] W (rb (.bool true) W)) (hb:∀ W,Below w.heap.size w W→Calls Tryz.prog 11 #[.agg (#[.bool tb,.slice A names.length cn])] W (rb (.bool true) W)) (hc:∀ W,Below w.heap.size w W→Calls Tryz.prog 6 #[.agg (jvc x A4 A5 c4 c5)] W (rb (.bool true) W)) (hd:∀ W,Below w.heap.size w W→Calls Tryz.prog 7 #[.slice AE l0.length cE] W (rb (.bool false) W)):Calls Tryz.prog 4 #[.slice AE l0.length cE,.agg (jvc y B4 B5 d4 d5),.agg (#[.bool tb,.slice A names.length cn]),.agg (jvc x A4 A5 c4 c5)] w (rb (.bool true) w):=by
 have HA:=asd_ ha
 clear ha
 have HB:=asd_ hb
 clear hb
 have HC:=asd_ hc
 clear hc
 have HD:=asd_ hd
 clear hd
 have HK:=st0_ w
 go_enter Tryz.func4,Tryz.ntmps4
 go_wp2_with (first|((with_reducible refine gd_ 5 ?_);refine bx_ (jvc y B4 B5 d4 d5) 25 ?_;clear HK;intro g5 wb5 HK Gg5;replace Bc:=ce1_ HK 0)|((with_reducible refine gd_ 6 ?_);refine bx_ #[.bool tb,.slice A names.length cn] 37 ?_;clear HK;intro g6 wb6 HK Gg6;replace Bc:=ce2_ HK 1 0)|((with_reducible refine gd_ 7 ?_);refine bx_ (jvc x A4 A5 c4 c5) 25 ?_;clear HK;intro g7 wb7 HK Gg7;replace Bc:=ce3_ HK 2 1 0)|((with_reducible refine gd_ 13 ?_);(try (refine gate_guard (by rfl) ?_;dsimp only));refine lo_ 25 5 g5 (jvc y B4 B5 d4 d5) HK.out.k.2.2.1 Tryz.underlying25 ?_)|((with_reducible refine gd_ 18 ?_);(try (refine gate_guard (by rfl) ?_;dsimp only));refine lo_ 37 6 g6 (#[.bool tb,.slice A names.length cn]) HK.out.k.2.1 Tryz.underlying37 ?_)|((with_reducible refine gd_ 23 ?_);(try (refine gate_guard (by rfl) ?_;dsimp only));refine lo_ 25 7 g7 (jvc x A4 A5 c4 c5) HK.out.k.1 Tryz.underlying25 ?_)|((first|((with_reducible refine gd_ 14 ?_);(try (refine gate_guard (by rfl) ?_;dsimp only));refine cl_ #[.agg (jvc y B4 B5 d4 d5)] (.bool true) Tryz.func6 (HA.out _ HK.out.b) ?_)|((with_reducible refine gd_ 19 ?_);(try (refine gate_guard (by rfl) ?_;dsimp only));refine cl_ #[.agg (#[.bool tb,.slice A names.length cn])] (.bool true) Tryz.func11 (HB.out _ HK.out.b) ?_)|((with_reducible refine gd_ 24 ?_);(try (refine gate_guard (by rfl) ?_;dsimp only));refine cl_ #[.agg (jvc x A4 A5 c4 c5)] (.bool true) Tryz.func6 (HC.out _ HK.out.b) ?_)|((with_reducible refine gd_ 28 ?_);refine cl_ #[.slice AE l0.length cE] (.bool false) Tryz.func7 (HD.out _ HK.out.b) ?_));intro wc14 HK1;replace HK:=asd_ HK1;clear HK1;replace Bc:=ce3_ HK 2 1 0))
 go_ret
 exact ⟨by first|rfl|simp,be_⟩
theorem words_e (w:World) (AE:Option Addr) (cE:Nat) (l0:List S25) (y:S25) (B4 B5:Option Addr) (d4 d5:Nat) (tb:Bool) (A:Option Addr) (cn:Nat) (names:List ByteArray) (x:S25) (A4 A5:Option Addr) (c4 c5:Nat) (hlm:decide ((l0.length:Int) > 2147483647)=false) (ha:∀ W,Below w.heap.size w W→Calls Tryz.prog 6 #[.agg (jvc y B4 B5 d4 d5)] W (rb (.bool true) W)) (hb:∀ W,Below w.heap.size w W→Calls Tryz.prog 11 #[.agg (#[.bool tb,.slice A names.length cn])] W (rb (.bool true) W)) (hc:∀ W,Below w.heap.size w W→Calls Tryz.prog 6 #[.agg (jvc x A4 A5 c4 c5)] W (rb (.bool true) W)) (hd:∀ W,Below w.heap.size w W→Calls Tryz.prog 7 #[.slice AE l0.length cE] W (rb (.bool true) W)) (he5:∀ W gl,Below w.heap.size w W→W.heap[gl]? =some (row (jvc y B4 B5 d4 d5 ++ jvc x A4 A5 c4 c5) 25)→Calls Tryz.prog 7 #[.slice (some ⟨gl,0,none⟩) 2 2] W (rb (.bool false) W)):Calls Tryz.prog 4 #[.slice AE l0.length cE,.agg (jvc y B4 B5 d4 d5),.agg (#[.bool tb,.slice A names.length cn]),.agg (jvc x A4 A5 c4 c5)] w (rb (.bool true) w):=by
 have HA:=asd_ ha
 clear ha
 have HB:=asd_ hb
 clear hb
 have HC:=asd_ hc
 clear hc
 have HD:=asd_ hd
 clear hd
 have HE5:=asd_ he5
 clear he5
 have HK:=st0_ w
 go_enter Tryz.func4,Tryz.ntmps4
 go_wp2_with (first|((with_reducible refine gd_ 5 ?_);refine bx_ (jvc y B4 B5 d4 d5) 25 ?_;clear HK;intro g5 wb5 HK Gg5;replace Bc:=ce1_ HK 0)|((with_reducible refine gd_ 6 ?_);refine bx_ #[.bool tb,.slice A names.length cn] 37 ?_;clear HK;intro g6 wb6 HK Gg6;replace Bc:=ce2_ HK 1 0)|((with_reducible refine gd_ 7 ?_);refine bx_ (jvc x A4 A5 c4 c5) 25 ?_;clear HK;intro g7 wb7 HK Gg7;replace Bc:=ce3_ HK 2 1 0)|((with_reducible refine gd_ 13 ?_);(try (refine gate_guard (by rfl) ?_;dsimp only));refine lo_ 25 5 g5 (jvc y B4 B5 d4 d5) HK.out.k.2.2.1 Tryz.underlying25 ?_)|((with_reducible refine gd_ 18 ?_);(try (refine gate_guard (by rfl) ?_;dsimp only));refine lo_ 37 6 g6 (#[.bool tb,.slice A names.length cn]) HK.out.k.2.1 Tryz.underlying37 ?_)|((with_reducible refine gd_ 23 ?_);(try (refine gate_guard (by rfl) ?_;dsimp only));refine lo_ 25 7 g7 (jvc x A4 A5 c4 c5) HK.out.k.1 Tryz.underlying25 ?_)|((with_reducible refine gd_ 31 ?_);(try (refine gate_guard (by rfl) ?_;dsimp only));refine lo_ 25 5 g5 (jvc y B4 B5 d4 d5) HK.out.k.2.2.1 Tryz.underlying25 ?_)|((with_reducible refine gd_ 32 ?_);(try (refine gate_guard (by rfl) ?_;dsimp only));refine lo_ 25 7 g7 (jvc x A4 A5 c4 c5) HK.out.k.1 Tryz.underlying25 ?_)|((with_reducible refine gd_ 33 ?_);(try (refine gate_guard (by rfl) ?_;dsimp only));refine buildSlice_at (t:=23) (e:=25) (jvc y B4 B5 d4 d5 ++ jvc x A4 A5 c4 c5) at_ rfl rfl rfl Tryz.underlying23 kr_ ?_;intro gl wb33 HK1 hgl;have Ggl:=asd_ hgl;clear hgl;replace HK:=asd_ HK1;clear HK1;replace Bc:=ce3_ HK 3 2 1)|((first|((with_reducible refine gd_ 14 ?_);(try (refine gate_guard (by rfl) ?_;dsimp only));refine cl_ #[.agg (jvc y B4 B5 d4 d5)] (.bool true) Tryz.func6 (HA.out _ HK.out.b) ?_)|((with_reducible refine gd_ 19 ?_);(try (refine gate_guard (by rfl) ?_;dsimp only));refine cl_ #[.agg (#[.bool tb,.slice A names.length cn])] (.bool true) Tryz.func11 (HB.out _ HK.out.b) ?_)|((with_reducible refine gd_ 24 ?_);(try (refine gate_guard (by rfl) ?_;dsimp only));refine cl_ #[.agg (jvc x A4 A5 c4 c5)] (.bool true) Tryz.func6 (HC.out _ HK.out.b) ?_)|((with_reducible refine gd_ 28 ?_);refine cl_ #[.slice AE l0.length cE] (.bool true) Tryz.func7 (HD.out _ HK.out.b) ?_));intro wc14 HK1;replace HK:=asd_ HK1;clear HK1;replace Bc:=ce3_ HK 2 1 0)|((with_reducible refine gd_ 34 ?_);(try (refine gate_guard (by rfl) ?_;dsimp only));refine cl_ #[.slice (some ⟨gl,0,none⟩) 2 2] (.bool false) Tryz.func7 (HE5.out _ gl HK.out.b HK.out.k.1) ?_;intro wc34 HK1;replace HK:=asd_ HK1;clear HK1;replace Bc:=ce3_ HK 3 2 1))
 go_ret
 exact ⟨by first|rfl|simp,be_⟩
theorem pathright_schema (w:World) (loc tx:ByteArray) (Ap Aa An Ak:Option Addr) (cp ca cn nk ck:Nat) (names:List ByteArray):Calls Tryz.prog 41 #[.agg #[.string loc,.string ⟨#[83,99,104,101,109,97]⟩,.slice Ap 0 cp,.slice Aa 0 ca,.string tx,.slice An names.length cn,nilS,.slice Ak nk ck]] w (rb (.bool true) w):=by
 have HK:=st0_ w
 go_enter Tryz.func41,Tryz.ntmps41
 go_wp2_with (first|((with_reducible refine gd_ 1 ?_);refine bx_ (#[.string loc,.string ⟨#[83,99,104,101,109,97]⟩,.slice Ap 0 cp,.slice Aa 0 ca,.string tx,.slice An names.length cn,nilS,.slice Ak nk ck]) 54 ?_;clear HK;intro g1 wb1 HK Gg1;replace Bc:=ce1_ HK 0)|((with_reducible refine gd_ 6 ?_);refine cl_ #[.string ⟨#[83,99,104,101,109,97]⟩] (.string ⟨#[]⟩) Tryz.func79 (word_schema _) ?_;intro wc6 HK1;replace HK:=asd_ HK1;clear HK1;replace Bc:=ce1_ HK 0))
 go_ret
 exact ⟨by first|rfl|simp,be_⟩
theorem pathright_false (w:World) (loc tx:ByteArray) (Ap Aa An Ak:Option Addr) (cp ca cn nk ck:Nat) (names:List ByteArray):Calls Tryz.prog 41 #[.agg #[.string loc,.string ⟨#[70,97,108,115,101,83,99,104,101,109,97]⟩,.slice Ap 0 cp,.slice Aa 0 ca,.string tx,.slice An names.length cn,nilS,.slice Ak nk ck]] w (rb (.bool true) w):=by
 have HK:=st0_ w
 go_enter Tryz.func41,Tryz.ntmps41
 go_wp2_with (first|((with_reducible refine gd_ 1 ?_);refine bx_ (#[.string loc,.string ⟨#[70,97,108,115,101,83,99,104,101,109,97]⟩,.slice Ap 0 cp,.slice Aa 0 ca,.string tx,.slice An names.length cn,nilS,.slice Ak nk ck]) 54 ?_;clear HK;intro g1 wb1 HK Gg1;replace Bc:=ce1_ HK 0)|((with_reducible refine gd_ 6 ?_);refine cl_ #[.string ⟨#[70,97,108,115,101,83,99,104,101,109,97]⟩] (.string ⟨#[]⟩) Tryz.func79 (word_false _) ?_;intro wc6 HK1;replace HK:=asd_ HK1;clear HK1;replace Bc:=ce1_ HK 0))
 go_ret
 exact ⟨by first|rfl|simp,be_⟩
theorem plain_one (w:World):Calls Tryz.prog 45 #[.string ⟨#[49]⟩] w (rb (.bool true) w):=
 (spec_jPlain.calls 4 ⟨#[49]⟩ true w kr_).mono (fun e w' h=>⟨h.1,h.2.below⟩)
theorem number_one (w:World):Calls Tryz.prog 46 #[.string ⟨#[49]⟩] w (rb (.int .i64 1) w):=
 (spec_jNumber.calls 4 ⟨#[49]⟩ 1 w kr_).mono (fun e w' h=>⟨h.1,h.2.below⟩)
theorem named_one (w:World) (A:Option Addr) (cS:Nat):Calls Tryz.prog 24 #[.slice A 1 cS,.string ⟨#[49]⟩] w (rb (.int .i64 1) w):=by
 have HK:=st0_ w
 go_enter Tryz.func24,Tryz.ntmps24
 go_wp2_with (first|((first|((with_reducible refine gd_ 10 ?_);(try (refine gate_guard (by rfl) ?_;dsimp only));refine cl_ #[.string ⟨#[49]⟩] (.bool true) Tryz.func45 (plain_one _) ?_)|((with_reducible refine gd_ 15 ?_);(try (refine gate_guard (by rfl) ?_;dsimp only));refine cl_ #[.string ⟨#[49]⟩] (.int .i64 1) Tryz.func46 (number_one _) ?_)|((with_reducible refine gd_ 21 ?_);refine cl_ #[.string ⟨#[49]⟩] (.int .i64 1) Tryz.func46 (number_one _) ?_));intro wc10 HK1;replace HK:=asd_ HK1;clear HK1;skip))
 go_ret
 exact ⟨rfl,be_⟩
theorem nodes_one (w:World) (g5:Nat) (A:Option Addr) (cS:Nat) (h5:w.heap[g5]? =some (row #[.slice A 1 cS] 31)):Calls Tryz.prog 23 #[.string ⟨#[49]⟩,.pointer (some ⟨g5,0,none⟩)] w fun e w'=>∃ v,e= .returned v∧(∃ g7,v= .slice (some ⟨g7,0,none⟩) 1 1∧w'.heap[g7]? =some (row #[.int .i64 1] 3)∧w.heap.size≤g7)∧Below w.heap.size w w':=by
 have HK:Aside0 (At w [.b g5 (row (#[.slice A 1 cS]) 31)] w):=asd_ (At.hold (At.start w) h5 (by simp [nums]))
 replace Bc:=ce1_ HK 0
 go_enter Tryz.func23,Tryz.ntmps23
 go_wp2_with (first|((with_reducible refine gd_ 7 ?_);refine nw_ (row #[.int .i64 1] 3) (fun b=> .slice (some ⟨b,0,none⟩) 1 1) ?_;clear HK;intro g7 wb7 HK Gg7;replace Bc:=ce1_ HK 1)|((with_reducible refine gd_ 6 ?_);refine cl_ #[.slice A 1 cS,.string ⟨#[49]⟩] (.int .i64 1) Tryz.func24 (named_one _ A cS) ?_;intro wc6 HK1;replace HK:=asd_ HK1;clear HK1;replace Bc:=ce1_ HK 0))
 go_ret
 exact ⟨_,rfl,⟨g7,rfl,HK.out.k.1,Gg7.out⟩,HK.out.b⟩
end Go.Proofs.YtkphbhncpdcbeaaGreatDoor.J
