/- Part. -/
import Derived.Test.YtkphbhncpdcbeaaGreatDoorQAV
set_option linter.unusedVariables false
set_option linter.unusedSimpArgs false
set_option maxHeartbeats 8000000
set_option maxRecDepth 100000
namespace Go.Proofs.YtkphbhncpdcbeaaGreatDoor.J
open Go.RowKit YtkphbhncpdcbeaaGreatDoorW.PrintWords YtkphbhncpdcbeaaGreatDoorW.PrintLast YtkphbhncpdcbeaaGreatDoorW.PrintMore PJT
theorem rd_get {l:List S25} {j:Nat} (hj:j < l.length):rd_T25 l j=l[j]:=by
 simp [rd_T25,rdOf,List.getD_eq_getElem?_getD,hj]
theorem listed_ok (w:World) (x:S25) (A4 A5:Option Addr) (c4 c5:Nat) (AE:Option Addr) (l0:List S25) (cE:Nat) (he:Kd.C k25 w AE l0.length l0) (hn:l0.length≤LM) (PP:S25→Prop)
  (hT:∀ y∈l0,∀ W B4 B5 d4 d5,Below w.heap.size w W→Rep W y B4 d4 B5 d5→Calls Tryz.prog 61 #[.agg (jvc x A4 A5 c4 c5),.agg (jvc y B4 B5 d4 d5)] W fun e w'=>∃ r:Bool,e= .returned (.bool r)∧(r=true↔PP y)∧Below W.heap.size W w'):
  Calls Tryz.prog 60 #[.agg (jvc x A4 A5 c4 c5),.slice AE l0.length cE] w (EqP (∃ y∈l0,PP y) w):=by
 have He:=asd_ he
 have HT:=asd_ hT
 have Hn:=asd_ hn
 clear he hT hn
 have HK:=st0_ w
 go_enter Tryz.func60,Tryz.ntmps60
 go_wp2_with (first|((with_reducible refine gd_ 2 ?_);refine bx_ (jvc x A4 A5 c4 c5) 25 ?_;clear HK;intro g2 wb2 HK Gg2;replace Bc:=ce1_ HK 0))
 go_loopg [5] l0.length (fun kq v5 w'=>∃ i:Int,v5= .int .i64 i∧0≤i∧i + kq=l0.length∧Aside0 (∀ j:Nat,(j:Int) < i→¬ PP (rd_T25 l0 j))∧Aside0 (At w [.b g2 (row (jvc x A4 A5 c4 c5) 25)] w'))
 case atStart=>exact ⟨0,rfl,by omega,by omega,⟨fun j hj=>absurd hj (by omega)⟩,⟨at_⟩⟩
 case round=>
  clear HK
  obtain ⟨i,rfl,hi0,hik,HP,HK⟩:=hrel
  replace Bc:=ce1_ HK 0
  cases gk with
  |zero=>
   have ht:decide (i < (l0.length:Int))=false:=decide_eq_false (by omega)
   go_wp2_with fail
   go_ret
   unfold EqP
   exact ⟨_,rfl,iff_of_false (by simp) (fun ⟨y,hy,hp⟩=>by obtain ⟨j,hj,e⟩:=List.mem_iff_getElem.1 hy;exact HP.out j (by omega) (by rw [rd_get hj,e];exact hp)),be_⟩
  |succ kk=>
   have ht:decide (i < (l0.length:Int))=true:=decide_eq_true (by omega)
   have hil:i < (l0.length:Int):=by omega
   obtain ⟨adp,Ep4,ep4,Ep5,ep5,eqp,h0p,h1p,h2p,h3p,h4p,h5p,m4,n4,m5,n5⟩:=at_T25 He.out i hi0 hil
   subst eqp
   have Hcp:=asd_ (And.intro h0p (And.intro h1p (And.intro h2p (And.intro h3p (And.intro h4p h5p)))));have HNp:=asd_ (And.intro m4 (And.intro n4 (And.intro m5 n5)));clear m4 n4 m5 n5 h0p h1p h2p h3p h4p h5p
   have HY1:=asd_ (rd_T25_in hi0 hil);have Hik:=asd_ hik;have Hi0:=asd_ hi0;have Hil:=asd_ hil
   have p1:=eq_true hi0;have p2:=eq_true hil
   clear hik hi0 hil
   go_wp2_with fail
   refine st_ 6 (fun w'=>At w [.b g2 (row (jvc x A4 A5 c4 c5) 25)] w'∧(∀ j,w'.cell? ⟨g2,j,none⟩=(jvc x A4 A5 c4 c5:Array Value)[j]?)∧w'.cell? (adp.add (i.toNat * 6))=some (.int .i64 (rd_T25 l0 i).f0)∧w'.cell? ⟨(adp.add (i.toNat * 6)).block,(adp.add (i.toNat * 6)).off + 1,none⟩=some (.bool (rd_T25 l0 i).f1)∧w'.cell? ⟨(adp.add (i.toNat * 6)).block,(adp.add (i.toNat * 6)).off + 2,none⟩=some (.int .i64 (rd_T25 l0 i).f2)∧w'.cell? ⟨(adp.add (i.toNat * 6)).block,(adp.add (i.toNat * 6)).off + 3,none⟩=some (.string (rd_T25 l0 i).f3)∧w'.cell? ⟨(adp.add (i.toNat * 6)).block,(adp.add (i.toNat * 6)).off + 4,none⟩=some (.slice Ep4 (rd_T25 l0 i).f4.length ep4)∧w'.cell? ⟨(adp.add (i.toNat * 6)).block,(adp.add (i.toNat * 6)).off + 5,none⟩=some (.slice Ep5 (rd_T25 l0 i).f5.length ep5)) [] (fun A=>⟨A,(cA_ A 0),((A.b.cell (World.block_lt_of_cell? w _ Hcp.out.1)).trans Hcp.out.1),((A.b.cell (World.block_lt_of_cell? w _ Hcp.out.2.1)).trans Hcp.out.2.1),((A.b.cell (World.block_lt_of_cell? w _ Hcp.out.2.2.1)).trans Hcp.out.2.2.1),((A.b.cell (World.block_lt_of_cell? w _ Hcp.out.2.2.2.1)).trans Hcp.out.2.2.2.1),((A.b.cell (World.block_lt_of_cell? w _ Hcp.out.2.2.2.2.1)).trans Hcp.out.2.2.2.2.1),((A.b.cell (World.block_lt_of_cell? w _ Hcp.out.2.2.2.2.2)).trans Hcp.out.2.2.2.2.2)⟩) (fun hHeld=> ?_)
   refine pu_ 1 13 2 ?_
   refine pu_ 2 14 6 ?_
   refine pu_ 3 15 14 ?_
   refine ta8_ 0 12 15 hHeld ?_
   refine ta8_ 4 16 31 hHeld ?_
   refine on_ 5 17 63 (fun K hK=> ?_)
   have HE:=asd_ (hHeld.1)
   refine ge_ Tryz.func61 #[.agg (jvc x A4 A5 c4 c5),.agg (#[.int .i64 (rd_T25 l0 i).f0,.bool (rd_T25 l0 i).f1,.int .i64 (rd_T25 l0 i).f2,.string (rd_T25 l0 i).f3,.slice Ep4 (rd_T25 l0 i).f4.length ep4,.slice Ep5 (rd_T25 l0 i).f5.length ep5])] ?_
   with_reducible refine (HT.out _ HY1.out _ _ _ _ _ HE.out.b ⟨Kd.C_below HNp.out.2.1 HE.out.b,HNp.out.1,Kd.C_below HNp.out.2.2.2 HE.out.b,HNp.out.2.2.1⟩).mono ?_
   rintro e w3 ⟨rb,rfl,hr,hb⟩
   refine ⟨_,rfl,?_⟩
   have HE0:=At.step HE.out hb
   have Hr:=asd_ hr
   clear hr
   replace HE:=asd_ HE0;clear HE0
   refine hK.out _ _ ⟨HE.out,(cE_ HE 0),((HE.out.b.cell (World.block_lt_of_cell? w _ Hcp.out.1)).trans Hcp.out.1),((HE.out.b.cell (World.block_lt_of_cell? w _ Hcp.out.2.1)).trans Hcp.out.2.1),((HE.out.b.cell (World.block_lt_of_cell? w _ Hcp.out.2.2.1)).trans Hcp.out.2.2.1),((HE.out.b.cell (World.block_lt_of_cell? w _ Hcp.out.2.2.2.1)).trans Hcp.out.2.2.2.1),((HE.out.b.cell (World.block_lt_of_cell? w _ Hcp.out.2.2.2.2.1)).trans Hcp.out.2.2.2.2.1),((HE.out.b.cell (World.block_lt_of_cell? w _ Hcp.out.2.2.2.2.2)).trans Hcp.out.2.2.2.2.2)⟩ (fun hHeld=> ?_)
   clear hK K
   refine nq_ 17 ?_
   refine done_ kr_ ?_
   clear HK;have HK:=HE;clear HE
   clear hHeld
   replace Bc:=ce1_ HK 0
   cases rb
   case true=>
    go_wp2_with fail
    go_ret
    unfold EqP
    exact ⟨_,rfl,iff_of_true rfl ⟨_,HY1.out,by have h:=Hr.out;simpa using h⟩,be_⟩
   case false=>
    go_wp2_with fail
    go_roundg kk
    case measure=>exact Nat.lt_succ_self _
    case rel=>
     have e1:wrap64 (i + 1)=i + 1:=wup Hi0.out Hil.out Hn.out
     refine ⟨wrap64 (i + 1),rfl,by have:=Hi0.out;rw [e1];omega,by have:=Hik.out;rw [e1];omega,⟨fun j hj=> ?_⟩,⟨at_⟩⟩
     rw [e1] at hj
     by_cases hji:(j:Int) < i
     ·exact HP.out j hji
     ·have:(j:Int)=i:=by have:=Hi0.out;omega
      rw [this];exact fun h=>by have:=Hr.out.2 h;cases this
theorem values_enum_true (w:World) (x:S25) (A4 A5:Option Addr) (c4 c5:Nat) (AE:Option Addr) (l0:List S25) (cE:Nat)
  (hJ:∀ W,Below w.heap.size w W→Calls Tryz.prog 60 #[.agg (jvc x A4 A5 c4 c5),.slice AE l0.length cE] W (rb (.bool true) W)):
  Calls Tryz.prog 31 #[.agg (ndE AE l0 cE),.agg (jvc x A4 A5 c4 c5)] w (rb (.bool true) w):=by
 have HJ:=asd_ hJ
 clear hJ
 have HK:=st0_ w
 go_enter Tryz.func31,Tryz.ntmps31
 go_wp2_with (first|((with_reducible refine gd_ 2 ?_);refine bx_ (ndE AE l0 cE) 45 ?_;clear HK;intro g2 wb2 HK Gg2;replace Bc:=ce1_ HK 0)|((with_reducible refine gd_ 3 ?_);refine bx_ (jvc x A4 A5 c4 c5) 25 ?_;clear HK;intro g3 wb3 HK Gg3;replace Bc:=ce2_ HK 1 0))
 refine su2_ 36 HK 1 0 [] (fun HS hHeld=> ?_)
 refine pu_ 0 5 1 ?_
 refine ta3_ 1 6 3 hHeld ?_
 refine pu_ 2 7 7 ?_
 refine pu_ 3 8 15 ?_
 refine pu_ 4 9 31 ?_
 refine pn_ 5 10 63 ?_
 refine pn_ 6 11 127 ?_
 refine pn_ 7 12 255 ?_
 refine pn_ 8 13 511 ?_
 refine pu_ 9 14 1023 ?_
 refine pu_ 10 15 2047 ?_
 refine pu_ 11 16 4095 ?_
 refine ta3_ 12 17 8191 hHeld ?_
 refine pu_ 13 18 16383 ?_
 refine pu_ 14 19 32767 ?_
 refine pu_ 16 21 98303 ?_
 refine tq_ 15 20 131071 rfl hHeld (by rintro w' ⟨s0,s1,s2⟩;exact rr_ 3 g3 (jvc x A4 A5 c4 c5) s0.k.1 Tryz.underlying25) ?_
 refine ta3_ 17 22 262143 hHeld ?_
 refine on_ 18 23 524287 (fun K hK=> ?_)
 have HE:=asd_ (hHeld.1)
 refine ge_ Tryz.func60 #[.agg (jvc x A4 A5 c4 c5),.slice AE l0.length cE] ?_
 with_reducible refine (HJ.out _ HE.out.b).mono ?_
 rintro e w3 ⟨rfl,hb⟩
 refine ⟨_,rfl,?_⟩
 replace HE:=asd_ (At.step HE.out hb)
 refine hK.out _ _ ⟨HE.out,(cE_ HE 1),(cE_ HE 0)⟩ (fun hHeld=> ?_)
 clear hK K
 refine nq_ 23 ?_
 refine pu_ 19 24 1048575 ?_
 refine pu_ 20 25 2097151 ?_
 refine pu_ 21 26 4194303 ?_
 refine pu_ 22 27 8388607 ?_
 refine ta3_ 23 28 16777215 hHeld ?_
 refine pu_ 24 29 33554431 ?_
 refine pu_ 25 30 67108863 ?_
 refine pu_ 26 31 134217727 ?_
 refine pn_ 27 32 268435455 ?_
 refine pn_ 28 33 536870911 ?_
 refine pn_ 29 34 1073741823 ?_
 refine pn_ 30 35 2147483647 ?_
 refine pn_ 31 36 4294967295 ?_
 refine pn_ 32 37 8589934591 ?_
 refine pu_ 33 38 17179869183 ?_
 refine pu_ 34 39 34359738367 ?_
 refine pu_ 35 4 68719476735 ?_
 refine done_ kr_ ?_
 clear HK;have HK:=HE;clear HE
 clear hHeld
 replace Bc:=ce2_ HK 1 0
 go_wp2_with fail
 go_ret
 exact ⟨rfl,be_⟩
theorem values_enum_false (w:World) (x:S25) (A4 A5:Option Addr) (c4 c5:Nat) (AE:Option Addr) (l0:List S25) (cE:Nat)
  (hJ:∀ W,Below w.heap.size w W→Calls Tryz.prog 60 #[.agg (jvc x A4 A5 c4 c5),.slice AE l0.length cE] W (rb (.bool false) W)):
  Calls Tryz.prog 31 #[.agg (ndE AE l0 cE),.agg (jvc x A4 A5 c4 c5)] w (rb (.bool false) w):=by
 have HJ:=asd_ hJ
 clear hJ
 have HK:=st0_ w
 go_enter Tryz.func31,Tryz.ntmps31
 go_wp2_with (first|((with_reducible refine gd_ 2 ?_);refine bx_ (ndE AE l0 cE) 45 ?_;clear HK;intro g2 wb2 HK Gg2;replace Bc:=ce1_ HK 0)|((with_reducible refine gd_ 3 ?_);refine bx_ (jvc x A4 A5 c4 c5) 25 ?_;clear HK;intro g3 wb3 HK Gg3;replace Bc:=ce2_ HK 1 0))
 refine su2_ 36 HK 1 0 [] (fun HS hHeld=> ?_)
 refine pu_ 0 5 1 ?_
 refine ta3_ 1 6 3 hHeld ?_
 refine pu_ 2 7 7 ?_
 refine pu_ 3 8 15 ?_
 refine pu_ 4 9 31 ?_
 refine pn_ 5 10 63 ?_
 refine pn_ 6 11 127 ?_
 refine pn_ 7 12 255 ?_
 refine pn_ 8 13 511 ?_
 refine pu_ 9 14 1023 ?_
 refine pu_ 10 15 2047 ?_
 refine pu_ 11 16 4095 ?_
 refine ta3_ 12 17 8191 hHeld ?_
 refine pu_ 13 18 16383 ?_
 refine pu_ 14 19 32767 ?_
 refine pu_ 16 21 98303 ?_
 refine tq_ 15 20 131071 rfl hHeld (by rintro w' ⟨s0,s1,s2⟩;exact rr_ 3 g3 (jvc x A4 A5 c4 c5) s0.k.1 Tryz.underlying25) ?_
 refine ta3_ 17 22 262143 hHeld ?_
 refine on_ 18 23 524287 (fun K hK=> ?_)
 have HE:=asd_ (hHeld.1)
 refine ge_ Tryz.func60 #[.agg (jvc x A4 A5 c4 c5),.slice AE l0.length cE] ?_
 with_reducible refine (HJ.out _ HE.out.b).mono ?_
 rintro e w3 ⟨rfl,hb⟩
 refine ⟨_,rfl,?_⟩
 replace HE:=asd_ (At.step HE.out hb)
 refine hK.out _ _ ⟨HE.out,(cE_ HE 1),(cE_ HE 0)⟩ (fun hHeld=> ?_)
 clear hK K
 refine nq_ 23 ?_
 refine pu_ 19 24 1048575 ?_
 refine pu_ 20 25 2097151 ?_
 refine pu_ 21 26 4194303 ?_
 refine pn_ 22 27 8388607 ?_
 refine pn_ 23 28 16777215 ?_
 refine pn_ 24 29 33554431 ?_
 refine pn_ 25 30 67108863 ?_
 refine pn_ 26 31 134217727 ?_
 refine pn_ 27 32 268435455 ?_
 refine pn_ 28 33 536870911 ?_
 refine pn_ 29 34 1073741823 ?_
 refine pn_ 30 35 2147483647 ?_
 refine pn_ 31 36 4294967295 ?_
 refine pn_ 32 37 8589934591 ?_
 refine pn_ 33 38 17179869183 ?_
 refine pu_ 34 39 34359738367 ?_
 refine pu_ 35 4 68719476735 ?_
 refine done_ kr_ ?_
 clear HK;have HK:=HE;clear HE
 clear hHeld
 replace Bc:=ce2_ HK 1 0
 go_wp2_with fail
 go_ret
 exact ⟨rfl,be_⟩
theorem object_true (w:World) (d:Int) (s0 s1 m:Value) (n:Nd) (x:S25) (A4 A5:Option Addr) (c4 c5:Nat) (hx:Rep w x A4 c4 A5 c5) (hn4:x.f4.length≤LM) (h45:x.f4.length≤x.f5.length)
  (hN:∀ W,Below w.heap.size w W→Calls Tryz.prog 75 #[.agg n.cells,.agg (jvc x A4 A5 c4 c5)] W (rb (.bool true) W)):
  Calls Tryz.prog 39 #[.int .i64 d,.agg #[s0,s1],.agg n.cells,.agg (jvc x A4 A5 c4 c5),m] w (rb (.bool true) w):=by
 obtain ⟨l,kl,hkl,hli,hll⟩:=members_is x.f0 x.f1 x.f2 x.f3 x.f4 x.f5 hn4
 have Hlm:Aside0 (l.length≤LM):=⟨Nat.le_trans hll hn4⟩
 have Hli:=asd_ hli
 have Hx:=asd_ hx
 have Hn4:=asd_ hn4
 have H45:=asd_ h45
 have Hkl:=asd_ hkl
 clear hkl hli hll hx hn4 h45
 have HK:=st0_ w
 go_enter Tryz.func39,Tryz.ntmps39
 go_wp2_with (first|((with_reducible refine gd_ 6 ?_);refine bx_ #[s0,s1] 68 ?_;clear HK;intro g6 wb6 HK Gg6;replace Bc:=ce1_ HK 0)|((with_reducible refine gd_ 7 ?_);refine bx_ n.cells 45 ?_;clear HK;intro g7 wb7 HK Gg7;replace Bc:=ce2_ HK 1 0)|((with_reducible refine gd_ 8 ?_);refine bx_ (jvc x A4 A5 c4 c5) 25 ?_;clear HK;intro g8 wb8 HK Gg8;replace Bc:=ce3_ HK 2 1 0)|((with_reducible refine gd_ 22 ?_);refine lo_ 25 8 g8 (jvc x A4 A5 c4 c5) HK.out.k.1 Tryz.underlying25 ?_)|((with_reducible refine gd_ 23 ?_);refine cw_ #[.agg (jvc x A4 A5 c4 c5)] Tryz.func74 (members_ok _ x A4 A5 c4 c5 l kl (Hx.out.below HK.out.b) Hkl.out) ?_;rintro v23 wc23 HK0 ⟨AL,cL,rfl,hF⟩ hB;have HK1:=At.fact (Fact.ints (.slice AL l.length cL) l) HK0 hF;clear HK0 hF hB;replace HK:=asd_ HK1;clear HK1;replace Bc:=ce3_ HK 3 2 1)|((with_reducible refine gd_ 32 ?_);(try (refine gate_guard (by rfl) ?_;dsimp only));refine lo_ 45 7 g7 (n.cells) HK.out.k.2.2.1 Tryz.underlying45 ?_)|((with_reducible refine gd_ 33 ?_);(try (refine gate_guard (by rfl) ?_;dsimp only));refine lo_ 25 8 g8 (jvc x A4 A5 c4 c5) HK.out.k.2.1 Tryz.underlying25 ?_)|((first|((with_reducible refine gd_ 30 ?_);refine cl_ #[.int .i64 (l.length:Int),.agg #[bF,i0],.agg #[bF,i0]] (.bool true) Tryz.func35 (bounded_ok _ _) ?_)|((with_reducible refine gd_ 34 ?_);(try (refine gate_guard (by rfl) ?_;dsimp only));refine cl_ #[.agg n.cells,.agg (jvc x A4 A5 c4 c5)] (.bool true) Tryz.func75 (hN _ HK.out.b) ?_));intro wc30 HK1;replace HK:=asd_ HK1;clear HK1;replace Bc:=ce3_ HK 3 2 1))
 go_loopg [12,13] l.length (fun kq v12 v13 w'=>∃ i:Int,v12= .bool true∧v13= .int .i64 i∧0≤i∧i + kq=l.length∧Aside0 (At w [.f (Fact.ints (.slice AL l.length cL) l),.b g8 (row (jvc x A4 A5 c4 c5) 25),.b g7 (row (n.cells) 45),.b g6 (row (#[s0,s1]) 68)] w'))
 case atStart=>exact ⟨0,rfl,rfl,by omega,by omega,⟨at_⟩⟩
 case round=>
  clear HK
  obtain ⟨i,rfl,rfl,hi0,hik,HK⟩:=hrel
  replace Bc:=ce3_ HK 3 2 1
  cases gk with
  |zero=>
   have ht:decide (i < (l.length:Int))=false:=decide_eq_false (by omega)
   have hl0:decide (0 < (l.length:Int))=true∨decide (0 < (l.length:Int))=false:=by cases decide (0 < (l.length:Int))<;>simp
   rcases hl0 with hl0|hl0
   all_goals go_wp2_with (first|refine wp_loop_once ?_)
   all_goals go_ret
   all_goals exact ⟨rfl,be_⟩
  |succ kk=>
   have ht:decide (i < (l.length:Int))=true:=decide_eq_true (by omega)
   have hil:i < (l.length:Int):=by omega
   obtain ⟨hj0,hj1⟩:=Hli.out _ (rd_mem hi0 hil)
   have hj5:rd l i < (x.f5.length:Int):=by have:=H45.out;omega
   obtain ⟨ad,eL,_⟩:=Kd.at_int (R_C HK.out.k.1).2.2 i hi0 hil
   subst eL
   obtain ⟨ad4,e4,hc4⟩:=Kd.at_string Hx.out.h4 (rd l i) hj0 hj1
   obtain ⟨ad5,B4,d4,B5,d5,e5,hc50,hc51,hc52,hc53,hc54,hc55,m4,n4,m5,n5⟩:=at_T25 Hx.out.h5 (rd l i) hj0 hj5
   subst e4;subst e5
   have Hik:=asd_ hik;have Hi0:=asd_ hi0;have Hil:=asd_ hil;have Hj0:=asd_ hj0;have Hj1:=asd_ hj1;have Hj5:=asd_ hj5;have Hc:=asd_ (And.intro hc4 (And.intro hc50 (And.intro hc51 (And.intro hc52 (And.intro hc53 (And.intro hc54 hc55))))))
   have p1:=eq_true hi0;have p2:=eq_true hil;have p3:=eq_true hj0;have p4:=eq_true hj1;have p5:=eq_true hj5
   clear hik hi0 hil hj0 hj1 hj5 hc4 hc50 hc51 hc52 hc53 hc54 hc55
   go_wp2_with fail
   refine st_ 9 (fun w'=>At w [.f (Fact.ints (.slice (some ad) l.length cL) l),.b g8 (row (jvc x (some ad4) (some ad5) c4 c5) 25),.b g7 (row (n.cells) 45),.b g6 (row (#[s0,s1]) 68)] w'∧(∀ j,w'.cell? ⟨g6,j,none⟩=(#[s0,s1]:Array Value)[j]?)∧(∀ j,w'.cell? ⟨g7,j,none⟩=(n.cells:Array Value)[j]?)∧(∀ j,w'.cell? ⟨g8,j,none⟩=(jvc x (some ad4) (some ad5) c4 c5:Array Value)[j]?)∧w'.cell? (ad.add i.toNat)=some (.int .i64 (rd l i))∧w'.cell? (ad4.add (rd l i).toNat)=some (.string (rdOf ByteArray.empty x.f4 (rd l i)))) [] (fun A=>⟨A,(cA_ A 3),(cA_ A 2),(cA_ A 1),(ints_at A.k.1 i Hi0.out Hil.out),((A.b.cell (World.block_lt_of_cell? w _ Hc.out.1)).trans Hc.out.1)⟩) (fun hHeld=> ?_)
   refine pu_ 0 42 1 ?_
   refine pu_ 2 44 5 ?_
   refine pu_ 3 45 13 ?_
   refine pu_ 4 46 29 ?_
   refine ta6_ 1 43 31 hHeld ?_
   refine ta6_ 5 47 63 hHeld ?_
   refine pu_ 6 48 127 ?_
   refine ta6_ 7 49 255 hHeld ?_
   refine pu_ 8 14 511 ?_
   refine done_ kr_ ?_
   clear HK;have HK:=asd_ hHeld.1
   clear hHeld
   replace Bc:=ce3_ HK 3 2 1
   go_wp2_with fail
   refine st_ 18 (fun w'=>At w [.f (Fact.ints (.slice (some ad) l.length cL) l),.b g8 (row (jvc x (some ad4) (some ad5) c4 c5) 25),.b g7 (row (n.cells) 45),.b g6 (row (#[s0,s1]) 68)] w'∧(∀ j,w'.cell? ⟨g6,j,none⟩=(#[s0,s1]:Array Value)[j]?)∧(∀ j,w'.cell? ⟨g7,j,none⟩=(n.cells:Array Value)[j]?)∧(∀ j,w'.cell? ⟨g8,j,none⟩=(jvc x (some ad4) (some ad5) c4 c5:Array Value)[j]?)∧w'.cell? (ad.add i.toNat)=some (.int .i64 (rd l i))∧w'.cell? (ad4.add (rd l i).toNat)=some (.string (rdOf ByteArray.empty x.f4 (rd l i)))∧w'.cell? (ad5.add ((rd l i).toNat * 6))=some (.int .i64 (rd_T25 x.f5 (rd l i)).f0)∧w'.cell? ⟨(ad5.add ((rd l i).toNat * 6)).block,(ad5.add ((rd l i).toNat * 6)).off + 1,none⟩=some (.bool (rd_T25 x.f5 (rd l i)).f1)∧w'.cell? ⟨(ad5.add ((rd l i).toNat * 6)).block,(ad5.add ((rd l i).toNat * 6)).off + 2,none⟩=some (.int .i64 (rd_T25 x.f5 (rd l i)).f2)∧w'.cell? ⟨(ad5.add ((rd l i).toNat * 6)).block,(ad5.add ((rd l i).toNat * 6)).off + 3,none⟩=some (.string (rd_T25 x.f5 (rd l i)).f3)∧w'.cell? ⟨(ad5.add ((rd l i).toNat * 6)).block,(ad5.add ((rd l i).toNat * 6)).off + 4,none⟩=some (.slice B4 (rd_T25 x.f5 (rd l i)).f4.length d4)∧w'.cell? ⟨(ad5.add ((rd l i).toNat * 6)).block,(ad5.add ((rd l i).toNat * 6)).off + 5,none⟩=some (.slice B5 (rd_T25 x.f5 (rd l i)).f5.length d5)) [] (fun A=>⟨A,(cA_ A 3),(cA_ A 2),(cA_ A 1),(ints_at A.k.1 i Hi0.out Hil.out),((A.b.cell (World.block_lt_of_cell? w _ Hc.out.1)).trans Hc.out.1),((A.b.cell (World.block_lt_of_cell? w _ Hc.out.2.1)).trans Hc.out.2.1),((A.b.cell (World.block_lt_of_cell? w _ Hc.out.2.2.1)).trans Hc.out.2.2.1),((A.b.cell (World.block_lt_of_cell? w _ Hc.out.2.2.2.1)).trans Hc.out.2.2.2.1),((A.b.cell (World.block_lt_of_cell? w _ Hc.out.2.2.2.2.1)).trans Hc.out.2.2.2.2.1),((A.b.cell (World.block_lt_of_cell? w _ Hc.out.2.2.2.2.2.1)).trans Hc.out.2.2.2.2.2.1),((A.b.cell (World.block_lt_of_cell? w _ Hc.out.2.2.2.2.2.2)).trans Hc.out.2.2.2.2.2.2)⟩) (fun hHeld=> ?_)
   refine pu_ 0 68 1 ?_
   refine pu_ 3 71 9 ?_
   refine pu_ 4 72 25 ?_
   refine pu_ 6 74 89 ?_
   refine pu_ 7 75 217 ?_
   refine pu_ 8 76 473 ?_
   refine ta12_ 1 69 475 hHeld ?_
   refine ta12_ 5 73 507 hHeld ?_
   refine ta12_ 9 77 1019 hHeld ?_
   refine pu_ 10 78 2043 ?_
   refine ta12_ 11 79 4091 hHeld ?_
   refine on_ 2 70 4095 (fun K hK=> ?_)
   refine loadr_ (ty:=45) (x:= .tmp 7) g7 (n.cells) (by rfl) rfl rfl rfl hHeld.1.k.2.2.1 Tryz.underlying45 rfl kr_ ?_
   refine hK.out _ _ ⟨hHeld.1,hHeld.2.1,hHeld.2.2.1,hHeld.2.2.2.1,hHeld.2.2.2.2.1,hHeld.2.2.2.2.2.1,hHeld.2.2.2.2.2.2.1,hHeld.2.2.2.2.2.2.2.1,hHeld.2.2.2.2.2.2.2.2.1,hHeld.2.2.2.2.2.2.2.2.2.1,hHeld.2.2.2.2.2.2.2.2.2.2.1,hHeld.2.2.2.2.2.2.2.2.2.2.2⟩ (fun hHeld=> ?_)
   clear hK K
   refine nq_ 70 ?_
   refine on_ 12 80 8191 (fun K hK=> ?_)
   have HKc:=hHeld.1
   refine ge_ Tryz.func76 #[.int .i64 d,.agg #[s0,s1],.agg n.cells,.string (rdOf ByteArray.empty x.f4 (rd l i)),.agg (jvc (rd_T25 x.f5 (rd l i)) B4 B5 d4 d5)] ?_
   with_reducible refine (member_none _ d s0 s1 n (rdOf ByteArray.empty x.f4 (rd l i)) (rd_T25 x.f5 (rd l i)) B4 B5 d4 d5).mono ?_
   rintro e w3 ⟨rfl,hb⟩
   refine ⟨_,rfl,?_⟩
   have HKd:=At.step HKc hb
   refine hK.out _ _ ⟨HKd,(cA_ HKd 3),(cA_ HKd 2),(cA_ HKd 1),(ints_at HKd.k.1 i Hi0.out Hil.out),((HKd.b.cell (World.block_lt_of_cell? w _ Hc.out.1)).trans Hc.out.1),((HKd.b.cell (World.block_lt_of_cell? w _ Hc.out.2.1)).trans Hc.out.2.1),((HKd.b.cell (World.block_lt_of_cell? w _ Hc.out.2.2.1)).trans Hc.out.2.2.1),((HKd.b.cell (World.block_lt_of_cell? w _ Hc.out.2.2.2.1)).trans Hc.out.2.2.2.1),((HKd.b.cell (World.block_lt_of_cell? w _ Hc.out.2.2.2.2.1)).trans Hc.out.2.2.2.2.1),((HKd.b.cell (World.block_lt_of_cell? w _ Hc.out.2.2.2.2.2.1)).trans Hc.out.2.2.2.2.2.1),((HKd.b.cell (World.block_lt_of_cell? w _ Hc.out.2.2.2.2.2.2)).trans Hc.out.2.2.2.2.2.2)⟩ (fun hHeld=> ?_)
   clear hK K
   refine nq_ 80 ?_
   refine pu_ 13 67 16383 ?_
   refine pu_ 14 81 32767 ?_
   refine pu_ 15 82 65535 ?_
   refine pu_ 16 17 131071 ?_
   refine pu_ 17 18 262143 ?_
   refine done_ kr_ ?_
   clear HK;have HK:=asd_ hHeld.1
   clear hHeld
   replace Bc:=ce3_ HK 3 2 1
   go_wp2_with fail
   all_goals go_roundg kk
   all_goals first|exact Nat.lt_succ_self _|exact ⟨wrap64 (i + 1),by first|rfl|simp_all,by first|rfl|simp_all,by have:=Hi0.out;rw [wup Hi0.out Hil.out Hlm.out];omega,by have:=Hik.out;rw [wup Hi0.out Hil.out Hlm.out];omega,⟨at_⟩⟩
theorem marks_at {W:World} {g n:Nat} (h:W.heap[g]? =some (row (Array.replicate n bF) 4)) {i:Int} (h0:0≤i) (h1:i < (n:Int)):W.cell? ⟨g,i.toNat,none⟩=some bF:=by
 rw [blk_cell h]
 simp [Array.getElem?_replicate]
 omega
theorem set_same {W:World} {g i:Nat} {cs:Array Value} {t:TypeId} {v:Value} (h:W.heap[g]? =some (row cs t)) (hv:cs[i]? =some v):W.setCell ⟨g,i,none⟩ v=W:=by
 have e:W.heap=(W.setCell ⟨g,i,none⟩ v).heap:=by
  apply Array.ext_getElem?
  intro j
  by_cases hj:j=g
  ·subst hj
   rw [h,blk_set h]
   congr 2
   apply Array.ext_getElem?
   intro k
   by_cases hk:k=i
   ·subst hk
    rw [hv,Array.getElem?_setIfInBounds_self]
    simp [(Array.getElem?_eq_some_iff.1 hv).1]
   ·rw [Array.getElem?_setIfInBounds_ne (fun e=>hk e.symm)]
  ·exact (Below.heap_setCell W ⟨g,i,none⟩ v j hj).symm
 have e2:W.setCell ⟨g,i,none⟩ v={W with heap:=(W.setCell ⟨g,i,none⟩ v).heap}:=rfl
 rw [e2,← e]
theorem array_any (w:World) (s0 s1 m:Value) (n:Nd) (x:S25) (A4 A5:Option Addr) (c4 c5:Nat) (hx:Rep w x A4 c4 A5 c5) (hn5:x.f5.length≤LM)
  (hm:x.f5.length=0∨∃ g c,m= .slice (some ⟨g,0,none⟩) x.f5.length c∧w.heap[g]? =some (row (Array.replicate x.f5.length bF) 4))
  (hT:∀ W,Below w.heap.size w W→Calls Tryz.prog 71 #[.slice A5 x.f5.length c5] W fun e w'=>∃ v,e= .returned v∧(∃ i j:Int,v= .tuple #[.int .i64 i,.int .i64 j])∧Below W.heap.size W w'):
  Calls Tryz.prog 38 #[.int .i64 2020,.agg #[s0,s1],.agg n.cells,.agg (jvc x A4 A5 c4 c5),m] w (rb (.bool true) w):=by
 have Hx:=asd_ hx
 have Hn5:=asd_ hn5
 have HT:=asd_ hT
 have Hm:=asd_ hm
 clear hx hn5 hT hm
 have HK:=st0_ w
 go_enter Tryz.func38,Tryz.ntmps38
 go_wp2_with (first|((with_reducible refine gd_ 6 ?_);refine bx_ #[s0,s1] 68 ?_;clear HK;intro g6 wb6 HK Gg6;replace Bc:=ce1_ HK 0)|((with_reducible refine gd_ 7 ?_);refine bx_ n.cells 45 ?_;clear HK;intro g7 wb7 HK Gg7;replace Bc:=ce2_ HK 1 0)|((with_reducible refine gd_ 8 ?_);refine bx_ (jvc x A4 A5 c4 c5) 25 ?_;clear HK;intro g8 wb8 HK Gg8;replace Bc:=ce3_ HK 2 1 0)|((with_reducible refine gd_ 34 ?_);refine cw_ #[.slice A5 x.f5.length c5] Tryz.func71 (HT.out _ HK.out.b) ?_;rintro v34 wc34 HK1 ⟨ti,tj,rfl⟩ hB;clear hB;replace HK:=asd_ HK1;clear HK1;replace Bc:=ce3_ HK 2 1 0)|((with_reducible refine gd_ 30 ?_);refine cl_ #[.int .i64 (x.f5.length:Int),.agg #[bF,i0],.agg #[bF,i0]] (.bool true) Tryz.func35 (bounded_ok _ _) ?_;intro wc30 HK1;replace HK:=asd_ HK1;clear HK1;replace Bc:=ce3_ HK 2 1 0))
 go_loopg [12,15] x.f5.length (fun kq v12 v15 w'=>∃ i:Int,v12= .bool true∧v15= .int .i64 i∧0≤i∧i + kq=x.f5.length∧Aside0 (At w [.b g8 (row (jvc x A4 A5 c4 c5) 25),.b g7 (row (n.cells) 45),.b g6 (row (#[s0,s1]) 68)] w'))
 case atStart=>exact ⟨0,rfl,rfl,by omega,by omega,⟨at_⟩⟩
 case round=>
  clear HK
  obtain ⟨i,rfl,rfl,hi0,hik,HK⟩:=hrel
  replace Bc:=ce3_ HK 2 1 0
  cases gk with
  |zero=>
   have ht:decide (i < (x.f5.length:Int))=false:=decide_eq_false (by omega)
   have hl0:decide (0 < (x.f5.length:Int))=true∨decide (0 < (x.f5.length:Int))=false:=by cases decide (0 < (x.f5.length:Int))<;>simp
   rcases hl0 with hl0|hl0
   all_goals go_wp2_with (first|refine wp_loop_once ?_)
   all_goals go_ret
   all_goals exact ⟨rfl,be_⟩
  |succ kk=>
   have ht:decide (i < (x.f5.length:Int))=true:=decide_eq_true (by omega)
   have hil:i < (x.f5.length:Int):=by omega
   obtain ⟨ad5,B4,d4,B5,d5,e5,hc50,hc51,hc52,hc53,hc54,hc55,m4,n4,m5,n5⟩:=at_T25 Hx.out.h5 i hi0 hil
   subst e5
   obtain ⟨gm,cm,em,hgm⟩:=Hm.out.resolve_left (by omega)
   subst em
   have Hgm:=asd_ hgm
   have Hik:=asd_ hik;have Hi0:=asd_ hi0;have Hil:=asd_ hil;have Hc:=asd_ (And.intro hc50 (And.intro hc51 (And.intro hc52 (And.intro hc53 (And.intro hc54 hc55)))))
   have p1:=eq_true hi0;have p2:=eq_true hil
   clear hik hi0 hil hc50 hc51 hc52 hc53 hc54 hc55 hgm
   go_wp2_with fail
   refine st_ 15 (fun w'=>At w [.b g8 (row (jvc x A4 (some ad5) c4 c5) 25),.b g7 (row (n.cells) 45),.b g6 (row (#[s0,s1]) 68)] w'∧(∀ j,w'.cell? ⟨g6,j,none⟩=(#[s0,s1]:Array Value)[j]?)∧(∀ j,w'.cell? ⟨g7,j,none⟩=(n.cells:Array Value)[j]?)∧(∀ j,w'.cell? ⟨g8,j,none⟩=(jvc x A4 (some ad5) c4 c5:Array Value)[j]?)∧w'.cell? (ad5.add (i.toNat * 6))=some (.int .i64 (rd_T25 x.f5 i).f0)∧w'.cell? ⟨(ad5.add (i.toNat * 6)).block,(ad5.add (i.toNat * 6)).off + 1,none⟩=some (.bool (rd_T25 x.f5 i).f1)∧w'.cell? ⟨(ad5.add (i.toNat * 6)).block,(ad5.add (i.toNat * 6)).off + 2,none⟩=some (.int .i64 (rd_T25 x.f5 i).f2)∧w'.cell? ⟨(ad5.add (i.toNat * 6)).block,(ad5.add (i.toNat * 6)).off + 3,none⟩=some (.string (rd_T25 x.f5 i).f3)∧w'.cell? ⟨(ad5.add (i.toNat * 6)).block,(ad5.add (i.toNat * 6)).off + 4,none⟩=some (.slice B4 (rd_T25 x.f5 i).f4.length d4)∧w'.cell? ⟨(ad5.add (i.toNat * 6)).block,(ad5.add (i.toNat * 6)).off + 5,none⟩=some (.slice B5 (rd_T25 x.f5 i).f5.length d5)) [] (fun A=>⟨A,(cA_ A 2),(cA_ A 1),(cA_ A 0),((A.b.cell (World.block_lt_of_cell? w _ Hc.out.1)).trans Hc.out.1),((A.b.cell (World.block_lt_of_cell? w _ Hc.out.2.1)).trans Hc.out.2.1),((A.b.cell (World.block_lt_of_cell? w _ Hc.out.2.2.1)).trans Hc.out.2.2.1),((A.b.cell (World.block_lt_of_cell? w _ Hc.out.2.2.2.1)).trans Hc.out.2.2.2.1),((A.b.cell (World.block_lt_of_cell? w _ Hc.out.2.2.2.2.1)).trans Hc.out.2.2.2.2.1),((A.b.cell (World.block_lt_of_cell? w _ Hc.out.2.2.2.2.2)).trans Hc.out.2.2.2.2.2)⟩) (fun hHeld=> ?_)
   refine pu_ 0 49 1 ?_
   refine pu_ 3 52 9 ?_
   refine pu_ 4 53 25 ?_
   refine pu_ 6 55 89 ?_
   refine ta10_ 1 50 91 hHeld ?_
   refine ta10_ 5 54 123 hHeld ?_
   refine pu_ 7 56 251 ?_
   refine ta10_ 8 57 507 hHeld ?_
   refine on_ 2 51 511 (fun K hK=> ?_)
   refine loadr_ (ty:=45) (x:= .tmp 7) g7 (n.cells) (by rfl) rfl rfl rfl hHeld.1.k.2.1 Tryz.underlying45 rfl kr_ ?_
   refine hK.out _ _ ⟨hHeld.1,hHeld.2.1,hHeld.2.2.1,hHeld.2.2.2.1,hHeld.2.2.2.2.1,hHeld.2.2.2.2.2.1,hHeld.2.2.2.2.2.2.1,hHeld.2.2.2.2.2.2.2.1,hHeld.2.2.2.2.2.2.2.2.1,hHeld.2.2.2.2.2.2.2.2.2⟩ (fun hHeld=> ?_)
   clear hK K
   refine nq_ 51 ?_
   refine on_ 9 58 1023 (fun K hK=> ?_)
   have HKc:=hHeld.1
   refine ge_ Tryz.func72 #[.int .i64 2020,.agg #[s0,s1],.agg n.cells,.int .i64 i,.agg (jvc (rd_T25 x.f5 i) B4 B5 d4 d5)] ?_
   with_reducible refine (element_none _ s0 s1 n i Hi0.out (rd_T25 x.f5 i) B4 B5 d4 d5).mono ?_
   rintro e w3 ⟨rfl,hb⟩
   refine ⟨_,rfl,?_⟩
   have HKd:=At.step HKc hb
   refine hK.out _ _ ⟨HKd,(cA_ HKd 2),(cA_ HKd 1),(cA_ HKd 0),((HKd.b.cell (World.block_lt_of_cell? w _ Hc.out.1)).trans Hc.out.1),((HKd.b.cell (World.block_lt_of_cell? w _ Hc.out.2.1)).trans Hc.out.2.1),((HKd.b.cell (World.block_lt_of_cell? w _ Hc.out.2.2.1)).trans Hc.out.2.2.1),((HKd.b.cell (World.block_lt_of_cell? w _ Hc.out.2.2.2.1)).trans Hc.out.2.2.2.1),((HKd.b.cell (World.block_lt_of_cell? w _ Hc.out.2.2.2.2.1)).trans Hc.out.2.2.2.2.1),((HKd.b.cell (World.block_lt_of_cell? w _ Hc.out.2.2.2.2.2)).trans Hc.out.2.2.2.2.2)⟩ (fun hHeld=> ?_)
   clear hK K
   refine nq_ 58 ?_
   refine pu_ 10 48 2047 ?_
   refine pu_ 11 59 4095 ?_
   refine pu_ 12 60 8191 ?_
   refine pu_ 13 16 16383 ?_
   refine pu_ 14 17 32767 ?_
   refine done_ kr_ ?_
   clear HK;have HK:=asd_ hHeld.1
   clear hHeld
   replace Bc:=ce3_ HK 2 1 0
   have hmk:=marks_at (blk_below Hgm.out HK.out.b) (i:=i) Hi0.out Hil.out
   have hmf:=blk_frozen (blk_below Hgm.out HK.out.b) i.toNat
   go_wp2_with fail
   go_roundg kk
   case measure=>exact Nat.lt_succ_self _
   case rel=>
    refine ⟨wrap64 (i + 1),rfl,rfl,by have:=Hi0.out;rw [wup Hi0.out Hil.out Hn5.out];omega,by have:=Hik.out;rw [wup Hi0.out Hil.out Hn5.out];omega,⟨?_⟩⟩
    rw [set_same (cs:=Array.replicate x.f5.length bF) (t:=4) (blk_below Hgm.out be_) (by have:=Hil.out;have:=Hi0.out;simp [Array.getElem?_replicate];omega)]
    repeat (first|exact HK.out|apply At.drewN|apply At.drew|apply At.alloc)
theorem inplace_none (w:World) (d:Int) (s0 s1 m:Value) (n:Nd) (x:S25) (A4 A5:Option Addr) (c4 c5:Nat):
  Calls Tryz.prog 32 #[.int .i64 d,.agg #[s0,s1],.agg n.cells,.agg (jvc x A4 A5 c4 c5),m] w (rb (.bool true) w):=by
 have HK:=st0_ w
 go_enter Tryz.func32,Tryz.ntmps32
 go_wp2_with (first|refine wp_loop_once ?_|((with_reducible refine gd_ 6 ?_);refine bx_ #[s0,s1] 68 ?_;clear HK;intro g6 wb6 HK Gg6;replace Bc:=ce1_ HK 0)|((with_reducible refine gd_ 7 ?_);refine bx_ n.cells 45 ?_;clear HK;intro g7 wb7 HK Gg7;replace Bc:=ce2_ HK 1 0)|((with_reducible refine gd_ 8 ?_);refine bx_ (jvc x A4 A5 c4 c5) 25 ?_;clear HK;intro g8 wb8 HK Gg8;replace Bc:=ce3_ HK 2 1 0)|((with_reducible refine gd_ 158 ?_);refine lo_ 45 7 g7 (n.cells) HK.out.k.2.1 Tryz.underlying45 ?_)|((first|((with_reducible refine gd_ 44 ?_);refine cl_ #[.int .i64 d,.agg #[s0,s1],nilS,.agg (jvc x A4 A5 c4 c5),m] (i0) Tryz.func63 (several_none _ _ _ _ _ _) ?_)|((with_reducible refine gd_ 56 ?_);refine cl_ #[.int .i64 d,.agg #[s0,s1],nilS,.agg (jvc x A4 A5 c4 c5),m] (i0) Tryz.func63 (several_none _ _ _ _ _ _) ?_)|((with_reducible refine gd_ 71 ?_);refine cl_ #[.int .i64 d,.agg #[s0,s1],nilS,.agg (jvc x A4 A5 c4 c5),m] (i0) Tryz.func63 (several_none _ _ _ _ _ _) ?_)|((with_reducible refine gd_ 161 ?_);refine cl_ #[.int .i64 d,.agg #[s0,s1],.agg n.cells,.agg (jvc x A4 A5 c4 c5),m] (.bool true) Tryz.func67 (depends_none _ _ _ _ _ _ _) ?_));intro wc44 HK1;replace HK:=asd_ HK1;clear HK1;replace Bc:=ce3_ HK 2 1 0))
 go_ret
 exact ⟨rfl,be_⟩
theorem made_rep (n:Nat):madeCells #[bF] n=Array.replicate n bF:=by
 apply Array.ext
 ·simp [size_madeCells]
 ·intro i h1 h2
  simp [madeCells,Nat.mod_one]
theorem jv_other_true (w:World) (s1:Value) (n:Nd) (gn cS:Nat) (x:S25) (A4 A5:Option Addr) (c4 c5:Nat) (hk0:n.kind=0) (k2:(x.f0 == 2)=false) (k3:(x.f0 == 3)=false) (k4:(x.f0 == 4)=false) (k5:(x.f0 == 5)=false) (hn1:n.cells.all (·.oneCell')=true) (hS:w.heap[gn]? =some (row n.cells 45)) (hn5:x.f5.length≤LM)
  (h31:∀ W,Below w.heap.size w W→Calls Tryz.prog 31 #[.agg n.cells,.agg (jvc x A4 A5 c4 c5)] W (rb (.bool true) W)):
  Calls Tryz.prog 20 #[.int .i64 2020,.agg #[.slice (some ⟨gn,0,none⟩) 1 cS,s1],.int .i64 1,.agg (jvc x A4 A5 c4 c5)] w fun e w'=>∃ v,e= .returned (.tuple #[.bool true,v])∧Below w.heap.size w w':=by
 have hmk:=print_make_of (P:=Tryz.prog) 63 4 bF 1 Tryz.underlying63 kr_ rfl (by decide) x.f5.length (by simp only [LM] at hn5;omega)
 have H31:=asd_ h31
 clear h31
 have HK:Aside0 (At w [.b gn (row (n.cells) 45)] w):=asd_ (At.hold (At.start w) hS (by simp [nums]))
 replace Bc:=ce1_ HK 0
 go_enter Tryz.func20,Tryz.ntmps20
 go_wp2_with (first|((with_reducible refine gd_ 5 ?_);refine bx_ #[.slice (some ⟨gn,0,none⟩) 1 cS,s1] 68 ?_;clear HK;intro g5 wb5 HK Gg5;replace Bc:=ce2_ HK 1 0)|((with_reducible refine gd_ 7 ?_);refine bx_ (jvc x A4 A5 c4 c5) 25 ?_;clear HK;intro g7 wb7 HK Gg7;replace Bc:=ce3_ HK 2 1 0)|((with_reducible refine gd_ 18 ?_);refine lo_ 45 17 gn (n.cells) HK.out.k.2.2.1 Tryz.underlying45 ?_)|((with_reducible refine gd_ 10 ?_);refine bx_ (ndZ nilS nilS) 45 ?_;clear HK;intro g10 wb10 HK Gg10;replace Bc:=ce4_ HK 3 2 1 0)|((with_reducible refine gd_ 22 ?_);refine nw_ (row (madeCells #[bF] x.f5.length) 4) (fun b=> .slice (some ⟨b,0,none⟩) x.f5.length x.f5.length) ?_;clear HK;intro gm wb22 HK Ggm;replace Bc:=ce4_ HK 4 3 2 1)|((with_reducible refine gd_ 30 ?_);refine lo_ 45 10 g10 (n.cells) HK.out.k.2.1 Tryz.underlying45 ?_)|((with_reducible refine gd_ 31 ?_);refine lo_ 25 7 g7 (jvc x A4 A5 c4 c5) HK.out.k.2.2.1 Tryz.underlying25 ?_)|((with_reducible refine gd_ 34 ?_);refine lo_ 68 5 g5 (#[.slice (some ⟨gn,0,none⟩) 1 cS,s1]) HK.out.k.2.2.2.1 Tryz.underlying68 ?_)|((with_reducible refine gd_ 35 ?_);refine lo_ 45 10 g10 (n.cells) HK.out.k.2.1 Tryz.underlying45 ?_)|((with_reducible refine gd_ 36 ?_);refine lo_ 25 7 g7 (jvc x A4 A5 c4 c5) HK.out.k.2.2.1 Tryz.underlying25 ?_)|((with_reducible refine gate_ (.store 45 (.tmp 10) (.tmp 18)) rfl ?_);refine storerow_at (cs:=ndZ nilS nilS) (g:=g10) 0 n.cells at_ rfl Gg10.out rfl rfl rfl rfl rfl rfl kr_ rfl (hn1) ?_;intro wsr HK1;replace HK:=asd_ HK1;clear HK1;replace Bc:=ce4_ HK 3 2 1 0)|((first|((with_reducible refine gd_ 32 ?_);refine cl_ #[.agg n.cells,.agg (jvc x A4 A5 c4 c5)] (.bool true) Tryz.func31 (H31.out _ HK.out.b) ?_)|((with_reducible refine gd_ 38 ?_);refine cl_ #[.int .i64 2020,.agg #[.slice (some ⟨gn,0,none⟩) 1 cS,s1],.agg n.cells,.agg (jvc x A4 A5 c4 c5),.slice (some ⟨gm,0,none⟩) x.f5.length x.f5.length] (.bool true) Tryz.func32 (inplace_none _ 2020 (.slice (some ⟨gn,0,none⟩) 1 cS) s1 (.slice (some ⟨gm,0,none⟩) x.f5.length x.f5.length) n x A4 A5 c4 c5) ?_));intro wc32 HK1;replace HK:=asd_ HK1;clear HK1;replace Bc:=ce4_ HK 4 3 2 1))
 go_ret2
 exact ⟨_,rfl,be_⟩
theorem jv_other_false (w:World) (s1:Value) (n:Nd) (gn cS:Nat) (x:S25) (A4 A5:Option Addr) (c4 c5:Nat) (hk0:n.kind=0) (k2:(x.f0 == 2)=false) (k3:(x.f0 == 3)=false) (k4:(x.f0 == 4)=false) (k5:(x.f0 == 5)=false) (hn1:n.cells.all (·.oneCell')=true) (hS:w.heap[gn]? =some (row n.cells 45)) (hn5:x.f5.length≤LM)
  (h31:∀ W,Below w.heap.size w W→Calls Tryz.prog 31 #[.agg n.cells,.agg (jvc x A4 A5 c4 c5)] W (rb (.bool false) W)):
  Calls Tryz.prog 20 #[.int .i64 2020,.agg #[.slice (some ⟨gn,0,none⟩) 1 cS,s1],.int .i64 1,.agg (jvc x A4 A5 c4 c5)] w fun e w'=>∃ v,e= .returned (.tuple #[.bool false,v])∧Below w.heap.size w w':=by
 have hmk:=print_make_of (P:=Tryz.prog) 63 4 bF 1 Tryz.underlying63 kr_ rfl (by decide) x.f5.length (by simp only [LM] at hn5;omega)
 have H31:=asd_ h31
 clear h31
 have HK:Aside0 (At w [.b gn (row (n.cells) 45)] w):=asd_ (At.hold (At.start w) hS (by simp [nums]))
 replace Bc:=ce1_ HK 0
 go_enter Tryz.func20,Tryz.ntmps20
 go_wp2_with (first|((with_reducible refine gd_ 5 ?_);refine bx_ #[.slice (some ⟨gn,0,none⟩) 1 cS,s1] 68 ?_;clear HK;intro g5 wb5 HK Gg5;replace Bc:=ce2_ HK 1 0)|((with_reducible refine gd_ 7 ?_);refine bx_ (jvc x A4 A5 c4 c5) 25 ?_;clear HK;intro g7 wb7 HK Gg7;replace Bc:=ce3_ HK 2 1 0)|((with_reducible refine gd_ 18 ?_);refine lo_ 45 17 gn (n.cells) HK.out.k.2.2.1 Tryz.underlying45 ?_)|((with_reducible refine gd_ 10 ?_);refine bx_ (ndZ nilS nilS) 45 ?_;clear HK;intro g10 wb10 HK Gg10;replace Bc:=ce4_ HK 3 2 1 0)|((with_reducible refine gd_ 22 ?_);refine nw_ (row (madeCells #[bF] x.f5.length) 4) (fun b=> .slice (some ⟨b,0,none⟩) x.f5.length x.f5.length) ?_;clear HK;intro gm wb22 HK Ggm;replace Bc:=ce4_ HK 4 3 2 1)|((with_reducible refine gd_ 30 ?_);refine lo_ 45 10 g10 (n.cells) HK.out.k.2.1 Tryz.underlying45 ?_)|((with_reducible refine gd_ 31 ?_);refine lo_ 25 7 g7 (jvc x A4 A5 c4 c5) HK.out.k.2.2.1 Tryz.underlying25 ?_)|((with_reducible refine gd_ 34 ?_);refine lo_ 68 5 g5 (#[.slice (some ⟨gn,0,none⟩) 1 cS,s1]) HK.out.k.2.2.2.1 Tryz.underlying68 ?_)|((with_reducible refine gd_ 35 ?_);refine lo_ 45 10 g10 (n.cells) HK.out.k.2.1 Tryz.underlying45 ?_)|((with_reducible refine gd_ 36 ?_);refine lo_ 25 7 g7 (jvc x A4 A5 c4 c5) HK.out.k.2.2.1 Tryz.underlying25 ?_)|((with_reducible refine gate_ (.store 45 (.tmp 10) (.tmp 18)) rfl ?_);refine storerow_at (cs:=ndZ nilS nilS) (g:=g10) 0 n.cells at_ rfl Gg10.out rfl rfl rfl rfl rfl rfl kr_ rfl (hn1) ?_;intro wsr HK1;replace HK:=asd_ HK1;clear HK1;replace Bc:=ce4_ HK 3 2 1 0)|((first|((with_reducible refine gd_ 32 ?_);refine cl_ #[.agg n.cells,.agg (jvc x A4 A5 c4 c5)] (.bool false) Tryz.func31 (H31.out _ HK.out.b) ?_)|((with_reducible refine gd_ 38 ?_);refine cl_ #[.int .i64 2020,.agg #[.slice (some ⟨gn,0,none⟩) 1 cS,s1],.agg n.cells,.agg (jvc x A4 A5 c4 c5),.slice (some ⟨gm,0,none⟩) x.f5.length x.f5.length] (.bool true) Tryz.func32 (inplace_none _ 2020 (.slice (some ⟨gn,0,none⟩) 1 cS) s1 (.slice (some ⟨gm,0,none⟩) x.f5.length x.f5.length) n x A4 A5 c4 c5) ?_));intro wc32 HK1;replace HK:=asd_ HK1;clear HK1;replace Bc:=ce4_ HK 4 3 2 1))
 go_region
 all_goals go_wp2
 all_goals go_ret2
 all_goals exact ⟨_,rfl,be_⟩
theorem jv_array_true (w:World) (s1:Value) (n:Nd) (gn cS:Nat) (x:S25) (A4 A5:Option Addr) (c4 c5:Nat) (hk0:n.kind=0) (k2:(x.f0 == 2)=false) (k3:(x.f0 == 3)=false) (k4:(x.f0 == 4)=true) (hn1:n.cells.all (·.oneCell')=true) (hS:w.heap[gn]? =some (row n.cells 45)) (hn5:x.f5.length≤LM)
  (h31:∀ W,Below w.heap.size w W→Calls Tryz.prog 31 #[.agg n.cells,.agg (jvc x A4 A5 c4 c5)] W (rb (.bool true) W)) (hx:Rep w x A4 c4 A5 c5) (hT:∀ W,Below w.heap.size w W→Calls Tryz.prog 71 #[.slice A5 x.f5.length c5] W fun e w'=>∃ v,e= .returned v∧(∃ i j:Int,v= .tuple #[.int .i64 i,.int .i64 j])∧Below W.heap.size W w'):
  Calls Tryz.prog 20 #[.int .i64 2020,.agg #[.slice (some ⟨gn,0,none⟩) 1 cS,s1],.int .i64 1,.agg (jvc x A4 A5 c4 c5)] w fun e w'=>∃ v,e= .returned (.tuple #[.bool true,v])∧Below w.heap.size w w':=by
 have hmk:=print_make_of (P:=Tryz.prog) 63 4 bF 1 Tryz.underlying63 kr_ rfl (by decide) x.f5.length (by simp only [LM] at hn5;omega)
 have H31:=asd_ h31
 clear h31
 have Hx:=asd_ hx
 have HT:=asd_ hT
 clear hx hT
 have HK:Aside0 (At w [.b gn (row (n.cells) 45)] w):=asd_ (At.hold (At.start w) hS (by simp [nums]))
 replace Bc:=ce1_ HK 0
 go_enter Tryz.func20,Tryz.ntmps20
 go_wp2_with (first|((with_reducible refine gd_ 5 ?_);refine bx_ #[.slice (some ⟨gn,0,none⟩) 1 cS,s1] 68 ?_;clear HK;intro g5 wb5 HK Gg5;replace Bc:=ce2_ HK 1 0)|((with_reducible refine gd_ 7 ?_);refine bx_ (jvc x A4 A5 c4 c5) 25 ?_;clear HK;intro g7 wb7 HK Gg7;replace Bc:=ce3_ HK 2 1 0)|((with_reducible refine gd_ 18 ?_);refine lo_ 45 17 gn (n.cells) HK.out.k.2.2.1 Tryz.underlying45 ?_)|((with_reducible refine gd_ 10 ?_);refine bx_ (ndZ nilS nilS) 45 ?_;clear HK;intro g10 wb10 HK Gg10;replace Bc:=ce4_ HK 3 2 1 0)|((with_reducible refine gd_ 22 ?_);refine nw_ (row (madeCells #[bF] x.f5.length) 4) (fun b=> .slice (some ⟨b,0,none⟩) x.f5.length x.f5.length) ?_;clear HK;intro gm wb22 HK Ggm;replace Bc:=ce4_ HK 4 3 2 1)|((with_reducible refine gd_ 30 ?_);refine lo_ 45 10 g10 (n.cells) HK.out.k.2.1 Tryz.underlying45 ?_)|((with_reducible refine gd_ 31 ?_);refine lo_ 25 7 g7 (jvc x A4 A5 c4 c5) HK.out.k.2.2.1 Tryz.underlying25 ?_)|((with_reducible refine gd_ 34 ?_);refine lo_ 68 5 g5 (#[.slice (some ⟨gn,0,none⟩) 1 cS,s1]) HK.out.k.2.2.2.1 Tryz.underlying68 ?_)|((with_reducible refine gd_ 35 ?_);refine lo_ 45 10 g10 (n.cells) HK.out.k.2.1 Tryz.underlying45 ?_)|((with_reducible refine gd_ 36 ?_);refine lo_ 25 7 g7 (jvc x A4 A5 c4 c5) HK.out.k.2.2.1 Tryz.underlying25 ?_)|((with_reducible refine gd_ 82 ?_);refine lo_ 68 5 g5 (#[.slice (some ⟨gn,0,none⟩) 1 cS,s1]) HK.out.k.2.2.2.1 Tryz.underlying68 ?_)|((with_reducible refine gd_ 83 ?_);refine lo_ 45 10 g10 (n.cells) HK.out.k.2.1 Tryz.underlying45 ?_)|((with_reducible refine gd_ 84 ?_);refine lo_ 25 7 g7 (jvc x A4 A5 c4 c5) HK.out.k.2.2.1 Tryz.underlying25 ?_)|((with_reducible refine gate_ (.store 45 (.tmp 10) (.tmp 18)) rfl ?_);refine storerow_at (cs:=ndZ nilS nilS) (g:=g10) 0 n.cells at_ rfl Gg10.out rfl rfl rfl rfl rfl rfl kr_ rfl (hn1) ?_;intro wsr HK1;replace HK:=asd_ HK1;clear HK1;replace Bc:=ce4_ HK 3 2 1 0)|((first|((with_reducible refine gd_ 32 ?_);refine cl_ #[.agg n.cells,.agg (jvc x A4 A5 c4 c5)] (.bool true) Tryz.func31 (H31.out _ HK.out.b) ?_)|((with_reducible refine gd_ 38 ?_);refine cl_ #[.int .i64 2020,.agg #[.slice (some ⟨gn,0,none⟩) 1 cS,s1],.agg n.cells,.agg (jvc x A4 A5 c4 c5),.slice (some ⟨gm,0,none⟩) x.f5.length x.f5.length] (.bool true) Tryz.func32 (inplace_none _ 2020 (.slice (some ⟨gn,0,none⟩) 1 cS) s1 (.slice (some ⟨gm,0,none⟩) x.f5.length x.f5.length) n x A4 A5 c4 c5) ?_)|((with_reducible refine gd_ 86 ?_);refine cl_ #[.int .i64 2020,.agg #[.slice (some ⟨gn,0,none⟩) 1 cS,s1],.agg n.cells,.agg (jvc x A4 A5 c4 c5),.slice (some ⟨gm,0,none⟩) x.f5.length x.f5.length] (.bool true) Tryz.func38 (array_any _ (.slice (some ⟨gn,0,none⟩) 1 cS) s1 (.slice (some ⟨gm,0,none⟩) x.f5.length x.f5.length) n x A4 A5 c4 c5 (Hx.out.below HK.out.b) hn5 (Or.inr ⟨gm,x.f5.length,rfl,by rw [← made_rep];exact HK.out.k.1⟩) (fun W' hb=>HT.out W' (below_step HK.out.b hb))) ?_));intro wc32 HK1;replace HK:=asd_ HK1;clear HK1;replace Bc:=ce4_ HK 4 3 2 1))
 go_ret2
 exact ⟨_,rfl,be_⟩
theorem jv_array_false (w:World) (s1:Value) (n:Nd) (gn cS:Nat) (x:S25) (A4 A5:Option Addr) (c4 c5:Nat) (hk0:n.kind=0) (k2:(x.f0 == 2)=false) (k3:(x.f0 == 3)=false) (k4:(x.f0 == 4)=true) (hn1:n.cells.all (·.oneCell')=true) (hS:w.heap[gn]? =some (row n.cells 45)) (hn5:x.f5.length≤LM)
  (h31:∀ W,Below w.heap.size w W→Calls Tryz.prog 31 #[.agg n.cells,.agg (jvc x A4 A5 c4 c5)] W (rb (.bool false) W)) (hx:Rep w x A4 c4 A5 c5) (hT:∀ W,Below w.heap.size w W→Calls Tryz.prog 71 #[.slice A5 x.f5.length c5] W fun e w'=>∃ v,e= .returned v∧(∃ i j:Int,v= .tuple #[.int .i64 i,.int .i64 j])∧Below W.heap.size W w'):
  Calls Tryz.prog 20 #[.int .i64 2020,.agg #[.slice (some ⟨gn,0,none⟩) 1 cS,s1],.int .i64 1,.agg (jvc x A4 A5 c4 c5)] w fun e w'=>∃ v,e= .returned (.tuple #[.bool false,v])∧Below w.heap.size w w':=by
 have hmk:=print_make_of (P:=Tryz.prog) 63 4 bF 1 Tryz.underlying63 kr_ rfl (by decide) x.f5.length (by simp only [LM] at hn5;omega)
 have H31:=asd_ h31
 clear h31
 have Hx:=asd_ hx
 have HT:=asd_ hT
 clear hx hT
 have HK:Aside0 (At w [.b gn (row (n.cells) 45)] w):=asd_ (At.hold (At.start w) hS (by simp [nums]))
 replace Bc:=ce1_ HK 0
 go_enter Tryz.func20,Tryz.ntmps20
 go_wp2_with (first|((with_reducible refine gd_ 5 ?_);refine bx_ #[.slice (some ⟨gn,0,none⟩) 1 cS,s1] 68 ?_;clear HK;intro g5 wb5 HK Gg5;replace Bc:=ce2_ HK 1 0)|((with_reducible refine gd_ 7 ?_);refine bx_ (jvc x A4 A5 c4 c5) 25 ?_;clear HK;intro g7 wb7 HK Gg7;replace Bc:=ce3_ HK 2 1 0)|((with_reducible refine gd_ 18 ?_);refine lo_ 45 17 gn (n.cells) HK.out.k.2.2.1 Tryz.underlying45 ?_)|((with_reducible refine gd_ 10 ?_);refine bx_ (ndZ nilS nilS) 45 ?_;clear HK;intro g10 wb10 HK Gg10;replace Bc:=ce4_ HK 3 2 1 0)|((with_reducible refine gd_ 22 ?_);refine nw_ (row (madeCells #[bF] x.f5.length) 4) (fun b=> .slice (some ⟨b,0,none⟩) x.f5.length x.f5.length) ?_;clear HK;intro gm wb22 HK Ggm;replace Bc:=ce4_ HK 4 3 2 1)|((with_reducible refine gd_ 30 ?_);refine lo_ 45 10 g10 (n.cells) HK.out.k.2.1 Tryz.underlying45 ?_)|((with_reducible refine gd_ 31 ?_);refine lo_ 25 7 g7 (jvc x A4 A5 c4 c5) HK.out.k.2.2.1 Tryz.underlying25 ?_)|((with_reducible refine gd_ 34 ?_);refine lo_ 68 5 g5 (#[.slice (some ⟨gn,0,none⟩) 1 cS,s1]) HK.out.k.2.2.2.1 Tryz.underlying68 ?_)|((with_reducible refine gd_ 35 ?_);refine lo_ 45 10 g10 (n.cells) HK.out.k.2.1 Tryz.underlying45 ?_)|((with_reducible refine gd_ 36 ?_);refine lo_ 25 7 g7 (jvc x A4 A5 c4 c5) HK.out.k.2.2.1 Tryz.underlying25 ?_)|((with_reducible refine gd_ 82 ?_);refine lo_ 68 5 g5 (#[.slice (some ⟨gn,0,none⟩) 1 cS,s1]) HK.out.k.2.2.2.1 Tryz.underlying68 ?_)|((with_reducible refine gd_ 83 ?_);refine lo_ 45 10 g10 (n.cells) HK.out.k.2.1 Tryz.underlying45 ?_)|((with_reducible refine gd_ 84 ?_);refine lo_ 25 7 g7 (jvc x A4 A5 c4 c5) HK.out.k.2.2.1 Tryz.underlying25 ?_)|((with_reducible refine gate_ (.store 45 (.tmp 10) (.tmp 18)) rfl ?_);refine storerow_at (cs:=ndZ nilS nilS) (g:=g10) 0 n.cells at_ rfl Gg10.out rfl rfl rfl rfl rfl rfl kr_ rfl (hn1) ?_;intro wsr HK1;replace HK:=asd_ HK1;clear HK1;replace Bc:=ce4_ HK 3 2 1 0)|((first|((with_reducible refine gd_ 32 ?_);refine cl_ #[.agg n.cells,.agg (jvc x A4 A5 c4 c5)] (.bool false) Tryz.func31 (H31.out _ HK.out.b) ?_)|((with_reducible refine gd_ 38 ?_);refine cl_ #[.int .i64 2020,.agg #[.slice (some ⟨gn,0,none⟩) 1 cS,s1],.agg n.cells,.agg (jvc x A4 A5 c4 c5),.slice (some ⟨gm,0,none⟩) x.f5.length x.f5.length] (.bool true) Tryz.func32 (inplace_none _ 2020 (.slice (some ⟨gn,0,none⟩) 1 cS) s1 (.slice (some ⟨gm,0,none⟩) x.f5.length x.f5.length) n x A4 A5 c4 c5) ?_)|((with_reducible refine gd_ 86 ?_);refine cl_ #[.int .i64 2020,.agg #[.slice (some ⟨gn,0,none⟩) 1 cS,s1],.agg n.cells,.agg (jvc x A4 A5 c4 c5),.slice (some ⟨gm,0,none⟩) x.f5.length x.f5.length] (.bool true) Tryz.func38 (array_any _ (.slice (some ⟨gn,0,none⟩) 1 cS) s1 (.slice (some ⟨gm,0,none⟩) x.f5.length x.f5.length) n x A4 A5 c4 c5 (Hx.out.below HK.out.b) hn5 (Or.inr ⟨gm,x.f5.length,rfl,by rw [← made_rep];exact HK.out.k.1⟩) (fun W' hb=>HT.out W' (below_step HK.out.b hb))) ?_));intro wc32 HK1;replace HK:=asd_ HK1;clear HK1;replace Bc:=ce4_ HK 4 3 2 1))
 go_region
 all_goals go_wp2
 all_goals go_ret2
 all_goals exact ⟨_,rfl,be_⟩
end Go.Proofs.YtkphbhncpdcbeaaGreatDoor.J
