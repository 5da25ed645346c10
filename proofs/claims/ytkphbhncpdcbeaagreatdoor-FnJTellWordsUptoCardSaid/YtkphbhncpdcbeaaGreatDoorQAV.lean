/- Part. -/
import Derived.Test.YtkphbhncpdcbeaaGreatDoorQAU
set_option linter.unusedVariables false
set_option linter.unusedSimpArgs false
set_option maxHeartbeats 8000000
set_option maxRecDepth 100000
namespace Go.Proofs.YtkphbhncpdcbeaaGreatDoor.J
open Go.RowKit YtkphbhncpdcbeaaGreatDoorW.PrintWords YtkphbhncpdcbeaaGreatDoorW.PrintLast YtkphbhncpdcbeaaGreatDoorW.PrintMore PJT
theorem eqs_object (w:World) (x y:S25) (A4 A5 B4 B5:Option Addr) (c4 c5 d4 d5:Nat) (hne:(x.f0 != y.f0)=false) (k1:(x.f0 == 1)=false) (k2:(x.f0 == 2)=false) (k3:(x.f0 == 3)=false) (k4:(x.f0 == 4)=false) (k5:(x.f0 == 5)=true) (hx:Rep w x A4 c4 A5 c5) (hy:Rep w y B4 d4 B5 d5) (hn4:x.f4.length≤LM) (hm4:y.f4.length≤LM) (hex:x.f4.length=x.f5.length) (hey:y.f4.length=y.f5.length) (hVy:∀ z∈y.f5,V z) (hT:∀ a∈x.f5,∀ b,V b→∀ W A4 A5 B4 B5 c4 c5 d4 d5,Below w.heap.size w W→Rep W a A4 c4 A5 c5→Rep W b B4 d4 B5 d5→Calls Tryz.prog 61 #[.agg (jvc a A4 A5 c4 c5),.agg (jvc b B4 B5 d4 d5)] W fun e w'=>∃ r:Bool,e= .returned (.bool r)∧Below W.heap.size W w'):
  Calls Tryz.prog 61 #[.agg (jvc x A4 A5 c4 c5),.agg (jvc y B4 B5 d4 d5)] w fun e w'=>∃ r:Bool,e= .returned (.bool r)∧Below w.heap.size w w':=by
 have Hx:=asd_ hx
 have Hy:=asd_ hy
 have HVy:=asd_ hVy
 have HT:=asd_ hT
 have Hex:=asd_ hex
 have Hey:=asd_ hey
 clear hx hy hVy hT hex hey
 have HK:=st0_ w
 go_enter Tryz.func61,Tryz.ntmps61
 go_wp2_with (first|((with_reducible refine gd_ 2 ?_);refine bx_ (jvc x A4 A5 c4 c5) 25 ?_;clear HK;intro g2 wb2 HK Gg2;replace Bc:=ce1_ HK 0)|((with_reducible refine gd_ 3 ?_);refine bx_ (jvc y B4 B5 d4 d5) 25 ?_;clear HK;intro g3 wb3 HK Gg3;replace Bc:=ce2_ HK 1 0)|((with_reducible refine gd_ 65 ?_);refine lo_ 25 2 g2 (jvc x A4 A5 c4 c5) HK.out.k.2.1 Tryz.underlying25 ?_)|((with_reducible refine gd_ 66 ?_);refine lo_ 25 3 g3 (jvc y B4 B5 d4 d5) HK.out.k.1 Tryz.underlying25 ?_)|((with_reducible refine gd_ 67 ?_);refine cw_ #[.agg (jvc x A4 A5 c4 c5),.agg (jvc y B4 B5 d4 d5)] Tryz.func114 (bool_form (has_ok _ x y A4 A5 B4 B5 c4 c5 d4 d5 (Hx.out.below HK.out.b) (Hy.out.below HK.out.b) hn4 hm4)) ?_;rintro v67 wc67 HK1 ⟨rb67,rfl⟩ hB;clear hB;replace HK:=asd_ HK1;clear HK1;replace Bc:=ce2_ HK 1 0;cases rb67)|((with_reducible refine gd_ 69 ?_);(try (refine gate_guard (by rfl) ?_;dsimp only));refine lo_ 25 3 g3 (jvc y B4 B5 d4 d5) HK.out.k.1 Tryz.underlying25 ?_)|((with_reducible refine gd_ 70 ?_);(try (refine gate_guard (by rfl) ?_;dsimp only));refine lo_ 25 2 g2 (jvc x A4 A5 c4 c5) HK.out.k.2.1 Tryz.underlying25 ?_)|((with_reducible refine gd_ 71 ?_);(try (refine gate_guard (by rfl) ?_;dsimp only));refine cw_ #[.agg (jvc y B4 B5 d4 d5),.agg (jvc x A4 A5 c4 c5)] Tryz.func114 (bool_form (has_ok _ y x B4 B5 A4 A5 d4 d5 c4 c5 (Hy.out.below HK.out.b) (Hx.out.below HK.out.b) hm4 hn4)) ?_;rintro v71 wc71 HK1 ⟨rb71,rfl⟩ hB;clear hB;replace HK:=asd_ HK1;clear HK1;replace Bc:=ce2_ HK 1 0;cases rb71)|((with_reducible refine gd_ 74 ?_);(try (refine gate_guard (by rfl) ?_;dsimp only));refine lo_ 25 2 g2 (jvc x A4 A5 c4 c5) HK.out.k.2.1 Tryz.underlying25 ?_)|((with_reducible refine gd_ 75 ?_);(try (refine gate_guard (by rfl) ?_;dsimp only));refine lo_ 25 3 g3 (jvc y B4 B5 d4 d5) HK.out.k.1 Tryz.underlying25 ?_)|((with_reducible refine gd_ 76 ?_);(try (refine gate_guard (by rfl) ?_;dsimp only));refine cw_ #[.agg (jvc x A4 A5 c4 c5),.agg (jvc y B4 B5 d4 d5)] Tryz.func115 (bool_form (within_any _ x y A4 A5 B4 B5 c4 c5 d4 d5 (Hx.out.below HK.out.b) (Hy.out.below HK.out.b) hn4 hm4 Hex.out Hey.out HVy.out (fun a ha b hb W A4 A5 B4 B5 c4 c5 d4 d5 hbW=>HT.out a ha b hb W A4 A5 B4 B5 c4 c5 d4 d5 (below_step HK.out.b hbW)))) ?_;rintro v76 wc76 HK1 ⟨rb76,rfl⟩ hB;clear hB;replace HK:=asd_ HK1;clear HK1;replace Bc:=ce2_ HK 1 0))
 all_goals go_ret
 all_goals exact ⟨_,rfl,be_⟩
theorem twins_any (w:World) (A5:Option Addr) (c5:Nat) (l:List S25) (hx:Kd.C k25 w A5 l.length l) (hn:l.length≤LM)
  (hT:∀ a∈l,∀ b∈l,∀ W A4 A5 B4 B5 c4 c5 d4 d5,Below w.heap.size w W→Rep W a A4 c4 A5 c5→Rep W b B4 d4 B5 d5→Calls Tryz.prog 61 #[.agg (jvc a A4 A5 c4 c5),.agg (jvc b B4 B5 d4 d5)] W fun e w'=>∃ r:Bool,e= .returned (.bool r)∧Below W.heap.size W w'):
  Calls Tryz.prog 71 #[.slice A5 l.length c5] w fun e w'=>∃ v,e= .returned v∧(∃ i j:Int,v= .tuple #[.int .i64 i,.int .i64 j])∧Below w.heap.size w w':=by
 have Hx:=asd_ hx
 have HT:=asd_ hT
 clear hx hT
 have HK:=st0_ w
 go_enter Tryz.func71,Tryz.ntmps71
 go_wp2_with fail
 go_loopg [4] l.length (fun kq v4 w'=>∃ k:Int,v4= .int .i64 k∧1≤k∧k + kq=l.length + 1∧Aside0 (At w [] w'))
 case atStart=>exact ⟨1,rfl,by omega,by omega,⟨at_⟩⟩
 case round=>
  clear HK
  obtain ⟨k,rfl,hk1,hkk,HK⟩:=hrel
  rcases Int.lt_or_le k l.length with hkl|hkl
  ·obtain ⟨kk,rfl⟩:∃ m,gk=m + 1:=⟨gk - 1,by omega⟩
   have ht0:decide (k < (l.length:Int))=true:=decide_eq_true hkl
   have Hk1:=asd_ hk1;have Hkk:=asd_ hkk;have Hkl:=asd_ hkl;clear hk1 hkk hkl
   go_wp2_with fail
   go_loopg [5] k.toNat (fun kq v5 w'=>∃ i:Int,v5= .int .i64 i∧0≤i∧i + kq=k∧Aside0 (At w [] w'))
   case atStart=>exact ⟨0,rfl,by omega,by have:=Hk1.out;omega,⟨at_⟩⟩
   case round=>
    clear HK
    obtain ⟨i,rfl,hi0,hik,HK⟩:=hrel
    cases gk with
    |zero=>
     have ht:decide (i < k)=false:=decide_eq_false (by omega)
     clear hi0 hik
     go_wp2_with fail
     go_roundg kk
     case measure=>exact Nat.lt_succ_self _
     case rel=>
      have e1:wrap64 (k + 1)=k + 1:=wup (by have:=Hk1.out;omega) Hkl.out hn
      exact ⟨wrap64 (k + 1),rfl,by have:=Hk1.out;rw [e1];omega,by have:=Hkk.out;rw [e1];omega,⟨at_⟩⟩
    |succ k2=>
     have ht:decide (i < k)=true:=decide_eq_true (by omega)
     have hil:i < (l.length:Int):=by have:=Hkl.out;omega
     have hk0:0≤k:=by have:=Hk1.out;omega
     obtain ⟨adp,Ep4,ep4,Ep5,ep5,eqp,h0p,h1p,h2p,h3p,h4p,h5p,m4,n4,m5,n5⟩:=at_T25 Hx.out i hi0 hil
     subst eqp
     have Hcp:=asd_ (And.intro h0p (And.intro h1p (And.intro h2p (And.intro h3p (And.intro h4p h5p)))));have HNp:=asd_ (And.intro m4 (And.intro n4 (And.intro m5 n5)));clear m4 n4 m5 n5 h0p h1p h2p h3p h4p h5p
     obtain ⟨adq,Eq4,eq4,Eq5,eq5,eqq,h0q,h1q,h2q,h3q,h4q,h5q,m4,n4,m5,n5⟩:=at_T25 Hx.out k hk0 Hkl.out
     have eqsq:=Option.some.inj eqq;rw [← eqsq] at h0q h1q h2q h3q h4q h5q;clear eqq eqsq
     have Hcq:=asd_ (And.intro h0q (And.intro h1q (And.intro h2q (And.intro h3q (And.intro h4q h5q)))));have HNq:=asd_ (And.intro m4 (And.intro n4 (And.intro m5 n5)));clear m4 n4 m5 n5 h0q h1q h2q h3q h4q h5q
     have HY1:=asd_ (rd_T25_in hi0 hil);have HY2:=asd_ (rd_T25_in hk0 Hkl.out);have Hi0:=asd_ hi0;have Hil:=asd_ hil;have Hik:=asd_ hik
     have p1:=eq_true hi0;have p2:=eq_true hil;have p3:=eq_true hk0;have p4:=eq_true Hkl.out
     clear hi0 hik hil hk0
     go_wp2_with fail
     refine st_ 9 (fun w'=>At w [] w'∧w'.cell? (adp.add (i.toNat * 6))=some (.int .i64 (rd_T25 l i).f0)∧w'.cell? ⟨(adp.add (i.toNat * 6)).block,(adp.add (i.toNat * 6)).off + 1,none⟩=some (.bool (rd_T25 l i).f1)∧w'.cell? ⟨(adp.add (i.toNat * 6)).block,(adp.add (i.toNat * 6)).off + 2,none⟩=some (.int .i64 (rd_T25 l i).f2)∧w'.cell? ⟨(adp.add (i.toNat * 6)).block,(adp.add (i.toNat * 6)).off + 3,none⟩=some (.string (rd_T25 l i).f3)∧w'.cell? ⟨(adp.add (i.toNat * 6)).block,(adp.add (i.toNat * 6)).off + 4,none⟩=some (.slice Ep4 (rd_T25 l i).f4.length ep4)∧w'.cell? ⟨(adp.add (i.toNat * 6)).block,(adp.add (i.toNat * 6)).off + 5,none⟩=some (.slice Ep5 (rd_T25 l i).f5.length ep5)∧w'.cell? (adp.add (k.toNat * 6))=some (.int .i64 (rd_T25 l k).f0)∧w'.cell? ⟨(adp.add (k.toNat * 6)).block,(adp.add (k.toNat * 6)).off + 1,none⟩=some (.bool (rd_T25 l k).f1)∧w'.cell? ⟨(adp.add (k.toNat * 6)).block,(adp.add (k.toNat * 6)).off + 2,none⟩=some (.int .i64 (rd_T25 l k).f2)∧w'.cell? ⟨(adp.add (k.toNat * 6)).block,(adp.add (k.toNat * 6)).off + 3,none⟩=some (.string (rd_T25 l k).f3)∧w'.cell? ⟨(adp.add (k.toNat * 6)).block,(adp.add (k.toNat * 6)).off + 4,none⟩=some (.slice Eq4 (rd_T25 l k).f4.length eq4)∧w'.cell? ⟨(adp.add (k.toNat * 6)).block,(adp.add (k.toNat * 6)).off + 5,none⟩=some (.slice Eq5 (rd_T25 l k).f5.length eq5)) [] (fun A=>⟨A,((A.b.cell (World.block_lt_of_cell? w _ Hcp.out.1)).trans Hcp.out.1),((A.b.cell (World.block_lt_of_cell? w _ Hcp.out.2.1)).trans Hcp.out.2.1),((A.b.cell (World.block_lt_of_cell? w _ Hcp.out.2.2.1)).trans Hcp.out.2.2.1),((A.b.cell (World.block_lt_of_cell? w _ Hcp.out.2.2.2.1)).trans Hcp.out.2.2.2.1),((A.b.cell (World.block_lt_of_cell? w _ Hcp.out.2.2.2.2.1)).trans Hcp.out.2.2.2.2.1),((A.b.cell (World.block_lt_of_cell? w _ Hcp.out.2.2.2.2.2)).trans Hcp.out.2.2.2.2.2),((A.b.cell (World.block_lt_of_cell? w _ Hcq.out.1)).trans Hcq.out.1),((A.b.cell (World.block_lt_of_cell? w _ Hcq.out.2.1)).trans Hcq.out.2.1),((A.b.cell (World.block_lt_of_cell? w _ Hcq.out.2.2.1)).trans Hcq.out.2.2.1),((A.b.cell (World.block_lt_of_cell? w _ Hcq.out.2.2.2.1)).trans Hcq.out.2.2.2.1),((A.b.cell (World.block_lt_of_cell? w _ Hcq.out.2.2.2.2.1)).trans Hcq.out.2.2.2.2.1),((A.b.cell (World.block_lt_of_cell? w _ Hcq.out.2.2.2.2.2)).trans Hcq.out.2.2.2.2.2)⟩) (fun hHeld=> ?_)
     refine pu_ 0 17 1 ?_
     refine pu_ 1 18 3 ?_
     refine pu_ 2 19 7 ?_
     refine pu_ 4 21 23 ?_
     refine pu_ 5 22 55 ?_
     refine pu_ 6 23 119 ?_
     refine ta13_ 3 20 127 hHeld ?_
     refine ta13_ 7 24 255 hHeld ?_
     refine on_ 8 25 511 (fun K hK=> ?_)
     have HE:=asd_ (hHeld.1)
     refine ge_ Tryz.func61 #[.agg (#[.int .i64 (rd_T25 l i).f0,.bool (rd_T25 l i).f1,.int .i64 (rd_T25 l i).f2,.string (rd_T25 l i).f3,.slice Ep4 (rd_T25 l i).f4.length ep4,.slice Ep5 (rd_T25 l i).f5.length ep5]),.agg (#[.int .i64 (rd_T25 l k).f0,.bool (rd_T25 l k).f1,.int .i64 (rd_T25 l k).f2,.string (rd_T25 l k).f3,.slice Eq4 (rd_T25 l k).f4.length eq4,.slice Eq5 (rd_T25 l k).f5.length eq5])] ?_
     with_reducible refine (HT.out _ HY1.out _ HY2.out _ _ _ _ _ _ _ _ _ HE.out.b ⟨Kd.C_below HNp.out.2.1 HE.out.b,HNp.out.1,Kd.C_below HNp.out.2.2.2 HE.out.b,HNp.out.2.2.1⟩ ⟨Kd.C_below HNq.out.2.1 HE.out.b,HNq.out.1,Kd.C_below HNq.out.2.2.2 HE.out.b,HNq.out.2.2.1⟩).mono ?_
     rintro e w3 ⟨rb,rfl,hb⟩
     refine ⟨_,rfl,?_⟩
     have HE0:=At.step HE.out hb
     replace HE:=asd_ HE0;clear HE0
     refine hK.out _ _ ⟨HE.out,((HE.out.b.cell (World.block_lt_of_cell? w _ Hcp.out.1)).trans Hcp.out.1),((HE.out.b.cell (World.block_lt_of_cell? w _ Hcp.out.2.1)).trans Hcp.out.2.1),((HE.out.b.cell (World.block_lt_of_cell? w _ Hcp.out.2.2.1)).trans Hcp.out.2.2.1),((HE.out.b.cell (World.block_lt_of_cell? w _ Hcp.out.2.2.2.1)).trans Hcp.out.2.2.2.1),((HE.out.b.cell (World.block_lt_of_cell? w _ Hcp.out.2.2.2.2.1)).trans Hcp.out.2.2.2.2.1),((HE.out.b.cell (World.block_lt_of_cell? w _ Hcp.out.2.2.2.2.2)).trans Hcp.out.2.2.2.2.2),((HE.out.b.cell (World.block_lt_of_cell? w _ Hcq.out.1)).trans Hcq.out.1),((HE.out.b.cell (World.block_lt_of_cell? w _ Hcq.out.2.1)).trans Hcq.out.2.1),((HE.out.b.cell (World.block_lt_of_cell? w _ Hcq.out.2.2.1)).trans Hcq.out.2.2.1),((HE.out.b.cell (World.block_lt_of_cell? w _ Hcq.out.2.2.2.1)).trans Hcq.out.2.2.2.1),((HE.out.b.cell (World.block_lt_of_cell? w _ Hcq.out.2.2.2.2.1)).trans Hcq.out.2.2.2.2.1),((HE.out.b.cell (World.block_lt_of_cell? w _ Hcq.out.2.2.2.2.2)).trans Hcq.out.2.2.2.2.2)⟩ (fun hHeld=> ?_)
     clear hK K
     refine nq_ 25 ?_
     refine done_ kr_ ?_
     clear HK;have HK:=HE;clear HE
     clear hHeld
     cases rb
     case true=>
      go_wp2_with fail
      go_ret2
      exact ⟨_,rfl,⟨_,_,rfl⟩,be_⟩
     case false=>
      go_wp2_with fail
      go_roundg k2
      case measure=>exact Nat.lt_succ_self _
      case rel=>
       have e1:wrap64 (i + 1)=i + 1:=wup Hi0.out Hil.out hn
       exact ⟨wrap64 (i + 1),rfl,by have:=Hi0.out;rw [e1];omega,by have:=Hik.out;rw [e1];omega,⟨at_⟩⟩
  ·have ht0:decide (k < (l.length:Int))=false:=decide_eq_false (by omega)
   clear hk1 hkk hkl
   go_wp2_with fail
   go_ret2
   exact ⟨_,rfl,⟨_,_,rfl⟩,be_⟩
end Go.Proofs.YtkphbhncpdcbeaaGreatDoor.J
namespace Go.Proofs.YtkphbhncpdcbeaaGreatDoor.J
open Go.RowKit YtkphbhncpdcbeaaGreatDoorW.PrintWords YtkphbhncpdcbeaaGreatDoorW.PrintLast YtkphbhncpdcbeaaGreatDoorW.PrintMore PJT
theorem V.sub_ {x:S25} (h:V x):∀ y∈x.f5,V y:=by
 obtain ⟨k0,k5,k2,n3,n4,n5,t4,ee,sub⟩:=h
 exact sub
theorem bq_t {a b:Int} (h:a=b):(a == b)=true:=by simp [h]
theorem bq_f {a b:Int} (h:a≠b):(a == b)=false:=by simp [h]
theorem eq_any {x:S25} (hV:V x):∀ (y:S25),V y→∀ (w:World) (A4 A5 B4 B5:Option Addr) (c4 c5 d4 d5:Nat),Rep w x A4 c4 A5 c5→Rep w y B4 d4 B5 d5→
  Calls Tryz.prog 61 #[.agg (jvc x A4 A5 c4 c5),.agg (jvc y B4 B5 d4 d5)] w fun e w'=>∃ r:Bool,e= .returned (.bool r)∧Below w.heap.size w w':=by
 induction hV with
 | @mk x k0 k5 k2 n3 n4 n5 t4 ee sub ih=>
  intro y hy w A4 A5 B4 B5 c4 c5 d4 d5 hx hyr
  have hys:=hy.sub_
  obtain ⟨j0,j5,j2,m3,m4,m5,s4,ff,_⟩:=hy
  have hT:∀ a∈x.f5,∀ b,V b→∀ W A4 A5 B4 B5 c4 c5 d4 d5,Below w.heap.size w W→Rep W a A4 c4 A5 c5→Rep W b B4 d4 B5 d5→Calls Tryz.prog 61 #[.agg (jvc a A4 A5 c4 c5),.agg (jvc b B4 B5 d4 d5)] W fun e w'=>∃ r:Bool,e= .returned (.bool r)∧Below W.heap.size W w':=
   fun a ha b hb W A4 A5 B4 B5 c4 c5 d4 d5 _ h1 h2=>ih a ha b hb W A4 A5 B4 B5 c4 c5 d4 d5 h1 h2
  by_cases he:x.f0=y.f0
  ·have hne:(x.f0 != y.f0)=false:=by simp [he]
   have hk:x.f0=0∨x.f0=1∨x.f0=3∨x.f0=4∨x.f0=5:=by omega
   rcases hk with h|h|h|h|h
   ·exact eqs_null w x y A4 A5 B4 B5 c4 c5 d4 d5 hne (bq_f (by omega)) (bq_f (by omega)) (bq_f (by omega)) (bq_f (by omega)) (bq_f (by omega))
   ·exact eqs_bool w x y A4 A5 B4 B5 c4 c5 d4 d5 hne (bq_t h)
   ·exact eqs_text w x y A4 A5 B4 B5 c4 c5 d4 d5 hne (bq_f (by omega)) (bq_f (by omega)) (bq_t h)
   ·by_cases hl:x.f5.length=y.f5.length
    ·exact eqs_array w x y A4 A5 B4 B5 c4 c5 d4 d5 hne (bq_f (by omega)) (bq_f (by omega)) (bq_f (by omega)) (bq_t h) hx hyr n5 hl hys hT
    ·exact eqs_len w x y A4 A5 B4 B5 c4 c5 d4 d5 hne (bq_f (by omega)) (bq_f (by omega)) (bq_f (by omega)) (bq_t h) (by simp only [bne_iff_ne,ne_eq];omega)
   ·exact eqs_object w x y A4 A5 B4 B5 c4 c5 d4 d5 hne (bq_f (by omega)) (bq_f (by omega)) (bq_f (by omega)) (bq_f (by omega)) (bq_t h) hx hyr n4 m4 (ee h) (ff (by omega)) hys hT
  ·exact eqs_ne w x y A4 A5 B4 B5 c4 c5 d4 d5 (by simp [he])
theorem twins_ok (w:World) {x:S25} (hV:V x) {A4 A5:Option Addr} {c4 c5:Nat} (hx:Rep w x A4 c4 A5 c5):
  Calls Tryz.prog 71 #[.slice A5 x.f5.length c5] w fun e w'=>∃ v,e= .returned v∧(∃ i j:Int,v= .tuple #[.int .i64 i,.int .i64 j])∧Below w.heap.size w w':=by
 have hs:=hV.sub_
 obtain ⟨k0,k5,k2,n3,n4,n5,t4,ee,sub⟩:=hV
 exact twins_any w A5 c5 x.f5 hx.h5 n5 (fun a ha b hb W A4 A5 B4 B5 c4 c5 d4 d5 _ h1 h2=>eq_any (hs a ha) b (hs b hb) W A4 A5 B4 B5 c4 c5 d4 d5 h1 h2)
end Go.Proofs.YtkphbhncpdcbeaaGreatDoor.J
namespace Go.Proofs.YtkphbhncpdcbeaaGreatDoor.J
open Go.RowKit YtkphbhncpdcbeaaGreatDoorW.PrintWords YtkphbhncpdcbeaaGreatDoorW.PrintLast YtkphbhncpdcbeaaGreatDoorW.PrintMore PJT
open Go.ChangeMaps Go.MapKept Go.WideShapes
open Go.Maps (Keyed IsMap)
theorem getD_mem {l:List S25} {i:Nat} (h:i < l.length):l.getD i z25∈l:=by
 rw [getD_lt h];exact List.getElem_mem h
theorem add_cell (b i:Nat):(⟨b,0,none⟩:Addr).add i=⟨b,i,none⟩:=by
 unfold Addr.add
 split<;>simp_all
theorem ta_off {W0:World} {ok:Nat→Prop} {y:S25} {v:Value} (h:OutD W0 ok y v):
  (y.f0≠1→∀ W,(Instr.typeAssert v 20 4 true).run Tryz.prog W= .ok (.tuple #[.bool false,.bool false]) W)∧
  (y.f0≠3→∀ W,(Instr.typeAssert v 20 9 true).run Tryz.prog W= .ok (.tuple #[.string ⟨#[]⟩,.bool false]) W)∧
  (y.f0≠4→∀ W,(Instr.typeAssert v 20 117 true).run Tryz.prog W= .ok (.tuple #[.slice none 0 0,.bool false]) W)∧
  (y.f0≠5→∀ W,(Instr.typeAssert v 20 113 true).run Tryz.prog W= .ok (.tuple #[.map none,.bool false]) W):=by
 cases h with
 |null k=>exact ⟨fun _ W=>ta_null_4 W,fun _ W=>ta_null_9 W,fun _ W=>ta_null_117 W,fun _ W=>ta_null_113 W⟩
 |bool k=>exact ⟨fun h=>absurd k h,fun _ W=>ta_bool_9 _ W,fun _ W=>ta_bool_117 _ W,fun _ W=>ta_bool_113 _ W⟩
 |text k=>exact ⟨fun _ W=>ta_text_4 _ W,fun h=>absurd k h,fun _ W=>ta_text_117 _ W,fun _ W=>ta_text_113 _ W⟩
 |empty k c h0=>exact ⟨fun _ W=>ta_array_4 _ W,fun _ W=>ta_array_9 _ W,fun h=>absurd k h,fun _ W=>ta_array_113 _ W⟩
 |array k b c cur vs hl hb h hc hs=>exact ⟨fun _ W=>ta_array_4 _ W,fun _ W=>ta_array_9 _ W,fun h=>absurd k h,fun _ W=>ta_array_113 _ W⟩
 |object k g es ck vs hl h45 hg h M hs=>exact ⟨fun _ W=>ta_object_4 _ W,fun _ W=>ta_object_9 _ W,fun _ W=>ta_object_117 _ W,fun h=>absurd k h⟩
theorem EqC.iff_ {p q:Prop} {v u:Value} {W:World} (h:EqC p v u W) (e:p↔q):EqC q v u W:=h.mono (fun e1 w' ⟨r,h1,h2,h3⟩=>⟨r,h1,h2.trans e,h3⟩)
theorem equals_ok {W0:World} {ok:Nat→Prop} {x:S25} {v:Value} (hv:OutD W0 ok x v) (hVx:V x):∀ {y:S25} {u:Value} {ok':Nat→Prop},V y→∀ W,Below W0.heap.size W0 W→OutD W ok' y u→EqC (JE x y) v u W:=by
 have nk:∀ {x y:S25},x.f0≠y.f0→(False↔JE x y):=fun hne=>⟨False.elim,fun h=>hne h.kind⟩
 induction hv with
 | @null x k=>
  intro y u ok' hVy W hb hu
  cases hu with
  |null k'=>exact (eq_null_null W).iff_ ⟨fun _=> .null k k',fun _=>trivial⟩
  |bool k'=>exact (eq_null_any W _ _).iff_ (nk (by omega))
  |text k'=>exact (eq_null_any W _ _).iff_ (nk (by omega))
  |empty k' c h0=>exact (eq_null_any W _ _).iff_ (nk (by omega))
  |array k' b c cur vs hl hb h hc hs=>exact (eq_null_any W _ _).iff_ (nk (by omega))
  |object k' g es ck vs hl h45 hg h M hs=>exact (eq_null_any W _ _).iff_ (nk (by omega))
 | @bool x k=>
  intro y u ok' hVy W hb hu
  by_cases hk:y.f0=1
  ·cases hu<;>first|omega|exact (eq_bool_bool W _ _).iff_ (JE.bool_iff k hk).symm
  ·exact (eq_bool_off W _ _ ((ta_off hu).1 hk)).iff_ (nk (by omega))
 | @text x k=>
  intro y u ok' hVy W hb hu
  by_cases hk:y.f0=3
  ·cases hu<;>first|omega|exact (eq_text_text W _ _).iff_ (JE.text_iff k hk).symm
  ·exact (eq_text_off W _ _ ((ta_off hu).2.1 hk)).iff_ (nk (by omega))
 | @empty x k c h0=>
  intro y u ok' hVy W hb hu
  by_cases hk:y.f0=4
  ·cases hu with
   |null k'=>omega
   |bool k'=>omega
   |text k'=>omega
   |object k'=>omega
   |empty k' c' h0'=>
    rw [h0,h0']
    exact (eq_array_array W none none 0 _ _ [] [] (fun _=>True) (by decide) (fun i hi=>absurd hi (by omega)) (fun i hi=>absurd hi (by omega)) (fun i hi=>absurd hi (by omega))).iff_
     ⟨fun _=>(JE.array_iff k hk).2 ⟨by omega,fun i hi=>absurd hi (by omega)⟩,fun _ _ _=>trivial⟩
   |array k' b c' cur vs hl hb' h hc hs=>
    by_cases hn:y.f5.length=0
    ·rw [h0,hn]
     exact (eq_array_array W none (some ⟨b,0,none⟩) 0 _ _ [] [] (fun _=>True) (by decide) (fun i hi=>absurd hi (by omega)) (fun i hi=>absurd hi (by omega)) (fun i hi=>absurd hi (by omega))).iff_
      ⟨fun _=>(JE.array_iff k hk).2 ⟨by omega,fun i hi=>absurd hi (by omega)⟩,fun _ _ _=>trivial⟩
    ·exact (eq_array_len W _ _ _ _ _ _ (by simp only [bne_iff_ne,ne_eq];omega)).iff_ ⟨False.elim,fun h=>by have:=((JE.array_iff k hk).1 h).1;omega⟩
  ·exact (eq_array_off W _ _ _ _ ((ta_off hu).2.2.1 hk)).iff_ (nk (by omega))
 | @array x k b c cur vs hl hb h hc hs ih=>
  intro y u ok' hVy W hB hu
  by_cases hk:y.f0=4
  ·have hn5:x.f5.length≤LM:=by cases hVx;assumption
   have hcell:∀ i,i < x.f5.length→∃ ad,some (⟨b,0,none⟩:Addr)=some ad∧W.cell? (ad.add i)=some (vs.getD i .nilIface):=fun i hi=>⟨_,rfl,by
    have:=(blk_cell (blk_below h hB) i).trans (hc i hi)
    rw [add_cell];exact this⟩
   cases hu with
   |null k'=>omega
   |bool k'=>omega
   |text k'=>omega
   |object k'=>omega
   |empty k' c' h0'=>
    by_cases hn:x.f5.length=0
    ·rw [hn,h0']
     exact (eq_array_array W _ none 0 _ _ [] [] (fun _=>True) (by decide) (fun i hi=>absurd hi (by omega)) (fun i hi=>absurd hi (by omega)) (fun i hi=>absurd hi (by omega))).iff_
      ⟨fun _=>(JE.array_iff k hk).2 ⟨by omega,fun i hi=>absurd hi (by omega)⟩,fun _ _ _=>trivial⟩
    ·exact (eq_array_len W _ _ _ _ _ _ (by simp only [bne_iff_ne,ne_eq];omega)).iff_ ⟨False.elim,fun h=>by have:=((JE.array_iff k hk).1 h).1;omega⟩
   |array k' b' c' cur' us hl' hb' h' hc' hs'=>
    by_cases hn:x.f5.length=y.f5.length
    ·rw [← hn]
     have hVys:=hVy.sub_
     have hVxs:=hVx.sub_
     refine (eq_array_array W _ _ x.f5.length _ _ vs us (fun i=>JE (x.f5.getD i z25) (y.f5.getD i z25)) hn5 hcell (fun i hi=>⟨_,rfl,by
      have:=(blk_cell h' i).trans (hc' i (by omega))
      rw [add_cell];exact this⟩) (fun i hi W1 hW1=> ?_)).iff_ ⟨fun h=>(JE.array_iff k hk).2 ⟨hn,h⟩,fun h=>((JE.array_iff k hk).1 h).2⟩
     exact ih i hi (hVxs _ (getD_mem hi)) (hVys _ (getD_mem (by omega))) W1 (below_step hB hW1) ((hs' i (by omega)).grow hW1)
    ·exact (eq_array_len W _ _ _ _ _ _ (by simp only [bne_iff_ne,ne_eq];omega)).iff_ ⟨False.elim,fun h=>hn ((JE.array_iff k hk).1 h).1⟩
  ·exact (eq_array_off W _ _ _ _ ((ta_off hu).2.2.1 hk)).iff_ (nk (by omega))
 | @object x k g es ck vs hl h45 hg h M hs ih=>
  intro y u ok' hVy W hB hu
  by_cases hk:y.f0=5
  ·obtain ⟨g',es',ck',us,rfl,hl',h45',hg',h',M',hs'⟩:∃ g' es' ck' us,u= .iface 113 (.map (some g'))∧List.length us=y.f5.length∧y.f4.length=y.f5.length∧ok' g'∧W.heap[g']? =some (.map es' ck')∧MapIs Tryz.prog 9 RC es' ck' y.f5.length (mapV y.f4 us)∧∀ i,i < y.f5.length→OutD W ok' (y.f5.getD i z25) (us.getD i .nilIface):=by
    cases hu with
    |null k'=>omega
    |bool k'=>omega
    |text k'=>omega
    |empty k'=>omega
    |array k'=>omega
    |object k' g es ck vs hl h45 hg h M hs=>exact ⟨g,es,ck,vs,rfl,hl,h45,hg,h,M,hs⟩
   have hVys:=hVy.sub_
   have hVxs:=hVx.sub_
   have hco:∀ i,i < vs.length→Coded (vs.getD i .nilIface):=fun i hi=>(hs i (by omega)).coded
   have hco':∀ i,i < us.length→Coded (us.getD i .nilIface):=fun i hi=>(hs' i (by omega)).coded
   by_cases hm:many x.f4=many y.f4
   ·refine (eq_object_object W x y g g' es es' ck ck' _ _ vs us (blk_below h hB) h' M M' (by omega) (by omega) h45 h45' hco hco' hm (fun i j hi hj W1 hW1=> ?_)).iff_ (JE.object_iff k hk).symm
    exact ih i hi (hVxs _ (getD_mem hi)) (hVys _ (getD_mem hj)) W1 (below_step hB hW1) ((hs' j hj).grow hW1)
   ·refine (eq_object_len W x y g g' es es' ck ck' _ _ vs us (blk_below h hB) h' M M' (by omega) (by omega) h45 h45' hco hco' (by simp only [bne_iff_ne,ne_eq];omega)).iff_ ⟨False.elim,fun hj=>hm ?_⟩
    have hn:=((JE.object_iff k hk).1 hj).1
    exact Nat.le_antisymm (many_le (fun s=>(hn s).1)) (many_le (fun s=>(hn s).2))
  ·exact (eq_object_off W _ _ ((ta_off hu).2.2.2 hk)).iff_ (nk (by omega))
theorem get_iff {xs:List ByteArray} {s:ByteArray} {j:Nat} (hj:j < xs.length):(xs.getD j ByteArray.empty).toList=s.toList↔xs[j]? =some s:=by
 rw [getD_lt hj,ba_iff,List.getElem?_eq_getElem hj,Option.some.injEq]
section
variable (q0:Int) (q1:Bool) (q2:Int) (q3:ByteArray) (xs:List ByteArray) (q5:List S25)
theorem place_tells (s:ByteArray) (hn:xs.length≤LM) (d:Nat):∀ (i:Int),i=(d:Int) - 1→d≤xs.length→
  ∃ r,(∀ k,d < k→spec_JMember.l0 k s i q0 q1 q2 q3 xs q5=some r)∧ -1≤r∧r < d∧(0≤r→xs[r.toNat]? =some s)∧(∀ j:Nat,r < j→j < d→xs[j]? ≠some s):=by
 induction d with
 |zero=>
  intro i hi hd
  refine ⟨-1,fun k hk=> ?_,by omega,by omega,fun h=>by omega,fun j _ hj=>by omega⟩
  obtain ⟨k,rfl⟩:∃ m,k=m + 1:=⟨k - 1,by omega⟩
  simp only [spec_JMember.l0];rw [if_neg (by omega)]
 |succ d ih=>
  intro i hi hd
  have h0:i ≥ 0:=by omega
  have hid:i.toNat=d:=by omega
  by_cases e:(rdOf ByteArray.empty xs i).toList=s.toList
  ·refine ⟨i,fun k hk=> ?_,by omega,by omega,fun _=> ?_,fun j h1 h2=>by omega⟩
   ·obtain ⟨k,rfl⟩:∃ m,k=m + 1:=⟨k - 1,by omega⟩
    simp only [spec_JMember.l0];rw [if_pos h0,if_pos h0,if_pos (by omega),if_pos e]
   ·exact (get_iff (by omega)).1 e
  ·obtain ⟨r,hr,h1,h2,h3,h4⟩:=ih (i - 1) (by omega) (by omega)
   refine ⟨r,fun k hk=> ?_,h1,by omega,h3,fun j hr hj=> ?_⟩
   ·obtain ⟨k,rfl⟩:∃ m,k=m + 1:=⟨k - 1,by omega⟩
    simp only [spec_JMember.l0]
    rw [if_pos h0,if_pos h0,if_pos (by omega),if_neg e,wdn (n:=xs.length) h0 (by omega) hn]
    exact hr k (by omega)
   ·by_cases hjd:j=d
    ·subst hjd
     rw [rdOf,hid] at e
     exact fun h=>e ((get_iff (by omega)).2 h)
    ·exact h4 j hr (by omega)
theorem place_is (s:ByteArray) (hn:xs.length≤LM):∃ r,(∀ k,xs.length < k→spec_JMember.f k q0 q1 q2 q3 xs q5 s=some r)∧ -1≤r∧r < xs.length∧(0≤r→lastAt xs s=some r.toNat)∧(r < 0→s∉xs):=by
 obtain ⟨r,hr,h1,h2,h3,h4⟩:=place_tells q0 q1 q2 q3 xs q5 s hn xs.length _ rfl (Nat.le_refl _)
 refine ⟨r,fun k hk=> ?_,h1,h2,fun h=> ?_,fun h hm=> ?_⟩
 ·have hw:wrap64 ((xs.length:Int) - 1)=(xs.length:Int) - 1:=by unfold wrap64;simp only [LM] at hn;omega
  unfold spec_JMember.f
  rw [hw]
  exact hr k hk
 ·refine lastAt_is (h3 h) (fun j hj=> ?_)
  by_cases hl:j < xs.length
  ·exact h4 j (by omega) hl
  ·rw [List.getElem?_eq_none (by omega)];simp
 ·obtain ⟨j,hj⟩:=List.mem_iff_getElem?.1 hm
  exact h4 j (by omega) (List.getElem?_eq_some_iff.1 hj).1 hj
theorem mems_tells (hx:xs.length≤LM) (d:Nat):∀ (i:Int) (out:List Int),0≤i→i≤xs.length→(xs.length:Int) - i=d→(out.length:Int)≤i→(∀ j∈out,0≤j∧j < xs.length∧lastAt xs (rdOf ByteArray.empty xs j)=some j.toNat)→(∀ s n,lastAt xs s=some n→(n:Int) < i→(n:Int)∈out)→
  ∃ l,(∀ k,d + xs.length < k→spec_JMembers.l0 k out i q0 q1 q2 q3 xs q5=some l)∧(∀ j∈l,0≤j∧j < xs.length∧lastAt xs (rdOf ByteArray.empty xs j)=some j.toNat)∧(∀ s n,lastAt xs s=some n→(n:Int)∈l)∧l.length≤xs.length:=by
 induction d with
 |zero=>
  intro i out h0 h1 hd ho hj hc
  refine ⟨out,fun k hk=> ?_,hj,fun s n hn=>hc s n hn (by have:=lastAt_lt hn;omega),by omega⟩
  obtain ⟨k,rfl⟩:∃ m,k=m + 1:=⟨k - 1,by omega⟩
  simp only [spec_JMembers.l0];rw [if_neg (by omega)]
 |succ d ih=>
  intro i out h0 h1 hd ho hj hc
  have hlt:i < (xs.length:Int):=by omega
  obtain ⟨r,hr,hr1,hr2,hr3,hr4⟩:=place_is q0 q1 q2 q3 xs q5 (rdOf ByteArray.empty xs i) hx
  have hin:xs[i.toNat]? =some (rdOf ByteArray.empty xs i):=by unfold rdOf;rw [getD_lt (by omega),List.getElem?_eq_getElem (by omega)]
  have hr0:0≤r:=by
   by_cases h:0≤r
   ·exact h
   ·exact absurd (List.mem_of_getElem? hin) (hr4 (by omega))
  by_cases e:r=i
  ·obtain ⟨l,hl,h⟩:=ih (i + 1) (out ++ [i]) (by omega) (by omega) (by omega) (by simp;omega) (by
    intro j hm
    rcases List.mem_append.1 hm with hm|hm
    ·exact hj j hm
    ·obtain rfl:j=i:=by simpa using hm
     exact ⟨h0,hlt,by rw [hr3 hr0,e]⟩) (fun s n hn hni=>by
    by_cases hni':(n:Int) < i
    ·exact List.mem_append_left _ (hc s n hn hni')
    ·exact List.mem_append_right _ (by simp;omega))
   refine ⟨l,fun k hk=> ?_,h⟩
   obtain ⟨k,rfl⟩:∃ m,k=m + 1:=⟨k - 1,by omega⟩
   simp only [spec_JMembers.l0];rw [if_pos hlt,if_pos h0,hr k (by omega)];simp only [Option.bind_some]
   rw [if_pos e,if_pos (by simp only [LM] at hx;omega),wup h0 hlt hx];exact hl k (by omega)
  ·obtain ⟨l,hl,h⟩:=ih (i + 1) out (by omega) (by omega) (by omega) (by omega) hj (fun s n hn hni=>by
    by_cases hni':(n:Int) < i
    ·exact hc s n hn hni'
    ·have hni2:n=i.toNat:=by omega
     have h1:=lastAt_get hn
     rw [hni2,hin] at h1
     cases h1
     have h2:=hr3 hr0
     rw [hn] at h2
     cases h2
     exact absurd (by omega) e)
   refine ⟨l,fun k hk=> ?_,h⟩
   obtain ⟨k,rfl⟩:∃ m,k=m + 1:=⟨k - 1,by omega⟩
   simp only [spec_JMembers.l0];rw [if_pos hlt,if_pos h0,hr k (by omega)];simp only [Option.bind_some]
   rw [if_neg e,wup h0 hlt hx];exact hl k (by omega)
end
theorem mems_is (x:S25) (hn:x.f4.length≤LM):∃ k l,spec_JMembers.f k x.f0 x.f1 x.f2 x.f3 x.f4 x.f5=some l∧(∀ j∈l,0≤j∧j < (x.f4.length:Int))∧l.length≤LM∧(∀ j∈l,lastAt x.f4 (rdOf ByteArray.empty x.f4 j)=some j.toNat)∧∀ s n,lastAt x.f4 s=some n→(n:Int)∈l:=by
 obtain ⟨l,hl,h1,h2,h3⟩:=mems_tells x.f0 x.f1 x.f2 x.f3 x.f4 x.f5 hn x.f4.length 0 [] (by omega) (by omega) (by omega) (by simp) (by simp) (fun s n hn h=>by omega)
 exact ⟨_,l,hl _ (Nat.lt_succ_self _),fun j hj=>⟨(h1 j hj).1,(h1 j hj).2.1⟩,Nat.le_trans h3 hn,fun j hj=>(h1 j hj).2.2,h2⟩
section
variable (q0:Int) (q1:Bool) (q2:Int) (q3:ByteArray) (xs:List ByteArray) (q5:List S25) (p0:Int) (p1:Bool) (p2:Int) (p3:ByteArray) (ys:List ByteArray) (p5:List S25)
theorem has_exact (hx:xs.length≤LM) (hy:ys.length≤LM) (d:Nat):∀ (i:Int),0≤i→i≤xs.length→(xs.length:Int) - i=d→∃ r,(∀ k,d + ys.length < k→spec_jHas.l0 k i q0 q1 q2 q3 xs q5 p0 p1 p2 p3 ys p5=some r)∧(r=true↔∀ s∈xs.drop i.toNat,s∈ys):=by
 induction d with
 |zero=>
  intro i h0 h1 hd
  refine ⟨true,fun k hk=> ?_,iff_of_true rfl (by rw [List.drop_eq_nil_of_le (by omega)];intro s h;cases h)⟩
  obtain ⟨k,rfl⟩:∃ m,k=m + 1:=⟨k - 1,by omega⟩
  simp only [spec_jHas.l0];rw [if_neg (by omega)]
 |succ d ih=>
  intro i h0 h1 hd
  obtain ⟨r0,hr0,_,_,h3,h4⟩:=place_is p0 p1 p2 p3 ys p5 (rdOf ByteArray.empty xs i) hy
  have hdr:xs.drop i.toNat=rdOf ByteArray.empty xs i::xs.drop (i + 1).toNat:=by
   rw [List.drop_eq_getElem_cons (by omega)]
   unfold rdOf
   rw [getD_lt (by omega),show (i + 1).toNat=i.toNat + 1 by omega]
  by_cases hn:r0 < 0
  ·refine ⟨false,fun k hk=> ?_,iff_of_false (by simp) (fun h=>h4 hn (h _ (by rw [hdr];exact List.mem_cons_self)))⟩
   obtain ⟨k,rfl⟩:∃ m,k=m + 1:=⟨k - 1,by omega⟩
   simp only [spec_jHas.l0]
   rw [if_pos (by omega),if_pos h0,hr0 k (by omega)]
   simp [hn]
  ·obtain ⟨r,hr,he⟩:=ih (i + 1) (by omega) (by omega) (by omega)
   refine ⟨r,fun k hk=> ?_,?_⟩
   ·obtain ⟨k,rfl⟩:∃ m,k=m + 1:=⟨k - 1,by omega⟩
    simp only [spec_jHas.l0]
    rw [if_pos (by omega),if_pos h0,hr0 k (by omega)]
    simp only [Option.bind_some,if_neg hn]
    rw [wup (n:=xs.length) h0 (by omega) hx]
    exact hr k (by omega)
   ·rw [he,hdr]
    have hm:=lastAt_mem.1 ⟨_,h3 (by omega)⟩
    exact ⟨fun h s hs=>by
     rcases List.mem_cons.1 hs with rfl|hs
     ·exact hm
     ·exact h s hs,fun h s hs=>h s (List.mem_cons_of_mem _ hs)⟩
end
theorem has_right (w:World) (x y:S25) (A4 A5 B4 B5:Option Addr) (c4 c5 d4 d5:Nat) (hx:Rep w x A4 c4 A5 c5) (hy:Rep w y B4 d4 B5 d5) (hn:x.f4.length≤LM) (hm:y.f4.length≤LM):
  Calls Tryz.prog 114 #[.agg (jvc x A4 A5 c4 c5),.agg (jvc y B4 B5 d4 d5)] w fun e w'=>∃ v,e= .returned v∧(∃ r:Bool,v= .bool r∧(r=true↔∀ s∈x.f4,s∈y.f4))∧Below w.heap.size w w':=by
 obtain ⟨r,hr,he⟩:=has_exact x.f0 x.f1 x.f2 x.f3 x.f4 x.f5 y.f0 y.f1 y.f2 y.f3 y.f4 y.f5 hn hm x.f4.length 0 (Int.le_refl _) (by omega) (by omega)
 refine (spec_jHas.calls (x.f4.length + y.f4.length + 1) x.f0 x.f1 x.f2 x.f3 A4 c4 x.f4 A5 c5 x.f5 y.f0 y.f1 y.f2 y.f3 B4 d4 y.f4 B5 d5 y.f5 r w hx.h4 hx.l4 hx.h5 hx.l5 hy.h4 hy.l4 hy.h5 hy.l5 (hr _ (Nat.lt_succ_self _))).mono ?_
 rintro e w' ⟨rfl,hb⟩
 exact ⟨_,rfl,⟨r,rfl,by simpa using he⟩,hb⟩
abbrev EqS (p:Prop) (x y:S25) (A4 A5 B4 B5:Option Addr) (c4 c5 d4 d5:Nat) (W:World):Prop:=Calls Tryz.prog 61 #[.agg (jvc x A4 A5 c4 c5),.agg (jvc y B4 B5 d4 d5)] W fun e w'=>∃ r:Bool,e= .returned (.bool r)∧(r=true↔p)∧Below W.heap.size W w'
abbrev EqT (w:World) (x:S25):Prop:=∀ a∈x.f5,∀ b,V b→∀ W A4 A5 B4 B5 c4 c5 d4 d5,Below w.heap.size w W→Rep W a A4 c4 A5 c5→Rep W b B4 d4 B5 d5→EqS (JE a b) a b A4 A5 B4 B5 c4 c5 d4 d5 W
theorem eqx_ne (w:World) (x y:S25) (A4 A5 B4 B5:Option Addr) (c4 c5 d4 d5:Nat) (hne:(x.f0 != y.f0)=true):EqS (False) x y A4 A5 B4 B5 c4 c5 d4 d5 w:=by
 have HK:=st0_ w
 go_enter Tryz.func61,Tryz.ntmps61
 go_wp2_with (first|((with_reducible refine gd_ 2 ?_);refine bx_ (jvc x A4 A5 c4 c5) 25 ?_;clear HK;intro g2 wb2 HK Gg2;replace Bc:=ce1_ HK 0)|((with_reducible refine gd_ 3 ?_);refine bx_ (jvc y B4 B5 d4 d5) 25 ?_;clear HK;intro g3 wb3 HK Gg3;replace Bc:=ce2_ HK 1 0))
 go_ret
 exact ⟨_,rfl,by simp,be_⟩
theorem eqx_null (w:World) (x y:S25) (A4 A5 B4 B5:Option Addr) (c4 c5 d4 d5:Nat) (hne:(x.f0 != y.f0)=false) (k1:(x.f0 == 1)=false) (k2:(x.f0 == 2)=false) (k3:(x.f0 == 3)=false) (k4:(x.f0 == 4)=false) (k5:(x.f0 == 5)=false):EqS (True) x y A4 A5 B4 B5 c4 c5 d4 d5 w:=by
 have HK:=st0_ w
 go_enter Tryz.func61,Tryz.ntmps61
 go_wp2_with (first|((with_reducible refine gd_ 2 ?_);refine bx_ (jvc x A4 A5 c4 c5) 25 ?_;clear HK;intro g2 wb2 HK Gg2;replace Bc:=ce1_ HK 0)|((with_reducible refine gd_ 3 ?_);refine bx_ (jvc y B4 B5 d4 d5) 25 ?_;clear HK;intro g3 wb3 HK Gg3;replace Bc:=ce2_ HK 1 0))
 go_ret
 exact ⟨_,rfl,by simp,be_⟩
theorem eqx_bool (w:World) (x y:S25) (A4 A5 B4 B5:Option Addr) (c4 c5 d4 d5:Nat) (hne:(x.f0 != y.f0)=false) (k1:(x.f0 == 1)=true):EqS (x.f1=y.f1) x y A4 A5 B4 B5 c4 c5 d4 d5 w:=by
 have HK:=st0_ w
 go_enter Tryz.func61,Tryz.ntmps61
 go_wp2_with (first|((with_reducible refine gd_ 2 ?_);refine bx_ (jvc x A4 A5 c4 c5) 25 ?_;clear HK;intro g2 wb2 HK Gg2;replace Bc:=ce1_ HK 0)|((with_reducible refine gd_ 3 ?_);refine bx_ (jvc y B4 B5 d4 d5) 25 ?_;clear HK;intro g3 wb3 HK Gg3;replace Bc:=ce2_ HK 1 0))
 go_ret
 exact ⟨_,rfl,by simp,be_⟩
theorem eqx_text (w:World) (x y:S25) (A4 A5 B4 B5:Option Addr) (c4 c5 d4 d5:Nat) (hne:(x.f0 != y.f0)=false) (k1:(x.f0 == 1)=false) (k2:(x.f0 == 2)=false) (k3:(x.f0 == 3)=true):EqS (x.f3=y.f3) x y A4 A5 B4 B5 c4 c5 d4 d5 w:=by
 have HK:=st0_ w
 go_enter Tryz.func61,Tryz.ntmps61
 go_wp2_with (first|((with_reducible refine gd_ 2 ?_);refine bx_ (jvc x A4 A5 c4 c5) 25 ?_;clear HK;intro g2 wb2 HK Gg2;replace Bc:=ce1_ HK 0)|((with_reducible refine gd_ 3 ?_);refine bx_ (jvc y B4 B5 d4 d5) 25 ?_;clear HK;intro g3 wb3 HK Gg3;replace Bc:=ce2_ HK 1 0))
 go_ret
 exact ⟨_,rfl,by simp [ba_iff],be_⟩
theorem eqx_len (w:World) (x y:S25) (A4 A5 B4 B5:Option Addr) (c4 c5 d4 d5:Nat) (hne:(x.f0 != y.f0)=false) (k1:(x.f0 == 1)=false) (k2:(x.f0 == 2)=false) (k3:(x.f0 == 3)=false) (k4:(x.f0 == 4)=true) (hl:((x.f5.length:Int) != (y.f5.length:Int))=true):EqS (False) x y A4 A5 B4 B5 c4 c5 d4 d5 w:=by
 have HK:=st0_ w
 go_enter Tryz.func61,Tryz.ntmps61
 go_wp2_with (first|((with_reducible refine gd_ 2 ?_);refine bx_ (jvc x A4 A5 c4 c5) 25 ?_;clear HK;intro g2 wb2 HK Gg2;replace Bc:=ce1_ HK 0)|((with_reducible refine gd_ 3 ?_);refine bx_ (jvc y B4 B5 d4 d5) 25 ?_;clear HK;intro g3 wb3 HK Gg3;replace Bc:=ce2_ HK 1 0))
 go_ret
 exact ⟨_,rfl,by simp,be_⟩
theorem eqx_array (w:World) (x y:S25) (A4 A5 B4 B5:Option Addr) (c4 c5 d4 d5:Nat) (hne:(x.f0 != y.f0)=false) (k1:(x.f0 == 1)=false) (k2:(x.f0 == 2)=false) (k3:(x.f0 == 3)=false) (k4:(x.f0 == 4)=true) (hx:Rep w x A4 c4 A5 c5) (hy:Rep w y B4 d4 B5 d5) (hn5:x.f5.length≤LM) (hl:x.f5.length=y.f5.length) (hVy:∀ z∈y.f5,V z) (hT:EqT w x):EqS (∀ j,j < x.f5.length→JE (x.f5.getD j z25) (y.f5.getD j z25)) x y A4 A5 B4 B5 c4 c5 d4 d5 w:=by
 have Hx:=asd_ hx
 have Hy:=asd_ hy
 have Hn5:=asd_ hn5
 have HVy:=asd_ hVy
 have HT:=asd_ hT
 have hlen:((x.f5.length:Int) != (y.f5.length:Int))=false:=by simp [hl]
 clear hx hy hn5 hVy hT
 have HK:=st0_ w
 go_enter Tryz.func61,Tryz.ntmps61
 go_wp2_with (first|((with_reducible refine gd_ 2 ?_);refine bx_ (jvc x A4 A5 c4 c5) 25 ?_;clear HK;intro g2 wb2 HK Gg2;replace Bc:=ce1_ HK 0)|((with_reducible refine gd_ 3 ?_);refine bx_ (jvc y B4 B5 d4 d5) 25 ?_;clear HK;intro g3 wb3 HK Gg3;replace Bc:=ce2_ HK 1 0))
 go_loopg [5] x.f5.length (fun kq v5 w'=>∃ i:Int,v5= .int .i64 i∧0≤i∧i + kq=x.f5.length∧Aside0 (∀ j:Nat,(j:Int) < i→JE (x.f5.getD j z25) (y.f5.getD j z25))∧Aside0 (At w [.b g3 (row (jvc y B4 B5 d4 d5) 25),.b g2 (row (jvc x A4 A5 c4 c5) 25)] w'))
 case atStart=>exact ⟨0,rfl,by omega,by omega,⟨fun j hj=>absurd hj (by omega)⟩,⟨at_⟩⟩
 case round=>
  clear HK
  obtain ⟨i,rfl,hi0,hik,HP,HK⟩:=hrel
  replace Bc:=ce2_ HK 1 0
  cases gk with
  |zero=>
   have ht:decide (i < (x.f5.length:Int))=false:=decide_eq_false (by omega)
   go_wp2_with fail
   go_ret
   exact ⟨_,rfl,iff_of_true rfl (fun j hj=>HP.out j (by omega)),be_⟩
  |succ kk=>
   have ht:decide (i < (x.f5.length:Int))=true:=decide_eq_true (by omega)
   have hil:i < (x.f5.length:Int):=by omega
   have hil2:i < (y.f5.length:Int):=by omega
   obtain ⟨adp,Ep4,ep4,Ep5,ep5,eqp,h0p,h1p,h2p,h3p,h4p,h5p,m4,n4,m5,n5⟩:=at_T25 Hx.out.h5 i hi0 hil
   subst eqp
   have Hcp:=asd_ (And.intro h0p (And.intro h1p (And.intro h2p (And.intro h3p (And.intro h4p h5p)))));have HNp:=asd_ (And.intro m4 (And.intro n4 (And.intro m5 n5)));clear m4 n4 m5 n5 h0p h1p h2p h3p h4p h5p
   obtain ⟨adq,Eq4,eq4,Eq5,eq5,eqq,h0q,h1q,h2q,h3q,h4q,h5q,m4,n4,m5,n5⟩:=at_T25 Hy.out.h5 i hi0 hil2
   subst eqq
   have Hcq:=asd_ (And.intro h0q (And.intro h1q (And.intro h2q (And.intro h3q (And.intro h4q h5q)))));have HNq:=asd_ (And.intro m4 (And.intro n4 (And.intro m5 n5)));clear m4 n4 m5 n5 h0q h1q h2q h3q h4q h5q
   have HY1:=asd_ (rd_T25_in hi0 hil);have HY2:=asd_ (rd_T25_in hi0 hil2);have Hik:=asd_ hik;have Hi0:=asd_ hi0;have Hil:=asd_ hil
   have p1:=eq_true hi0;have p2:=eq_true hil;have p3:=eq_true hil2
   clear hik hi0 hil hil2
   go_wp2_with fail
   refine st_ 12 (fun w'=>At w [.b g3 (row (jvc y B4 (some adq) d4 d5) 25),.b g2 (row (jvc x A4 (some adp) c4 c5) 25)] w'∧(∀ j,w'.cell? ⟨g2,j,none⟩=(jvc x A4 (some adp) c4 c5:Array Value)[j]?)∧(∀ j,w'.cell? ⟨g3,j,none⟩=(jvc y B4 (some adq) d4 d5:Array Value)[j]?)∧w'.cell? (adp.add (i.toNat * 6))=some (.int .i64 (rd_T25 x.f5 i).f0)∧w'.cell? ⟨(adp.add (i.toNat * 6)).block,(adp.add (i.toNat * 6)).off + 1,none⟩=some (.bool (rd_T25 x.f5 i).f1)∧w'.cell? ⟨(adp.add (i.toNat * 6)).block,(adp.add (i.toNat * 6)).off + 2,none⟩=some (.int .i64 (rd_T25 x.f5 i).f2)∧w'.cell? ⟨(adp.add (i.toNat * 6)).block,(adp.add (i.toNat * 6)).off + 3,none⟩=some (.string (rd_T25 x.f5 i).f3)∧w'.cell? ⟨(adp.add (i.toNat * 6)).block,(adp.add (i.toNat * 6)).off + 4,none⟩=some (.slice Ep4 (rd_T25 x.f5 i).f4.length ep4)∧w'.cell? ⟨(adp.add (i.toNat * 6)).block,(adp.add (i.toNat * 6)).off + 5,none⟩=some (.slice Ep5 (rd_T25 x.f5 i).f5.length ep5)∧w'.cell? (adq.add (i.toNat * 6))=some (.int .i64 (rd_T25 y.f5 i).f0)∧w'.cell? ⟨(adq.add (i.toNat * 6)).block,(adq.add (i.toNat * 6)).off + 1,none⟩=some (.bool (rd_T25 y.f5 i).f1)∧w'.cell? ⟨(adq.add (i.toNat * 6)).block,(adq.add (i.toNat * 6)).off + 2,none⟩=some (.int .i64 (rd_T25 y.f5 i).f2)∧w'.cell? ⟨(adq.add (i.toNat * 6)).block,(adq.add (i.toNat * 6)).off + 3,none⟩=some (.string (rd_T25 y.f5 i).f3)∧w'.cell? ⟨(adq.add (i.toNat * 6)).block,(adq.add (i.toNat * 6)).off + 4,none⟩=some (.slice Eq4 (rd_T25 y.f5 i).f4.length eq4)∧w'.cell? ⟨(adq.add (i.toNat * 6)).block,(adq.add (i.toNat * 6)).off + 5,none⟩=some (.slice Eq5 (rd_T25 y.f5 i).f5.length eq5)) [] (fun A=>⟨A,(cA_ A 1),(cA_ A 0),((A.b.cell (World.block_lt_of_cell? w _ Hcp.out.1)).trans Hcp.out.1),((A.b.cell (World.block_lt_of_cell? w _ Hcp.out.2.1)).trans Hcp.out.2.1),((A.b.cell (World.block_lt_of_cell? w _ Hcp.out.2.2.1)).trans Hcp.out.2.2.1),((A.b.cell (World.block_lt_of_cell? w _ Hcp.out.2.2.2.1)).trans Hcp.out.2.2.2.1),((A.b.cell (World.block_lt_of_cell? w _ Hcp.out.2.2.2.2.1)).trans Hcp.out.2.2.2.2.1),((A.b.cell (World.block_lt_of_cell? w _ Hcp.out.2.2.2.2.2)).trans Hcp.out.2.2.2.2.2),((A.b.cell (World.block_lt_of_cell? w _ Hcq.out.1)).trans Hcq.out.1),((A.b.cell (World.block_lt_of_cell? w _ Hcq.out.2.1)).trans Hcq.out.2.1),((A.b.cell (World.block_lt_of_cell? w _ Hcq.out.2.2.1)).trans Hcq.out.2.2.1),((A.b.cell (World.block_lt_of_cell? w _ Hcq.out.2.2.2.1)).trans Hcq.out.2.2.2.1),((A.b.cell (World.block_lt_of_cell? w _ Hcq.out.2.2.2.2.1)).trans Hcq.out.2.2.2.2.1),((A.b.cell (World.block_lt_of_cell? w _ Hcq.out.2.2.2.2.2)).trans Hcq.out.2.2.2.2.2)⟩) (fun hHeld=> ?_)
   refine pu_ 0 51 1 ?_
   refine pu_ 2 53 5 ?_
   refine pu_ 5 56 37 ?_
   refine pu_ 7 58 165 ?_
   refine ta15_ 1 52 167 hHeld ?_
   refine pu_ 3 54 175 ?_
   refine ta15_ 4 55 191 hHeld ?_
   refine ta15_ 6 57 255 hHeld ?_
   refine pu_ 8 59 511 ?_
   refine ta15_ 9 60 1023 hHeld ?_
   refine on_ 10 61 2047 (fun K hK=> ?_)
   have HE:=asd_ (hHeld.1)
   refine ge_ Tryz.func61 #[.agg (#[.int .i64 (rd_T25 x.f5 i).f0,.bool (rd_T25 x.f5 i).f1,.int .i64 (rd_T25 x.f5 i).f2,.string (rd_T25 x.f5 i).f3,.slice Ep4 (rd_T25 x.f5 i).f4.length ep4,.slice Ep5 (rd_T25 x.f5 i).f5.length ep5]),.agg (#[.int .i64 (rd_T25 y.f5 i).f0,.bool (rd_T25 y.f5 i).f1,.int .i64 (rd_T25 y.f5 i).f2,.string (rd_T25 y.f5 i).f3,.slice Eq4 (rd_T25 y.f5 i).f4.length eq4,.slice Eq5 (rd_T25 y.f5 i).f5.length eq5])] ?_
   with_reducible refine (HT.out _ HY1.out _ (HVy.out _ HY2.out) _ _ _ _ _ _ _ _ _ HE.out.b ⟨Kd.C_below HNp.out.2.1 HE.out.b,HNp.out.1,Kd.C_below HNp.out.2.2.2 HE.out.b,HNp.out.2.2.1⟩ ⟨Kd.C_below HNq.out.2.1 HE.out.b,HNq.out.1,Kd.C_below HNq.out.2.2.2 HE.out.b,HNq.out.2.2.1⟩).mono ?_
   rintro e w3 ⟨rb,rfl,hrb,hb⟩
   refine ⟨_,rfl,?_⟩
   have HE0:=At.step HE.out hb
   have Hrb:=asd_ hrb
   clear hrb
   replace HE:=asd_ HE0;clear HE0
   refine hK.out _ _ ⟨HE.out,(cE_ HE 1),(cE_ HE 0),((HE.out.b.cell (World.block_lt_of_cell? w _ Hcp.out.1)).trans Hcp.out.1),((HE.out.b.cell (World.block_lt_of_cell? w _ Hcp.out.2.1)).trans Hcp.out.2.1),((HE.out.b.cell (World.block_lt_of_cell? w _ Hcp.out.2.2.1)).trans Hcp.out.2.2.1),((HE.out.b.cell (World.block_lt_of_cell? w _ Hcp.out.2.2.2.1)).trans Hcp.out.2.2.2.1),((HE.out.b.cell (World.block_lt_of_cell? w _ Hcp.out.2.2.2.2.1)).trans Hcp.out.2.2.2.2.1),((HE.out.b.cell (World.block_lt_of_cell? w _ Hcp.out.2.2.2.2.2)).trans Hcp.out.2.2.2.2.2),((HE.out.b.cell (World.block_lt_of_cell? w _ Hcq.out.1)).trans Hcq.out.1),((HE.out.b.cell (World.block_lt_of_cell? w _ Hcq.out.2.1)).trans Hcq.out.2.1),((HE.out.b.cell (World.block_lt_of_cell? w _ Hcq.out.2.2.1)).trans Hcq.out.2.2.1),((HE.out.b.cell (World.block_lt_of_cell? w _ Hcq.out.2.2.2.1)).trans Hcq.out.2.2.2.1),((HE.out.b.cell (World.block_lt_of_cell? w _ Hcq.out.2.2.2.2.1)).trans Hcq.out.2.2.2.2.1),((HE.out.b.cell (World.block_lt_of_cell? w _ Hcq.out.2.2.2.2.2)).trans Hcq.out.2.2.2.2.2)⟩ (fun hHeld=> ?_)
   clear hK K
   refine nq_ 61 ?_
   refine pu_ 11 62 4095 ?_
   refine done_ kr_ ?_
   clear HK;have HK:=HE;clear HE
   clear hHeld
   replace Bc:=ce2_ HK 1 0
   cases rb
   case false=>
    go_wp2_with fail
    go_ret
    exact ⟨_,rfl,iff_of_false (by simp) (fun h=>by have h1:=Hrb.out;simp at h1;exact h1 (h i.toNat (by have:=Hi0.out;have:=Hil.out;omega))),be_⟩
   case true=>
    go_wp2_with fail
    go_roundg kk
    case measure=>exact Nat.lt_succ_self _
    case rel=>
     have e1:wrap64 (i + 1)=i + 1:=wup Hi0.out Hil.out Hn5.out
     refine ⟨wrap64 (i + 1),rfl,by have:=Hi0.out;rw [e1];omega,by have:=Hik.out;rw [e1];omega,⟨fun j hj=> ?_⟩,⟨at_⟩⟩
     rw [e1] at hj
     by_cases hji:(j:Int) < i
     ·exact HP.out j hji
     ·have:j=i.toNat:=by have:=Hi0.out;omega
      subst this
      have h1:=Hrb.out;simp at h1;exact h1
end Go.Proofs.YtkphbhncpdcbeaaGreatDoor.J
namespace Go.Proofs.YtkphbhncpdcbeaaGreatDoor.J
open Go.RowKit YtkphbhncpdcbeaaGreatDoorW.PrintWords YtkphbhncpdcbeaaGreatDoorW.PrintLast YtkphbhncpdcbeaaGreatDoorW.PrintMore PJT
theorem rd_in {l:List Int} {j:Int} (h:j∈l):∃ m,0≤m∧m < (l.length:Int)∧rd l m=j:=by
 obtain ⟨i,hi,rfl⟩:=List.mem_iff_getElem.1 h
 exact ⟨i,by omega,by omega,by unfold rd;rw [Int.toNat_natCast,getD_lt hi]⟩
theorem within_right (w:World) (x y:S25) (A4 A5 B4 B5:Option Addr) (c4 c5 d4 d5:Nat) (hx:Rep w x A4 c4 A5 c5) (hy:Rep w y B4 d4 B5 d5) (hn4:x.f4.length≤LM) (hm4:y.f4.length≤LM) (hex:x.f4.length=x.f5.length) (hey:y.f4.length=y.f5.length) (hVy:∀ z∈y.f5,V z) (hT:EqT w x):
  Calls Tryz.prog 115 #[.agg (jvc x A4 A5 c4 c5),.agg (jvc y B4 B5 d4 d5)] w fun e w'=>∃ r:Bool,e= .returned (.bool r)∧(r=true↔∀ s,s∈x.f4→OkS x y s)∧Below w.heap.size w w':=by
 obtain ⟨km,l,hkm,hlm,hll,hl1,hl2⟩:=mems_is x hn4
 have hlx:=asd_ hl1
 have hiff:(∀ j∈l,OkS x y (rdOf ByteArray.empty x.f4 j))↔∀ s,s∈x.f4→OkS x y s:=by
  constructor
  ·intro h s hs
   obtain ⟨i,hi⟩:=lastAt_mem.2 hs
   have h1:=h _ (hl2 s i hi)
   have h2:=lastAt_get hi
   have h3:rdOf ByteArray.empty x.f4 (i:Int)=s:=by
    have hil:=lastAt_lt hi
    unfold rdOf
    rw [Int.toNat_natCast,getD_lt hil]
    rw [List.getElem?_eq_getElem hil] at h2
    exact Option.some.inj h2
   rwa [h3] at h1
  ·intro h j hj
   exact h _ (lastAt_mem.1 ⟨_,hl1 j hj⟩)
 rw [← hiff]
 clear hiff hl1 hl2
 have Hx:=asd_ hx
 have Hy:=asd_ hy
 have HVy:=asd_ hVy
 have HT:=asd_ hT
 have Hex:=asd_ hex
 have Hey:=asd_ hey
 clear hx hy hVy hT hex hey
 have HK:=st0_ w
 go_enter Tryz.func115,Tryz.ntmps115
 go_wp2_with (first|((with_reducible refine gd_ 2 ?_);refine bx_ (jvc x A4 A5 c4 c5) 25 ?_;clear HK;intro g2 wb2 HK Gg2;replace Bc:=ce1_ HK 0)|((with_reducible refine gd_ 3 ?_);refine bx_ (jvc y B4 B5 d4 d5) 25 ?_;clear HK;intro g3 wb3 HK Gg3;replace Bc:=ce2_ HK 1 0)|((with_reducible refine gd_ 8 ?_);refine lo_ 25 2 g2 (jvc x A4 A5 c4 c5) HK.out.k.2.1 Tryz.underlying25 ?_)|((with_reducible refine gd_ 9 ?_);refine cw_ #[.agg (jvc x A4 A5 c4 c5)] Tryz.func74 (members_ok _ x A4 A5 c4 c5 l km (Hx.out.below HK.out.b) hkm) ?_;rintro v9 wc9 HK0 ⟨Al,cl,rfl,hF⟩ hB;have HK1:=At.fact (Fact.ints (.slice Al l.length cl) l) HK0 hF;clear HK0 hF hB;replace HK:=asd_ HK1;clear HK1;replace Bc:=ce2_ HK 2 1))
 go_loopg [6] l.length (fun kq v6 w'=>∃ i:Int,v6= .int .i64 i∧0≤i∧i + kq=l.length∧Aside0 (∀ m:Int,0≤m→m < i→OkS x y (rdOf ByteArray.empty x.f4 (rd l m)))∧Aside0 (At w [.f (Fact.ints (.slice Al l.length cl) l),.b g3 (row (jvc y B4 B5 d4 d5) 25),.b g2 (row (jvc x A4 A5 c4 c5) 25)] w'))
 case atStart=>exact ⟨0,rfl,by omega,by omega,⟨fun m h0 h1=>absurd h1 (by omega)⟩,⟨at_⟩⟩
 case round=>
  clear HK
  obtain ⟨i,rfl,hi0,hik,HP,HK⟩:=hrel
  replace Bc:=ce2_ HK 2 1
  cases gk with
  |zero=>
   have ht:decide (i < (l.length:Int))=false:=decide_eq_false (by omega)
   go_wp2_with fail
   go_ret
   exact ⟨_,rfl,iff_of_true rfl (fun j hj=>by obtain ⟨m,hm0,hm1,rfl⟩:=rd_in hj;exact HP.out m hm0 (by omega)),be_⟩
  |succ kk=>
   have ht:decide (i < (l.length:Int))=true:=decide_eq_true (by omega)
   have hil:i < (l.length:Int):=by omega
   obtain ⟨adl,el⟩:=some_of (strs_ints HK.out.k.1) (by omega)
   subst el
   have hj:=hlm _ (rd_mem hi0 hil)
   obtain ⟨hj0,hj1⟩:=hj
   obtain ⟨ad4,e4,hc4⟩:=Kd.at_string Hx.out.h4 (rd l i) hj0 hj1
   subst e4
   obtain ⟨r,hr,hr0,hr1,hrm,hrn⟩:=place_is y.f0 y.f1 y.f2 y.f3 y.f4 y.f5 (rdOf ByteArray.empty x.f4 (rd l i)) hm4
   have Hlx:=asd_ (hlx.out _ (rd_mem hi0 hil));have Hin:=asd_ (rd_mem hi0 hil)
   have Hc4:=asd_ hc4;have Hr:=asd_ hr;have Hik:=asd_ hik;have Hi0:=asd_ hi0;have Hil:=asd_ hil;have Hj0:=asd_ hj0;have Hj1:=asd_ hj1;have Hr1:=asd_ hr1;have Hrm:=asd_ hrm;have Hrn:=asd_ hrn
   have p1:=eq_true hi0;have p2:=eq_true hil;have p3:=eq_true hj0;have p4:=eq_true hj1
   clear hrm hrn hc4 hr hr0 hik hi0 hil hj0 hj1 hr1
   go_wp2_with fail
   refine st_ 11 (fun w'=>At w [.f (Fact.ints (.slice (some adl) l.length cl) l),.b g3 (row (jvc y B4 B5 d4 d5) 25),.b g2 (row (jvc x (some ad4) A5 c4 c5) 25)] w'∧(∀ j,w'.cell? ⟨g2,j,none⟩=(jvc x (some ad4) A5 c4 c5:Array Value)[j]?)∧(∀ j,w'.cell? ⟨g3,j,none⟩=(jvc y B4 B5 d4 d5:Array Value)[j]?)∧w'.cell? (adl.add i.toNat)=some (.int .i64 (rd l i))∧w'.cell? (ad4.add (rd l i).toNat)=some (.string (rdOf ByteArray.empty x.f4 (rd l i)))) [] (fun A=>⟨A,(cA_ A 2),(cA_ A 1),(ints_at A.k.1 i Hi0.out Hil.out),((A.b.cell (World.block_lt_of_cell? w _ Hc4.out)).trans Hc4.out)⟩) (fun hHeld=> ?_)
   refine pu_ 1 17 2 ?_
   refine pu_ 3 19 10 ?_
   refine pu_ 4 20 26 ?_
   refine pu_ 5 21 58 ?_
   refine ta5_ 2 18 62 hHeld ?_
   refine ta5_ 6 22 126 hHeld ?_
   refine pu_ 7 23 254 ?_
   refine ta5_ 8 24 510 hHeld ?_
   refine on_ 0 16 511 (fun K hK=> ?_)
   refine loadr_ (ty:=25) (x:= .tmp 3) g3 (jvc y B4 B5 d4 d5) (by rfl) rfl rfl rfl hHeld.1.k.2.1 Tryz.underlying25 rfl kr_ ?_
   refine hK.out _ _ ⟨hHeld.1,hHeld.2.1,hHeld.2.2.1,hHeld.2.2.2.1,hHeld.2.2.2.2⟩ (fun hHeld=> ?_)
   clear hK K
   refine nq_ 16 ?_
   refine on_ 9 25 1023 (fun K hK=> ?_)
   have HE:=asd_ (hHeld.1)
   refine ge_ Tryz.func65 #[.agg (jvc y B4 B5 d4 d5),.string (rdOf ByteArray.empty x.f4 (rd l i))] ?_
   with_reducible refine (member_ok _ y B4 B5 d4 d5 _ r (Hy.out.below HE.out.b) Hr.out).mono ?_
   rintro e w3 ⟨rfl,hb⟩
   refine ⟨_,rfl,?_⟩
   replace HE:=asd_ (At.step HE.out hb)
   refine hK.out _ _ ⟨HE.out,(cE_ HE 2),(cE_ HE 1),(ints_at HE.out.k.1 i Hi0.out Hil.out),((HE.out.b.cell (World.block_lt_of_cell? w _ Hc4.out)).trans Hc4.out)⟩ (fun hHeld=> ?_)
   clear hK K
   refine nq_ 25 ?_
   refine pu_ 10 7 2047 ?_
   refine done_ kr_ ?_
   clear HK;have HK:=HE;clear HE
   clear hHeld
   replace Bc:=ce2_ HK 2 1
   go_wp2_with fail
   cases hd:decide (r < 0)
   case true=>
    refine su2_ 19 HK 2 1 [] (fun HS hHeld=> ?_)
    refine pu_ 0 26 1 ?_
    refine pu_ 1 27 3 ?_
    refine pu_ 2 28 7 ?_
    refine pn_ 3 29 15 ?_
    refine pn_ 4 30 31 ?_
    refine pn_ 5 31 63 ?_
    refine pn_ 6 32 127 ?_
    refine pn_ 7 33 255 ?_
    refine pn_ 8 34 511 ?_
    refine pn_ 9 35 1023 ?_
    refine pn_ 10 36 2047 ?_
    refine pn_ 11 37 4095 ?_
    refine pn_ 12 38 8191 ?_
    refine pn_ 13 39 16383 ?_
    refine pn_ 14 40 32767 ?_
    refine pn_ 15 41 65535 ?_
    refine pn_ 16 42 131071 ?_
    refine pn_ 17 43 262143 ?_
    refine pu_ 18 44 524287 ?_
    refine done_ kr_ ?_
    clear HK;have HK:=asd_ hHeld.1
    clear hHeld
    replace Bc:=ce2_ HK 2 1
    go_wp2_with fail
    go_ret
    exact ⟨_,rfl,iff_of_false (by simp) (fun h=>by obtain ⟨_,k,_,hk,_⟩:=h _ Hin.out;exact Hrn.out (of_decide_eq_true hd) (lastAt_mem.1 ⟨k,hk⟩)),be_⟩
   case false=>
    have hr0:0≤r:=by have:=of_decide_eq_false hd;omega
    have hj5:rd l i < (x.f5.length:Int):=by have:=Hj1.out;have:=Hex.out;omega
    have hr5:r < (y.f5.length:Int):=by have:=Hr1.out;have:=Hey.out;omega
    obtain ⟨adp,Ep4,ep4,Ep5,ep5,eqp,h0p,h1p,h2p,h3p,h4p,h5p,m4,n4,m5,n5⟩:=at_T25 Hx.out.h5 (rd l i) Hj0.out hj5
    subst eqp
    have Hcp:=asd_ (And.intro h0p (And.intro h1p (And.intro h2p (And.intro h3p (And.intro h4p h5p)))));have HNp:=asd_ (And.intro m4 (And.intro n4 (And.intro m5 n5)));clear m4 n4 m5 n5 h0p h1p h2p h3p h4p h5p
    obtain ⟨adq,Eq4,eq4,Eq5,eq5,eqq,h0q,h1q,h2q,h3q,h4q,h5q,m4,n4,m5,n5⟩:=at_T25 Hy.out.h5 r hr0 hr5
    subst eqq
    have Hcq:=asd_ (And.intro h0q (And.intro h1q (And.intro h2q (And.intro h3q (And.intro h4q h5q)))));have HNq:=asd_ (And.intro m4 (And.intro n4 (And.intro m5 n5)));clear m4 n4 m5 n5 h0q h1q h2q h3q h4q h5q
    have HY1:=asd_ (rd_T25_in Hj0.out hj5);have HY2:=asd_ (rd_T25_in hr0 hr5);have Hry:=asd_ (Hrm.out hr0)
    have p5:=eq_true hr0;have p6:=eq_true hr5;have p7:=eq_true hj5
    clear hr0 hr5 hj5
    refine st_ 19 (fun w'=>At w [.f (Fact.ints (.slice (some adl) l.length cl) l),.b g3 (row (jvc y B4 (some adq) d4 d5) 25),.b g2 (row (jvc x (some ad4) (some adp) c4 c5) 25)] w'∧(∀ j,w'.cell? ⟨g2,j,none⟩=(jvc x (some ad4) (some adp) c4 c5:Array Value)[j]?)∧(∀ j,w'.cell? ⟨g3,j,none⟩=(jvc y B4 (some adq) d4 d5:Array Value)[j]?)∧w'.cell? (adl.add i.toNat)=some (.int .i64 (rd l i))∧w'.cell? (adp.add ((rd l i).toNat * 6))=some (.int .i64 (rd_T25 x.f5 (rd l i)).f0)∧w'.cell? ⟨(adp.add ((rd l i).toNat * 6)).block,(adp.add ((rd l i).toNat * 6)).off + 1,none⟩=some (.bool (rd_T25 x.f5 (rd l i)).f1)∧w'.cell? ⟨(adp.add ((rd l i).toNat * 6)).block,(adp.add ((rd l i).toNat * 6)).off + 2,none⟩=some (.int .i64 (rd_T25 x.f5 (rd l i)).f2)∧w'.cell? ⟨(adp.add ((rd l i).toNat * 6)).block,(adp.add ((rd l i).toNat * 6)).off + 3,none⟩=some (.string (rd_T25 x.f5 (rd l i)).f3)∧w'.cell? ⟨(adp.add ((rd l i).toNat * 6)).block,(adp.add ((rd l i).toNat * 6)).off + 4,none⟩=some (.slice Ep4 (rd_T25 x.f5 (rd l i)).f4.length ep4)∧w'.cell? ⟨(adp.add ((rd l i).toNat * 6)).block,(adp.add ((rd l i).toNat * 6)).off + 5,none⟩=some (.slice Ep5 (rd_T25 x.f5 (rd l i)).f5.length ep5)∧w'.cell? (adq.add (r.toNat * 6))=some (.int .i64 (rd_T25 y.f5 r).f0)∧w'.cell? ⟨(adq.add (r.toNat * 6)).block,(adq.add (r.toNat * 6)).off + 1,none⟩=some (.bool (rd_T25 y.f5 r).f1)∧w'.cell? ⟨(adq.add (r.toNat * 6)).block,(adq.add (r.toNat * 6)).off + 2,none⟩=some (.int .i64 (rd_T25 y.f5 r).f2)∧w'.cell? ⟨(adq.add (r.toNat * 6)).block,(adq.add (r.toNat * 6)).off + 3,none⟩=some (.string (rd_T25 y.f5 r).f3)∧w'.cell? ⟨(adq.add (r.toNat * 6)).block,(adq.add (r.toNat * 6)).off + 4,none⟩=some (.slice Eq4 (rd_T25 y.f5 r).f4.length eq4)∧w'.cell? ⟨(adq.add (r.toNat * 6)).block,(adq.add (r.toNat * 6)).off + 5,none⟩=some (.slice Eq5 (rd_T25 y.f5 r).f5.length eq5)) [] (fun A=>⟨A,(cA_ A 2),(cA_ A 1),(ints_at A.k.1 i Hi0.out Hil.out),((A.b.cell (World.block_lt_of_cell? w _ Hcp.out.1)).trans Hcp.out.1),((A.b.cell (World.block_lt_of_cell? w _ Hcp.out.2.1)).trans Hcp.out.2.1),((A.b.cell (World.block_lt_of_cell? w _ Hcp.out.2.2.1)).trans Hcp.out.2.2.1),((A.b.cell (World.block_lt_of_cell? w _ Hcp.out.2.2.2.1)).trans Hcp.out.2.2.2.1),((A.b.cell (World.block_lt_of_cell? w _ Hcp.out.2.2.2.2.1)).trans Hcp.out.2.2.2.2.1),((A.b.cell (World.block_lt_of_cell? w _ Hcp.out.2.2.2.2.2)).trans Hcp.out.2.2.2.2.2),((A.b.cell (World.block_lt_of_cell? w _ Hcq.out.1)).trans Hcq.out.1),((A.b.cell (World.block_lt_of_cell? w _ Hcq.out.2.1)).trans Hcq.out.2.1),((A.b.cell (World.block_lt_of_cell? w _ Hcq.out.2.2.1)).trans Hcq.out.2.2.1),((A.b.cell (World.block_lt_of_cell? w _ Hcq.out.2.2.2.1)).trans Hcq.out.2.2.2.1),((A.b.cell (World.block_lt_of_cell? w _ Hcq.out.2.2.2.2.1)).trans Hcq.out.2.2.2.2.1),((A.b.cell (World.block_lt_of_cell? w _ Hcq.out.2.2.2.2.2)).trans Hcq.out.2.2.2.2.2)⟩) (fun hHeld=> ?_)
    refine pu_ 0 26 1 ?_
    refine pu_ 1 27 3 ?_
    refine pu_ 2 28 7 ?_
    refine pu_ 3 29 15 ?_
    refine pu_ 5 31 47 ?_
    refine pu_ 6 32 111 ?_
    refine pu_ 7 33 239 ?_
    refine pu_ 11 37 2287 ?_
    refine pu_ 13 39 10479 ?_
    refine ta16_ 4 30 10495 hHeld ?_
    refine ta16_ 8 34 10751 hHeld ?_
    refine pu_ 9 35 11263 ?_
    refine ta16_ 10 36 12287 hHeld ?_
    refine ta16_ 12 38 16383 hHeld ?_
    refine pu_ 14 40 32767 ?_
    refine ta16_ 15 41 65535 hHeld ?_
    refine on_ 16 42 131071 (fun K hK=> ?_)
    have HE:=asd_ (hHeld.1)
    refine ge_ Tryz.func61 #[.agg (#[.int .i64 (rd_T25 x.f5 (rd l i)).f0,.bool (rd_T25 x.f5 (rd l i)).f1,.int .i64 (rd_T25 x.f5 (rd l i)).f2,.string (rd_T25 x.f5 (rd l i)).f3,.slice Ep4 (rd_T25 x.f5 (rd l i)).f4.length ep4,.slice Ep5 (rd_T25 x.f5 (rd l i)).f5.length ep5]),.agg (#[.int .i64 (rd_T25 y.f5 r).f0,.bool (rd_T25 y.f5 r).f1,.int .i64 (rd_T25 y.f5 r).f2,.string (rd_T25 y.f5 r).f3,.slice Eq4 (rd_T25 y.f5 r).f4.length eq4,.slice Eq5 (rd_T25 y.f5 r).f5.length eq5])] ?_
    with_reducible refine (HT.out _ HY1.out _ (HVy.out _ HY2.out) _ _ _ _ _ _ _ _ _ HE.out.b ⟨Kd.C_below HNp.out.2.1 HE.out.b,HNp.out.1,Kd.C_below HNp.out.2.2.2 HE.out.b,HNp.out.2.2.1⟩ ⟨Kd.C_below HNq.out.2.1 HE.out.b,HNq.out.1,Kd.C_below HNq.out.2.2.2 HE.out.b,HNq.out.2.2.1⟩).mono ?_
    rintro e w3 ⟨rb,rfl,hrb,hb⟩
    refine ⟨_,rfl,?_⟩
    have HE0:=At.step HE.out hb
    have Hrb:=asd_ hrb
    clear hrb
    replace HE:=asd_ HE0;clear HE0
    refine hK.out _ _ ⟨HE.out,(cE_ HE 2),(cE_ HE 1),(ints_at HE.out.k.1 i Hi0.out Hil.out),((HE.out.b.cell (World.block_lt_of_cell? w _ Hcp.out.1)).trans Hcp.out.1),((HE.out.b.cell (World.block_lt_of_cell? w _ Hcp.out.2.1)).trans Hcp.out.2.1),((HE.out.b.cell (World.block_lt_of_cell? w _ Hcp.out.2.2.1)).trans Hcp.out.2.2.1),((HE.out.b.cell (World.block_lt_of_cell? w _ Hcp.out.2.2.2.1)).trans Hcp.out.2.2.2.1),((HE.out.b.cell (World.block_lt_of_cell? w _ Hcp.out.2.2.2.2.1)).trans Hcp.out.2.2.2.2.1),((HE.out.b.cell (World.block_lt_of_cell? w _ Hcp.out.2.2.2.2.2)).trans Hcp.out.2.2.2.2.2),((HE.out.b.cell (World.block_lt_of_cell? w _ Hcq.out.1)).trans Hcq.out.1),((HE.out.b.cell (World.block_lt_of_cell? w _ Hcq.out.2.1)).trans Hcq.out.2.1),((HE.out.b.cell (World.block_lt_of_cell? w _ Hcq.out.2.2.1)).trans Hcq.out.2.2.1),((HE.out.b.cell (World.block_lt_of_cell? w _ Hcq.out.2.2.2.1)).trans Hcq.out.2.2.2.1),((HE.out.b.cell (World.block_lt_of_cell? w _ Hcq.out.2.2.2.2.1)).trans Hcq.out.2.2.2.2.1),((HE.out.b.cell (World.block_lt_of_cell? w _ Hcq.out.2.2.2.2.2)).trans Hcq.out.2.2.2.2.2)⟩ (fun hHeld=> ?_)
    clear hK K
    refine nq_ 42 ?_
    refine pu_ 17 43 262143 ?_
    refine pu_ 18 44 524287 ?_
    refine done_ kr_ ?_
    clear HK;have HK:=HE;clear HE
    clear hHeld
    replace Bc:=ce2_ HK 2 1
    cases rb
    case false=>
     go_wp2_with fail
     go_ret
     exact ⟨_,rfl,iff_of_false (by simp) (fun h=>by obtain ⟨a,b,ha,hb,hE⟩:=h _ Hin.out;have h1:=Hrb.out;simp at h1;rw [Hlx.out] at ha;rw [Hry.out] at hb;cases ha;cases hb;exact h1 hE),be_⟩
    case true=>
     go_wp2_with fail
     go_roundg kk
     case measure=>exact Nat.lt_succ_self _
     case rel=>
      have e1:wrap64 (i + 1)=i + 1:=wup Hi0.out Hil.out hll
      refine ⟨wrap64 (i + 1),rfl,by have:=Hi0.out;rw [e1];omega,by have:=Hik.out;rw [e1];omega,⟨fun m hm0 hm1=> ?_⟩,⟨at_⟩⟩
      rw [e1] at hm1
      by_cases hmi:m < i
      ·exact HP.out m hm0 hmi
      ·obtain rfl:m=i:=by omega
       exact ⟨_,_,Hlx.out,Hry.out,by have h1:=Hrb.out;simp at h1;exact h1⟩
theorem bool_iff {f:FuncId} {args:Array Value} {W:World} {p:Prop} (h:Calls Tryz.prog f args W fun e w'=>∃ r:Bool,e= .returned (.bool r)∧(r=true↔p)∧Below W.heap.size W w'):Calls Tryz.prog f args W fun e w'=>∃ v,e= .returned v∧(∃ r:Bool,v= .bool r∧(r=true↔p))∧Below W.heap.size W w':=by
 refine h.mono ?_
 rintro e w' ⟨r,rfl,h1,hb⟩
 exact ⟨_,rfl,⟨r,rfl,h1⟩,hb⟩
theorem obj_iff3 {x y:S25} {c:Bool} (h1:∀ s∈x.f4,s∈y.f4) (h2:∀ s∈y.f4,s∈x.f4) (h3:c=true↔∀ s,s∈x.f4→OkS x y s):c=true↔JEobj x y:=by
 rw [h3]
 constructor
 ·intro h
  refine ⟨fun s=>⟨h1 s,h2 s⟩,fun s i j hi hj=> ?_⟩
  obtain ⟨i',j',hi',hj',hE⟩:=h s (lastAt_mem.1 ⟨i,hi⟩)
  rw [hi] at hi';rw [hj] at hj'
  cases hi';cases hj'
  exact hE
 ·rintro ⟨hn,hE⟩ s hs
  obtain ⟨i,hi⟩:=lastAt_mem.2 hs
  obtain ⟨j,hj⟩:=lastAt_mem.2 ((hn s).1 hs)
  exact ⟨i,j,hi,hj,hE s i j hi hj⟩
theorem obj_iff2 {x y:S25} (h2:¬ ∀ s∈y.f4,s∈x.f4):false=true↔JEobj x y:=iff_of_false (by simp) (fun h=>h2 (fun s=>(h.1 s).2))
theorem obj_iff1 {x y:S25} (h1:¬ ∀ s∈x.f4,s∈y.f4):false=true↔JEobj x y:=iff_of_false (by simp) (fun h=>h1 (fun s=>(h.1 s).1))
def EqP (p:Prop) (W:World) (e:Ending) (w':World):Prop:=∃ r:Bool,e= .returned (.bool r)∧(r=true↔p)∧Below W.heap.size W w'
theorem eqx_object (w:World) (x y:S25) (A4 A5 B4 B5:Option Addr) (c4 c5 d4 d5:Nat) (hne:(x.f0 != y.f0)=false) (k1:(x.f0 == 1)=false) (k2:(x.f0 == 2)=false) (k3:(x.f0 == 3)=false) (k4:(x.f0 == 4)=false) (k5:(x.f0 == 5)=true) (hx:Rep w x A4 c4 A5 c5) (hy:Rep w y B4 d4 B5 d5) (hn4:x.f4.length≤LM) (hm4:y.f4.length≤LM) (hex:x.f4.length=x.f5.length) (hey:y.f4.length=y.f5.length) (hVy:∀ z∈y.f5,V z) (hT:EqT w x):EqS (JEobj x y) x y A4 A5 B4 B5 c4 c5 d4 d5 w:=by
 show Calls Tryz.prog 61 #[.agg (jvc x A4 A5 c4 c5),.agg (jvc y B4 B5 d4 d5)] w (EqP (JEobj x y) w)
 have Hx:=asd_ hx
 have Hy:=asd_ hy
 have HVy:=asd_ hVy
 have HT:=asd_ hT
 have Hex:=asd_ hex
 have Hey:=asd_ hey
 clear hx hy hVy hT hex hey
 have HK:=st0_ w
 go_enter Tryz.func61,Tryz.ntmps61
 go_wp2_with (first|((with_reducible refine gd_ 2 ?_);refine bx_ (jvc x A4 A5 c4 c5) 25 ?_;clear HK;intro g2 wb2 HK Gg2;replace Bc:=ce1_ HK 0)|((with_reducible refine gd_ 3 ?_);refine bx_ (jvc y B4 B5 d4 d5) 25 ?_;clear HK;intro g3 wb3 HK Gg3;replace Bc:=ce2_ HK 1 0)|((with_reducible refine gd_ 65 ?_);refine lo_ 25 2 g2 (jvc x A4 A5 c4 c5) HK.out.k.2.1 Tryz.underlying25 ?_)|((with_reducible refine gd_ 66 ?_);refine lo_ 25 3 g3 (jvc y B4 B5 d4 d5) HK.out.k.1 Tryz.underlying25 ?_)|((with_reducible refine gd_ 67 ?_);refine cw_ #[.agg (jvc x A4 A5 c4 c5),.agg (jvc y B4 B5 d4 d5)] Tryz.func114 (has_right _ x y A4 A5 B4 B5 c4 c5 d4 d5 (Hx.out.below HK.out.b) (Hy.out.below HK.out.b) hn4 hm4) ?_;rintro v67 wc67 HK1 ⟨rb67,rfl,r1⟩ hB;have Hr1:=asd_ r1;clear r1 hB;replace HK:=asd_ HK1;clear HK1;replace Bc:=ce2_ HK 1 0;cases rb67)|((with_reducible refine gd_ 69 ?_);(try (refine gate_guard (by rfl) ?_;dsimp only));refine lo_ 25 3 g3 (jvc y B4 B5 d4 d5) HK.out.k.1 Tryz.underlying25 ?_)|((with_reducible refine gd_ 70 ?_);(try (refine gate_guard (by rfl) ?_;dsimp only));refine lo_ 25 2 g2 (jvc x A4 A5 c4 c5) HK.out.k.2.1 Tryz.underlying25 ?_)|((with_reducible refine gd_ 71 ?_);(try (refine gate_guard (by rfl) ?_;dsimp only));refine cw_ #[.agg (jvc y B4 B5 d4 d5),.agg (jvc x A4 A5 c4 c5)] Tryz.func114 (has_right _ y x B4 B5 A4 A5 d4 d5 c4 c5 (Hy.out.below HK.out.b) (Hx.out.below HK.out.b) hm4 hn4) ?_;rintro v71 wc71 HK1 ⟨rb71,rfl,r2⟩ hB;have Hr2:=asd_ r2;clear r2 hB;replace HK:=asd_ HK1;clear HK1;replace Bc:=ce2_ HK 1 0;cases rb71)|((with_reducible refine gd_ 74 ?_);(try (refine gate_guard (by rfl) ?_;dsimp only));refine lo_ 25 2 g2 (jvc x A4 A5 c4 c5) HK.out.k.2.1 Tryz.underlying25 ?_)|((with_reducible refine gd_ 75 ?_);(try (refine gate_guard (by rfl) ?_;dsimp only));refine lo_ 25 3 g3 (jvc y B4 B5 d4 d5) HK.out.k.1 Tryz.underlying25 ?_)|((with_reducible refine gd_ 76 ?_);(try (refine gate_guard (by rfl) ?_;dsimp only));refine cw_ #[.agg (jvc x A4 A5 c4 c5),.agg (jvc y B4 B5 d4 d5)] Tryz.func115 (bool_iff (within_right _ x y A4 A5 B4 B5 c4 c5 d4 d5 (Hx.out.below HK.out.b) (Hy.out.below HK.out.b) hn4 hm4 Hex.out Hey.out HVy.out (fun a ha b hb W A4 A5 B4 B5 c4 c5 d4 d5 hbW=>HT.out a ha b hb W A4 A5 B4 B5 c4 c5 d4 d5 (below_step HK.out.b hbW)))) ?_;rintro v76 wc76 HK1 ⟨rb76,rfl,r3⟩ hB;have Hr3:=asd_ r3;clear r3 hB;replace HK:=asd_ HK1;clear HK1;replace Bc:=ce2_ HK 1 0))
 all_goals go_ret
 all_goals unfold EqP
 all_goals refine ⟨_,rfl,?_,be_⟩
 all_goals first|exact (obj_iff3 (by have h:=Hr1.out;first|exact h.1 rfl|exact h.1 trivial) (by have h:=Hr2.out;first|exact h.1 rfl|exact h.1 trivial) Hr3.out)|exact (obj_iff2 (fun hh=>by have h:=Hr2.out;first|exact absurd (h.2 hh) (by simp)|exact h.2 hh))|exact (obj_iff1 (fun hh=>by have h:=Hr1.out;first|exact absurd (h.2 hh) (by simp)|exact h.2 hh))
theorem jequals_ok {x:S25} (hV:V x):∀ (y:S25),V y→∀ (w:World) (A4 A5 B4 B5:Option Addr) (c4 c5 d4 d5:Nat),Rep w x A4 c4 A5 c5→Rep w y B4 d4 B5 d5→EqS (JE x y) x y A4 A5 B4 B5 c4 c5 d4 d5 w:=by
 have nk:∀ {x y:S25},x.f0≠y.f0→(False↔JE x y):=fun hne=>⟨False.elim,fun h=>hne h.kind⟩
 have tr:∀ {p q:Prop} {x y:S25} {A4 A5 B4 B5:Option Addr} {c4 c5 d4 d5:Nat} {W:World},EqS p x y A4 A5 B4 B5 c4 c5 d4 d5 W→(p↔q)→EqS q x y A4 A5 B4 B5 c4 c5 d4 d5 W:=fun h e=>h.mono (fun e1 w' ⟨r,h1,h2,h3⟩=>⟨r,h1,h2.trans e,h3⟩)
 induction hV with
 | @mk x k0 k5 k2 n3 n4 n5 t4 ee sub ih=>
  intro y hy w A4 A5 B4 B5 c4 c5 d4 d5 hx hyr
  have hys:=hy.sub_
  obtain ⟨j0,j5,j2,m3,m4,m5,s4,ff,_⟩:=hy
  have hT:EqT w x:=fun a ha b hb W A4 A5 B4 B5 c4 c5 d4 d5 _ h1 h2=>ih a ha b hb W A4 A5 B4 B5 c4 c5 d4 d5 h1 h2
  by_cases he:x.f0=y.f0
  ·have hne:(x.f0 != y.f0)=false:=by simp [he]
   have hk:x.f0=0∨x.f0=1∨x.f0=3∨x.f0=4∨x.f0=5:=by omega
   rcases hk with h|h|h|h|h
   ·exact tr (eqx_null w x y A4 A5 B4 B5 c4 c5 d4 d5 hne (bq_f (by omega)) (bq_f (by omega)) (bq_f (by omega)) (bq_f (by omega)) (bq_f (by omega))) ⟨fun _=> .null h (by omega),fun _=>trivial⟩
   ·exact tr (eqx_bool w x y A4 A5 B4 B5 c4 c5 d4 d5 hne (bq_t h)) (JE.bool_iff h (by omega)).symm
   ·exact tr (eqx_text w x y A4 A5 B4 B5 c4 c5 d4 d5 hne (bq_f (by omega)) (bq_f (by omega)) (bq_t h)) (JE.text_iff h (by omega)).symm
   ·by_cases hl:x.f5.length=y.f5.length
    ·exact tr (eqx_array w x y A4 A5 B4 B5 c4 c5 d4 d5 hne (bq_f (by omega)) (bq_f (by omega)) (bq_f (by omega)) (bq_t h) hx hyr n5 hl hys hT) ⟨fun h1=>(JE.array_iff h (by omega)).2 ⟨hl,h1⟩,fun h1=>((JE.array_iff h (by omega)).1 h1).2⟩
    ·exact tr (eqx_len w x y A4 A5 B4 B5 c4 c5 d4 d5 hne (bq_f (by omega)) (bq_f (by omega)) (bq_f (by omega)) (bq_t h) (by simp only [bne_iff_ne,ne_eq];omega)) ⟨False.elim,fun h1=>hl ((JE.array_iff h (by omega)).1 h1).1⟩
   ·exact tr (eqx_object w x y A4 A5 B4 B5 c4 c5 d4 d5 hne (bq_f (by omega)) (bq_f (by omega)) (bq_f (by omega)) (bq_f (by omega)) (bq_t h) hx hyr n4 m4 (ee h) (ff (by omega)) hys hT) (JE.object_iff h (by omega)).symm
  ·exact tr (eqx_ne w x y A4 A5 B4 B5 c4 c5 d4 d5 (by simp [he])) (nk he)
end Go.Proofs.YtkphbhncpdcbeaaGreatDoor.J
