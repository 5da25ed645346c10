/- Part. -/
import Derived.Test.YtkphbhncpdcbeaaGreatDoorQBB
set_option linter.unusedVariables false
set_option linter.unusedSimpArgs false
set_option maxHeartbeats 8000000
set_option maxRecDepth 100000
namespace Go.Proofs.YtkphbhncpdcbeaaGreatDoor.J
open YtkphbhncpdcbeaaGreatDoorW Go.RowKit YtkphbhncpdcbeaaGreatDoorW.PrintWords YtkphbhncpdcbeaaGreatDoorW.PrintLast YtkphbhncpdcbeaaGreatDoorW.PrintMore PJT
attribute [local go_sem] mk_req mk_dep mk_false mk_schema
theorem leaf_false (w:World) (ge gk:Nat) (loc:ByteArray) (A0:Option Addr) (c0:Nat) (hge:w.heap[ge]? =some (row (vec loc A0 c0 (.iface 267 (.pointer (some ⟨gk,0,none⟩))) nilS) 129)):
  Calls Tryz.prog 30 #[.pointer (some ⟨ge,0,none⟩)] w fun e w'=>Leafed loc ⟨#[70,97,108,115,101,83,99,104,101,109,97]⟩ eS [] [] w e w':=by
 have HK:=st0_ w
 have bge:=cel_ (blk_below hge HK.out.b)
 go_enter Tryz.func30,Tryz.ntmps30
 go_wp2_with (first|((with_reducible refine gd_ 2 ?_);refine bx_ #[eS,eS,nilS,nilS,eS,nilS,nilS,nilS] 54 ?_;clear HK bge;intro g2 wb2 HK Gg2;replace Bc:=ce1_ HK 0;have bge:=cel_ (blk_below hge HK.out.b)))
 refine st_ 12 (fun w'=>At w [.b g2 (row (#[eS,eS,nilS,nilS,eS,nilS,nilS,nilS]) 54)] w'∧(∀ j,w'.cell? ⟨g2,j,none⟩=(#[eS,eS,nilS,nilS,eS,nilS,nilS,nilS]:Array Value)[j]?)∧(∀ j,w'.cell? ⟨ge,j,none⟩=(vec loc A0 c0 (.iface 267 (.pointer (some ⟨gk,0,none⟩))) nilS:Array Value)[j]?)) [11] (fun A=>⟨A,(cA_ A 0),(cel_ (blk_below hge A.b))⟩) (fun hHeld=> ?_)
 refine pu_ 0 6 1 ?_
 refine pu_ 1 7 3 ?_
 refine pu_ 2 8 7 ?_
 refine pu_ 4 10 23 ?_
 refine pu_ 5 11 55 ?_
 refine pu_ 6 12 119 ?_
 refine ta3_ 3 9 127 hHeld ?_
 refine ta3_ 7 13 255 hHeld ?_
 refine jo_ (σ:=Option Addr×Nat×Nat) 1 2047 (fun s=>[(14,.slice s.1 0 s.2.1),(15,.agg #[.string loc,eS,nilS,.slice s.1 0 s.2.1,eS,nilS,nilS,nilS]),(3,.pointer (some ⟨s.2.2,0,none⟩))]) (fun s w'=>At w (.b s.2.2 (row (#[eS,eS,nilS,nilS,eS,nilS,nilS,nilS]) 54)::[.b g2 (row (#[eS,eS,nilS,nilS,eS,nilS,nilS,nilS]) 54)]) w'∧w.heap.size≤s.2.2) (fun hCont=> ?_) ?_
 refine tw_ 8 10 14 3 511 1279 (fun K hK=> ?_) (fun K hK=> ?_)
 ·skip
  have HE:=asd_ hHeld.1
  refine ge_ Tryz.func55 #[.slice A0 0 c0] ?_
  with_reducible refine (copied_nil _ A0 c0).mono ?_
  rintro e w3 ⟨v,rfl,⟨Aa,ca,rfl,hFa⟩,hb⟩
  refine ⟨_,rfl,?_⟩
  replace HE:=asd_ (At.step HE.out hb)
  refine hK.out _ _ ⟨HE.out,(cE_ HE 0),(cel_ (blk_below hge HE.out.b))⟩ (fun hHeld=> ?_)
  clear hK K
  refine nq_ 14 ?_
  refine pu_ 9 15 1023 ?_
  refine on_ 10 3 2047 (fun K hK=> ?_)
  refine ne_ 3 (row (#[eS,eS,nilS,nilS,eS,nilS,nilS,nilS]) 54) (fun b=> .pointer (some ⟨b,0,none⟩)) ?_
  intro g3 w3 HE0 hg3
  replace HE:=asd_ HE0;clear HE0
  refine hK.out _ _ ⟨HE.out.drop,(cel_ HE.out.drop.k.1),(cel_ (blk_below hge HE.out.drop.b))⟩ (fun hHeld=> ?_)
  clear hK K
  refine nq_ 3 ?_
  exact nx_ (hCont (Aa,ca,g3) _ ⟨HE.out,hg3⟩)
 ·skip
  have HE:=asd_ hHeld.1
  refine ne_ 3 (row (#[eS,eS,nilS,nilS,eS,nilS,nilS,nilS]) 54) (fun b=> .pointer (some ⟨b,0,none⟩)) ?_
  intro g3 w3 HE0 hg3
  replace HE:=asd_ HE0;clear HE0
  refine hK.out _ _ ⟨HE.out.drop,(cel_ HE.out.drop.k.1),(cel_ (blk_below hge HE.out.drop.b))⟩ (fun hHeld=> ?_)
  clear hK K
  refine nq_ 3 ?_
  refine on_ 8 14 1535 (fun K hK=> ?_)
  refine ge_ Tryz.func55 #[.slice A0 0 c0] ?_
  with_reducible refine (copied_nil _ A0 c0).mono ?_
  rintro e w3 ⟨v,rfl,⟨Aa,ca,rfl,hFa⟩,hb⟩
  refine ⟨_,rfl,?_⟩
  replace HE:=asd_ (At.step HE.out hb)
  have hFa':=hFa
  refine hK.out _ _ ⟨HE.out.drop,(cel_ HE.out.drop.k.1),(cel_ (blk_below hge HE.out.drop.b))⟩ (fun hHeld=> ?_)
  clear hK K
  refine nq_ 14 ?_
  refine pu_ 9 15 2047 ?_
  exact nx_ (hCont (Aa,ca,g3) _ ⟨HE.out,hg3⟩)
 rintro ⟨Aa,ca,g3⟩ w' ⟨HE0,hg3⟩
 have HE:=asd_ HE0
 clear HE0
 have Gg3:=asd_ hg3
 clear hg3
 have hHeld:=(show At w [.b g2 (row (#[eS,eS,nilS,nilS,eS,nilS,nilS,nilS]) 54)] w'∧(∀ j,w'.cell? ⟨g2,j,none⟩=(#[eS,eS,nilS,nilS,eS,nilS,nilS,nilS]:Array Value)[j]?)∧(∀ j,w'.cell? ⟨ge,j,none⟩=(vec loc A0 c0 (.iface 267 (.pointer (some ⟨gk,0,none⟩))) nilS:Array Value)[j]?) from ⟨HE.out.drop,(cel_ HE.out.drop.k.1),(cel_ (blk_below hge HE.out.drop.b))⟩)
 refine np_ ?_
 refine lz_ 11 4095 (fun K hK=> ?_)
 refine storerow_ (cs:=#[eS,eS,nilS,nilS,eS,nilS,nilS,nilS]) (g:=g3) 0 (#[.string loc,eS,nilS,.slice Aa 0 ca,eS,nilS,nilS,nilS]) HE.out rfl Gg3.out rfl (by rfl) rfl rfl rfl rfl kr_ rfl (by simp [Value.oneCell']) ?_
 intro w3 HE0
 replace HE:=asd_ HE0;clear HE0
 refine hK.out _ _ ?_
 clear hK K
 refine done_ kr_ ?_
 clear HK;have HK:=HE;clear HE
 clear hHeld
 clear bge
 replace Bc:=ce2_ HK 1 0
 replace Bf:=fe1_ HK 0
 have bge:=cel_ (blk_below hge HK.out.b)
 go_wp2_with (first|(go_at_call 254;refine (path_false _ gk).mono ?_;rintro e wp ⟨Ap,cp,rfl,hcp,hP,hb⟩;have HK1:=At.step at_ hb;have HP:=asd_ (And.intro hcp hP);clear hcp hP hb;replace HK:=asd_ HK1;clear HK1;clear bge;replace Bc:=ce2_ HK 1 0;replace Bf:=fe1_ HK 0;have bge:=cel_ (blk_below hge HK.out.b))|((with_reducible refine gd_ 26 ?_);refine cw_ #[.slice Ap 0 cp] Tryz.func55 (copied_ok (names:=[]) (Kd.C_below HP.out.2 (by repeat (first|exact HK.out.b|exact Below.refl _ _|apply below_alloc|apply pw_below_drewN|apply below_drew1))) HP.out.1 (by simp)) ?_;rintro v26 wc26 HK0 ⟨Aq,cq,rfl,hF⟩ hB;have HK1:=At.fact (Fact.strs (.slice Aq 0 cq) []) HK0 hF;clear HK0 hF hB;replace HK:=asd_ HK1;clear HK1;clear bge;replace Bc:=ce2_ HK 2 1;replace Bf:=fe1_ HK 1;have bge:=cel_ (blk_below hge HK.out.b))|((first|((with_reducible refine gate_ (.store 22 (.tmp 27) (.tmp 26)) rfl ?_);refine store_at (t:=22) (p:=27) (g:=g3) (i:=2) (v:= .slice Aq 0 cq) 1 (#[.string loc,eS,.slice Aq 0 cq,.slice Aa 0 ca,eS,nilS,nilS,nilS]) rfl at_ rfl Gg3.out rfl rfl rfl rfl gs_ ?_)|((with_reducible refine gd_ 33 ?_);refine cl_ #[.iface 267 (.pointer (some ⟨gk,0,none⟩))] (.tuple #[.string ⟨#[70,97,108,115,101,83,99,104,101,109,97]⟩,eS,nilS,nilS]) Tryz.func56 (kind_false _ gk) ?_)|((with_reducible refine gate_ (.store 9 (.tmp 38) (.tmp 34)) rfl ?_);refine store_at (t:=9) (p:=38) (g:=g3) (i:=1) (v:= .string ⟨#[70,97,108,115,101,83,99,104,101,109,97]⟩) 1 (#[.string loc,.string ⟨#[70,97,108,115,101,83,99,104,101,109,97]⟩,.slice Aq 0 cq,.slice Aa 0 ca,eS,nilS,nilS,nilS]) rfl at_ rfl Gg3.out rfl rfl rfl rfl gs_ ?_)|((with_reducible refine gate_ (.store 9 (.tmp 39) (.tmp 35)) rfl ?_);refine store_at (t:=9) (p:=39) (g:=g3) (i:=4) (v:=eS) 1 (#[.string loc,.string ⟨#[70,97,108,115,101,83,99,104,101,109,97]⟩,.slice Aq 0 cq,.slice Aa 0 ca,eS,nilS,nilS,nilS]) rfl at_ rfl Gg3.out rfl rfl rfl rfl gs_ ?_)|((with_reducible refine gate_ (.store 22 (.tmp 40) (.tmp 36)) rfl ?_);refine store_at (t:=22) (p:=40) (g:=g3) (i:=5) (v:=nilS) 1 (#[.string loc,.string ⟨#[70,97,108,115,101,83,99,104,101,109,97]⟩,.slice Aq 0 cq,.slice Aa 0 ca,eS,nilS,nilS,nilS]) rfl at_ rfl Gg3.out rfl rfl rfl rfl gs_ ?_)|((with_reducible refine gate_ (.store 33 (.tmp 41) (.tmp 37)) rfl ?_);refine store_at (t:=33) (p:=41) (g:=g3) (i:=6) (v:=nilS) 1 (#[.string loc,.string ⟨#[70,97,108,115,101,83,99,104,101,109,97]⟩,.slice Aq 0 cq,.slice Aa 0 ca,eS,nilS,nilS,nilS]) rfl at_ rfl Gg3.out rfl rfl rfl rfl gs_ ?_));intro ws1 HK1;replace HK:=asd_ HK1;clear HK1;clear bge;replace Bc:=ce2_ HK 2 1;replace Bf:=fe1_ HK 1;have bge:=cel_ (blk_below hge HK.out.b)))
 refine wp_loop_once ?_
 go_wp2_with (first|((with_reducible refine gd_ 62 ?_);refine lo_ 54 3 g3 (#[.string loc,.string ⟨#[70,97,108,115,101,83,99,104,101,109,97]⟩,.slice Aq 0 cq,.slice Aa 0 ca,eS,nilS,nilS,nilS]) HK.out.k.2.1 Tryz.underlying54 ?_)|((first|((with_reducible refine gd_ 61 ?_);refine cl_ #[nilS,.func (.func 58) #[] #[]] (.tuple #[]) Tryz.func57 (sort_0 _ none 0 _) ?_)|((with_reducible refine gate_ (.store 54 (.tmp 2) (.tmp 62)) rfl ?_);refine storerow_at (cs:=#[eS,eS,nilS,nilS,eS,nilS,nilS,nilS]) (g:=g2) 2 (#[.string loc,.string ⟨#[70,97,108,115,101,83,99,104,101,109,97]⟩,.slice Aq 0 cq,.slice Aa 0 ca,eS,nilS,nilS,nilS]) at_ rfl Gg2.out rfl rfl rfl rfl rfl rfl kr_ rfl (by simp [Value.oneCell']) ?_));intro wc61 HK1;replace HK:=asd_ HK1;clear HK1;clear bge;replace Bc:=ce2_ HK 2 1;replace Bf:=fe1_ HK 1;have bge:=cel_ (blk_below hge HK.out.b)))
 ((try simp only [Exit.inBlock,Exit.then]);refine bodyPost_ret (results_cell_row rfl _ _ g2 54 (#[.string loc,.string ⟨#[70,97,108,115,101,83,99,104,101,109,97]⟩,.slice Aq 0 cq,.slice Aa 0 ca,eS,nilS,nilS,nilS]) (0,0) _ rfl (HK.out.k.2.2.1) Tryz.underlying54 rfl kr_) rfl ?_)
 exact ⟨Aq,cq,Aa,ca,none,0,rfl,HK.out.k.1,Kd.R_nil _ _ _ _ _,HK.out.b⟩
end Go.Proofs.YtkphbhncpdcbeaaGreatDoor.J
