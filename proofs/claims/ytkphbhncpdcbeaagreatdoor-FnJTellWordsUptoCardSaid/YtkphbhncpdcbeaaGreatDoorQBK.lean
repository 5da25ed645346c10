/- Part. -/
import Derived.Test.YtkphbhncpdcbeaaGreatDoorQBJ
set_option linter.unusedVariables false
set_option linter.unusedSimpArgs false
set_option maxHeartbeats 8000000
set_option maxRecDepth 100000
namespace Go.Proofs.YtkphbhncpdcbeaaGreatDoor.J
open YtkphbhncpdcbeaaGreatDoorW Go.RowKit YtkphbhncpdcbeaaGreatDoorW.PrintWords YtkphbhncpdcbeaaGreatDoorW.PrintLast YtkphbhncpdcbeaaGreatDoorW.PrintMore PJT
theorem mk_enum (v:Value) (W:World):(method 513 286 v "KeywordPath").run Tryz.prog W= .ok (258,v) W:=by kernel_rfl
theorem mk_const (v:Value) (W:World):(method 513 281 v "KeywordPath").run Tryz.prog W= .ok (257,v) W:=by kernel_rfl
theorem mk_format (v:Value) (W:World):(method 513 289 v "KeywordPath").run Tryz.prog W= .ok (259,v) W:=by kernel_rfl
theorem mk_pattern (v:Value) (W:World):(method 513 315 v "KeywordPath").run Tryz.prog W= .ok (270,v) W:=by kernel_rfl
attribute [local go_sem] mk_enum mk_const mk_format mk_pattern
theorem leaf_enum (w:World) (ge gk:Nat) (loc:ByteArray) (A0:Option Addr) (c0:Nat) (hge:w.heap[ge]? =some (row (vec loc A0 c0 (.iface 286 (.pointer (some ⟨gk,0,none⟩))) nilS) 129)):
  Calls Tryz.prog 30 #[.pointer (some ⟨ge,0,none⟩)] w fun e w'=>Leafed loc ⟨#[69,110,117,109]⟩ eS [⟨#[101,110,117,109]⟩] [] w e w':=by
 have HK:=st0_ w
 have bge:=cel_ (blk_below hge HK.out.b)
 go_enter Tryz.func30,Tryz.ntmps30
 go_wp2_with (first|((with_reducible refine gd_ 2 ?_);refine bx_ #[eS,eS,nilS,nilS,eS,nilS,nilS,nilS] 54 ?_;clear HK bge;intro g2 wb2 HK Gg2;replace Bc:=ce1_ HK 0;have bge:=cel_ (blk_below hge HK.out.b)))
 refine st_ 12 (fun w'=>At w [.b g2 (row (#[eS,eS,nilS,nilS,eS,nilS,nilS,nilS]) 54)] w'∧(∀ j,w'.cell? ⟨g2,j,none⟩=(#[eS,eS,nilS,nilS,eS,nilS,nilS,nilS]:Array Value)[j]?)∧(∀ j,w'.cell? ⟨ge,j,none⟩=(vec loc A0 c0 (.iface 286 (.pointer (some ⟨gk,0,none⟩))) nilS:Array Value)[j]?)) [11] (fun A=>⟨A,(cA_ A 0),(cel_ (blk_below hge A.b))⟩) (fun hHeld=> ?_)
 refine pu_ 0 6 1 ?_
 refine pu_ 1 7 3 ?_
 refine pu_ 2 8 7 ?_
 refine pu_ 4 10 23 ?_
 refine pu_ 5 11 55 ?_
 refine pu_ 6 12 119 ?_
 refine ta3_ 3 9 127 hHeld ?_
 refine ta3_ 7 13 255 hHeld ?_
 refine jo_ (σ:=Option Addr×Nat×Nat) 1 2047 (fun s=>[(14,.slice s.1 0 s.2.1),(15,.agg #[.string loc,eS,nilS,.slice s.1 0 s.2.1,eS,nilS,nilS,nilS]),(3,.pointer (some ⟨s.2.2,0,none⟩))]) (fun s w'=>At w (.b s.2.2 (row (#[eS,eS,nilS,nilS,eS,nilS,nilS,nilS]) 54)::[.b g2 (row (#[eS,eS,nilS,nilS,eS,nilS,nilS,nilS]) 54)]) w'∧w.heap.size≤s.2.2) (fun hCont=> ?_) ?_
 refine tw_ 8 10 14 3 511 1279 (fun K hK=> ?_) (fun K hK=> ?_)
 ·skip
  have HE:=asd_ hHeld.1
  refine ge_ Tryz.func55 #[.slice A0 0 c0] ?_
  with_reducible refine (copied_nil _ A0 c0).mono ?_
  rintro e w3 ⟨v,rfl,⟨Aa,ca,rfl,hFa⟩,hb⟩
  refine ⟨_,rfl,?_⟩
  replace HE:=asd_ (At.step HE.out hb)
  refine hK.out _ _ ⟨HE.out,(cE_ HE 0),(cel_ (blk_below hge HE.out.b))⟩ (fun hHeld=> ?_)
  clear hK K
  refine nq_ 14 ?_
  refine pu_ 9 15 1023 ?_
  refine on_ 10 3 2047 (fun K hK=> ?_)
  refine ne_ 3 (row (#[eS,eS,nilS,nilS,eS,nilS,nilS,nilS]) 54) (fun b=> .pointer (some ⟨b,0,none⟩)) ?_
  intro g3 w3 HE0 hg3
  replace HE:=asd_ HE0;clear HE0
  refine hK.out _ _ ⟨HE.out.drop,(cel_ HE.out.drop.k.1),(cel_ (blk_below hge HE.out.drop.b))⟩ (fun hHeld=> ?_)
  clear hK K
  refine nq_ 3 ?_
  exact nx_ (hCont (Aa,ca,g3) _ ⟨HE.out,hg3⟩)
 ·skip
  have HE:=asd_ hHeld.1
  refine ne_ 3 (row (#[eS,eS,nilS,nilS,eS,nilS,nilS,nilS]) 54) (fun b=> .pointer (some ⟨b,0,none⟩)) ?_
  intro g3 w3 HE0 hg3
  replace HE:=asd_ HE0;clear HE0
  refine hK.out _ _ ⟨HE.out.drop,(cel_ HE.out.drop.k.1),(cel_ (blk_below hge HE.out.drop.b))⟩ (fun hHeld=> ?_)
  clear hK K
  refine nq_ 3 ?_
  refine on_ 8 14 1535 (fun K hK=> ?_)
  refine ge_ Tryz.func55 #[.slice A0 0 c0] ?_
  with_reducible refine (copied_nil _ A0 c0).mono ?_
  rintro e w3 ⟨v,rfl,⟨Aa,ca,rfl,hFa⟩,hb⟩
  refine ⟨_,rfl,?_⟩
  replace HE:=asd_ (At.step HE.out hb)
  have hFa':=hFa
  refine hK.out _ _ ⟨HE.out.drop,(cel_ HE.out.drop.k.1),(cel_ (blk_below hge HE.out.drop.b))⟩ (fun hHeld=> ?_)
  clear hK K
  refine nq_ 14 ?_
  refine pu_ 9 15 2047 ?_
  exact nx_ (hCont (Aa,ca,g3) _ ⟨HE.out,hg3⟩)
 rintro ⟨Aa,ca,g3⟩ w' ⟨HE0,hg3⟩
 have HE:=asd_ HE0
 clear HE0
 have Gg3:=asd_ hg3
 clear hg3
 have hHeld:=(show At w [.b g2 (row (#[eS,eS,nilS,nilS,eS,nilS,nilS,nilS]) 54)] w'∧(∀ j,w'.cell? ⟨g2,j,none⟩=(#[eS,eS,nilS,nilS,eS,nilS,nilS,nilS]:Array Value)[j]?)∧(∀ j,w'.cell? ⟨ge,j,none⟩=(vec loc A0 c0 (.iface 286 (.pointer (some ⟨gk,0,none⟩))) nilS:Array Value)[j]?) from ⟨HE.out.drop,(cel_ HE.out.drop.k.1),(cel_ (blk_below hge HE.out.drop.b))⟩)
 refine np_ ?_
 refine lz_ 11 4095 (fun K hK=> ?_)
 refine storerow_ (cs:=#[eS,eS,nilS,nilS,eS,nilS,nilS,nilS]) (g:=g3) 0 (#[.string loc,eS,nilS,.slice Aa 0 ca,eS,nilS,nilS,nilS]) HE.out rfl Gg3.out rfl (by rfl) rfl rfl rfl rfl kr_ rfl (by simp [Value.oneCell']) ?_
 intro w3 HE0
 replace HE:=asd_ HE0;clear HE0
 refine hK.out _ _ ?_
 clear hK K
 refine done_ kr_ ?_
 clear HK;have HK:=HE;clear HE
 clear hHeld
 clear bge
 replace Bc:=ce2_ HK 1 0
 replace Bf:=fe1_ HK 0
 have bge:=cel_ (blk_below hge HK.out.b)
 go_wp2_with (first|(go_at_call 258;refine (path_enum _ gk).mono ?_;rintro e wp ⟨Ap,cp,rfl,hcp,hP,hb⟩;have HK1:=At.step at_ hb;have HP:=asd_ (And.intro hcp hP);clear hcp hP hb;replace HK:=asd_ HK1;clear HK1;clear bge;replace Bc:=ce2_ HK 1 0;replace Bf:=fe1_ HK 0;have bge:=cel_ (blk_below hge HK.out.b))|((with_reducible refine gd_ 26 ?_);refine cw_ #[.slice Ap 1 cp] Tryz.func55 (copied_ok (names:=[⟨#[101,110,117,109]⟩]) (Kd.C_below HP.out.2 (by repeat (first|exact HK.out.b|exact Below.refl _ _|apply below_alloc|apply pw_below_drewN|apply below_drew1))) HP.out.1 (by simp)) ?_;rintro v26 wc26 HK0 ⟨Aq,cq,rfl,hF⟩ hB;have HK1:=At.fact (Fact.strs (.slice Aq 1 cq) [⟨#[101,110,117,109]⟩]) HK0 hF;clear HK0 hF hB;replace HK:=asd_ HK1;clear HK1;clear bge;replace Bc:=ce2_ HK 2 1;replace Bf:=fe1_ HK 1;have bge:=cel_ (blk_below hge HK.out.b))|((first|((with_reducible refine gate_ (.store 22 (.tmp 27) (.tmp 26)) rfl ?_);refine store_at (t:=22) (p:=27) (g:=g3) (i:=2) (v:= .slice Aq 1 cq) 1 (#[.string loc,eS,.slice Aq 1 cq,.slice Aa 0 ca,eS,nilS,nilS,nilS]) rfl at_ rfl Gg3.out rfl rfl rfl rfl gs_ ?_)|((with_reducible refine gd_ 33 ?_);refine cl_ #[.iface 286 (.pointer (some ⟨gk,0,none⟩))] (.tuple #[.string ⟨#[69,110,117,109]⟩,eS,nilS,nilS]) Tryz.func56 (kind_enum _ gk) ?_)|((with_reducible refine gate_ (.store 9 (.tmp 38) (.tmp 34)) rfl ?_);refine store_at (t:=9) (p:=38) (g:=g3) (i:=1) (v:= .string ⟨#[69,110,117,109]⟩) 1 (#[.string loc,.string ⟨#[69,110,117,109]⟩,.slice Aq 1 cq,.slice Aa 0 ca,eS,nilS,nilS,nilS]) rfl at_ rfl Gg3.out rfl rfl rfl rfl gs_ ?_)|((with_reducible refine gate_ (.store 9 (.tmp 39) (.tmp 35)) rfl ?_);refine store_at (t:=9) (p:=39) (g:=g3) (i:=4) (v:=eS) 1 (#[.string loc,.string ⟨#[69,110,117,109]⟩,.slice Aq 1 cq,.slice Aa 0 ca,eS,nilS,nilS,nilS]) rfl at_ rfl Gg3.out rfl rfl rfl rfl gs_ ?_)|((with_reducible refine gate_ (.store 22 (.tmp 40) (.tmp 36)) rfl ?_);refine store_at (t:=22) (p:=40) (g:=g3) (i:=5) (v:=nilS) 1 (#[.string loc,.string ⟨#[69,110,117,109]⟩,.slice Aq 1 cq,.slice Aa 0 ca,eS,nilS,nilS,nilS]) rfl at_ rfl Gg3.out rfl rfl rfl rfl gs_ ?_)|((with_reducible refine gate_ (.store 33 (.tmp 41) (.tmp 37)) rfl ?_);refine store_at (t:=33) (p:=41) (g:=g3) (i:=6) (v:=nilS) 1 (#[.string loc,.string ⟨#[69,110,117,109]⟩,.slice Aq 1 cq,.slice Aa 0 ca,eS,nilS,nilS,nilS]) rfl at_ rfl Gg3.out rfl rfl rfl rfl gs_ ?_));intro ws1 HK1;replace HK:=asd_ HK1;clear HK1;clear bge;replace Bc:=ce2_ HK 2 1;replace Bf:=fe1_ HK 1;have bge:=cel_ (blk_below hge HK.out.b)))
 refine wp_loop_once ?_
 go_wp2_with (first|((with_reducible refine gd_ 62 ?_);refine lo_ 54 3 g3 (#[.string loc,.string ⟨#[69,110,117,109]⟩,.slice Aq 1 cq,.slice Aa 0 ca,eS,nilS,nilS,nilS]) HK.out.k.2.1 Tryz.underlying54 ?_)|((first|((with_reducible refine gd_ 61 ?_);refine cl_ #[nilS,.func (.func 58) #[] #[]] (.tuple #[]) Tryz.func57 (sort_0 _ none 0 _) ?_)|((with_reducible refine gate_ (.store 54 (.tmp 2) (.tmp 62)) rfl ?_);refine storerow_at (cs:=#[eS,eS,nilS,nilS,eS,nilS,nilS,nilS]) (g:=g2) 2 (#[.string loc,.string ⟨#[69,110,117,109]⟩,.slice Aq 1 cq,.slice Aa 0 ca,eS,nilS,nilS,nilS]) at_ rfl Gg2.out rfl rfl rfl rfl rfl rfl kr_ rfl (by simp [Value.oneCell']) ?_));intro wc61 HK1;replace HK:=asd_ HK1;clear HK1;clear bge;replace Bc:=ce2_ HK 2 1;replace Bf:=fe1_ HK 1;have bge:=cel_ (blk_below hge HK.out.b)))
 ((try simp only [Exit.inBlock,Exit.then]);refine bodyPost_ret (results_cell_row rfl _ _ g2 54 (#[.string loc,.string ⟨#[69,110,117,109]⟩,.slice Aq 1 cq,.slice Aa 0 ca,eS,nilS,nilS,nilS]) (0,0) _ rfl (HK.out.k.2.2.1) Tryz.underlying54 rfl kr_) rfl ?_)
 exact ⟨Aq,cq,Aa,ca,none,0,rfl,HK.out.k.1,Kd.R_nil _ _ _ _ _,HK.out.b⟩
theorem leaf_const (w:World) (ge gk:Nat) (loc:ByteArray) (A0:Option Addr) (c0:Nat) (hge:w.heap[ge]? =some (row (vec loc A0 c0 (.iface 281 (.pointer (some ⟨gk,0,none⟩))) nilS) 129)):
  Calls Tryz.prog 30 #[.pointer (some ⟨ge,0,none⟩)] w fun e w'=>Leafed loc ⟨#[67,111,110,115,116]⟩ eS [⟨#[99,111,110,115,116]⟩] [] w e w':=by
 have HK:=st0_ w
 have bge:=cel_ (blk_below hge HK.out.b)
 go_enter Tryz.func30,Tryz.ntmps30
 go_wp2_with (first|((with_reducible refine gd_ 2 ?_);refine bx_ #[eS,eS,nilS,nilS,eS,nilS,nilS,nilS] 54 ?_;clear HK bge;intro g2 wb2 HK Gg2;replace Bc:=ce1_ HK 0;have bge:=cel_ (blk_below hge HK.out.b)))
 refine st_ 12 (fun w'=>At w [.b g2 (row (#[eS,eS,nilS,nilS,eS,nilS,nilS,nilS]) 54)] w'∧(∀ j,w'.cell? ⟨g2,j,none⟩=(#[eS,eS,nilS,nilS,eS,nilS,nilS,nilS]:Array Value)[j]?)∧(∀ j,w'.cell? ⟨ge,j,none⟩=(vec loc A0 c0 (.iface 281 (.pointer (some ⟨gk,0,none⟩))) nilS:Array Value)[j]?)) [11] (fun A=>⟨A,(cA_ A 0),(cel_ (blk_below hge A.b))⟩) (fun hHeld=> ?_)
 refine pu_ 0 6 1 ?_
 refine pu_ 1 7 3 ?_
 refine pu_ 2 8 7 ?_
 refine pu_ 4 10 23 ?_
 refine pu_ 5 11 55 ?_
 refine pu_ 6 12 119 ?_
 refine ta3_ 3 9 127 hHeld ?_
 refine ta3_ 7 13 255 hHeld ?_
 refine jo_ (σ:=Option Addr×Nat×Nat) 1 2047 (fun s=>[(14,.slice s.1 0 s.2.1),(15,.agg #[.string loc,eS,nilS,.slice s.1 0 s.2.1,eS,nilS,nilS,nilS]),(3,.pointer (some ⟨s.2.2,0,none⟩))]) (fun s w'=>At w (.b s.2.2 (row (#[eS,eS,nilS,nilS,eS,nilS,nilS,nilS]) 54)::[.b g2 (row (#[eS,eS,nilS,nilS,eS,nilS,nilS,nilS]) 54)]) w'∧w.heap.size≤s.2.2) (fun hCont=> ?_) ?_
 refine tw_ 8 10 14 3 511 1279 (fun K hK=> ?_) (fun K hK=> ?_)
 ·skip
  have HE:=asd_ hHeld.1
  refine ge_ Tryz.func55 #[.slice A0 0 c0] ?_
  with_reducible refine (copied_nil _ A0 c0).mono ?_
  rintro e w3 ⟨v,rfl,⟨Aa,ca,rfl,hFa⟩,hb⟩
  refine ⟨_,rfl,?_⟩
  replace HE:=asd_ (At.step HE.out hb)
  refine hK.out _ _ ⟨HE.out,(cE_ HE 0),(cel_ (blk_below hge HE.out.b))⟩ (fun hHeld=> ?_)
  clear hK K
  refine nq_ 14 ?_
  refine pu_ 9 15 1023 ?_
  refine on_ 10 3 2047 (fun K hK=> ?_)
  refine ne_ 3 (row (#[eS,eS,nilS,nilS,eS,nilS,nilS,nilS]) 54) (fun b=> .pointer (some ⟨b,0,none⟩)) ?_
  intro g3 w3 HE0 hg3
  replace HE:=asd_ HE0;clear HE0
  refine hK.out _ _ ⟨HE.out.drop,(cel_ HE.out.drop.k.1),(cel_ (blk_below hge HE.out.drop.b))⟩ (fun hHeld=> ?_)
  clear hK K
  refine nq_ 3 ?_
  exact nx_ (hCont (Aa,ca,g3) _ ⟨HE.out,hg3⟩)
 ·skip
  have HE:=asd_ hHeld.1
  refine ne_ 3 (row (#[eS,eS,nilS,nilS,eS,nilS,nilS,nilS]) 54) (fun b=> .pointer (some ⟨b,0,none⟩)) ?_
  intro g3 w3 HE0 hg3
  replace HE:=asd_ HE0;clear HE0
  refine hK.out _ _ ⟨HE.out.drop,(cel_ HE.out.drop.k.1),(cel_ (blk_below hge HE.out.drop.b))⟩ (fun hHeld=> ?_)
  clear hK K
  refine nq_ 3 ?_
  refine on_ 8 14 1535 (fun K hK=> ?_)
  refine ge_ Tryz.func55 #[.slice A0 0 c0] ?_
  with_reducible refine (copied_nil _ A0 c0).mono ?_
  rintro e w3 ⟨v,rfl,⟨Aa,ca,rfl,hFa⟩,hb⟩
  refine ⟨_,rfl,?_⟩
  replace HE:=asd_ (At.step HE.out hb)
  have hFa':=hFa
  refine hK.out _ _ ⟨HE.out.drop,(cel_ HE.out.drop.k.1),(cel_ (blk_below hge HE.out.drop.b))⟩ (fun hHeld=> ?_)
  clear hK K
  refine nq_ 14 ?_
  refine pu_ 9 15 2047 ?_
  exact nx_ (hCont (Aa,ca,g3) _ ⟨HE.out,hg3⟩)
 rintro ⟨Aa,ca,g3⟩ w' ⟨HE0,hg3⟩
 have HE:=asd_ HE0
 clear HE0
 have Gg3:=asd_ hg3
 clear hg3
 have hHeld:=(show At w [.b g2 (row (#[eS,eS,nilS,nilS,eS,nilS,nilS,nilS]) 54)] w'∧(∀ j,w'.cell? ⟨g2,j,none⟩=(#[eS,eS,nilS,nilS,eS,nilS,nilS,nilS]:Array Value)[j]?)∧(∀ j,w'.cell? ⟨ge,j,none⟩=(vec loc A0 c0 (.iface 281 (.pointer (some ⟨gk,0,none⟩))) nilS:Array Value)[j]?) from ⟨HE.out.drop,(cel_ HE.out.drop.k.1),(cel_ (blk_below hge HE.out.drop.b))⟩)
 refine np_ ?_
 refine lz_ 11 4095 (fun K hK=> ?_)
 refine storerow_ (cs:=#[eS,eS,nilS,nilS,eS,nilS,nilS,nilS]) (g:=g3) 0 (#[.string loc,eS,nilS,.slice Aa 0 ca,eS,nilS,nilS,nilS]) HE.out rfl Gg3.out rfl (by rfl) rfl rfl rfl rfl kr_ rfl (by simp [Value.oneCell']) ?_
 intro w3 HE0
 replace HE:=asd_ HE0;clear HE0
 refine hK.out _ _ ?_
 clear hK K
 refine done_ kr_ ?_
 clear HK;have HK:=HE;clear HE
 clear hHeld
 clear bge
 replace Bc:=ce2_ HK 1 0
 replace Bf:=fe1_ HK 0
 have bge:=cel_ (blk_below hge HK.out.b)
 go_wp2_with (first|(go_at_call 257;refine (path_const _ gk).mono ?_;rintro e wp ⟨Ap,cp,rfl,hcp,hP,hb⟩;have HK1:=At.step at_ hb;have HP:=asd_ (And.intro hcp hP);clear hcp hP hb;replace HK:=asd_ HK1;clear HK1;clear bge;replace Bc:=ce2_ HK 1 0;replace Bf:=fe1_ HK 0;have bge:=cel_ (blk_below hge HK.out.b))|((with_reducible refine gd_ 26 ?_);refine cw_ #[.slice Ap 1 cp] Tryz.func55 (copied_ok (names:=[⟨#[99,111,110,115,116]⟩]) (Kd.C_below HP.out.2 (by repeat (first|exact HK.out.b|exact Below.refl _ _|apply below_alloc|apply pw_below_drewN|apply below_drew1))) HP.out.1 (by simp)) ?_;rintro v26 wc26 HK0 ⟨Aq,cq,rfl,hF⟩ hB;have HK1:=At.fact (Fact.strs (.slice Aq 1 cq) [⟨#[99,111,110,115,116]⟩]) HK0 hF;clear HK0 hF hB;replace HK:=asd_ HK1;clear HK1;clear bge;replace Bc:=ce2_ HK 2 1;replace Bf:=fe1_ HK 1;have bge:=cel_ (blk_below hge HK.out.b))|((first|((with_reducible refine gate_ (.store 22 (.tmp 27) (.tmp 26)) rfl ?_);refine store_at (t:=22) (p:=27) (g:=g3) (i:=2) (v:= .slice Aq 1 cq) 1 (#[.string loc,eS,.slice Aq 1 cq,.slice Aa 0 ca,eS,nilS,nilS,nilS]) rfl at_ rfl Gg3.out rfl rfl rfl rfl gs_ ?_)|((with_reducible refine gd_ 33 ?_);refine cl_ #[.iface 281 (.pointer (some ⟨gk,0,none⟩))] (.tuple #[.string ⟨#[67,111,110,115,116]⟩,eS,nilS,nilS]) Tryz.func56 (kind_const _ gk) ?_)|((with_reducible refine gate_ (.store 9 (.tmp 38) (.tmp 34)) rfl ?_);refine store_at (t:=9) (p:=38) (g:=g3) (i:=1) (v:= .string ⟨#[67,111,110,115,116]⟩) 1 (#[.string loc,.string ⟨#[67,111,110,115,116]⟩,.slice Aq 1 cq,.slice Aa 0 ca,eS,nilS,nilS,nilS]) rfl at_ rfl Gg3.out rfl rfl rfl rfl gs_ ?_)|((with_reducible refine gate_ (.store 9 (.tmp 39) (.tmp 35)) rfl ?_);refine store_at (t:=9) (p:=39) (g:=g3) (i:=4) (v:=eS) 1 (#[.string loc,.string ⟨#[67,111,110,115,116]⟩,.slice Aq 1 cq,.slice Aa 0 ca,eS,nilS,nilS,nilS]) rfl at_ rfl Gg3.out rfl rfl rfl rfl gs_ ?_)|((with_reducible refine gate_ (.store 22 (.tmp 40) (.tmp 36)) rfl ?_);refine store_at (t:=22) (p:=40) (g:=g3) (i:=5) (v:=nilS) 1 (#[.string loc,.string ⟨#[67,111,110,115,116]⟩,.slice Aq 1 cq,.slice Aa 0 ca,eS,nilS,nilS,nilS]) rfl at_ rfl Gg3.out rfl rfl rfl rfl gs_ ?_)|((with_reducible refine gate_ (.store 33 (.tmp 41) (.tmp 37)) rfl ?_);refine store_at (t:=33) (p:=41) (g:=g3) (i:=6) (v:=nilS) 1 (#[.string loc,.string ⟨#[67,111,110,115,116]⟩,.slice Aq 1 cq,.slice Aa 0 ca,eS,nilS,nilS,nilS]) rfl at_ rfl Gg3.out rfl rfl rfl rfl gs_ ?_));intro ws1 HK1;replace HK:=asd_ HK1;clear HK1;clear bge;replace Bc:=ce2_ HK 2 1;replace Bf:=fe1_ HK 1;have bge:=cel_ (blk_below hge HK.out.b)))
 refine wp_loop_once ?_
 go_wp2_with (first|((with_reducible refine gd_ 62 ?_);refine lo_ 54 3 g3 (#[.string loc,.string ⟨#[67,111,110,115,116]⟩,.slice Aq 1 cq,.slice Aa 0 ca,eS,nilS,nilS,nilS]) HK.out.k.2.1 Tryz.underlying54 ?_)|((first|((with_reducible refine gd_ 61 ?_);refine cl_ #[nilS,.func (.func 58) #[] #[]] (.tuple #[]) Tryz.func57 (sort_0 _ none 0 _) ?_)|((with_reducible refine gate_ (.store 54 (.tmp 2) (.tmp 62)) rfl ?_);refine storerow_at (cs:=#[eS,eS,nilS,nilS,eS,nilS,nilS,nilS]) (g:=g2) 2 (#[.string loc,.string ⟨#[67,111,110,115,116]⟩,.slice Aq 1 cq,.slice Aa 0 ca,eS,nilS,nilS,nilS]) at_ rfl Gg2.out rfl rfl rfl rfl rfl rfl kr_ rfl (by simp [Value.oneCell']) ?_));intro wc61 HK1;replace HK:=asd_ HK1;clear HK1;clear bge;replace Bc:=ce2_ HK 2 1;replace Bf:=fe1_ HK 1;have bge:=cel_ (blk_below hge HK.out.b)))
 ((try simp only [Exit.inBlock,Exit.then]);refine bodyPost_ret (results_cell_row rfl _ _ g2 54 (#[.string loc,.string ⟨#[67,111,110,115,116]⟩,.slice Aq 1 cq,.slice Aa 0 ca,eS,nilS,nilS,nilS]) (0,0) _ rfl (HK.out.k.2.2.1) Tryz.underlying54 rfl kr_) rfl ?_)
 exact ⟨Aq,cq,Aa,ca,none,0,rfl,HK.out.k.1,Kd.R_nil _ _ _ _ _,HK.out.b⟩
theorem leaf_format (w:World) (ge gk:Nat) (loc:ByteArray) (A0:Option Addr) (c0:Nat) (hge:w.heap[ge]? =some (row (vec loc A0 c0 (.iface 289 (.pointer (some ⟨gk,0,none⟩))) nilS) 129)):
  Calls Tryz.prog 30 #[.pointer (some ⟨ge,0,none⟩)] w fun e w'=>Leafed loc ⟨#[70,111,114,109,97,116]⟩ eS [⟨#[102,111,114,109,97,116]⟩] [] w e w':=by
 have HK:=st0_ w
 have bge:=cel_ (blk_below hge HK.out.b)
 go_enter Tryz.func30,Tryz.ntmps30
 go_wp2_with (first|((with_reducible refine gd_ 2 ?_);refine bx_ #[eS,eS,nilS,nilS,eS,nilS,nilS,nilS] 54 ?_;clear HK bge;intro g2 wb2 HK Gg2;replace Bc:=ce1_ HK 0;have bge:=cel_ (blk_below hge HK.out.b)))
 refine st_ 12 (fun w'=>At w [.b g2 (row (#[eS,eS,nilS,nilS,eS,nilS,nilS,nilS]) 54)] w'∧(∀ j,w'.cell? ⟨g2,j,none⟩=(#[eS,eS,nilS,nilS,eS,nilS,nilS,nilS]:Array Value)[j]?)∧(∀ j,w'.cell? ⟨ge,j,none⟩=(vec loc A0 c0 (.iface 289 (.pointer (some ⟨gk,0,none⟩))) nilS:Array Value)[j]?)) [11] (fun A=>⟨A,(cA_ A 0),(cel_ (blk_below hge A.b))⟩) (fun hHeld=> ?_)
 refine pu_ 0 6 1 ?_
 refine pu_ 1 7 3 ?_
 refine pu_ 2 8 7 ?_
 refine pu_ 4 10 23 ?_
 refine pu_ 5 11 55 ?_
 refine pu_ 6 12 119 ?_
 refine ta3_ 3 9 127 hHeld ?_
 refine ta3_ 7 13 255 hHeld ?_
 refine jo_ (σ:=Option Addr×Nat×Nat) 1 2047 (fun s=>[(14,.slice s.1 0 s.2.1),(15,.agg #[.string loc,eS,nilS,.slice s.1 0 s.2.1,eS,nilS,nilS,nilS]),(3,.pointer (some ⟨s.2.2,0,none⟩))]) (fun s w'=>At w (.b s.2.2 (row (#[eS,eS,nilS,nilS,eS,nilS,nilS,nilS]) 54)::[.b g2 (row (#[eS,eS,nilS,nilS,eS,nilS,nilS,nilS]) 54)]) w'∧w.heap.size≤s.2.2) (fun hCont=> ?_) ?_
 refine tw_ 8 10 14 3 511 1279 (fun K hK=> ?_) (fun K hK=> ?_)
 ·skip
  have HE:=asd_ hHeld.1
  refine ge_ Tryz.func55 #[.slice A0 0 c0] ?_
  with_reducible refine (copied_nil _ A0 c0).mono ?_
  rintro e w3 ⟨v,rfl,⟨Aa,ca,rfl,hFa⟩,hb⟩
  refine ⟨_,rfl,?_⟩
  replace HE:=asd_ (At.step HE.out hb)
  refine hK.out _ _ ⟨HE.out,(cE_ HE 0),(cel_ (blk_below hge HE.out.b))⟩ (fun hHeld=> ?_)
  clear hK K
  refine nq_ 14 ?_
  refine pu_ 9 15 1023 ?_
  refine on_ 10 3 2047 (fun K hK=> ?_)
  refine ne_ 3 (row (#[eS,eS,nilS,nilS,eS,nilS,nilS,nilS]) 54) (fun b=> .pointer (some ⟨b,0,none⟩)) ?_
  intro g3 w3 HE0 hg3
  replace HE:=asd_ HE0;clear HE0
  refine hK.out _ _ ⟨HE.out.drop,(cel_ HE.out.drop.k.1),(cel_ (blk_below hge HE.out.drop.b))⟩ (fun hHeld=> ?_)
  clear hK K
  refine nq_ 3 ?_
  exact nx_ (hCont (Aa,ca,g3) _ ⟨HE.out,hg3⟩)
 ·skip
  have HE:=asd_ hHeld.1
  refine ne_ 3 (row (#[eS,eS,nilS,nilS,eS,nilS,nilS,nilS]) 54) (fun b=> .pointer (some ⟨b,0,none⟩)) ?_
  intro g3 w3 HE0 hg3
  replace HE:=asd_ HE0;clear HE0
  refine hK.out _ _ ⟨HE.out.drop,(cel_ HE.out.drop.k.1),(cel_ (blk_below hge HE.out.drop.b))⟩ (fun hHeld=> ?_)
  clear hK K
  refine nq_ 3 ?_
  refine on_ 8 14 1535 (fun K hK=> ?_)
  refine ge_ Tryz.func55 #[.slice A0 0 c0] ?_
  with_reducible refine (copied_nil _ A0 c0).mono ?_
  rintro e w3 ⟨v,rfl,⟨Aa,ca,rfl,hFa⟩,hb⟩
  refine ⟨_,rfl,?_⟩
  replace HE:=asd_ (At.step HE.out hb)
  have hFa':=hFa
  refine hK.out _ _ ⟨HE.out.drop,(cel_ HE.out.drop.k.1),(cel_ (blk_below hge HE.out.drop.b))⟩ (fun hHeld=> ?_)
  clear hK K
  refine nq_ 14 ?_
  refine pu_ 9 15 2047 ?_
  exact nx_ (hCont (Aa,ca,g3) _ ⟨HE.out,hg3⟩)
 rintro ⟨Aa,ca,g3⟩ w' ⟨HE0,hg3⟩
 have HE:=asd_ HE0
 clear HE0
 have Gg3:=asd_ hg3
 clear hg3
 have hHeld:=(show At w [.b g2 (row (#[eS,eS,nilS,nilS,eS,nilS,nilS,nilS]) 54)] w'∧(∀ j,w'.cell? ⟨g2,j,none⟩=(#[eS,eS,nilS,nilS,eS,nilS,nilS,nilS]:Array Value)[j]?)∧(∀ j,w'.cell? ⟨ge,j,none⟩=(vec loc A0 c0 (.iface 289 (.pointer (some ⟨gk,0,none⟩))) nilS:Array Value)[j]?) from ⟨HE.out.drop,(cel_ HE.out.drop.k.1),(cel_ (blk_below hge HE.out.drop.b))⟩)
 refine np_ ?_
 refine lz_ 11 4095 (fun K hK=> ?_)
 refine storerow_ (cs:=#[eS,eS,nilS,nilS,eS,nilS,nilS,nilS]) (g:=g3) 0 (#[.string loc,eS,nilS,.slice Aa 0 ca,eS,nilS,nilS,nilS]) HE.out rfl Gg3.out rfl (by rfl) rfl rfl rfl rfl kr_ rfl (by simp [Value.oneCell']) ?_
 intro w3 HE0
 replace HE:=asd_ HE0;clear HE0
 refine hK.out _ _ ?_
 clear hK K
 refine done_ kr_ ?_
 clear HK;have HK:=HE;clear HE
 clear hHeld
 clear bge
 replace Bc:=ce2_ HK 1 0
 replace Bf:=fe1_ HK 0
 have bge:=cel_ (blk_below hge HK.out.b)
 go_wp2_with (first|(go_at_call 259;refine (path_format _ gk).mono ?_;rintro e wp ⟨Ap,cp,rfl,hcp,hP,hb⟩;have HK1:=At.step at_ hb;have HP:=asd_ (And.intro hcp hP);clear hcp hP hb;replace HK:=asd_ HK1;clear HK1;clear bge;replace Bc:=ce2_ HK 1 0;replace Bf:=fe1_ HK 0;have bge:=cel_ (blk_below hge HK.out.b))|((with_reducible refine gd_ 26 ?_);refine cw_ #[.slice Ap 1 cp] Tryz.func55 (copied_ok (names:=[⟨#[102,111,114,109,97,116]⟩]) (Kd.C_below HP.out.2 (by repeat (first|exact HK.out.b|exact Below.refl _ _|apply below_alloc|apply pw_below_drewN|apply below_drew1))) HP.out.1 (by simp)) ?_;rintro v26 wc26 HK0 ⟨Aq,cq,rfl,hF⟩ hB;have HK1:=At.fact (Fact.strs (.slice Aq 1 cq) [⟨#[102,111,114,109,97,116]⟩]) HK0 hF;clear HK0 hF hB;replace HK:=asd_ HK1;clear HK1;clear bge;replace Bc:=ce2_ HK 2 1;replace Bf:=fe1_ HK 1;have bge:=cel_ (blk_below hge HK.out.b))|((first|((with_reducible refine gate_ (.store 22 (.tmp 27) (.tmp 26)) rfl ?_);refine store_at (t:=22) (p:=27) (g:=g3) (i:=2) (v:= .slice Aq 1 cq) 1 (#[.string loc,eS,.slice Aq 1 cq,.slice Aa 0 ca,eS,nilS,nilS,nilS]) rfl at_ rfl Gg3.out rfl rfl rfl rfl gs_ ?_)|((with_reducible refine gd_ 33 ?_);refine cl_ #[.iface 289 (.pointer (some ⟨gk,0,none⟩))] (.tuple #[.string ⟨#[70,111,114,109,97,116]⟩,eS,nilS,nilS]) Tryz.func56 (kind_format _ gk) ?_)|((with_reducible refine gate_ (.store 9 (.tmp 38) (.tmp 34)) rfl ?_);refine store_at (t:=9) (p:=38) (g:=g3) (i:=1) (v:= .string ⟨#[70,111,114,109,97,116]⟩) 1 (#[.string loc,.string ⟨#[70,111,114,109,97,116]⟩,.slice Aq 1 cq,.slice Aa 0 ca,eS,nilS,nilS,nilS]) rfl at_ rfl Gg3.out rfl rfl rfl rfl gs_ ?_)|((with_reducible refine gate_ (.store 9 (.tmp 39) (.tmp 35)) rfl ?_);refine store_at (t:=9) (p:=39) (g:=g3) (i:=4) (v:=eS) 1 (#[.string loc,.string ⟨#[70,111,114,109,97,116]⟩,.slice Aq 1 cq,.slice Aa 0 ca,eS,nilS,nilS,nilS]) rfl at_ rfl Gg3.out rfl rfl rfl rfl gs_ ?_)|((with_reducible refine gate_ (.store 22 (.tmp 40) (.tmp 36)) rfl ?_);refine store_at (t:=22) (p:=40) (g:=g3) (i:=5) (v:=nilS) 1 (#[.string loc,.string ⟨#[70,111,114,109,97,116]⟩,.slice Aq 1 cq,.slice Aa 0 ca,eS,nilS,nilS,nilS]) rfl at_ rfl Gg3.out rfl rfl rfl rfl gs_ ?_)|((with_reducible refine gate_ (.store 33 (.tmp 41) (.tmp 37)) rfl ?_);refine store_at (t:=33) (p:=41) (g:=g3) (i:=6) (v:=nilS) 1 (#[.string loc,.string ⟨#[70,111,114,109,97,116]⟩,.slice Aq 1 cq,.slice Aa 0 ca,eS,nilS,nilS,nilS]) rfl at_ rfl Gg3.out rfl rfl rfl rfl gs_ ?_));intro ws1 HK1;replace HK:=asd_ HK1;clear HK1;clear bge;replace Bc:=ce2_ HK 2 1;replace Bf:=fe1_ HK 1;have bge:=cel_ (blk_below hge HK.out.b)))
 refine wp_loop_once ?_
 go_wp2_with (first|((with_reducible refine gd_ 62 ?_);refine lo_ 54 3 g3 (#[.string loc,.string ⟨#[70,111,114,109,97,116]⟩,.slice Aq 1 cq,.slice Aa 0 ca,eS,nilS,nilS,nilS]) HK.out.k.2.1 Tryz.underlying54 ?_)|((first|((with_reducible refine gd_ 61 ?_);refine cl_ #[nilS,.func (.func 58) #[] #[]] (.tuple #[]) Tryz.func57 (sort_0 _ none 0 _) ?_)|((with_reducible refine gate_ (.store 54 (.tmp 2) (.tmp 62)) rfl ?_);refine storerow_at (cs:=#[eS,eS,nilS,nilS,eS,nilS,nilS,nilS]) (g:=g2) 2 (#[.string loc,.string ⟨#[70,111,114,109,97,116]⟩,.slice Aq 1 cq,.slice Aa 0 ca,eS,nilS,nilS,nilS]) at_ rfl Gg2.out rfl rfl rfl rfl rfl rfl kr_ rfl (by simp [Value.oneCell']) ?_));intro wc61 HK1;replace HK:=asd_ HK1;clear HK1;clear bge;replace Bc:=ce2_ HK 2 1;replace Bf:=fe1_ HK 1;have bge:=cel_ (blk_below hge HK.out.b)))
 ((try simp only [Exit.inBlock,Exit.then]);refine bodyPost_ret (results_cell_row rfl _ _ g2 54 (#[.string loc,.string ⟨#[70,111,114,109,97,116]⟩,.slice Aq 1 cq,.slice Aa 0 ca,eS,nilS,nilS,nilS]) (0,0) _ rfl (HK.out.k.2.2.1) Tryz.underlying54 rfl kr_) rfl ?_)
 exact ⟨Aq,cq,Aa,ca,none,0,rfl,HK.out.k.1,Kd.R_nil _ _ _ _ _,HK.out.b⟩
theorem leaf_pattern (w:World) (ge gk:Nat) (loc:ByteArray) (A0:Option Addr) (c0:Nat) (hge:w.heap[ge]? =some (row (vec loc A0 c0 (.iface 315 (.pointer (some ⟨gk,0,none⟩))) nilS) 129)):
  Calls Tryz.prog 30 #[.pointer (some ⟨ge,0,none⟩)] w fun e w'=>Leafed loc ⟨#[80,97,116,116,101,114,110]⟩ eS [⟨#[112,97,116,116,101,114,110]⟩] [] w e w':=by
 have HK:=st0_ w
 have bge:=cel_ (blk_below hge HK.out.b)
 go_enter Tryz.func30,Tryz.ntmps30
 go_wp2_with (first|((with_reducible refine gd_ 2 ?_);refine bx_ #[eS,eS,nilS,nilS,eS,nilS,nilS,nilS] 54 ?_;clear HK bge;intro g2 wb2 HK Gg2;replace Bc:=ce1_ HK 0;have bge:=cel_ (blk_below hge HK.out.b)))
 refine st_ 12 (fun w'=>At w [.b g2 (row (#[eS,eS,nilS,nilS,eS,nilS,nilS,nilS]) 54)] w'∧(∀ j,w'.cell? ⟨g2,j,none⟩=(#[eS,eS,nilS,nilS,eS,nilS,nilS,nilS]:Array Value)[j]?)∧(∀ j,w'.cell? ⟨ge,j,none⟩=(vec loc A0 c0 (.iface 315 (.pointer (some ⟨gk,0,none⟩))) nilS:Array Value)[j]?)) [11] (fun A=>⟨A,(cA_ A 0),(cel_ (blk_below hge A.b))⟩) (fun hHeld=> ?_)
 refine pu_ 0 6 1 ?_
 refine pu_ 1 7 3 ?_
 refine pu_ 2 8 7 ?_
 refine pu_ 4 10 23 ?_
 refine pu_ 5 11 55 ?_
 refine pu_ 6 12 119 ?_
 refine ta3_ 3 9 127 hHeld ?_
 refine ta3_ 7 13 255 hHeld ?_
 refine jo_ (σ:=Option Addr×Nat×Nat) 1 2047 (fun s=>[(14,.slice s.1 0 s.2.1),(15,.agg #[.string loc,eS,nilS,.slice s.1 0 s.2.1,eS,nilS,nilS,nilS]),(3,.pointer (some ⟨s.2.2,0,none⟩))]) (fun s w'=>At w (.b s.2.2 (row (#[eS,eS,nilS,nilS,eS,nilS,nilS,nilS]) 54)::[.b g2 (row (#[eS,eS,nilS,nilS,eS,nilS,nilS,nilS]) 54)]) w'∧w.heap.size≤s.2.2) (fun hCont=> ?_) ?_
 refine tw_ 8 10 14 3 511 1279 (fun K hK=> ?_) (fun K hK=> ?_)
 ·skip
  have HE:=asd_ hHeld.1
  refine ge_ Tryz.func55 #[.slice A0 0 c0] ?_
  with_reducible refine (copied_nil _ A0 c0).mono ?_
  rintro e w3 ⟨v,rfl,⟨Aa,ca,rfl,hFa⟩,hb⟩
  refine ⟨_,rfl,?_⟩
  replace HE:=asd_ (At.step HE.out hb)
  refine hK.out _ _ ⟨HE.out,(cE_ HE 0),(cel_ (blk_below hge HE.out.b))⟩ (fun hHeld=> ?_)
  clear hK K
  refine nq_ 14 ?_
  refine pu_ 9 15 1023 ?_
  refine on_ 10 3 2047 (fun K hK=> ?_)
  refine ne_ 3 (row (#[eS,eS,nilS,nilS,eS,nilS,nilS,nilS]) 54) (fun b=> .pointer (some ⟨b,0,none⟩)) ?_
  intro g3 w3 HE0 hg3
  replace HE:=asd_ HE0;clear HE0
  refine hK.out _ _ ⟨HE.out.drop,(cel_ HE.out.drop.k.1),(cel_ (blk_below hge HE.out.drop.b))⟩ (fun hHeld=> ?_)
  clear hK K
  refine nq_ 3 ?_
  exact nx_ (hCont (Aa,ca,g3) _ ⟨HE.out,hg3⟩)
 ·skip
  have HE:=asd_ hHeld.1
  refine ne_ 3 (row (#[eS,eS,nilS,nilS,eS,nilS,nilS,nilS]) 54) (fun b=> .pointer (some ⟨b,0,none⟩)) ?_
  intro g3 w3 HE0 hg3
  replace HE:=asd_ HE0;clear HE0
  refine hK.out _ _ ⟨HE.out.drop,(cel_ HE.out.drop.k.1),(cel_ (blk_below hge HE.out.drop.b))⟩ (fun hHeld=> ?_)
  clear hK K
  refine nq_ 3 ?_
  refine on_ 8 14 1535 (fun K hK=> ?_)
  refine ge_ Tryz.func55 #[.slice A0 0 c0] ?_
  with_reducible refine (copied_nil _ A0 c0).mono ?_
  rintro e w3 ⟨v,rfl,⟨Aa,ca,rfl,hFa⟩,hb⟩
  refine ⟨_,rfl,?_⟩
  replace HE:=asd_ (At.step HE.out hb)
  have hFa':=hFa
  refine hK.out _ _ ⟨HE.out.drop,(cel_ HE.out.drop.k.1),(cel_ (blk_below hge HE.out.drop.b))⟩ (fun hHeld=> ?_)
  clear hK K
  refine nq_ 14 ?_
  refine pu_ 9 15 2047 ?_
  exact nx_ (hCont (Aa,ca,g3) _ ⟨HE.out,hg3⟩)
 rintro ⟨Aa,ca,g3⟩ w' ⟨HE0,hg3⟩
 have HE:=asd_ HE0
 clear HE0
 have Gg3:=asd_ hg3
 clear hg3
 have hHeld:=(show At w [.b g2 (row (#[eS,eS,nilS,nilS,eS,nilS,nilS,nilS]) 54)] w'∧(∀ j,w'.cell? ⟨g2,j,none⟩=(#[eS,eS,nilS,nilS,eS,nilS,nilS,nilS]:Array Value)[j]?)∧(∀ j,w'.cell? ⟨ge,j,none⟩=(vec loc A0 c0 (.iface 315 (.pointer (some ⟨gk,0,none⟩))) nilS:Array Value)[j]?) from ⟨HE.out.drop,(cel_ HE.out.drop.k.1),(cel_ (blk_below hge HE.out.drop.b))⟩)
 refine np_ ?_
 refine lz_ 11 4095 (fun K hK=> ?_)
 refine storerow_ (cs:=#[eS,eS,nilS,nilS,eS,nilS,nilS,nilS]) (g:=g3) 0 (#[.string loc,eS,nilS,.slice Aa 0 ca,eS,nilS,nilS,nilS]) HE.out rfl Gg3.out rfl (by rfl) rfl rfl rfl rfl kr_ rfl (by simp [Value.oneCell']) ?_
 intro w3 HE0
 replace HE:=asd_ HE0;clear HE0
 refine hK.out _ _ ?_
 clear hK K
 refine done_ kr_ ?_
 clear HK;have HK:=HE;clear HE
 clear hHeld
 clear bge
 replace Bc:=ce2_ HK 1 0
 replace Bf:=fe1_ HK 0
 have bge:=cel_ (blk_below hge HK.out.b)
 go_wp2_with (first|(go_at_call 270;refine (path_pattern _ gk).mono ?_;rintro e wp ⟨Ap,cp,rfl,hcp,hP,hb⟩;have HK1:=At.step at_ hb;have HP:=asd_ (And.intro hcp hP);clear hcp hP hb;replace HK:=asd_ HK1;clear HK1;clear bge;replace Bc:=ce2_ HK 1 0;replace Bf:=fe1_ HK 0;have bge:=cel_ (blk_below hge HK.out.b))|((with_reducible refine gd_ 26 ?_);refine cw_ #[.slice Ap 1 cp] Tryz.func55 (copied_ok (names:=[⟨#[112,97,116,116,101,114,110]⟩]) (Kd.C_below HP.out.2 (by repeat (first|exact HK.out.b|exact Below.refl _ _|apply below_alloc|apply pw_below_drewN|apply below_drew1))) HP.out.1 (by simp)) ?_;rintro v26 wc26 HK0 ⟨Aq,cq,rfl,hF⟩ hB;have HK1:=At.fact (Fact.strs (.slice Aq 1 cq) [⟨#[112,97,116,116,101,114,110]⟩]) HK0 hF;clear HK0 hF hB;replace HK:=asd_ HK1;clear HK1;clear bge;replace Bc:=ce2_ HK 2 1;replace Bf:=fe1_ HK 1;have bge:=cel_ (blk_below hge HK.out.b))|((first|((with_reducible refine gate_ (.store 22 (.tmp 27) (.tmp 26)) rfl ?_);refine store_at (t:=22) (p:=27) (g:=g3) (i:=2) (v:= .slice Aq 1 cq) 1 (#[.string loc,eS,.slice Aq 1 cq,.slice Aa 0 ca,eS,nilS,nilS,nilS]) rfl at_ rfl Gg3.out rfl rfl rfl rfl gs_ ?_)|((with_reducible refine gd_ 33 ?_);refine cl_ #[.iface 315 (.pointer (some ⟨gk,0,none⟩))] (.tuple #[.string ⟨#[80,97,116,116,101,114,110]⟩,eS,nilS,nilS]) Tryz.func56 (kind_pattern _ gk) ?_)|((with_reducible refine gate_ (.store 9 (.tmp 38) (.tmp 34)) rfl ?_);refine store_at (t:=9) (p:=38) (g:=g3) (i:=1) (v:= .string ⟨#[80,97,116,116,101,114,110]⟩) 1 (#[.string loc,.string ⟨#[80,97,116,116,101,114,110]⟩,.slice Aq 1 cq,.slice Aa 0 ca,eS,nilS,nilS,nilS]) rfl at_ rfl Gg3.out rfl rfl rfl rfl gs_ ?_)|((with_reducible refine gate_ (.store 9 (.tmp 39) (.tmp 35)) rfl ?_);refine store_at (t:=9) (p:=39) (g:=g3) (i:=4) (v:=eS) 1 (#[.string loc,.string ⟨#[80,97,116,116,101,114,110]⟩,.slice Aq 1 cq,.slice Aa 0 ca,eS,nilS,nilS,nilS]) rfl at_ rfl Gg3.out rfl rfl rfl rfl gs_ ?_)|((with_reducible refine gate_ (.store 22 (.tmp 40) (.tmp 36)) rfl ?_);refine store_at (t:=22) (p:=40) (g:=g3) (i:=5) (v:=nilS) 1 (#[.string loc,.string ⟨#[80,97,116,116,101,114,110]⟩,.slice Aq 1 cq,.slice Aa 0 ca,eS,nilS,nilS,nilS]) rfl at_ rfl Gg3.out rfl rfl rfl rfl gs_ ?_)|((with_reducible refine gate_ (.store 33 (.tmp 41) (.tmp 37)) rfl ?_);refine store_at (t:=33) (p:=41) (g:=g3) (i:=6) (v:=nilS) 1 (#[.string loc,.string ⟨#[80,97,116,116,101,114,110]⟩,.slice Aq 1 cq,.slice Aa 0 ca,eS,nilS,nilS,nilS]) rfl at_ rfl Gg3.out rfl rfl rfl rfl gs_ ?_));intro ws1 HK1;replace HK:=asd_ HK1;clear HK1;clear bge;replace Bc:=ce2_ HK 2 1;replace Bf:=fe1_ HK 1;have bge:=cel_ (blk_below hge HK.out.b)))
 refine wp_loop_once ?_
 go_wp2_with (first|((with_reducible refine gd_ 62 ?_);refine lo_ 54 3 g3 (#[.string loc,.string ⟨#[80,97,116,116,101,114,110]⟩,.slice Aq 1 cq,.slice Aa 0 ca,eS,nilS,nilS,nilS]) HK.out.k.2.1 Tryz.underlying54 ?_)|((first|((with_reducible refine gd_ 61 ?_);refine cl_ #[nilS,.func (.func 58) #[] #[]] (.tuple #[]) Tryz.func57 (sort_0 _ none 0 _) ?_)|((with_reducible refine gate_ (.store 54 (.tmp 2) (.tmp 62)) rfl ?_);refine storerow_at (cs:=#[eS,eS,nilS,nilS,eS,nilS,nilS,nilS]) (g:=g2) 2 (#[.string loc,.string ⟨#[80,97,116,116,101,114,110]⟩,.slice Aq 1 cq,.slice Aa 0 ca,eS,nilS,nilS,nilS]) at_ rfl Gg2.out rfl rfl rfl rfl rfl rfl kr_ rfl (by simp [Value.oneCell']) ?_));intro wc61 HK1;replace HK:=asd_ HK1;clear HK1;clear bge;replace Bc:=ce2_ HK 2 1;replace Bf:=fe1_ HK 1;have bge:=cel_ (blk_below hge HK.out.b)))
 ((try simp only [Exit.inBlock,Exit.then]);refine bodyPost_ret (results_cell_row rfl _ _ g2 54 (#[.string loc,.string ⟨#[80,97,116,116,101,114,110]⟩,.slice Aq 1 cq,.slice Aa 0 ca,eS,nilS,nilS,nilS]) (0,0) _ rfl (HK.out.k.2.2.1) Tryz.underlying54 rfl kr_) rfl ?_)
 exact ⟨Aq,cq,Aa,ca,none,0,rfl,HK.out.k.1,Kd.R_nil _ _ _ _ _,HK.out.b⟩
end Go.Proofs.YtkphbhncpdcbeaaGreatDoor.J
namespace Go.Proofs.YtkphbhncpdcbeaaGreatDoor.J
open Go.RowKit YtkphbhncpdcbeaaGreatDoorW.PrintWords YtkphbhncpdcbeaaGreatDoorW.PrintLast YtkphbhncpdcbeaaGreatDoorW.PrintMore PJT
theorem EqC.yes {p:Prop} {v u:Value} {W:World} (h:EqC p v u W) (hp:p):Calls Tryz.prog 144 #[v,u] W (rb (.tuple #[.bool true,.nilIface]) W):=by
 refine h.mono ?_
 rintro e w' ⟨r,rfl,hr,hb⟩
 obtain rfl:=hr.2 hp
 exact ⟨rfl,hb⟩
theorem EqC.no {p:Prop} {v u:Value} {W:World} (h:EqC p v u W) (hp:¬ p):Calls Tryz.prog 144 #[v,u] W (rb (.tuple #[.bool false,.nilIface]) W):=by
 refine h.mono ?_
 rintro e w' ⟨r,rfl,hr,hb⟩
 cases r with
 |false=>exact ⟨rfl,hb⟩
 |true=>exact absurd (hr.1 rfl) hp
theorem EqC.is {p:Prop} {v u:Value} {W:World} (h:EqC p v u W) (b:Bool) (hp:b=true↔p):Calls Tryz.prog 144 #[v,u] W (rb (.tuple #[.bool b,.nilIface]) W):=by
 cases b with
 |true=>exact h.yes (hp.1 rfl)
 |false=>exact h.no (fun h'=>by cases hp.2 h')
theorem tcode_ne (k:Int):tcode k≠0:=by
 unfold tcode
 repeat' split
 all_goals decide
theorem from_out {Wv:World} {ok:Nat→Prop} {x:S25} {v:Value} (h:OutD Wv ok x v) (w:World) (gs:Nat) (s:Sc) (hS:w.heap[gs]? =some (row (Sc.cells ⟨2020,s.loc,s.bool,s.enum,s.const,s.format,s.req,s.props,s.pats,s.deps,s.dreq,s.dsch,s.pat⟩) 119)):
  Calls Tryz.prog 98 #[v,.pointer (some ⟨gs,0,none⟩),.bool false] w fun e w'=>∃ gu,e= .returned (.pointer (some ⟨gu,0,none⟩))∧w'.heap[gu]? =some (row #[nM,nM] 263)∧w.heap.size≤gu∧Below w.heap.size w w':=by
 cases h with
 |null k=>exact from_null_g w gs s hS
 |bool k=>exact from_bool_g w gs _ s hS
 |text k=>exact from_text_g w gs _ s hS
 |empty k c h0=>exact from_array_g w gs _ _ _ s hS
 |array k b c cur vs hl hb h hc hs=>exact from_array_g w gs _ _ _ s hS
 |object k g es ck vs hl h45 hg h M hs=>exact from_object_g w gs _ s hS
theorem loud_any (W0:World) (gs:Nat) (v:Value) (hvv:v.oneCell'=true) (s:Sc) (hS:W0.heap[gs]? =some (row s.cells 119)) (hF:∀ W,Below W0.heap.size W0 W→Calls Tryz.prog 98 #[v,.pointer (some ⟨gs,0,none⟩),.bool false] W fun e w'=>∃ gu,e= .returned (.pointer (some ⟨gu,0,none⟩))∧w'.heap[gu]? =some (row #[nM,nM] 263)∧W.heap.size≤gu∧Below W.heap.size W w') (tk:TypeId) (hta:∀ (v:Value) (W:World),(Instr.typeAssert (.iface tk v) 126 185 true).run Tryz.prog W= .ok (.tuple #[.pointer none,.bool false]) W)
  (hV:∀ W l gv gc ad up,At W0 (.b gv (row (vdc v ad (.pointer (some ⟨gs,0,none⟩)) (.pointer (some ⟨gc,0,none⟩)) up nilS) 182):: .b gc (row (#[.pointer (some ⟨gs,0,none⟩),eS,i0,nP]) 178)::l) W→W0.heap.size≤gv→Calls Tryz.prog 99 #[.pointer (some ⟨gv,0,none⟩)] W fun e w'=>∃ ge gki Ae ce Y,e= .returned (.tuple #[nP,.iface 76 (.pointer (some ⟨ge,0,none⟩))])∧At W0 (.b ge (row (vec s.loc Ae ce (.iface tk (.pointer (some ⟨gki,0,none⟩))) nilS) 129)::Y) w'):
  Calls Tryz.prog 28 #[.pointer (some ⟨gs,0,none⟩),v] W0 fun e w'=>∃ u,e= .returned u∧(∃ gr,u= .iface 76 (.pointer (some ⟨gr,0,none⟩))∧Left s.loc tk (fun _ _=>True) gr w')∧Below W0.heap.size W0 w':=by
 refine validate_same W0 gs _ (fun u w'=>(∃ gr,u= .iface 76 (.pointer (some ⟨gr,0,none⟩))∧Left s.loc tk (fun _ _=>True) gr w')∧Below W0.heap.size W0 w') ?_
 refine (sch_some W0 gs v hvv s hS hF tk (fun _ _=>True) hta ?_).mono ?_
 ·intro W l gv gc ad up H hgv
  refine (hV W l gv gc ad up H hgv).mono ?_
  rintro e w' ⟨ge,gki,Ae,ce,Y,rfl,H'⟩
  exact ⟨ge,gki,Ae,ce,Y,rfl,trivial,H'⟩
 ·rintro e w' ⟨gr,gk2,gz,ge,gki,Ae,ce,Y,rfl,_,H'⟩
  exact ⟨_,rfl,⟨gr,rfl,left_of (fun _=>trivial) H'⟩,H'.b⟩
theorem tk_286_185 (v:Value) (W:World):(Instr.typeAssert (.iface 286 v) 126 185 true).run Tryz.prog W= .ok (.tuple #[.pointer none,.bool false]) W:=by kernel_rfl
theorem tk_281_185 (v:Value) (W:World):(Instr.typeAssert (.iface 281 v) 126 185 true).run Tryz.prog W= .ok (.tuple #[.pointer none,.bool false]) W:=by kernel_rfl
theorem tk_315_185 (v:Value) (W:World):(Instr.typeAssert (.iface 315 v) 126 185 true).run Tryz.prog W= .ok (.tuple #[.pointer none,.bool false]) W:=by kernel_rfl
theorem tk_289_185 (v:Value) (W:World):(Instr.typeAssert (.iface 289 v) 126 185 true).run Tryz.prog W= .ok (.tuple #[.pointer none,.bool false]) W:=by kernel_rfl
theorem At.behind {w W:World} {b1 b2 b3 b4 b5 b6:Blk} (A:List Blk) {l B:List Blk} (h:At w (b1::b2::b3::b4::b5::b6::(A ++ (l ++ B))) W):At w (b1::b2::b3::b4::b5::b6::(l ++ (A ++ B))) W:=
 h.perm (.cons _ (.cons _ (.cons _ (.cons _ (.cons _ (.cons _ (by rw [← List.append_assoc,← List.append_assoc];exact List.perm_append_comm.append_right B)))))))
def CompR (R:Value→Value→Value→Value→List Blk→Prop) (w:World) (e:Ending) (w':World):Prop:=∃ gs A2 c2 gm gpp gpr gds gdr v3 v4 v5 v12 rest,e= .returned (.pointer (some ⟨gs,0,none⟩))∧R v3 v4 v5 v12 rest∧w'.heap[gs]? =some (row (Sc.cells ⟨2020,⟨#[49]⟩,nP,v3,v4,v5,(.slice A2 0 c2),(.map (some gpr)),(.map (some gpp)),(.map (some gm)),(.map (some gdr)),(.map (some gds)),v12⟩) 119)∧w'.heap[gpr]? =some (.map #[] 0)∧w'.heap[gpp]? =some (.map #[] 0)∧w'.heap[gm]? =some (.map #[] 0)∧w'.heap[gds]? =some (.map #[] 0)∧w'.heap[gdr]? =some (.map #[] 0)∧Keeps rest w'∧Below w.heap.size w w'
theorem compiled_any (he:Bool) (en:Value) (Aco:Option Addr) (lco cco:Nat) (pi:Bool) (pt:Value) (fi:Bool) (ft:Value) (w:World) (gn cS:Nat) (hn1:(ndA he en Aco lco cco pi pt fi ft).all (·.oneCell')=true) (hS:w.heap[gn]? =some (row (ndA he en Aco lco cco pi pt fi ft) 45)) (R:Value→Value→Value→Value→List Blk→Prop)
  (hset:∀ (W:World) (l:List Blk) (gs:Nat) (lv:Value) (own:Int),0≤own→At w (.b gs (row (Sc.cells ⟨0,⟨#[]⟩,nP,nP,nP,nP,nilS,nM,nM,nM,nM,nM,.nilIface⟩) 119)::l) W→w.heap.size≤gs→Calls Tryz.prog 49 #[lv,.pointer (some ⟨gs,0,none⟩),.agg (ndA he en Aco lco cco pi pt fi ft),.int .i64 own,.int .i64 2020] W fun e w'=>e= .returned (.tuple #[])∧∃ A2 c2 gm gpp gpr gds gdr v3 v4 v5 v12 rest,R v3 v4 v5 v12 rest∧At w (.b gm (.map #[] 0):: .b gs (row (Sc.cells ⟨2020,⟨#[]⟩,nP,v3,v4,v5,(.slice A2 0 c2),(.map (some gpr)),(.map (some gpp)),(.map (some gm)),(.map (some gdr)),(.map (some gds)),v12⟩) 119):: .b gpp (.map #[] 0):: .b gpr (.map #[] 0):: .b gds (.map #[] 0):: .b gdr (.map #[] 0)::(l ++ rest)) w'):
  Calls Tryz.prog 27 #[.slice (some ⟨gn,0,none⟩) 1 cS,.int .i64 2020] w (CompR R w):=by
 have Hset:=asd_ hset
 clear hset
 have HK:Aside0 (At w [.b gn (row (ndA he en Aco lco cco pi pt fi ft) 45)] w):=asd_ (At.hold (At.start w) hS (by simp [nums]))
 replace Bc:=ce1_ HK 0
 go_enter Tryz.func27,Tryz.ntmps27
 go_wp2_with fail
 refine wp_loop_two ?_
 go_wp2_with (first|((with_reducible refine gd_ 13 ?_);refine wpList_buildTo rfl 119 #[] rfl (some 13) rfl (Sc.cells ⟨0,⟨#[]⟩,nP,nP,nP,nP,nilS,nM,nM,nM,nM,nM,.nilIface⟩) kr_ ?_)|((with_reducible refine gd_ 14 ?_);refine bx_ (Sc.cells ⟨0,⟨#[]⟩,nP,nP,nP,nP,nilS,nM,nM,nM,nM,nM,.nilIface⟩) 119 ?_;clear HK;intro gs wb14 HK Ggs;replace Bc:=ce2_ HK 1 0)|((with_reducible refine gd_ 15 ?_);refine new_at at_ rfl (N:=15) rfl (ob:=row #[.pointer (some ⟨gs,0,none⟩)] 74) (v:=(fun b=> .slice (some ⟨b,0,none⟩) 1 1)) (by exact lit1_run Tryz.underlying104 info74 rfl rfl rfl rfl) ?_;intro g15 wb15 HK1 hgg15;have Gg15:=asd_ hgg15;clear hgg15;replace HK:=asd_ HK1;clear HK1;replace Bc:=ce2_ HK 2 1;replace Bf:=fe1_ HK 1)|((with_reducible refine gate_builtin (b:= .append) (xs:=#[.tmp 12,.tmp 15]) rfl ?_);at_builtin;refine append1n_at (hE:=E74) (p:=some ⟨gs,0,none⟩) (g:=g15) (t:=104) (s:= .tmp 12) (x:= .tmp 15) (At.front 0 HK.out rfl) rfl rfl Tryz.underlying104 info74 rfl (by decide) rfl rfl (by decide) ?_;intro A16 c16 wa16 HK0;obtain ⟨adl,e1,_⟩:=ptr_of HK0.k.1;subst e1;have HK1:=HK0;clear HK0;replace HK:=asd_ HK1;clear HK1;replace Bc:=ce2_ HK 2 1;replace Bf:=fe1_ HK 1))
 refine wp_loop_two ?_
 go_wp2_with (first|((with_reducible refine gd_ 24 ?_);refine lo_ 45 23 gn (ndA he en Aco lco cco pi pt fi ft) HK.out.k.2.2.1 Tryz.underlying45 ?_)|((with_reducible refine gd_ 7 ?_);refine bx_ (ndZ nilS nilS) 45 ?_;clear HK;intro g7 wb7 HK Gg7;replace Bc:=ce3_ HK 3 2 0;replace Bf:=fe1_ HK 2)|((with_reducible refine gate_ (.store 45 (.tmp 7) (.tmp 24)) rfl ?_);refine storerow_at (cs:=ndZ nilS nilS) (g:=g7) 0 (ndA he en Aco lco cco pi pt fi ft) at_ rfl Gg7.out rfl rfl rfl rfl rfl rfl kr_ rfl (hn1) ?_;intro wr1 HK1;replace HK:=asd_ HK1;clear HK1;replace Bc:=ce3_ HK 3 2 0;replace Bf:=fe1_ HK 2))
 refine st_ 10 (fun w'=>At w [.b g7 (row (ndA he en Aco lco cco pi pt fi ft) 45),.f (Fact.rows kPtr 74 w.heap.size E74 (.slice (some adl) 1 c16) [some ⟨gs,0,none⟩]),.b gs (row (Sc.cells ⟨0,⟨#[]⟩,nP,nP,nP,nP,nilS,nM,nM,nM,nM,nM,.nilIface⟩) 119),.b gn (row (ndA he en Aco lco cco pi pt fi ft) 45)] w'∧(∀ j,w'.cell? ⟨gn,j,none⟩=(ndA he en Aco lco cco pi pt fi ft:Array Value)[j]?)∧(∀ j,w'.cell? ⟨gs,j,none⟩=(Sc.cells ⟨0,⟨#[]⟩,nP,nP,nP,nP,nilS,nM,nM,nM,nM,nM,.nilIface⟩:Array Value)[j]?)∧(∀ j,w'.cell? ⟨g7,j,none⟩=(ndA he en Aco lco cco pi pt fi ft:Array Value)[j]?)∧w'.cell? adl=some (.pointer (some ⟨gs,0,none⟩))) [9] (fun A=>⟨A,(cA_ A 3),(cA_ A 2),(cA_ A 0),(ptr_at A.k.2.1)⟩) (fun hHeld=> ?_)
 refine pu_ 0 25 1 ?_
 refine pu_ 1 26 3 ?_
 refine pu_ 2 27 7 ?_
 refine pu_ 3 28 15 ?_
 refine pu_ 6 31 79 ?_
 refine pu_ 7 32 207 ?_
 refine pu_ 8 33 463 ?_
 refine ta5_ 4 29 479 hHeld ?_
 refine on_ 5 30 511 (fun K hK=> ?_)
 refine loadr_ (ty:=45) (x:= .tmp 7) g7 (ndA he en Aco lco cco pi pt fi ft) (by rfl) rfl rfl rfl hHeld.1.k.1 Tryz.underlying45 rfl kr_ ?_
 refine hK.out _ _ ⟨hHeld.1,hHeld.2.1,hHeld.2.2.1,hHeld.2.2.2.1,hHeld.2.2.2.2⟩ (fun hHeld=> ?_)
 clear hK K
 refine nq_ 30 ?_
 refine la_ 9 34 1023 (fun K hK=> ?_)
 have HE:=asd_ (hHeld.1)
 refine ge_ Tryz.func49 #[.slice (some adl) 1 c16,.pointer (some ⟨gs,0,none⟩),.agg (ndA he en Aco lco cco pi pt fi ft),.int .i64 (wrap64 (0 + 1)),.int .i64 2020] ?_
 with_reducible refine (Hset.out _ _ gs (.slice (some adl) 1 c16) (wrap64 (0 + 1)) (by unfold wrap64;omega) (At.front 2 HE.out rfl) Ggs.out).mono ?_
 rintro e w3 ⟨rfl,A2,c2,gm,gpp,gpr,gds,gdr,v3,v4,v5,v12,rest,hR,HE0⟩
 have HR:=asd_ hR;clear hR
 refine ⟨_,rfl,?_⟩
 have HE1:Aside0 (At w (.b gm (.map #[] 0):: .b gs (row (Sc.cells ⟨2020,⟨#[]⟩,nP,v3,v4,v5,(.slice A2 0 c2),(.map (some gpr)),(.map (some gpp)),(.map (some gm)),(.map (some gdr)),(.map (some gds)),v12⟩) 119):: .b gpp (.map #[] 0):: .b gpr (.map #[] 0):: .b gds (.map #[] 0):: .b gdr (.map #[] 0):: .b g7 (row (ndA he en Aco lco cco pi pt fi ft) 45):: .f (Fact.rows kPtr 74 w.heap.size E74 (.slice (some adl) 1 c16) [some ⟨gs,0,none⟩]):: .b gn (row (ndA he en Aco lco cco pi pt fi ft) 45)::rest) _):=asd_ HE0
 clear HE0
 clear HE;have HE:=HE1;clear HE1
 refine hK.out _ _ ?_
 clear hK K
 refine nq_ 34 ?_
 refine done_ kr_ ?_
 clear HK;have HK:=HE;clear HE
 clear hHeld
 replace Bc:=ce3_ HK 8 6 1
 replace Bf:=fe1_ HK 1
 go_wp2_with fail
 refine st_ 10 (fun w'=>At w (.b gm (.map #[] 0):: .b gs (row (Sc.cells ⟨2020,⟨#[]⟩,nP,v3,v4,v5,(.slice A2 0 c2),(.map (some gpr)),(.map (some gpp)),(.map (some gm)),(.map (some gdr)),(.map (some gds)),v12⟩) 119):: .b gpp (.map #[] 0):: .b gpr (.map #[] 0):: .b gds (.map #[] 0):: .b gdr (.map #[] 0):: .b g7 (row (ndA he en Aco lco cco pi pt fi ft) 45):: .f (Fact.rows kPtr 74 w.heap.size E74 (.slice (some adl) 1 c16) [some ⟨gs,0,none⟩]):: .b gn (row (ndA he en Aco lco cco pi pt fi ft) 45)::rest) w'∧(∀ j,w'.cell? ⟨gn,j,none⟩=(ndA he en Aco lco cco pi pt fi ft:Array Value)[j]?)∧(∀ j,w'.cell? ⟨g7,j,none⟩=(ndA he en Aco lco cco pi pt fi ft:Array Value)[j]?)∧(∀ j,w'.cell? ⟨gs,j,none⟩=(Sc.cells ⟨2020,⟨#[]⟩,nP,v3,v4,v5,(.slice A2 0 c2),(.map (some gpr)),(.map (some gpp)),(.map (some gm)),(.map (some gdr)),(.map (some gds)),v12⟩:Array Value)[j]?)∧w'.cell? adl=some (.pointer (some ⟨gs,0,none⟩))) [9] (fun A=>⟨A,(cA_ A 8),(cA_ A 6),(cA_ A 1),(ptr_at A.k.2.2.2.2.2.2.2.1)⟩) (fun hHeld=> ?_)
 refine pu_ 0 35 1 ?_
 refine pu_ 1 36 3 ?_
 refine pu_ 2 37 7 ?_
 refine pu_ 4 39 23 ?_
 refine pu_ 5 40 55 ?_
 refine ta5_ 3 38 63 hHeld ?_
 refine on_ 6 41 127 (fun K hK=> ?_)
 have HE:=asd_ (hHeld.1)
 refine ge_ Tryz.func50 #[.int .i64 (wrap64 (0 + 1))] ?_
 with_reducible refine (itoa_w _).mono ?_
 rintro e w3 ⟨rfl,hb⟩
 refine ⟨_,rfl,?_⟩
 replace HE:=asd_ (At.step HE.out hb)
 refine hK.out _ _ ⟨HE.out,(cE_ HE 8),(cE_ HE 6),(cE_ HE 1),(ptr_at HE.out.k.2.2.2.2.2.2.2.1)⟩ (fun hHeld=> ?_)
 clear hK K
 refine nq_ 41 ?_
 refine pu_ 7 42 255 ?_
 refine pu_ 8 43 511 ?_
 refine lz_ 9 1023 (fun K hK=> ?_)
 have fgs_:=fE_ HE 1
 have cgs_:=cE_ HE 1
 refine sk_ ?_
 replace HE:=asd_ (At.store_to (i:=4) (v:= .string ⟨#[49]⟩) 1 (Sc.cells ⟨2020,⟨#[49]⟩,nP,v3,v4,v5,(.slice A2 0 c2),(.map (some gpr)),(.map (some gpp)),(.map (some gm)),(.map (some gdr)),(.map (some gds)),v12⟩) HE.out rfl Ggs.out rfl rfl)
 clear fgs_ cgs_
 refine hK.out _ _ ?_
 clear hK K
 refine done_ kr_ ?_
 clear HK;have HK:=HE;clear HE
 clear hHeld
 replace Bc:=ce3_ HK 8 6 1
 replace Bf:=fe1_ HK 1
 have hq1:=ptr_at HK.out.k.2.2.2.2.2.2.2.1
 go_wp2_with (first|((with_reducible refine gd_ 48 ?_);refine call_to #[.pointer (some ⟨gs,0,none⟩)] (.tuple #[]) _ rfl Tryz.func51 kr_ rfl rfl ar_ (evaluated_ok _ w _ gs ⟨2020,⟨#[49]⟩,nP,v3,v4,v5,(.slice A2 0 c2),(.map (some gpr)),(.map (some gpp)),(.map (some gm)),(.map (some gdr)),(.map (some gds)),v12⟩ (At.front 1 HK.out rfl) Ggs.out) ?_;rintro wc48 HK1;replace HK:=asd_ HK1;clear HK1;clear hq1;replace Bc:=ce3_ HK 8 6 0;replace Bf:=fe1_ HK 0)|((with_reducible refine gd_ 51 ?_);refine cl_ #[.slice (some adl) 1 c16,.int .i64 1,i0] (.pointer (some ⟨gs,0,none⟩)) Tryz.func52 (at_one _ adl c16 _ (ptr_at HK.out.k.2.2.2.2.2.2.2.1)) ?_;intro wc51 HK1;replace HK:=asd_ HK1;clear HK1;replace Bc:=ce3_ HK 8 6 0;replace Bf:=fe1_ HK 0))
 go_ret
 exact ⟨gs,A2,c2,gm,gpp,gpr,gds,gdr,v3,v4,v5,v12,rest,rfl,HR.out,HK.out.k.1,HK.out.k.2.2.2.1,HK.out.k.2.2.1,HK.out.k.2.1,HK.out.k.2.2.2.2.1,HK.out.k.2.2.2.2.2.1,HK.out.k.2.2.2.2.2.2.2.2.2,HK.out.b⟩
theorem index_ok (w:World) (A:Option Addr) (names:List ByteArray) (c:Nat) (s:ByteArray) (hr:Kd.C Kd.string w A names.length names) (hc:names.length≤c) (hn:names.length≤LM):
  Calls Tryz.prog 202 #[.slice A names.length c,.string s] w fun e w'=>∃ r:Int,e= .returned (.int .i64 r)∧ -1≤r∧(0≤r↔s∈names)∧Below w.heap.size w w':=by
 have Hr:=asd_ hr
 have Hn:=asd_ hn
 clear hr hn
 have HK:=st0_ w
 go_enter Tryz.func202,Tryz.ntmps202
 go_wp2_with fail
 go_loopg [8] names.length (fun kq v8 w'=>∃ i:Int,v8= .int .i64 i∧0≤i∧i + kq=names.length∧Aside0 (∀ j:Nat,(j:Int) < i→names[j]? ≠some s)∧Aside0 (At w [] w'))
 case atStart=>exact ⟨0,rfl,by omega,by omega,⟨fun j hj=>absurd hj (by omega)⟩,⟨at_⟩⟩
 case round=>
  clear HK
  obtain ⟨i,rfl,hi0,hik,HP,HK⟩:=hrel
  cases gk with
  |zero=>
   have ht:decide (i < (names.length:Int))=false:=decide_eq_false (by omega)
   go_wp2_with fail
   go_ret
   exact ⟨_,rfl,by omega,iff_of_false (by omega) (fun h=>by obtain ⟨j,hj⟩:=List.mem_iff_getElem?.1 h;exact HP.out j (by have:=(List.getElem?_eq_some_iff.1 hj).1;omega) hj),be_⟩
  |succ kk=>
   have ht:decide (i < (names.length:Int))=true:=decide_eq_true (by omega)
   have hil:i < (names.length:Int):=by omega
   obtain ⟨ad,e1,hc1⟩:=Kd.at_string Hr.out i hi0 hil
   subst e1
   have q1:=(HK.out.b.cell (World.block_lt_of_cell? w _ hc1)).trans hc1
   have hget:names[i.toNat]? =some (rdOf ByteArray.empty names i):=by unfold rdOf;rw [getD_lt (by omega),List.getElem?_eq_getElem (by omega)]
   have Hget:=asd_ hget;have Hik:=asd_ hik;have Hi0:=asd_ hi0;have Hil:=asd_ hil
   have p1:=eq_true hi0;have p2:=eq_true hil
   clear hik hi0 hil hc1 hget
   cases hd:(s.toList == (rdOf ByteArray.empty names i).toList)
   case true=>
    have he:s=rdOf ByteArray.empty names i:=ba_iff.1 (beq_iff_eq.1 hd)
    have He:=asd_ he;clear he
    go_wp2_with fail
    go_ret
    exact ⟨_,rfl,by have:=Hi0.out;omega,iff_of_true Hi0.out (by have h:=Hget.out;rw [← He.out] at h;exact List.mem_of_getElem? h),be_⟩
   case false=>
    have he:s≠rdOf ByteArray.empty names i:=fun h=>by rw [beq_iff_eq.2 (ba_iff.2 h)] at hd;cases hd
    have He:=asd_ he;clear he
    go_wp2_with fail
    go_roundg kk
    case measure=>exact Nat.lt_succ_self _
    case rel=>
     have e1:wrap64 (i + 1)=i + 1:=wup Hi0.out Hil.out Hn.out
     refine ⟨wrap64 (i + 1),rfl,by have:=Hi0.out;rw [e1];omega,by have:=Hik.out;rw [e1];omega,⟨fun j hj=> ?_⟩,⟨at_⟩⟩
     rw [e1] at hj
     by_cases hji:(j:Int) < i
     ·exact HP.out j hji
     ·obtain rfl:j=i.toNat:=by have:=Hi0.out;omega
      rw [Hget.out];intro h;exact He.out (Option.some.inj h).symm
theorem int_form {f:FuncId} {args:Array Value} {W:World} {F:Int→Prop} {G:Int→Prop} (h:Calls Tryz.prog f args W fun e w'=>∃ r:Int,e= .returned (.int .i64 r)∧F r∧G r∧Below W.heap.size W w'):Calls Tryz.prog f args W fun e w'=>∃ v,e= .returned v∧(∃ r:Int,v= .int .i64 r∧F r∧G r)∧Below W.heap.size W w':=by
 refine h.mono ?_
 rintro e w' ⟨r,rfl,h1,h2,hb⟩
 exact ⟨_,rfl,⟨r,rfl,h1,h2⟩,hb⟩
theorem contains_s (w:World) (A:Option Addr) (names:List ByteArray) (c:Nat) (s:ByteArray) (hr:Kd.C Kd.string w A names.length names) (hc:names.length≤c) (hn:names.length≤LM):
  Calls Tryz.prog 168 #[.slice A names.length c,.string s] w fun e w'=>∃ r:Bool,e= .returned (.bool r)∧(r=true↔s∈names)∧Below w.heap.size w w':=by
 show Calls Tryz.prog 168 #[.slice A names.length c,.string s] w (EqP (s∈names) w)
 have HK:=st0_ w
 go_enter Tryz.func168,Tryz.ntmps168
 go_wp2_with (first|((with_reducible refine gd_ 7 ?_);refine cw_ #[.slice A names.length c,.string s] Tryz.func202 (int_form (index_ok _ A names c s hr hc hn)) ?_;intro v7 wc7 HK1 hF hB;obtain ⟨r,rfl,hr1,hr2⟩:=hF;have Hr2:=asd_ hr2;clear hr2 hr1 hB;replace HK:=asd_ HK1;clear HK1;skip;skip))
 go_ret
 unfold EqP
 exact ⟨_,rfl,by have h:=Hr2.out;simpa using h,be_⟩
theorem match_ok (w:World) (gt:Nat) (A:Option Addr) (names:List ByteArray) (c:Nat) (s:ByteArray) (hr:Kd.C Kd.string w A names.length names) (hc:names.length≤c) (hn:names.length≤LM) (hgt:w.heap[gt]? =some (row #[.slice A names.length c] 169)):
  Calls Tryz.prog 133 #[.pointer (some ⟨gt,0,none⟩),.string s] w fun e w'=>∃ r:Bool,e= .returned (.bool r)∧(r=true↔s∈names)∧Below w.heap.size w w':=by
 show Calls Tryz.prog 133 #[.pointer (some ⟨gt,0,none⟩),.string s] w (EqP (s∈names) w)
 have Hr:=asd_ hr
 clear hr
 have HK:=st0_ w
 have bgt:=cel_ (blk_below hgt HK.out.b)
 go_enter Tryz.func133,Tryz.ntmps133
 go_wp2_with (first|((with_reducible refine gd_ 10 ?_);refine cw_ #[.slice A names.length c,.string s] Tryz.func168 (bool_iff (contains_s _ A names c s (Kd.C_below Hr.out HK.out.b) hc hn)) ?_;intro v10 wc10 HK1 hF hB;obtain ⟨rb,rfl,hr2⟩:=hF;have Hr2:=asd_ hr2;clear hr2 hB;replace HK:=asd_ HK1;clear HK1;clear bgt;have bgt:=cel_ (blk_below hgt HK.out.b);skip))
 go_ret
 unfold EqP
 exact ⟨_,rfl,Hr2.out,be_⟩
theorem errors_new (w:World) (s:ByteArray):
  Calls Tryz.prog 134 #[.string s] w fun e w'=>∃ g,e= .returned (.iface 332 (.pointer (some ⟨g,0,none⟩)))∧Below w.heap.size w w':=by
 have HK:=st0_ w
 go_enter Tryz.func134,Tryz.ntmps134
 go_wp2_with (first|((with_reducible refine gd_ 5 ?_);refine bx_ #[.string s] 334 ?_;clear HK;intro g5 wb5 HK Gg5;replace Bc:=ce1_ HK 0))
 go_ret
 exact ⟨_,rfl,be_⟩
section
theorem Keeps.both {l m:List Blk} {W:World} (h1:Keeps l W) (h2:Keeps m W):Keeps (l ++ m) W:=Keeps.append.2 ⟨h1,h2⟩
theorem At.both {w w1 w2:World} {l m:List Blk} (h:At w l w1) (h2:At w1 m w2) (hm:∀ g∈nums m,w1.heap.size≤g):At w (m ++ l) w2:=by
 refine ⟨below_step h.b h2.b,Keeps.both h2.k (h.k.below h2.b),?_⟩
 rw [nums_append]
 refine List.nodup_append.2 ⟨h2.d,h.d,fun a ha b hb=> ?_⟩
 have:=h.k.lt b hb
 have:=hm a ha
 omega
def FmtP (names:List ByteArray) (w:World) (e:Ending) (w':World):Prop:=∃ v,e= .returned v∧(∃ gf gv gt A3 c3,v= .pointer (some ⟨gf,0,none⟩)∧(∀ g∈[gf,gv,gt],w.heap.size≤g)∧At w [.b gf (row (#[eS,.func (.func 132) #[] #[.pointer (some ⟨gv,0,none⟩)]]) 258),.b gv (row (#[.pointer (some ⟨gt,0,none⟩)]) 167),.b gt (row #[.slice A3 names.length c3] 169),.f (Fact.strs (.slice A3 names.length c3) names)] w')∧Below w.heap.size w w'
theorem format_of (w:World) {A:Option Addr} {names:List ByteArray} {c:Nat} (hr:Kd.C Kd.string w A names.length names) (hc:names.length≤c) (hlen:names.length < 8796093022208):Calls Tryz.prog 93 #[.slice A names.length c] w (FmtP names w):=by
 have hmf:∀ (fn:Fn) (first cap:Array Value) (w:World),(Instr.makeFunc fn first cap).run Tryz.prog w= .ok (.func fn first cap) w:=fun _ _ _ _=>rfl
 have Hr:=asd_ hr
 have Hc:=asd_ hc
 have Hlen:=asd_ hlen
 clear hr hc hlen
 have HK:=st0_ w
 go_enter Tryz.func93,Tryz.ntmps93
 go_wp2_with (first|((with_reducible refine gd_ 5 ?_);refine cw_ #[.slice A names.length c] Tryz.func55 (copied_of (Kd.C_below Hr.out HK.out.b) Hc.out Hlen.out) ?_;rintro v5 wc5 HK0 ⟨A3,c3,rfl,hF⟩ hB;have HK1:=At.fact (Fact.strs (.slice A3 names.length c3) names) HK0 hF;clear HK0 hF hB;replace HK:=asd_ HK1;clear HK1;skip)|((with_reducible refine gd_ 7 ?_);refine bx_ #[.slice A3 names.length c3] 169 ?_;clear HK;intro gt wb7 HK Ggt;replace Bc:=ce1_ HK 0)|((with_reducible refine gd_ 3 ?_);refine bx_ #[nP] 167 ?_;clear HK;intro gv wb3 HK Ggv;replace Bc:=ce2_ HK 1 0;replace Bf:=fe1_ HK 0)|((with_reducible refine gd_ 10 ?_);refine bx_ (#[eS,.func (.func 132) #[] #[.pointer (some ⟨gv,0,none⟩)]]) 258 ?_;clear HK;intro gf wb10 HK Ggf;replace Bc:=ce3_ HK 2 1 0;replace Bf:=fe1_ HK 1)|((with_reducible refine gate_ (.store 167 (.tmp 3) (.tmp 7)) rfl ?_);refine store_at (t:=167) (p:=3) (g:=gv) (i:=0) (v:= .pointer (some ⟨gt,0,none⟩)) 0 (#[.pointer (some ⟨gt,0,none⟩)]) rfl at_ rfl Ggv.out rfl rfl rfl rfl gs_ ?_;intro ws1 HK1;replace HK:=asd_ HK1;clear HK1;replace Bc:=ce2_ HK 1 0;replace Bf:=fe1_ HK 0))
 go_ret
 exact ⟨_,rfl,⟨gf,gv,gt,A3,c3,rfl,by intro g hg;simp only [List.mem_cons,List.not_mem_nil,or_false] at hg;rcases hg with rfl|rfl|rfl<;>first|exact Ggf.out|exact Ggv.out|exact Ggt.out,HK.out⟩,HK.out.b⟩
theorem new_form {f:FuncId} {args:Array Value} {W:World} (h:Calls Tryz.prog f args W fun e w'=>∃ g,e= .returned (.iface 332 (.pointer (some ⟨g,0,none⟩)))∧Below W.heap.size W w'):Calls Tryz.prog f args W fun e w'=>∃ v,e= .returned v∧(∃ g:Nat,v= .iface 332 (.pointer (some ⟨g,0,none⟩)))∧Below W.heap.size W w':=by
 refine h.mono ?_
 rintro e w' ⟨g,rfl,hb⟩
 exact ⟨_,rfl,⟨g,rfl⟩,hb⟩
attribute [local go_sem] ta_null_9
theorem format_null (w:World) (gv:Nat):Calls Tryz.prog 132 #[.nilIface,.pointer (some ⟨gv,0,none⟩)] w (rb .nilIface w):=by
 have HK:=st0_ w
 go_enter Tryz.func132,Tryz.ntmps132
 go_wp2_with fail
 go_ret
 exact ⟨rfl,be_⟩
attribute [local go_sem] ta_bool_9
theorem format_bool (w:World) (gv:Nat) (b:Bool):Calls Tryz.prog 132 #[.iface 4 (.bool b),.pointer (some ⟨gv,0,none⟩)] w (rb .nilIface w):=by
 have HK:=st0_ w
 go_enter Tryz.func132,Tryz.ntmps132
 go_wp2_with fail
 go_ret
 exact ⟨rfl,be_⟩
attribute [local go_sem] ta_array_9
theorem format_array (w:World) (gv:Nat) (p:Option Addr) (n k:Nat):Calls Tryz.prog 132 #[.iface 117 (.slice p n k),.pointer (some ⟨gv,0,none⟩)] w (rb .nilIface w):=by
 have HK:=st0_ w
 go_enter Tryz.func132,Tryz.ntmps132
 go_wp2_with fail
 go_ret
 exact ⟨rfl,be_⟩
attribute [local go_sem] ta_object_9
theorem format_object (w:World) (gv:Nat) (p:Option Nat):Calls Tryz.prog 132 #[.iface 113 (.map p),.pointer (some ⟨gv,0,none⟩)] w (rb .nilIface w):=by
 have HK:=st0_ w
 go_enter Tryz.func132,Tryz.ntmps132
 go_wp2_with fail
 go_ret
 exact ⟨rfl,be_⟩
attribute [local go_sem] ta_text_9
theorem format_text_true (w:World) (gv gt:Nat) (s:ByteArray) {A:Option Addr} {names:List ByteArray} {c:Nat} (hr:Kd.C Kd.string w A names.length names) (hc:names.length≤c) (hn:names.length≤LM) (hgt:w.heap[gt]? =some (row #[.slice A names.length c] 169)) (hgv:w.heap[gv]? =some (row #[.pointer (some ⟨gt,0,none⟩)] 167)) (hin:s∈names):Calls Tryz.prog 132 #[.iface 9 (.string s),.pointer (some ⟨gv,0,none⟩)] w (rb .nilIface w):=by
 have Hr:=asd_ hr
 have Hc:=asd_ hc
 have Hn:=asd_ hn
 have Hgt:=asd_ hgt
 clear hr hc hn hgt
 have HK:=st0_ w
 have bgv:=cel_ (blk_below hgv HK.out.b)
 go_enter Tryz.func132,Tryz.ntmps132
 go_wp2_with (first|((with_reducible refine gd_ 15 ?_);(try (refine gate_guard (by rfl) ?_;dsimp only));refine cw_ #[.pointer (some ⟨gt,0,none⟩),.string s] Tryz.func133 (bool_iff (match_ok _ gt A names c s (Kd.C_below Hr.out HK.out.b) Hc.out Hn.out (blk_below Hgt.out HK.out.b))) ?_;intro v15 wc15 HK1 hF hB;obtain ⟨rb,rfl,hr2⟩:=hF;have hr3:rb=true:=hr2.2 hin;subst hr3;clear hr2 hB;replace HK:=asd_ HK1;clear HK1;have bgv:=cel_ (blk_below hgv HK.out.b);skip))
 go_ret
 exact ⟨rfl,be_⟩
theorem format_text_false (w:World) (gv gt:Nat) (s:ByteArray) {A:Option Addr} {names:List ByteArray} {c:Nat} (hr:Kd.C Kd.string w A names.length names) (hc:names.length≤c) (hn:names.length≤LM) (hgt:w.heap[gt]? =some (row #[.slice A names.length c] 169)) (hgv:w.heap[gv]? =some (row #[.pointer (some ⟨gt,0,none⟩)] 167)) (hin:s∉names):Calls Tryz.prog 132 #[.iface 9 (.string s),.pointer (some ⟨gv,0,none⟩)] w fun e w'=>∃ g:Nat,e= .returned (.iface 332 (.pointer (some ⟨g,0,none⟩)))∧Below w.heap.size w w':=by
 have Hr:=asd_ hr
 have Hc:=asd_ hc
 have Hn:=asd_ hn
 have Hgt:=asd_ hgt
 clear hr hc hn hgt
 have HK:=st0_ w
 have bgv:=cel_ (blk_below hgv HK.out.b)
 go_enter Tryz.func132,Tryz.ntmps132
 go_wp2_with (first|((with_reducible refine gd_ 15 ?_);(try (refine gate_guard (by rfl) ?_;dsimp only));refine cw_ #[.pointer (some ⟨gt,0,none⟩),.string s] Tryz.func133 (bool_iff (match_ok _ gt A names c s (Kd.C_below Hr.out HK.out.b) Hc.out Hn.out (blk_below Hgt.out HK.out.b))) ?_;intro v15 wc15 HK1 hF hB;obtain ⟨rb,rfl,hr2⟩:=hF;have hr3:rb=false:=(by cases rb with|false=>rfl|true=>exact absurd (hr2.1 rfl) hin);subst hr3;clear hr2 hB;replace HK:=asd_ HK1;clear HK1;have bgv:=cel_ (blk_below hgv HK.out.b);skip)|((with_reducible refine gd_ 18 ?_);refine cw_ #[.string ⟨#[102,111,114,109,97,116]⟩] Tryz.func134 (new_form (errors_new _ _)) ?_;intro v18 wc18 HK1 hF hB;obtain ⟨ge,rfl⟩:=hF;clear hB;replace HK:=asd_ HK1;clear HK1;have bgv:=cel_ (blk_below hgv HK.out.b);skip))
 go_ret
 exact ⟨_,rfl,be_⟩
end
end Go.Proofs.YtkphbhncpdcbeaaGreatDoor.J
