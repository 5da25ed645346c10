/- Part. -/
import Derived.Test.YtkphbhncpdcbeaaGreatDoorQBE
set_option linter.unusedVariables false
set_option linter.unusedSimpArgs false
set_option maxHeartbeats 8000000
set_option maxRecDepth 100000
namespace Go.Proofs.YtkphbhncpdcbeaaGreatDoor.J
open Go.RowKit YtkphbhncpdcbeaaGreatDoorW.PrintWords YtkphbhncpdcbeaaGreatDoorW.PrintLast YtkphbhncpdcbeaaGreatDoorW.PrintMore PJT
theorem set_false (w w0:World) (l:List Blk) (gs:Nat) (lv:Value) (own d:Int) (H:At w0 (.b gs (row (Sc.cells ⟨0,⟨#[]⟩,nP,nP,nP,nP,nilS,nM,nM,nM,nM,nM,.nilIface⟩) 119)::l) w) (hgs:w0.heap.size≤gs):
  Calls Tryz.prog 49 #[lv,.pointer (some ⟨gs,0,none⟩),.agg (Nd.cells ⟨2,false,nilS,nilS,false,nilS,false,nilS,nilS,nilS⟩),.int .i64 own,.int .i64 d] w fun e w'=>e= .returned (.tuple #[])∧∃ gb,At w0 (.b gb (row (#[bF]) 4):: .b gs (row (Sc.cells ⟨d,⟨#[]⟩,(.pointer (some ⟨gb,0,none⟩)),nP,nP,nP,nilS,nM,nM,nM,nM,nM,.nilIface⟩) 119)::l) w':=by
 have Ggs:=asd_ hgs
 have HK:=asd_ H
 clear H
 replace Bc:=ce1_ HK 0;replace Bf:=fe1_ HK 0
 go_enter Tryz.func49,Tryz.ntmps49
 go_wp2_with (first|((with_reducible refine gd_ 7 ?_);refine bx_ (Nd.cells ⟨2,false,nilS,nilS,false,nilS,false,nilS,nilS,nilS⟩) 45 ?_;clear HK;intro g7 wb7 HK Gg7;replace Bc:=ce2_ HK 1 0;replace Bf:=fe1_ HK 1)|((with_reducible refine gd_ 10 ?_);refine bx_ #[bF] 4 ?_;clear HK;intro gb wb10 HK Ggb;replace Bc:=ce3_ HK 2 1 0;replace Bf:=fe2_ HK 2 0)|((with_reducible refine gate_ (.store 3 (.tmp 22) (.tmp 20)) rfl ?_);refine store_at (t:=3) (p:=22) (g:=gs) (i:=3) (v:= .int .i64 d) 1 (Sc.cells ⟨d,⟨#[]⟩,nP,nP,nP,nP,nilS,nM,nM,nM,nM,nM,.nilIface⟩) rfl at_ rfl Ggs.out rfl rfl rfl rfl gs_ ?_;intro ws1 HK1;replace HK:=asd_ HK1;clear HK1;replace Bc:=ce2_ HK 1 0;replace Bf:=fe1_ HK 1)|((first|((with_reducible refine gate_ (.store 4 (.tmp 10) (.tmp 33)) rfl ?_);refine store_at (t:=4) (p:=10) (g:=gb) (i:=0) (v:=bF) 0 (#[bF]) rfl at_ rfl Ggb.out rfl rfl rfl rfl gs_ ?_)|((with_reducible refine gate_ (.store 105 (.tmp 36) (.tmp 10)) rfl ?_);refine store_at (t:=105) (p:=36) (g:=gs) (i:=5) (v:= .pointer (some ⟨gb,0,none⟩)) 2 (Sc.cells ⟨d,⟨#[]⟩,(.pointer (some ⟨gb,0,none⟩)),nP,nP,nP,nilS,nM,nM,nM,nM,nM,.nilIface⟩) rfl at_ rfl Ggs.out rfl rfl rfl rfl gs_ ?_));intro ws2 HK1;replace HK:=asd_ HK1;clear HK1;replace Bc:=ce3_ HK 2 1 0;replace Bf:=fe2_ HK 2 0))
 ((try simp only [Exit.inBlock,Exit.then]);refine bodyPost_ret (results_none rfl _ _ _) rfl ?_)
 exact ⟨rfl,gb,((At.front 1 HK.out rfl).drop)⟩
theorem compiled_false (w:World) (gn cS:Nat) (hn1:(Nd.cells ⟨2,false,nilS,nilS,false,nilS,false,nilS,nilS,nilS⟩).all (·.oneCell')=true) (hS:w.heap[gn]? =some (row (Nd.cells ⟨2,false,nilS,nilS,false,nilS,false,nilS,nilS,nilS⟩) 45)):
  Calls Tryz.prog 27 #[.slice (some ⟨gn,0,none⟩) 1 cS,.int .i64 2020] w fun e w'=>∃ gs gb,e= .returned (.pointer (some ⟨gs,0,none⟩))∧w'.heap[gs]? =some (row (Sc.cells ⟨2020,⟨#[49]⟩,(.pointer (some ⟨gb,0,none⟩)),nP,nP,nP,nilS,nM,nM,nM,nM,nM,.nilIface⟩) 119)∧w'.heap[gb]? =some (row #[bF] 4)∧Below w.heap.size w w':=by
 have HK:Aside0 (At w [.b gn (row (Nd.cells ⟨2,false,nilS,nilS,false,nilS,false,nilS,nilS,nilS⟩) 45)] w):=asd_ (At.hold (At.start w) hS (by simp [nums]))
 replace Bc:=ce1_ HK 0
 go_enter Tryz.func27,Tryz.ntmps27
 go_wp2_with fail
 refine wp_loop_two ?_
 go_wp2_with (first|((with_reducible refine gd_ 13 ?_);refine wpList_buildTo rfl 119 #[] rfl (some 13) rfl (Sc.cells ⟨0,⟨#[]⟩,nP,nP,nP,nP,nilS,nM,nM,nM,nM,nM,.nilIface⟩) kr_ ?_)|((with_reducible refine gd_ 14 ?_);refine bx_ (Sc.cells ⟨0,⟨#[]⟩,nP,nP,nP,nP,nilS,nM,nM,nM,nM,nM,.nilIface⟩) 119 ?_;clear HK;intro gs wb14 HK Ggs;replace Bc:=ce2_ HK 1 0)|((with_reducible refine gd_ 15 ?_);refine new_at at_ rfl (N:=15) rfl (ob:=row #[.pointer (some ⟨gs,0,none⟩)] 74) (v:=(fun b=> .slice (some ⟨b,0,none⟩) 1 1)) (by exact lit1_run Tryz.underlying104 info74 rfl rfl rfl rfl) ?_;intro g15 wb15 HK1 hgg15;have Gg15:=asd_ hgg15;clear hgg15;replace HK:=asd_ HK1;clear HK1;replace Bc:=ce2_ HK 2 1;replace Bf:=fe1_ HK 1)|((with_reducible refine gate_builtin (b:= .append) (xs:=#[.tmp 12,.tmp 15]) rfl ?_);at_builtin;refine append1n_at (hE:=E74) (p:=some ⟨gs,0,none⟩) (g:=g15) (t:=104) (s:= .tmp 12) (x:= .tmp 15) (At.front 0 HK.out rfl) rfl rfl Tryz.underlying104 info74 rfl (by decide) rfl rfl (by decide) ?_;intro A16 c16 wa16 HK0;obtain ⟨adl,e1,_⟩:=ptr_of HK0.k.1;subst e1;have HK1:=HK0;clear HK0;replace HK:=asd_ HK1;clear HK1;replace Bc:=ce2_ HK 2 1;replace Bf:=fe1_ HK 1))
 refine wp_loop_two ?_
 go_wp2_with (first|((with_reducible refine gd_ 24 ?_);refine lo_ 45 23 gn (Nd.cells ⟨2,false,nilS,nilS,false,nilS,false,nilS,nilS,nilS⟩) HK.out.k.2.2.1 Tryz.underlying45 ?_)|((with_reducible refine gd_ 7 ?_);refine bx_ (ndZ nilS nilS) 45 ?_;clear HK;intro g7 wb7 HK Gg7;replace Bc:=ce3_ HK 3 2 0;replace Bf:=fe1_ HK 2)|((with_reducible refine gate_ (.store 45 (.tmp 7) (.tmp 24)) rfl ?_);refine storerow_at (cs:=ndZ nilS nilS) (g:=g7) 0 (Nd.cells ⟨2,false,nilS,nilS,false,nilS,false,nilS,nilS,nilS⟩) at_ rfl Gg7.out rfl rfl rfl rfl rfl rfl kr_ rfl (hn1) ?_;intro wr1 HK1;replace HK:=asd_ HK1;clear HK1;replace Bc:=ce3_ HK 3 2 0;replace Bf:=fe1_ HK 2))
 refine st_ 10 (fun w'=>At w [.b g7 (row (Nd.cells ⟨2,false,nilS,nilS,false,nilS,false,nilS,nilS,nilS⟩) 45),.f (Fact.rows kPtr 74 w.heap.size E74 (.slice (some adl) 1 c16) [some ⟨gs,0,none⟩]),.b gs (row (Sc.cells ⟨0,⟨#[]⟩,nP,nP,nP,nP,nilS,nM,nM,nM,nM,nM,.nilIface⟩) 119),.b gn (row (Nd.cells ⟨2,false,nilS,nilS,false,nilS,false,nilS,nilS,nilS⟩) 45)] w'∧(∀ j,w'.cell? ⟨gn,j,none⟩=(Nd.cells ⟨2,false,nilS,nilS,false,nilS,false,nilS,nilS,nilS⟩:Array Value)[j]?)∧(∀ j,w'.cell? ⟨gs,j,none⟩=(Sc.cells ⟨0,⟨#[]⟩,nP,nP,nP,nP,nilS,nM,nM,nM,nM,nM,.nilIface⟩:Array Value)[j]?)∧(∀ j,w'.cell? ⟨g7,j,none⟩=(Nd.cells ⟨2,false,nilS,nilS,false,nilS,false,nilS,nilS,nilS⟩:Array Value)[j]?)∧w'.cell? adl=some (.pointer (some ⟨gs,0,none⟩))) [9] (fun A=>⟨A,(cA_ A 3),(cA_ A 2),(cA_ A 0),(ptr_at A.k.2.1)⟩) (fun hHeld=> ?_)
 refine pu_ 0 25 1 ?_
 refine pu_ 1 26 3 ?_
 refine pu_ 2 27 7 ?_
 refine pu_ 3 28 15 ?_
 refine pu_ 6 31 79 ?_
 refine pu_ 7 32 207 ?_
 refine pu_ 8 33 463 ?_
 refine ta5_ 4 29 479 hHeld ?_
 refine on_ 5 30 511 (fun K hK=> ?_)
 refine loadr_ (ty:=45) (x:= .tmp 7) g7 (Nd.cells ⟨2,false,nilS,nilS,false,nilS,false,nilS,nilS,nilS⟩) (by rfl) rfl rfl rfl hHeld.1.k.1 Tryz.underlying45 rfl kr_ ?_
 refine hK.out _ _ ⟨hHeld.1,hHeld.2.1,hHeld.2.2.1,hHeld.2.2.2.1,hHeld.2.2.2.2⟩ (fun hHeld=> ?_)
 clear hK K
 refine nq_ 30 ?_
 refine la_ 9 34 1023 (fun K hK=> ?_)
 have HE:=asd_ (hHeld.1)
 refine ge_ Tryz.func49 #[.slice (some adl) 1 c16,.pointer (some ⟨gs,0,none⟩),.agg (Nd.cells ⟨2,false,nilS,nilS,false,nilS,false,nilS,nilS,nilS⟩),.int .i64 (wrap64 (0 + 1)),.int .i64 2020] ?_
 with_reducible refine (set_false _ w _ gs (.slice (some adl) 1 c16) (wrap64 (0 + 1)) 2020 (At.front 2 HE.out rfl) Ggs.out).mono ?_
 rintro e w3 ⟨rfl,gb,HE0⟩
 refine ⟨_,rfl,?_⟩
 replace HE:=asd_ HE0;clear HE0
 refine hK.out _ _ ?_
 clear hK K
 refine nq_ 34 ?_
 refine done_ kr_ ?_
 clear HK;have HK:=HE;clear HE
 clear hHeld
 replace Bc:=ce3_ HK 4 2 1
 replace Bf:=fe1_ HK 1
 go_wp2_with fail
 refine st_ 10 (fun w'=>At w [.b gb (row #[bF] 4),.b gs (row (Sc.cells ⟨2020,⟨#[]⟩,(.pointer (some ⟨gb,0,none⟩)),nP,nP,nP,nilS,nM,nM,nM,nM,nM,.nilIface⟩) 119),.b g7 (row (Nd.cells ⟨2,false,nilS,nilS,false,nilS,false,nilS,nilS,nilS⟩) 45),.f (Fact.rows kPtr 74 w.heap.size E74 (.slice (some adl) 1 c16) [some ⟨gs,0,none⟩]),.b gn (row (Nd.cells ⟨2,false,nilS,nilS,false,nilS,false,nilS,nilS,nilS⟩) 45)] w'∧(∀ j,w'.cell? ⟨gn,j,none⟩=(Nd.cells ⟨2,false,nilS,nilS,false,nilS,false,nilS,nilS,nilS⟩:Array Value)[j]?)∧(∀ j,w'.cell? ⟨g7,j,none⟩=(Nd.cells ⟨2,false,nilS,nilS,false,nilS,false,nilS,nilS,nilS⟩:Array Value)[j]?)∧(∀ j,w'.cell? ⟨gs,j,none⟩=(Sc.cells ⟨2020,⟨#[]⟩,(.pointer (some ⟨gb,0,none⟩)),nP,nP,nP,nilS,nM,nM,nM,nM,nM,.nilIface⟩:Array Value)[j]?)∧w'.cell? adl=some (.pointer (some ⟨gs,0,none⟩))) [9] (fun A=>⟨A,(cA_ A 4),(cA_ A 2),(cA_ A 1),(ptr_at A.k.2.2.2.1)⟩) (fun hHeld=> ?_)
 refine pu_ 0 35 1 ?_
 refine pu_ 1 36 3 ?_
 refine pu_ 2 37 7 ?_
 refine pu_ 4 39 23 ?_
 refine pu_ 5 40 55 ?_
 refine ta5_ 3 38 63 hHeld ?_
 refine on_ 6 41 127 (fun K hK=> ?_)
 have HE:=asd_ (hHeld.1)
 refine ge_ Tryz.func50 #[.int .i64 (wrap64 (0 + 1))] ?_
 with_reducible refine (itoa_w _).mono ?_
 rintro e w3 ⟨rfl,hb⟩
 refine ⟨_,rfl,?_⟩
 replace HE:=asd_ (At.step HE.out hb)
 refine hK.out _ _ ⟨HE.out,(cE_ HE 4),(cE_ HE 2),(cE_ HE 1),(ptr_at HE.out.k.2.2.2.1)⟩ (fun hHeld=> ?_)
 clear hK K
 refine nq_ 41 ?_
 refine pu_ 7 42 255 ?_
 refine pu_ 8 43 511 ?_
 refine lz_ 9 1023 (fun K hK=> ?_)
 have fgs_:=fE_ HE 1
 have cgs_:=cE_ HE 1
 refine sk_ ?_
 replace HE:=asd_ (At.store_to (i:=4) (v:= .string ⟨#[49]⟩) 1 (Sc.cells ⟨2020,⟨#[49]⟩,(.pointer (some ⟨gb,0,none⟩)),nP,nP,nP,nilS,nM,nM,nM,nM,nM,.nilIface⟩) HE.out rfl Ggs.out rfl rfl)
 clear fgs_ cgs_
 refine hK.out _ _ ?_
 clear hK K
 refine done_ kr_ ?_
 clear HK;have HK:=HE;clear HE
 clear hHeld
 replace Bc:=ce3_ HK 4 2 1
 replace Bf:=fe1_ HK 1
 have hq1:=ptr_at HK.out.k.2.2.2.1
 go_wp2_with (first|((with_reducible refine gd_ 48 ?_);refine call_to #[.pointer (some ⟨gs,0,none⟩)] (.tuple #[]) _ rfl Tryz.func51 kr_ rfl rfl ar_ (evaluated_ok _ w _ gs ⟨2020,⟨#[49]⟩,(.pointer (some ⟨gb,0,none⟩)),nP,nP,nP,nilS,nM,nM,nM,nM,nM,.nilIface⟩ (At.front 1 HK.out rfl) Ggs.out) ?_;rintro wc48 HK1;replace HK:=asd_ HK1;clear HK1;clear hq1;replace Bc:=ce3_ HK 4 2 0;replace Bf:=fe1_ HK 0)|((with_reducible refine gd_ 51 ?_);refine cl_ #[.slice (some adl) 1 c16,.int .i64 1,i0] (.pointer (some ⟨gs,0,none⟩)) Tryz.func52 (at_one _ adl c16 _ (ptr_at HK.out.k.2.2.2.1)) ?_;intro wc51 HK1;replace HK:=asd_ HK1;clear HK1;replace Bc:=ce3_ HK 4 2 0;replace Bf:=fe1_ HK 0))
 go_ret
 exact ⟨gs,rfl,gb,HK.out.k.1,HK.out.k.2.1,HK.out.b⟩
end Go.Proofs.YtkphbhncpdcbeaaGreatDoor.J
