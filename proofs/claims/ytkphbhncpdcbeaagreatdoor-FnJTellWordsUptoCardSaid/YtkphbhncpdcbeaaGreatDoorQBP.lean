/- Part. -/
import Derived.Test.YtkphbhncpdcbeaaGreatDoorQBO
set_option linter.unusedVariables false
set_option linter.unusedSimpArgs false
set_option maxHeartbeats 8000000
set_option maxRecDepth 100000
namespace Go.Proofs.YtkphbhncpdcbeaaGreatDoor.J
open Go.RowKit YtkphbhncpdcbeaaGreatDoorW.PrintWords YtkphbhncpdcbeaaGreatDoorW.PrintLast YtkphbhncpdcbeaaGreatDoorW.PrintMore PJT
theorem kr_enum (w:World) (gn cS:Nat) (x:S25) (A4 A5:Option Addr) (c4 c5:Nat) (AE:Option Addr) (l0:List S25) (cE:Nat) (hS:w.heap[gn]? =some (row (ndE AE l0 cE) 45)) (loc tx:ByteArray) (Ap Aa An Ak:Option Addr) (np cp ca cn ck:Nat) (names:List ByteArray) (h3:x.f3.size≤LM) (hJ:∀ W,Below w.heap.size w W→Calls Tryz.prog 60 #[.agg (jvc x A4 A5 c4 c5),.slice AE l0.length cE] W (rb (.bool false) W)):Calls Tryz.prog 43 #[.int .i64 2020,.agg #[.slice (some ⟨gn,0,none⟩) 1 cS,nilS],.int .i64 1,.agg (jvc x A4 A5 c4 c5),.agg #[.string loc,.string ⟨#[69,110,117,109]⟩,.slice Ap np cp,.slice Aa 0 ca,.string tx,.slice An names.length cn,nilS,nilS]] w (rb (.bool true) w):=by
 have hn1:(ndE AE l0 cE).all (·.oneCell')=true:=by first|kernel_rfl|simp [Nd.cells,Value.oneCell']
 obtain ⟨ru,HR⟩:=runes_ok x.f3 h3
 have HJ:=asd_ hJ
 clear hJ
 have HK:Aside0 (At w [.b gn (row (ndE AE l0 cE) 45)] w):=asd_ (At.hold (At.start w) hS (by simp [nums]))
 replace Bc:=ce1_ HK 0
 go_enter Tryz.func43,Tryz.ntmps43
 go_wp2_with (first|((with_reducible refine gd_ 6 ?_);refine bx_ #[.slice (some ⟨gn,0,none⟩) 1 cS,nilS] 68 ?_;clear HK;intro g6 wb6 HK Gg6;replace Bc:=ce2_ HK 1 0)|((with_reducible refine gd_ 8 ?_);refine bx_ (jvc x A4 A5 c4 c5) 25 ?_;clear HK;intro g8 wb8 HK Gg8;replace Bc:=ce3_ HK 2 1 0)|((with_reducible refine gd_ 9 ?_);refine bx_ (#[.string loc,.string ⟨#[69,110,117,109]⟩,.slice Ap np cp,.slice Aa 0 ca,.string tx,.slice An names.length cn,nilS,nilS]) 54 ?_;clear HK;intro g9 wb9 HK Gg9;replace Bc:=ce4_ HK 3 2 1 0)|((with_reducible refine gd_ 17 ?_);refine lo_ 45 16 gn (ndE AE l0 cE) HK.out.k.2.2.2.1 Tryz.underlying45 ?_)|((with_reducible refine gd_ 11 ?_);refine bx_ (ndZ nilS nilS) 45 ?_;clear HK;intro g11 wb11 HK Gg11;replace Bc:=ce5_ HK 4 3 2 1 0)|((with_reducible refine gate_ (.store 45 (.tmp 11) (.tmp 17)) rfl ?_);refine storerow_at (cs:=ndZ nilS nilS) (g:=g11) 0 (ndE AE l0 cE) at_ rfl Gg11.out rfl rfl rfl rfl rfl rfl kr_ rfl (hn1) ?_;intro wsr HK1;replace HK:=asd_ HK1;clear HK1;replace Bc:=ce5_ HK 4 3 2 1 0))
 refine su5_ 35 HK 4 3 2 1 0 [] (fun HS hHeld=> ?_)
 refine pu_ 0 42 1 ?_
 refine tq_ 1 43 3 rfl hHeld (by rintro w' ⟨s0,s1,s2,s3,s4,s5⟩;exact rr_ 6 g6 (#[.slice (some ⟨gn,0,none⟩) 1 cS,nilS]) s0.k.2.2.2.1 Tryz.underlying68) ?_
 refine tq_ 2 44 7 rfl hHeld (by rintro w' ⟨s0,s1,s2,s3,s4,s5⟩;exact rr_ 11 g11 (ndE AE l0 cE) s0.k.1 Tryz.underlying45) ?_
 refine tq_ 3 45 15 rfl hHeld (by rintro w' ⟨s0,s1,s2,s3,s4,s5⟩;exact rr_ 8 g8 (jvc x A4 A5 c4 c5) s0.k.2.2.1 Tryz.underlying25) ?_
 refine tq_ 4 46 31 rfl hHeld (by rintro w' ⟨s0,s1,s2,s3,s4,s5⟩;exact rr_ 9 g9 (#[.string loc,.string ⟨#[69,110,117,109]⟩,.slice Ap np cp,.slice Aa 0 ca,.string tx,.slice An names.length cn,nilS,nilS]) s0.k.2.1 Tryz.underlying54) ?_
 refine on_ 5 47 63 (fun K hK=> ?_)
 have HE:=asd_ (hHeld.1)
 refine ge_ Tryz.func80 #[.int .i64 2020,.agg #[.slice (some ⟨gn,0,none⟩) 1 cS,nilS],.agg (ndE AE l0 cE),.agg (jvc x A4 A5 c4 c5),.agg #[.string loc,.string ⟨#[69,110,117,109]⟩,.slice Ap np cp,.slice Aa 0 ca,.string tx,.slice An names.length cn,nilS,nilS]] ?_
 with_reducible refine (ipr_enum _ (.slice (some ⟨gn,0,none⟩) 1 cS) ⟨0,true,.slice AE l0.length cE,nilS,false,nilS,false,nilS,nilS,nilS⟩ x A4 A5 c4 c5 loc tx Ap Aa An Ak np cp ca cn ck names).mono ?_
 rintro e w3 ⟨rfl,hb⟩
 refine ⟨_,rfl,?_⟩
 replace HE:=asd_ (At.step HE.out hb)
 refine hK.out _ _ ⟨HE.out,(cE_ HE 4),(cE_ HE 3),(cE_ HE 2),(cE_ HE 1),(cE_ HE 0)⟩ (fun hHeld=> ?_)
 clear hK K
 refine nq_ 47 ?_
 refine pu_ 6 48 127 ?_
 refine tq_ 7 49 255 rfl hHeld (by rintro w' ⟨s0,s1,s2,s3,s4,s5⟩;exact rr_ 11 g11 (ndE AE l0 cE) s0.k.1 Tryz.underlying45) ?_
 refine tq_ 8 50 511 rfl hHeld (by rintro w' ⟨s0,s1,s2,s3,s4,s5⟩;exact rr_ 8 g8 (jvc x A4 A5 c4 c5) s0.k.2.2.1 Tryz.underlying25) ?_
 refine tq_ 9 51 1023 rfl hHeld (by rintro w' ⟨s0,s1,s2,s3,s4,s5⟩;exact rr_ 9 g9 (#[.string loc,.string ⟨#[69,110,117,109]⟩,.slice Ap np cp,.slice Aa 0 ca,.string tx,.slice An names.length cn,nilS,nilS]) s0.k.2.1 Tryz.underlying54) ?_
 refine on_ 10 52 2047 (fun K hK=> ?_)
 refine ge_ Tryz.func81 #[.agg (ndE AE l0 cE),.agg (jvc x A4 A5 c4 c5),.agg #[.string loc,.string ⟨#[69,110,117,109]⟩,.slice Ap np cp,.slice Aa 0 ca,.string tx,.slice An names.length cn,nilS,nilS]] ?_
 with_reducible refine (vr_enum _ AE l0 cE x A4 A5 c4 c5 loc tx Ap Aa An Ak np cp ca cn ck names ru HR (fun W h=>HJ.out W (below_step HE.out.b h))).mono ?_
 rintro e w3 ⟨rfl,hb⟩
 refine ⟨_,rfl,?_⟩
 replace HE:=asd_ (At.step HE.out hb)
 refine hK.out _ _ ⟨HE.out,(cE_ HE 4),(cE_ HE 3),(cE_ HE 2),(cE_ HE 1),(cE_ HE 0)⟩ (fun hHeld=> ?_)
 clear hK K
 refine nq_ 52 ?_
 refine pu_ 11 53 4095 ?_
 refine pu_ 12 54 8191 ?_
 refine pn_ 13 55 16383 ?_
 refine pn_ 14 56 32767 ?_
 refine pn_ 15 57 65535 ?_
 refine pn_ 16 58 131071 ?_
 refine pn_ 17 59 262143 ?_
 refine pn_ 18 60 524287 ?_
 refine pu_ 19 61 1048575 ?_
 refine pu_ 20 62 2097151 ?_
 refine pn_ 21 63 4194303 ?_
 refine pn_ 22 64 8388607 ?_
 refine pn_ 23 65 16777215 ?_
 refine pn_ 24 66 33554431 ?_
 refine pn_ 25 67 67108863 ?_
 refine pn_ 26 68 134217727 ?_
 refine pu_ 27 69 268435455 ?_
 refine pu_ 28 70 536870911 ?_
 refine pn_ 29 71 1073741823 ?_
 refine pn_ 30 72 2147483647 ?_
 refine pn_ 31 73 4294967295 ?_
 refine pn_ 32 74 8589934591 ?_
 refine pu_ 33 75 17179869183 ?_
 refine pu_ 34 10 34359738367 ?_
 refine done_ kr_ ?_
 clear HK;have HK:=HE;clear HE
 clear hHeld
 replace Bc:=ce5_ HK 4 3 2 1 0
 go_wp2_with fail
 go_ret
 exact ⟨by first|rfl|simp,be_⟩
theorem kr_const (w:World) (gn cS:Nat) (x:S25) (A4 A5:Option Addr) (c4 c5:Nat) (gq cq:Nat) (c:S25) (B4 B5:Option Addr) (d4 d5:Nat) (hS:w.heap[gn]? =some (row (ndC gq cq) 45)) (loc tx:ByteArray) (Ap Aa An Ak:Option Addr) (np cp ca cn ck:Nat) (names:List ByteArray) (h3:x.f3.size≤LM) (hq:w.heap[gq]? =some (row (jvc c B4 B5 d4 d5) 25)) (hJ:∀ W,Below w.heap.size w W→Calls Tryz.prog 61 #[.agg (jvc x A4 A5 c4 c5),.agg (jvc c B4 B5 d4 d5)] W (rb (.bool false) W)):Calls Tryz.prog 43 #[.int .i64 2020,.agg #[.slice (some ⟨gn,0,none⟩) 1 cS,nilS],.int .i64 1,.agg (jvc x A4 A5 c4 c5),.agg #[.string loc,.string ⟨#[67,111,110,115,116]⟩,.slice Ap np cp,.slice Aa 0 ca,.string tx,.slice An names.length cn,nilS,nilS]] w (rb (.bool true) w):=by
 have hn1:(ndC gq cq).all (·.oneCell')=true:=by first|kernel_rfl|simp [Nd.cells,Value.oneCell']
 obtain ⟨ru,HR⟩:=runes_ok x.f3 h3
 have HJ:=asd_ hJ
 clear hJ
 have Hq:=asd_ hq
 clear hq
 have HK:Aside0 (At w [.b gn (row (ndC gq cq) 45)] w):=asd_ (At.hold (At.start w) hS (by simp [nums]))
 replace Bc:=ce1_ HK 0
 go_enter Tryz.func43,Tryz.ntmps43
 go_wp2_with (first|((with_reducible refine gd_ 6 ?_);refine bx_ #[.slice (some ⟨gn,0,none⟩) 1 cS,nilS] 68 ?_;clear HK;intro g6 wb6 HK Gg6;replace Bc:=ce2_ HK 1 0)|((with_reducible refine gd_ 8 ?_);refine bx_ (jvc x A4 A5 c4 c5) 25 ?_;clear HK;intro g8 wb8 HK Gg8;replace Bc:=ce3_ HK 2 1 0)|((with_reducible refine gd_ 9 ?_);refine bx_ (#[.string loc,.string ⟨#[67,111,110,115,116]⟩,.slice Ap np cp,.slice Aa 0 ca,.string tx,.slice An names.length cn,nilS,nilS]) 54 ?_;clear HK;intro g9 wb9 HK Gg9;replace Bc:=ce4_ HK 3 2 1 0)|((with_reducible refine gd_ 17 ?_);refine lo_ 45 16 gn (ndC gq cq) HK.out.k.2.2.2.1 Tryz.underlying45 ?_)|((with_reducible refine gd_ 11 ?_);refine bx_ (ndZ nilS nilS) 45 ?_;clear HK;intro g11 wb11 HK Gg11;replace Bc:=ce5_ HK 4 3 2 1 0)|((with_reducible refine gate_ (.store 45 (.tmp 11) (.tmp 17)) rfl ?_);refine storerow_at (cs:=ndZ nilS nilS) (g:=g11) 0 (ndC gq cq) at_ rfl Gg11.out rfl rfl rfl rfl rfl rfl kr_ rfl (hn1) ?_;intro wsr HK1;replace HK:=asd_ HK1;clear HK1;replace Bc:=ce5_ HK 4 3 2 1 0))
 refine su5_ 35 HK 4 3 2 1 0 [] (fun HS hHeld=> ?_)
 refine pu_ 0 42 1 ?_
 refine tq_ 1 43 3 rfl hHeld (by rintro w' ⟨s0,s1,s2,s3,s4,s5⟩;exact rr_ 6 g6 (#[.slice (some ⟨gn,0,none⟩) 1 cS,nilS]) s0.k.2.2.2.1 Tryz.underlying68) ?_
 refine tq_ 2 44 7 rfl hHeld (by rintro w' ⟨s0,s1,s2,s3,s4,s5⟩;exact rr_ 11 g11 (ndC gq cq) s0.k.1 Tryz.underlying45) ?_
 refine tq_ 3 45 15 rfl hHeld (by rintro w' ⟨s0,s1,s2,s3,s4,s5⟩;exact rr_ 8 g8 (jvc x A4 A5 c4 c5) s0.k.2.2.1 Tryz.underlying25) ?_
 refine tq_ 4 46 31 rfl hHeld (by rintro w' ⟨s0,s1,s2,s3,s4,s5⟩;exact rr_ 9 g9 (#[.string loc,.string ⟨#[67,111,110,115,116]⟩,.slice Ap np cp,.slice Aa 0 ca,.string tx,.slice An names.length cn,nilS,nilS]) s0.k.2.1 Tryz.underlying54) ?_
 refine on_ 5 47 63 (fun K hK=> ?_)
 have HE:=asd_ (hHeld.1)
 refine ge_ Tryz.func80 #[.int .i64 2020,.agg #[.slice (some ⟨gn,0,none⟩) 1 cS,nilS],.agg (ndC gq cq),.agg (jvc x A4 A5 c4 c5),.agg #[.string loc,.string ⟨#[67,111,110,115,116]⟩,.slice Ap np cp,.slice Aa 0 ca,.string tx,.slice An names.length cn,nilS,nilS]] ?_
 with_reducible refine (ipr_const _ (.slice (some ⟨gn,0,none⟩) 1 cS) ⟨0,false,nilS,.slice (some ⟨gq,0,none⟩) 1 cq,false,nilS,false,nilS,nilS,nilS⟩ x A4 A5 c4 c5 loc tx Ap Aa An Ak np cp ca cn ck names).mono ?_
 rintro e w3 ⟨rfl,hb⟩
 refine ⟨_,rfl,?_⟩
 replace HE:=asd_ (At.step HE.out hb)
 refine hK.out _ _ ⟨HE.out,(cE_ HE 4),(cE_ HE 3),(cE_ HE 2),(cE_ HE 1),(cE_ HE 0)⟩ (fun hHeld=> ?_)
 clear hK K
 refine nq_ 47 ?_
 refine pu_ 6 48 127 ?_
 refine tq_ 7 49 255 rfl hHeld (by rintro w' ⟨s0,s1,s2,s3,s4,s5⟩;exact rr_ 11 g11 (ndC gq cq) s0.k.1 Tryz.underlying45) ?_
 refine tq_ 8 50 511 rfl hHeld (by rintro w' ⟨s0,s1,s2,s3,s4,s5⟩;exact rr_ 8 g8 (jvc x A4 A5 c4 c5) s0.k.2.2.1 Tryz.underlying25) ?_
 refine tq_ 9 51 1023 rfl hHeld (by rintro w' ⟨s0,s1,s2,s3,s4,s5⟩;exact rr_ 9 g9 (#[.string loc,.string ⟨#[67,111,110,115,116]⟩,.slice Ap np cp,.slice Aa 0 ca,.string tx,.slice An names.length cn,nilS,nilS]) s0.k.2.1 Tryz.underlying54) ?_
 refine on_ 10 52 2047 (fun K hK=> ?_)
 refine ge_ Tryz.func81 #[.agg (ndC gq cq),.agg (jvc x A4 A5 c4 c5),.agg #[.string loc,.string ⟨#[67,111,110,115,116]⟩,.slice Ap np cp,.slice Aa 0 ca,.string tx,.slice An names.length cn,nilS,nilS]] ?_
 with_reducible refine (vr_const _ gq cq c B4 B5 d4 d5 x A4 A5 c4 c5 loc tx Ap Aa An Ak np cp ca cn ck names ru HR (blk_below Hq.out HE.out.b) (fun W h=>HJ.out W (below_step HE.out.b h))).mono ?_
 rintro e w3 ⟨rfl,hb⟩
 refine ⟨_,rfl,?_⟩
 replace HE:=asd_ (At.step HE.out hb)
 refine hK.out _ _ ⟨HE.out,(cE_ HE 4),(cE_ HE 3),(cE_ HE 2),(cE_ HE 1),(cE_ HE 0)⟩ (fun hHeld=> ?_)
 clear hK K
 refine nq_ 52 ?_
 refine pu_ 11 53 4095 ?_
 refine pu_ 12 54 8191 ?_
 refine pn_ 13 55 16383 ?_
 refine pn_ 14 56 32767 ?_
 refine pn_ 15 57 65535 ?_
 refine pn_ 16 58 131071 ?_
 refine pn_ 17 59 262143 ?_
 refine pn_ 18 60 524287 ?_
 refine pu_ 19 61 1048575 ?_
 refine pu_ 20 62 2097151 ?_
 refine pn_ 21 63 4194303 ?_
 refine pn_ 22 64 8388607 ?_
 refine pn_ 23 65 16777215 ?_
 refine pn_ 24 66 33554431 ?_
 refine pn_ 25 67 67108863 ?_
 refine pn_ 26 68 134217727 ?_
 refine pu_ 27 69 268435455 ?_
 refine pu_ 28 70 536870911 ?_
 refine pn_ 29 71 1073741823 ?_
 refine pn_ 30 72 2147483647 ?_
 refine pn_ 31 73 4294967295 ?_
 refine pn_ 32 74 8589934591 ?_
 refine pu_ 33 75 17179869183 ?_
 refine pu_ 34 10 34359738367 ?_
 refine done_ kr_ ?_
 clear HK;have HK:=HE;clear HE
 clear hHeld
 replace Bc:=ce5_ HK 4 3 2 1 0
 go_wp2_with fail
 go_ret
 exact ⟨by first|rfl|simp,be_⟩
theorem kr_pattern (w:World) (gn cS:Nat) (x:S25) (A4 A5:Option Addr) (c4 c5:Nat) (A:Option Addr) (wanted:List ByteArray) (c:Nat) (hS:w.heap[gn]? =some (row (ndP true A wanted c) 45)) (loc tx:ByteArray) (Ap Aa An Ak:Option Addr) (np cp ca cn ck:Nat) (names:List ByteArray) (h3:x.f3.size≤LM) (k3:(x.f0 == 3)=true) (hJ:∀ W,Below w.heap.size w W→Calls Tryz.prog 37 #[.string x.f3,.agg #[.bool true,.slice A wanted.length c]] W (rb (.bool false) W)):Calls Tryz.prog 43 #[.int .i64 2020,.agg #[.slice (some ⟨gn,0,none⟩) 1 cS,nilS],.int .i64 1,.agg (jvc x A4 A5 c4 c5),.agg #[.string loc,.string ⟨#[80,97,116,116,101,114,110]⟩,.slice Ap np cp,.slice Aa 0 ca,.string tx,.slice An names.length cn,nilS,nilS]] w (rb (.bool true) w):=by
 have hn1:(ndP true A wanted c).all (·.oneCell')=true:=by first|kernel_rfl|simp [Nd.cells,Value.oneCell']
 obtain ⟨ru,HR⟩:=runes_ok x.f3 h3
 have HJ:=asd_ hJ
 clear hJ
 have HK:Aside0 (At w [.b gn (row (ndP true A wanted c) 45)] w):=asd_ (At.hold (At.start w) hS (by simp [nums]))
 replace Bc:=ce1_ HK 0
 go_enter Tryz.func43,Tryz.ntmps43
 go_wp2_with (first|((with_reducible refine gd_ 6 ?_);refine bx_ #[.slice (some ⟨gn,0,none⟩) 1 cS,nilS] 68 ?_;clear HK;intro g6 wb6 HK Gg6;replace Bc:=ce2_ HK 1 0)|((with_reducible refine gd_ 8 ?_);refine bx_ (jvc x A4 A5 c4 c5) 25 ?_;clear HK;intro g8 wb8 HK Gg8;replace Bc:=ce3_ HK 2 1 0)|((with_reducible refine gd_ 9 ?_);refine bx_ (#[.string loc,.string ⟨#[80,97,116,116,101,114,110]⟩,.slice Ap np cp,.slice Aa 0 ca,.string tx,.slice An names.length cn,nilS,nilS]) 54 ?_;clear HK;intro g9 wb9 HK Gg9;replace Bc:=ce4_ HK 3 2 1 0)|((with_reducible refine gd_ 17 ?_);refine lo_ 45 16 gn (ndP true A wanted c) HK.out.k.2.2.2.1 Tryz.underlying45 ?_)|((with_reducible refine gd_ 11 ?_);refine bx_ (ndZ nilS nilS) 45 ?_;clear HK;intro g11 wb11 HK Gg11;replace Bc:=ce5_ HK 4 3 2 1 0)|((with_reducible refine gate_ (.store 45 (.tmp 11) (.tmp 17)) rfl ?_);refine storerow_at (cs:=ndZ nilS nilS) (g:=g11) 0 (ndP true A wanted c) at_ rfl Gg11.out rfl rfl rfl rfl rfl rfl kr_ rfl (hn1) ?_;intro wsr HK1;replace HK:=asd_ HK1;clear HK1;replace Bc:=ce5_ HK 4 3 2 1 0))
 refine su5_ 35 HK 4 3 2 1 0 [] (fun HS hHeld=> ?_)
 refine pu_ 0 42 1 ?_
 refine tq_ 1 43 3 rfl hHeld (by rintro w' ⟨s0,s1,s2,s3,s4,s5⟩;exact rr_ 6 g6 (#[.slice (some ⟨gn,0,none⟩) 1 cS,nilS]) s0.k.2.2.2.1 Tryz.underlying68) ?_
 refine tq_ 2 44 7 rfl hHeld (by rintro w' ⟨s0,s1,s2,s3,s4,s5⟩;exact rr_ 11 g11 (ndP true A wanted c) s0.k.1 Tryz.underlying45) ?_
 refine tq_ 3 45 15 rfl hHeld (by rintro w' ⟨s0,s1,s2,s3,s4,s5⟩;exact rr_ 8 g8 (jvc x A4 A5 c4 c5) s0.k.2.2.1 Tryz.underlying25) ?_
 refine tq_ 4 46 31 rfl hHeld (by rintro w' ⟨s0,s1,s2,s3,s4,s5⟩;exact rr_ 9 g9 (#[.string loc,.string ⟨#[80,97,116,116,101,114,110]⟩,.slice Ap np cp,.slice Aa 0 ca,.string tx,.slice An names.length cn,nilS,nilS]) s0.k.2.1 Tryz.underlying54) ?_
 refine on_ 5 47 63 (fun K hK=> ?_)
 have HE:=asd_ (hHeld.1)
 refine ge_ Tryz.func80 #[.int .i64 2020,.agg #[.slice (some ⟨gn,0,none⟩) 1 cS,nilS],.agg (ndP true A wanted c),.agg (jvc x A4 A5 c4 c5),.agg #[.string loc,.string ⟨#[80,97,116,116,101,114,110]⟩,.slice Ap np cp,.slice Aa 0 ca,.string tx,.slice An names.length cn,nilS,nilS]] ?_
 with_reducible refine (ipr_pattern _ (.slice (some ⟨gn,0,none⟩) 1 cS) ⟨0,false,nilS,nilS,true,.slice A wanted.length c,false,nilS,nilS,nilS⟩ x A4 A5 c4 c5 loc tx Ap Aa An Ak np cp ca cn ck names).mono ?_
 rintro e w3 ⟨rfl,hb⟩
 refine ⟨_,rfl,?_⟩
 replace HE:=asd_ (At.step HE.out hb)
 refine hK.out _ _ ⟨HE.out,(cE_ HE 4),(cE_ HE 3),(cE_ HE 2),(cE_ HE 1),(cE_ HE 0)⟩ (fun hHeld=> ?_)
 clear hK K
 refine nq_ 47 ?_
 refine pu_ 6 48 127 ?_
 refine tq_ 7 49 255 rfl hHeld (by rintro w' ⟨s0,s1,s2,s3,s4,s5⟩;exact rr_ 11 g11 (ndP true A wanted c) s0.k.1 Tryz.underlying45) ?_
 refine tq_ 8 50 511 rfl hHeld (by rintro w' ⟨s0,s1,s2,s3,s4,s5⟩;exact rr_ 8 g8 (jvc x A4 A5 c4 c5) s0.k.2.2.1 Tryz.underlying25) ?_
 refine tq_ 9 51 1023 rfl hHeld (by rintro w' ⟨s0,s1,s2,s3,s4,s5⟩;exact rr_ 9 g9 (#[.string loc,.string ⟨#[80,97,116,116,101,114,110]⟩,.slice Ap np cp,.slice Aa 0 ca,.string tx,.slice An names.length cn,nilS,nilS]) s0.k.2.1 Tryz.underlying54) ?_
 refine on_ 10 52 2047 (fun K hK=> ?_)
 refine ge_ Tryz.func81 #[.agg (ndP true A wanted c),.agg (jvc x A4 A5 c4 c5),.agg #[.string loc,.string ⟨#[80,97,116,116,101,114,110]⟩,.slice Ap np cp,.slice Aa 0 ca,.string tx,.slice An names.length cn,nilS,nilS]] ?_
 with_reducible refine (vr_pattern _ A wanted c x A4 A5 c4 c5 loc tx Ap Aa An Ak np cp ca cn ck names ru HR k3 (fun W h=>HJ.out W (below_step HE.out.b h))).mono ?_
 rintro e w3 ⟨rfl,hb⟩
 refine ⟨_,rfl,?_⟩
 replace HE:=asd_ (At.step HE.out hb)
 refine hK.out _ _ ⟨HE.out,(cE_ HE 4),(cE_ HE 3),(cE_ HE 2),(cE_ HE 1),(cE_ HE 0)⟩ (fun hHeld=> ?_)
 clear hK K
 refine nq_ 52 ?_
 refine pu_ 11 53 4095 ?_
 refine pu_ 12 54 8191 ?_
 refine pn_ 13 55 16383 ?_
 refine pn_ 14 56 32767 ?_
 refine pn_ 15 57 65535 ?_
 refine pn_ 16 58 131071 ?_
 refine pn_ 17 59 262143 ?_
 refine pn_ 18 60 524287 ?_
 refine pu_ 19 61 1048575 ?_
 refine pu_ 20 62 2097151 ?_
 refine pn_ 21 63 4194303 ?_
 refine pn_ 22 64 8388607 ?_
 refine pn_ 23 65 16777215 ?_
 refine pn_ 24 66 33554431 ?_
 refine pn_ 25 67 67108863 ?_
 refine pn_ 26 68 134217727 ?_
 refine pu_ 27 69 268435455 ?_
 refine pu_ 28 70 536870911 ?_
 refine pn_ 29 71 1073741823 ?_
 refine pn_ 30 72 2147483647 ?_
 refine pn_ 31 73 4294967295 ?_
 refine pn_ 32 74 8589934591 ?_
 refine pu_ 33 75 17179869183 ?_
 refine pu_ 34 10 34359738367 ?_
 refine done_ kr_ ?_
 clear HK;have HK:=HE;clear HE
 clear hHeld
 replace Bc:=ce5_ HK 4 3 2 1 0
 go_wp2_with fail
 go_ret
 exact ⟨by first|rfl|simp,be_⟩
theorem kr_format (w:World) (gn cS:Nat) (x:S25) (A4 A5:Option Addr) (c4 c5:Nat) (A:Option Addr) (wanted:List ByteArray) (c:Nat) (hS:w.heap[gn]? =some (row (ndF true A wanted c) 45)) (loc tx:ByteArray) (Ap Aa An Ak:Option Addr) (np cp ca cn ck:Nat) (names:List ByteArray) (h3:x.f3.size≤LM) (k3:(x.f0 == 3)=true) (hJ:∀ W,Below w.heap.size w W→Calls Tryz.prog 37 #[.string x.f3,.agg #[.bool true,.slice A wanted.length c]] W (rb (.bool false) W)):Calls Tryz.prog 43 #[.int .i64 2020,.agg #[.slice (some ⟨gn,0,none⟩) 1 cS,nilS],.int .i64 1,.agg (jvc x A4 A5 c4 c5),.agg #[.string loc,.string ⟨#[70,111,114,109,97,116]⟩,.slice Ap np cp,.slice Aa 0 ca,.string tx,.slice An names.length cn,nilS,nilS]] w (rb (.bool true) w):=by
 have hn1:(ndF true A wanted c).all (·.oneCell')=true:=by first|kernel_rfl|simp [Nd.cells,Value.oneCell']
 obtain ⟨ru,HR⟩:=runes_ok x.f3 h3
 have HJ:=asd_ hJ
 clear hJ
 have HK:Aside0 (At w [.b gn (row (ndF true A wanted c) 45)] w):=asd_ (At.hold (At.start w) hS (by simp [nums]))
 replace Bc:=ce1_ HK 0
 go_enter Tryz.func43,Tryz.ntmps43
 go_wp2_with (first|((with_reducible refine gd_ 6 ?_);refine bx_ #[.slice (some ⟨gn,0,none⟩) 1 cS,nilS] 68 ?_;clear HK;intro g6 wb6 HK Gg6;replace Bc:=ce2_ HK 1 0)|((with_reducible refine gd_ 8 ?_);refine bx_ (jvc x A4 A5 c4 c5) 25 ?_;clear HK;intro g8 wb8 HK Gg8;replace Bc:=ce3_ HK 2 1 0)|((with_reducible refine gd_ 9 ?_);refine bx_ (#[.string loc,.string ⟨#[70,111,114,109,97,116]⟩,.slice Ap np cp,.slice Aa 0 ca,.string tx,.slice An names.length cn,nilS,nilS]) 54 ?_;clear HK;intro g9 wb9 HK Gg9;replace Bc:=ce4_ HK 3 2 1 0)|((with_reducible refine gd_ 17 ?_);refine lo_ 45 16 gn (ndF true A wanted c) HK.out.k.2.2.2.1 Tryz.underlying45 ?_)|((with_reducible refine gd_ 11 ?_);refine bx_ (ndZ nilS nilS) 45 ?_;clear HK;intro g11 wb11 HK Gg11;replace Bc:=ce5_ HK 4 3 2 1 0)|((with_reducible refine gate_ (.store 45 (.tmp 11) (.tmp 17)) rfl ?_);refine storerow_at (cs:=ndZ nilS nilS) (g:=g11) 0 (ndF true A wanted c) at_ rfl Gg11.out rfl rfl rfl rfl rfl rfl kr_ rfl (hn1) ?_;intro wsr HK1;replace HK:=asd_ HK1;clear HK1;replace Bc:=ce5_ HK 4 3 2 1 0))
 refine su5_ 35 HK 4 3 2 1 0 [] (fun HS hHeld=> ?_)
 refine pu_ 0 42 1 ?_
 refine tq_ 1 43 3 rfl hHeld (by rintro w' ⟨s0,s1,s2,s3,s4,s5⟩;exact rr_ 6 g6 (#[.slice (some ⟨gn,0,none⟩) 1 cS,nilS]) s0.k.2.2.2.1 Tryz.underlying68) ?_
 refine tq_ 2 44 7 rfl hHeld (by rintro w' ⟨s0,s1,s2,s3,s4,s5⟩;exact rr_ 11 g11 (ndF true A wanted c) s0.k.1 Tryz.underlying45) ?_
 refine tq_ 3 45 15 rfl hHeld (by rintro w' ⟨s0,s1,s2,s3,s4,s5⟩;exact rr_ 8 g8 (jvc x A4 A5 c4 c5) s0.k.2.2.1 Tryz.underlying25) ?_
 refine tq_ 4 46 31 rfl hHeld (by rintro w' ⟨s0,s1,s2,s3,s4,s5⟩;exact rr_ 9 g9 (#[.string loc,.string ⟨#[70,111,114,109,97,116]⟩,.slice Ap np cp,.slice Aa 0 ca,.string tx,.slice An names.length cn,nilS,nilS]) s0.k.2.1 Tryz.underlying54) ?_
 refine on_ 5 47 63 (fun K hK=> ?_)
 have HE:=asd_ (hHeld.1)
 refine ge_ Tryz.func80 #[.int .i64 2020,.agg #[.slice (some ⟨gn,0,none⟩) 1 cS,nilS],.agg (ndF true A wanted c),.agg (jvc x A4 A5 c4 c5),.agg #[.string loc,.string ⟨#[70,111,114,109,97,116]⟩,.slice Ap np cp,.slice Aa 0 ca,.string tx,.slice An names.length cn,nilS,nilS]] ?_
 with_reducible refine (ipr_format _ (.slice (some ⟨gn,0,none⟩) 1 cS) ⟨0,false,nilS,nilS,false,nilS,true,.slice A wanted.length c,nilS,nilS⟩ x A4 A5 c4 c5 loc tx Ap Aa An Ak np cp ca cn ck names).mono ?_
 rintro e w3 ⟨rfl,hb⟩
 refine ⟨_,rfl,?_⟩
 replace HE:=asd_ (At.step HE.out hb)
 refine hK.out _ _ ⟨HE.out,(cE_ HE 4),(cE_ HE 3),(cE_ HE 2),(cE_ HE 1),(cE_ HE 0)⟩ (fun hHeld=> ?_)
 clear hK K
 refine nq_ 47 ?_
 refine pu_ 6 48 127 ?_
 refine tq_ 7 49 255 rfl hHeld (by rintro w' ⟨s0,s1,s2,s3,s4,s5⟩;exact rr_ 11 g11 (ndF true A wanted c) s0.k.1 Tryz.underlying45) ?_
 refine tq_ 8 50 511 rfl hHeld (by rintro w' ⟨s0,s1,s2,s3,s4,s5⟩;exact rr_ 8 g8 (jvc x A4 A5 c4 c5) s0.k.2.2.1 Tryz.underlying25) ?_
 refine tq_ 9 51 1023 rfl hHeld (by rintro w' ⟨s0,s1,s2,s3,s4,s5⟩;exact rr_ 9 g9 (#[.string loc,.string ⟨#[70,111,114,109,97,116]⟩,.slice Ap np cp,.slice Aa 0 ca,.string tx,.slice An names.length cn,nilS,nilS]) s0.k.2.1 Tryz.underlying54) ?_
 refine on_ 10 52 2047 (fun K hK=> ?_)
 refine ge_ Tryz.func81 #[.agg (ndF true A wanted c),.agg (jvc x A4 A5 c4 c5),.agg #[.string loc,.string ⟨#[70,111,114,109,97,116]⟩,.slice Ap np cp,.slice Aa 0 ca,.string tx,.slice An names.length cn,nilS,nilS]] ?_
 with_reducible refine (vr_format _ A wanted c x A4 A5 c4 c5 loc tx Ap Aa An Ak np cp ca cn ck names ru HR k3 (fun W h=>HJ.out W (below_step HE.out.b h))).mono ?_
 rintro e w3 ⟨rfl,hb⟩
 refine ⟨_,rfl,?_⟩
 replace HE:=asd_ (At.step HE.out hb)
 refine hK.out _ _ ⟨HE.out,(cE_ HE 4),(cE_ HE 3),(cE_ HE 2),(cE_ HE 1),(cE_ HE 0)⟩ (fun hHeld=> ?_)
 clear hK K
 refine nq_ 52 ?_
 refine pu_ 11 53 4095 ?_
 refine pu_ 12 54 8191 ?_
 refine pn_ 13 55 16383 ?_
 refine pn_ 14 56 32767 ?_
 refine pn_ 15 57 65535 ?_
 refine pn_ 16 58 131071 ?_
 refine pn_ 17 59 262143 ?_
 refine pn_ 18 60 524287 ?_
 refine pu_ 19 61 1048575 ?_
 refine pu_ 20 62 2097151 ?_
 refine pn_ 21 63 4194303 ?_
 refine pn_ 22 64 8388607 ?_
 refine pn_ 23 65 16777215 ?_
 refine pn_ 24 66 33554431 ?_
 refine pn_ 25 67 67108863 ?_
 refine pn_ 26 68 134217727 ?_
 refine pu_ 27 69 268435455 ?_
 refine pu_ 28 70 536870911 ?_
 refine pn_ 29 71 1073741823 ?_
 refine pn_ 30 72 2147483647 ?_
 refine pn_ 31 73 4294967295 ?_
 refine pn_ 32 74 8589934591 ?_
 refine pu_ 33 75 17179869183 ?_
 refine pu_ 34 10 34359738367 ?_
 refine done_ kr_ ?_
 clear HK;have HK:=HE;clear HE
 clear hHeld
 replace Bc:=ce5_ HK 4 3 2 1 0
 go_wp2_with fail
 go_ret
 exact ⟨by first|rfl|simp,be_⟩
theorem word_enum (w:World):Calls Tryz.prog 79 #[.string ⟨#[69,110,117,109]⟩] w (rb (.string ⟨#[101,110,117,109]⟩) w):=by
 have HK:=st0_ w
 go_enter Tryz.func79,Tryz.ntmps79
 have hb0:Utf8.encode (wrap32 (bits BinOp.or IntKind.u8 (((⟨#[69,110,117,109]⟩:ByteArray)[0]'(by decide)).toNat:Int) 32))=⟨#[101]⟩:=by kernel_rfl
 go_wp2_with fail
 refine su0_ 9 HK [] (fun HS hHeld=> ?_)
 refine pu_ 0 11 1 ?_
 refine pu_ 5 16 33 ?_
 refine pu_ 6 17 97 ?_
 refine ta1_ 1 12 99 hHeld ?_
 refine pu_ 2 13 103 ?_
 refine pu_ 3 14 111 ?_
 refine pu_ 4 15 127 ?_
 refine pu_ 7 18 255 ?_
 refine pu_ 8 2 511 ?_
 refine done_ kr_ ?_
 clear HK;have HK:=asd_ hHeld
 clear hHeld
 go_wp2_with fail
 go_ret
 exact ⟨by first|rfl|kernel_rfl,be_⟩
theorem word_const (w:World):Calls Tryz.prog 79 #[.string ⟨#[67,111,110,115,116]⟩] w (rb (.string ⟨#[99,111,110,115,116]⟩) w):=by
 have HK:=st0_ w
 go_enter Tryz.func79,Tryz.ntmps79
 have hb0:Utf8.encode (wrap32 (bits BinOp.or IntKind.u8 (((⟨#[67,111,110,115,116]⟩:ByteArray)[0]'(by decide)).toNat:Int) 32))=⟨#[99]⟩:=by kernel_rfl
 go_wp2_with fail
 refine su0_ 9 HK [] (fun HS hHeld=> ?_)
 refine pu_ 0 11 1 ?_
 refine pu_ 5 16 33 ?_
 refine pu_ 6 17 97 ?_
 refine ta1_ 1 12 99 hHeld ?_
 refine pu_ 2 13 103 ?_
 refine pu_ 3 14 111 ?_
 refine pu_ 4 15 127 ?_
 refine pu_ 7 18 255 ?_
 refine pu_ 8 2 511 ?_
 refine done_ kr_ ?_
 clear HK;have HK:=asd_ hHeld
 clear hHeld
 go_wp2_with fail
 go_ret
 exact ⟨by first|rfl|kernel_rfl,be_⟩
theorem word_pattern (w:World):Calls Tryz.prog 79 #[.string ⟨#[80,97,116,116,101,114,110]⟩] w (rb (.string ⟨#[112,97,116,116,101,114,110]⟩) w):=by
 have HK:=st0_ w
 go_enter Tryz.func79,Tryz.ntmps79
 have hb0:Utf8.encode (wrap32 (bits BinOp.or IntKind.u8 (((⟨#[80,97,116,116,101,114,110]⟩:ByteArray)[0]'(by decide)).toNat:Int) 32))=⟨#[112]⟩:=by kernel_rfl
 go_wp2_with fail
 refine su0_ 9 HK [] (fun HS hHeld=> ?_)
 refine pu_ 0 11 1 ?_
 refine pu_ 5 16 33 ?_
 refine pu_ 6 17 97 ?_
 refine ta1_ 1 12 99 hHeld ?_
 refine pu_ 2 13 103 ?_
 refine pu_ 3 14 111 ?_
 refine pu_ 4 15 127 ?_
 refine pu_ 7 18 255 ?_
 refine pu_ 8 2 511 ?_
 refine done_ kr_ ?_
 clear HK;have HK:=asd_ hHeld
 clear hHeld
 go_wp2_with fail
 go_ret
 exact ⟨by first|rfl|kernel_rfl,be_⟩
theorem word_format (w:World):Calls Tryz.prog 79 #[.string ⟨#[70,111,114,109,97,116]⟩] w (rb (.string ⟨#[102,111,114,109,97,116]⟩) w):=by
 have HK:=st0_ w
 go_enter Tryz.func79,Tryz.ntmps79
 have hb0:Utf8.encode (wrap32 (bits BinOp.or IntKind.u8 (((⟨#[70,111,114,109,97,116]⟩:ByteArray)[0]'(by decide)).toNat:Int) 32))=⟨#[102]⟩:=by kernel_rfl
 go_wp2_with fail
 refine su0_ 9 HK [] (fun HS hHeld=> ?_)
 refine pu_ 0 11 1 ?_
 refine pu_ 5 16 33 ?_
 refine pu_ 6 17 97 ?_
 refine ta1_ 1 12 99 hHeld ?_
 refine pu_ 2 13 103 ?_
 refine pu_ 3 14 111 ?_
 refine pu_ 4 15 127 ?_
 refine pu_ 7 18 255 ?_
 refine pu_ 8 2 511 ?_
 refine done_ kr_ ?_
 clear HK;have HK:=asd_ hHeld
 clear hHeld
 go_wp2_with fail
 go_ret
 exact ⟨by first|rfl|kernel_rfl,be_⟩
theorem pathright_enum (w:World) (loc tx:ByteArray) (adp:Addr) (Aa An Ak:Option Addr) (cp ca cn nk ck:Nat) (names:List ByteArray) (hp:w.cell? adp=some (.string ⟨#[101,110,117,109]⟩)∧True):Calls Tryz.prog 41 #[.agg #[.string loc,.string ⟨#[69,110,117,109]⟩,.slice (some adp) 1 cp,.slice Aa 0 ca,.string tx,.slice An names.length cn,nilS,.slice Ak nk ck]] w (rb (.bool true) w):=by
 have Hp:=asd_ hp
 clear hp
 have HK:=st0_ w
 go_enter Tryz.func41,Tryz.ntmps41
 go_wp2_with (first|((with_reducible refine gd_ 1 ?_);refine bx_ (#[.string loc,.string ⟨#[69,110,117,109]⟩,.slice (some adp) 1 cp,.slice Aa 0 ca,.string tx,.slice An names.length cn,nilS,.slice Ak nk ck]) 54 ?_;clear HK;intro g1 wb1 HK Gg1;replace Bc:=ce1_ HK 0)|((with_reducible refine gd_ 6 ?_);refine cl_ #[.string ⟨#[69,110,117,109]⟩] (.string ⟨#[101,110,117,109]⟩) Tryz.func79 (word_enum _) ?_;intro wc6 HK1;replace HK:=asd_ HK1;clear HK1;replace Bc:=ce1_ HK 0;have hq0:=(HK.out.b.cell (World.block_lt_of_cell? _ _ Hp.out.1)).trans Hp.out.1))
 go_ret
 exact ⟨by first|rfl|simp,be_⟩
theorem pathright_const (w:World) (loc tx:ByteArray) (adp:Addr) (Aa An Ak:Option Addr) (cp ca cn nk ck:Nat) (names:List ByteArray) (hp:w.cell? adp=some (.string ⟨#[99,111,110,115,116]⟩)∧True):Calls Tryz.prog 41 #[.agg #[.string loc,.string ⟨#[67,111,110,115,116]⟩,.slice (some adp) 1 cp,.slice Aa 0 ca,.string tx,.slice An names.length cn,nilS,.slice Ak nk ck]] w (rb (.bool true) w):=by
 have Hp:=asd_ hp
 clear hp
 have HK:=st0_ w
 go_enter Tryz.func41,Tryz.ntmps41
 go_wp2_with (first|((with_reducible refine gd_ 1 ?_);refine bx_ (#[.string loc,.string ⟨#[67,111,110,115,116]⟩,.slice (some adp) 1 cp,.slice Aa 0 ca,.string tx,.slice An names.length cn,nilS,.slice Ak nk ck]) 54 ?_;clear HK;intro g1 wb1 HK Gg1;replace Bc:=ce1_ HK 0)|((with_reducible refine gd_ 6 ?_);refine cl_ #[.string ⟨#[67,111,110,115,116]⟩] (.string ⟨#[99,111,110,115,116]⟩) Tryz.func79 (word_const _) ?_;intro wc6 HK1;replace HK:=asd_ HK1;clear HK1;replace Bc:=ce1_ HK 0;have hq0:=(HK.out.b.cell (World.block_lt_of_cell? _ _ Hp.out.1)).trans Hp.out.1))
 go_ret
 exact ⟨by first|rfl|simp,be_⟩
theorem pathright_pattern (w:World) (loc tx:ByteArray) (adp:Addr) (Aa An Ak:Option Addr) (cp ca cn nk ck:Nat) (names:List ByteArray) (hp:w.cell? adp=some (.string ⟨#[112,97,116,116,101,114,110]⟩)∧True):Calls Tryz.prog 41 #[.agg #[.string loc,.string ⟨#[80,97,116,116,101,114,110]⟩,.slice (some adp) 1 cp,.slice Aa 0 ca,.string tx,.slice An names.length cn,nilS,.slice Ak nk ck]] w (rb (.bool true) w):=by
 have Hp:=asd_ hp
 clear hp
 have HK:=st0_ w
 go_enter Tryz.func41,Tryz.ntmps41
 go_wp2_with (first|((with_reducible refine gd_ 1 ?_);refine bx_ (#[.string loc,.string ⟨#[80,97,116,116,101,114,110]⟩,.slice (some adp) 1 cp,.slice Aa 0 ca,.string tx,.slice An names.length cn,nilS,.slice Ak nk ck]) 54 ?_;clear HK;intro g1 wb1 HK Gg1;replace Bc:=ce1_ HK 0)|((with_reducible refine gd_ 6 ?_);refine cl_ #[.string ⟨#[80,97,116,116,101,114,110]⟩] (.string ⟨#[112,97,116,116,101,114,110]⟩) Tryz.func79 (word_pattern _) ?_;intro wc6 HK1;replace HK:=asd_ HK1;clear HK1;replace Bc:=ce1_ HK 0;have hq0:=(HK.out.b.cell (World.block_lt_of_cell? _ _ Hp.out.1)).trans Hp.out.1))
 go_ret
 exact ⟨by first|rfl|simp,be_⟩
theorem pathright_format (w:World) (loc tx:ByteArray) (adp:Addr) (Aa An Ak:Option Addr) (cp ca cn nk ck:Nat) (names:List ByteArray) (hp:w.cell? adp=some (.string ⟨#[102,111,114,109,97,116]⟩)∧True):Calls Tryz.prog 41 #[.agg #[.string loc,.string ⟨#[70,111,114,109,97,116]⟩,.slice (some adp) 1 cp,.slice Aa 0 ca,.string tx,.slice An names.length cn,nilS,.slice Ak nk ck]] w (rb (.bool true) w):=by
 have Hp:=asd_ hp
 clear hp
 have HK:=st0_ w
 go_enter Tryz.func41,Tryz.ntmps41
 go_wp2_with (first|((with_reducible refine gd_ 1 ?_);refine bx_ (#[.string loc,.string ⟨#[70,111,114,109,97,116]⟩,.slice (some adp) 1 cp,.slice Aa 0 ca,.string tx,.slice An names.length cn,nilS,.slice Ak nk ck]) 54 ?_;clear HK;intro g1 wb1 HK Gg1;replace Bc:=ce1_ HK 0)|((with_reducible refine gd_ 6 ?_);refine cl_ #[.string ⟨#[70,111,114,109,97,116]⟩] (.string ⟨#[102,111,114,109,97,116]⟩) Tryz.func79 (word_format _) ?_;intro wc6 HK1;replace HK:=asd_ HK1;clear HK1;replace Bc:=ce1_ HK 0;have hq0:=(HK.out.b.cell (World.block_lt_of_cell? _ _ Hp.out.1)).trans Hp.out.1))
 go_ret
 exact ⟨by first|rfl|simp,be_⟩
theorem tells_enum (w:World) (gn cS:Nat) (x:S25) (A4 A5:Option Addr) (c4 c5:Nat) (hx:Rep w x A4 c4 A5 c5) (hV:V x) {AE:Option Addr} {l0:List S25} {cE:Nat} (he:Kd.C k25 w AE l0.length l0) (hn:l0.length≤LM) (hv:∀ x∈l0,V x) (hS:w.heap[gn]? =some (row (ndE AE l0 cE) 45)) (g2:Nat) (hk:w.heap[g2]? =some (row #[.string ⟨#[69,110,117,109]⟩] 9)):
  Calls Tryz.prog 8 #[.slice (some ⟨gn,0,none⟩) 1 cS,.agg (jvc x A4 A5 c4 c5),.slice (some ⟨g2,0,none⟩) 1 1] w (rb (.bool true) w):=by
 have hn1:(ndE AE l0 cE).all (·.oneCell')=true:=by simp [Nd.cells,Value.oneCell']
 obtain ⟨k0,k5,k2,n3,n4,n5,t4,ee,sub⟩:=id hV
 classical
 by_cases hj:∃ y∈l0,JE x y
 ·refine tells_none w (some ⟨gn,0,none⟩) cS x A4 A5 c4 c5 (some ⟨g2,0,none⟩) 1 1 (fun W hb=> ?_) (fun W hb=>valid_any W (some ⟨gn,0,none⟩) 1 cS true x A4 A5 c4 c5 (fun W0 h0=> ?_))
  ·exact errors_e_none W gn cS x A4 A5 c4 c5 (hx.below hb) (Kd.C_below he hb) hn hv hV (blk_below hS hb) hj
  ·exact judge_enum W0 gn cS x A4 A5 c4 c5 (hx.below (below_step hb h0)) hV _ l0 _ (Kd.C_below he (below_step hb h0)) hn hv (blk_below hS (below_step hb h0)) true (by simp [hj])
 ·skip
  refine tells_of w gn cS x A4 A5 c4 c5 ⟨#[]⟩ ⟨#[69,110,117,109]⟩ [⟨#[101,110,117,109]⟩] [] (some ⟨g2,0,none⟩) 1 1 (fun W hb=> ?_) (fun W hb=> ?_) (fun W Ap cp Aa2 ca2 An cn hb hF=> ?_) (fun W Aq cqq Aa ca gx cx hb=> ?_) (fun W Ap cp Aa2 ca2 An cn hb hF=> ?_) (fun W hb=>among_one W g2 _ _ true (blk_below hk hb) ⟨4,by kernel_rfl⟩) (fun W hb=>among_one W g2 _ _ false (blk_below hk hb) ⟨4,by kernel_rfl⟩)
  ·exact errors_e_some W gn cS x A4 A5 c4 c5 (hx.below hb) (Kd.C_below he hb) hn hv hV (blk_below hS hb) (fun y hy hyj=>hj ⟨y,hy,hyj⟩)
  ·exact judge_enum W gn cS x A4 A5 c4 c5 (hx.below hb) hV _ l0 _ (Kd.C_below he hb) hn hv (blk_below hS hb) false (by simp [hj])
  ·obtain ⟨ad,rfl,hcl⟩:=strs_at hF (Nat.succ_pos _)
   exact pathright_enum W _ ⟨#[]⟩ ad Aa2 An none cp ca2 cn 0 0 [] ⟨hcl 0 _ rfl,trivial⟩
  ·exact kr_schema W gn cS x A4 A5 c4 c5 ⟨0,true,.slice AE l0.length cE,nilS,false,nilS,false,nilS,nilS,nilS⟩ rfl hn1 (blk_below hS hb) _ ⟨#[]⟩ Aq Aa none (some ⟨gx,0,none⟩) 0 cqq ca 0 cx []
  ·exact kr_enum W gn cS x A4 A5 c4 c5 _ l0 _ (blk_below hS hb) _ ⟨#[]⟩ Ap Aa2 An none 1 cp ca2 cn 0 [] n3 (fun W1 h1=>eq_form (listed_ok W1 x A4 A5 c4 c5 _ l0 _ (Kd.C_below he (below_step hb h1)) hn (fun y=>JE x y) (fun y hy W2 B4 B5 d4 d5 h2 hry=>jequals_ok hV y (hv y hy) W2 A4 A5 B4 B5 c4 c5 d4 d5 (hx.below (below_step (below_step hb h1) h2)) hry)) false (by simp [hj]))
theorem tells_const (w:World) (gn cS:Nat) (x:S25) (A4 A5:Option Addr) (c4 c5:Nat) (hx:Rep w x A4 c4 A5 c5) (hV:V x) {c:S25} {B4 B5:Option Addr} {d4 d5 gq cq:Nat} (hq:w.heap[gq]? =some (row #[.int .i64 c.f0,.bool c.f1,.int .i64 c.f2,.string c.f3,.slice B4 c.f4.length d4,.slice B5 c.f5.length d5] 25)) (hxc:Rep w c B4 d4 B5 d5) (hv:V c) (hS:w.heap[gn]? =some (row (ndC gq cq) 45)) (g2:Nat) (hk:w.heap[g2]? =some (row #[.string ⟨#[67,111,110,115,116]⟩] 9)):
  Calls Tryz.prog 8 #[.slice (some ⟨gn,0,none⟩) 1 cS,.agg (jvc x A4 A5 c4 c5),.slice (some ⟨g2,0,none⟩) 1 1] w (rb (.bool true) w):=by
 have hn1:(ndC gq cq).all (·.oneCell')=true:=by simp [Nd.cells,Value.oneCell']
 obtain ⟨k0,k5,k2,n3,n4,n5,t4,ee,sub⟩:=id hV
 classical
 by_cases hj:JE x c
 ·refine tells_none w (some ⟨gn,0,none⟩) cS x A4 A5 c4 c5 (some ⟨g2,0,none⟩) 1 1 (fun W hb=> ?_) (fun W hb=>valid_any W (some ⟨gn,0,none⟩) 1 cS true x A4 A5 c4 c5 (fun W0 h0=> ?_))
  ·exact errors_c_none W gn cS x A4 A5 c4 c5 (hx.below hb) (blk_below hq hb) (hxc.below hb) hv hV (blk_below hS hb) hj
  ·exact judge_const W0 gn cS x A4 A5 c4 c5 (hx.below (below_step hb h0)) hV gq cq c B4 B5 d4 d5 (blk_below hq (below_step hb h0)) (hxc.below (below_step hb h0)) hv (blk_below hS (below_step hb h0)) true (by simp [hj])
 ·skip
  refine tells_of w gn cS x A4 A5 c4 c5 ⟨#[]⟩ ⟨#[67,111,110,115,116]⟩ [⟨#[99,111,110,115,116]⟩] [] (some ⟨g2,0,none⟩) 1 1 (fun W hb=> ?_) (fun W hb=> ?_) (fun W Ap cp Aa2 ca2 An cn hb hF=> ?_) (fun W Aq cqq Aa ca gx cx hb=> ?_) (fun W Ap cp Aa2 ca2 An cn hb hF=> ?_) (fun W hb=>among_one W g2 _ _ true (blk_below hk hb) ⟨4,by kernel_rfl⟩) (fun W hb=>among_one W g2 _ _ false (blk_below hk hb) ⟨4,by kernel_rfl⟩)
  ·exact errors_c_some W gn cS x A4 A5 c4 c5 (hx.below hb) (blk_below hq hb) (hxc.below hb) hv hV (blk_below hS hb) hj
  ·exact judge_const W gn cS x A4 A5 c4 c5 (hx.below hb) hV gq cq c B4 B5 d4 d5 (blk_below hq hb) (hxc.below hb) hv (blk_below hS hb) false (by simp [hj])
  ·obtain ⟨ad,rfl,hcl⟩:=strs_at hF (Nat.succ_pos _)
   exact pathright_const W _ ⟨#[]⟩ ad Aa2 An none cp ca2 cn 0 0 [] ⟨hcl 0 _ rfl,trivial⟩
  ·exact kr_schema W gn cS x A4 A5 c4 c5 ⟨0,false,nilS,.slice (some ⟨gq,0,none⟩) 1 cq,false,nilS,false,nilS,nilS,nilS⟩ rfl hn1 (blk_below hS hb) _ ⟨#[]⟩ Aq Aa none (some ⟨gx,0,none⟩) 0 cqq ca 0 cx []
  ·exact kr_const W gn cS x A4 A5 c4 c5 gq cq c B4 B5 d4 d5 (blk_below hS hb) _ ⟨#[]⟩ Ap Aa2 An none 1 cp ca2 cn 0 [] n3 (blk_below hq hb) (fun W1 h1=>eq_form (jequals_ok hV c hv W1 A4 A5 B4 B5 c4 c5 d4 d5 (hx.below (below_step hb h1)) (hxc.below (below_step hb h1))) false (by simp [hj]))
theorem tells_pattern (w:World) (gn cS:Nat) (x:S25) (A4 A5:Option Addr) (c4 c5:Nat) (hx:Rep w x A4 c4 A5 c5) (hV:V x) {A:Option Addr} {names:List ByteArray} {c:Nat} (hr:Kd.C Kd.string w A names.length names) (hc:names.length≤c) (hlen:names.length < 8796093022208) (hn:names.length≤LM) (hS:w.heap[gn]? =some (row (ndP true A names c) 45)) (g2:Nat) (hk:w.heap[g2]? =some (row #[.string ⟨#[80,97,116,116,101,114,110]⟩] 9)):
  Calls Tryz.prog 8 #[.slice (some ⟨gn,0,none⟩) 1 cS,.agg (jvc x A4 A5 c4 c5),.slice (some ⟨g2,0,none⟩) 1 1] w (rb (.bool true) w):=by
 have hn1:(ndP true A names c).all (·.oneCell')=true:=by simp [Nd.cells,Value.oneCell']
 obtain ⟨k0,k5,k2,n3,n4,n5,t4,ee,sub⟩:=id hV
 classical
 by_cases hj:x.f0=3→x.f3∈names
 ·refine tells_none w (some ⟨gn,0,none⟩) cS x A4 A5 c4 c5 (some ⟨g2,0,none⟩) 1 1 (fun W hb=> ?_) (fun W hb=>valid_any W (some ⟨gn,0,none⟩) 1 cS true x A4 A5 c4 c5 (fun W0 h0=> ?_))
  ·exact errors_p_none W gn cS x A4 A5 c4 c5 (hx.below hb) (Kd.C_below hr hb) hc hlen hV hn (blk_below hS hb) hj
  ·exact (by have h:=judge_pattern W0 gn cS x A4 A5 c4 c5 (hx.below (below_step hb h0)) hV names (Kd.C_below hr (below_step hb h0)) hc hn (blk_below hS (below_step hb h0)) (decide (x.f3∈names)) (by simp);have e:(x.f0 != 3||decide (x.f3∈names))=true:=(by by_cases h3:x.f0=3<;>simp [h3,hj]);rw [e] at h;exact h)
 ·have h3:x.f0=3:=Classical.byContradiction fun h=>hj (fun h'=>absurd h' h)
  have hnot:x.f3∉names:=fun h=>hj (fun _=>h)
  have k3:(x.f0 == 3)=true:=by rw [h3];rfl
  refine tells_of w gn cS x A4 A5 c4 c5 ⟨#[]⟩ ⟨#[80,97,116,116,101,114,110]⟩ [⟨#[112,97,116,116,101,114,110]⟩] [] (some ⟨g2,0,none⟩) 1 1 (fun W hb=> ?_) (fun W hb=> ?_) (fun W Ap cp Aa2 ca2 An cn hb hF=> ?_) (fun W Aq cqq Aa ca gx cx hb=> ?_) (fun W Ap cp Aa2 ca2 An cn hb hF=> ?_) (fun W hb=>among_one W g2 _ _ true (blk_below hk hb) ⟨4,by kernel_rfl⟩) (fun W hb=>among_one W g2 _ _ false (blk_below hk hb) ⟨4,by kernel_rfl⟩)
  ·exact errors_p_some W gn cS x A4 A5 c4 c5 (hx.below hb) (Kd.C_below hr hb) hc hlen hV hn (blk_below hS hb) h3 hnot
  ·exact (by have h:=judge_pattern W gn cS x A4 A5 c4 c5 (hx.below hb) hV names (Kd.C_below hr hb) hc hn (blk_below hS hb) (decide (x.f3∈names)) (by simp);have e:(x.f0 != 3||decide (x.f3∈names))=false:=(by simp [h3,hnot]);rw [e] at h;exact h)
  ·obtain ⟨ad,rfl,hcl⟩:=strs_at hF (Nat.succ_pos _)
   exact pathright_pattern W _ ⟨#[]⟩ ad Aa2 An none cp ca2 cn 0 0 [] ⟨hcl 0 _ rfl,trivial⟩
  ·exact kr_schema W gn cS x A4 A5 c4 c5 ⟨0,false,nilS,nilS,true,.slice A names.length c,false,nilS,nilS,nilS⟩ rfl hn1 (blk_below hS hb) _ ⟨#[]⟩ Aq Aa none (some ⟨gx,0,none⟩) 0 cqq ca 0 cx []
  ·exact kr_pattern W gn cS x A4 A5 c4 c5 _ names _ (blk_below hS hb) _ ⟨#[]⟩ Ap Aa2 An none 1 cp ca2 cn 0 [] n3 k3 (fun W1 h1=>taken_is W1 _ _ names _ (Kd.C_below hr (below_step hb h1)) hc hn false (by simp [hnot]))
theorem tells_format (w:World) (gn cS:Nat) (x:S25) (A4 A5:Option Addr) (c4 c5:Nat) (hx:Rep w x A4 c4 A5 c5) (hV:V x) {A:Option Addr} {names:List ByteArray} {c:Nat} (hr:Kd.C Kd.string w A names.length names) (hc:names.length≤c) (hlen:names.length < 8796093022208) (hn:names.length≤LM) (hS:w.heap[gn]? =some (row (ndF true A names c) 45)) (g2:Nat) (hk:w.heap[g2]? =some (row #[.string ⟨#[70,111,114,109,97,116]⟩] 9)):
  Calls Tryz.prog 8 #[.slice (some ⟨gn,0,none⟩) 1 cS,.agg (jvc x A4 A5 c4 c5),.slice (some ⟨g2,0,none⟩) 1 1] w (rb (.bool true) w):=by
 have hn1:(ndF true A names c).all (·.oneCell')=true:=by simp [Nd.cells,Value.oneCell']
 obtain ⟨k0,k5,k2,n3,n4,n5,t4,ee,sub⟩:=id hV
 classical
 by_cases hj:x.f0=3→x.f3∈names
 ·refine tells_none w (some ⟨gn,0,none⟩) cS x A4 A5 c4 c5 (some ⟨g2,0,none⟩) 1 1 (fun W hb=> ?_) (fun W hb=>valid_any W (some ⟨gn,0,none⟩) 1 cS true x A4 A5 c4 c5 (fun W0 h0=> ?_))
  ·exact errors_f_none W gn cS x A4 A5 c4 c5 (hx.below hb) (Kd.C_below hr hb) hc hlen hV hn (blk_below hS hb) hj
  ·exact (by have h:=judge_format W0 gn cS x A4 A5 c4 c5 (hx.below (below_step hb h0)) hV names (Kd.C_below hr (below_step hb h0)) hc hn (blk_below hS (below_step hb h0)) (decide (x.f3∈names)) (by simp);have e:(x.f0 != 3||decide (x.f3∈names))=true:=(by by_cases h3:x.f0=3<;>simp [h3,hj]);rw [e] at h;exact h)
 ·have h3:x.f0=3:=Classical.byContradiction fun h=>hj (fun h'=>absurd h' h)
  have hnot:x.f3∉names:=fun h=>hj (fun _=>h)
  have k3:(x.f0 == 3)=true:=by rw [h3];rfl
  refine tells_of w gn cS x A4 A5 c4 c5 ⟨#[]⟩ ⟨#[70,111,114,109,97,116]⟩ [⟨#[102,111,114,109,97,116]⟩] [] (some ⟨g2,0,none⟩) 1 1 (fun W hb=> ?_) (fun W hb=> ?_) (fun W Ap cp Aa2 ca2 An cn hb hF=> ?_) (fun W Aq cqq Aa ca gx cx hb=> ?_) (fun W Ap cp Aa2 ca2 An cn hb hF=> ?_) (fun W hb=>among_one W g2 _ _ true (blk_below hk hb) ⟨4,by kernel_rfl⟩) (fun W hb=>among_one W g2 _ _ false (blk_below hk hb) ⟨4,by kernel_rfl⟩)
  ·exact errors_f_some W gn cS x A4 A5 c4 c5 (hx.below hb) (Kd.C_below hr hb) hc hlen hV hn (blk_below hS hb) h3 hnot
  ·exact (by have h:=judge_format W gn cS x A4 A5 c4 c5 (hx.below hb) hV names (Kd.C_below hr hb) hc hn (blk_below hS hb) (decide (x.f3∈names)) (by simp);have e:(x.f0 != 3||decide (x.f3∈names))=false:=(by simp [h3,hnot]);rw [e] at h;exact h)
  ·obtain ⟨ad,rfl,hcl⟩:=strs_at hF (Nat.succ_pos _)
   exact pathright_format W _ ⟨#[]⟩ ad Aa2 An none cp ca2 cn 0 0 [] ⟨hcl 0 _ rfl,trivial⟩
  ·exact kr_schema W gn cS x A4 A5 c4 c5 ⟨0,false,nilS,nilS,false,nilS,true,.slice A names.length c,nilS,nilS⟩ rfl hn1 (blk_below hS hb) _ ⟨#[]⟩ Aq Aa none (some ⟨gx,0,none⟩) 0 cqq ca 0 cx []
  ·exact kr_format W gn cS x A4 A5 c4 c5 _ names _ (blk_below hS hb) _ ⟨#[]⟩ Ap Aa2 An none 1 cp ca2 cn 0 [] n3 k3 (fun W1 h1=>taken_is W1 _ _ names _ (Kd.C_below hr (below_step hb h1)) hc hn false (by simp [hnot]))
theorem set_z {pt ft : Value} (w w0 : World) (l : List Blk) (gs : Nat) (lv : Value) (own d : Int) (hown : 0 ≤ own) (H : At w0 (.b gs (row (Sc.cells ⟨0, ⟨#[]⟩, nP, nP, nP, nP, nilS, nM, nM, nM, nM, nM, .nilIface⟩) 119) :: l) w) (hgs : w0.heap.size ≤ gs)
     :
    Calls Tryz.prog 49 #[lv, .pointer (some ⟨gs, 0, none⟩), .agg (ndZ pt ft), .int .i64 own, .int .i64 d] w fun e w' => e = .returned (.tuple #[]) ∧ ∃ A2 c2 gm gpp gpr gds gdr , At w0 (.b gm (.map #[] 0) :: .b gs (row (Sc.cells ⟨d, ⟨#[]⟩, nP, nP, nP, nP, (.slice A2 0 c2), (.map (some gpr)), (.map (some gpp)), (.map (some gm)), (.map (some gdr)), (.map (some gds)), .nilIface⟩) 119) :: .b gpp (.map #[] 0) :: .b gpr (.map #[] 0) :: .b gds (.map #[] 0) :: .b gdr (.map #[] 0) :: l) w' := by
  refine (set_any false nilS none 0 0 false pt false ft w w0 l gs lv own d hown H hgs (fun v3 b => v3 = nP ∧ b = l) (fun v3 v4 b => v4 = nP ∧ v3 = nP ∧ b = l) (fun v3 v4 v12 b => v12 = .nilIface ∧ v4 = nP ∧ v3 = nP ∧ b = l) (fun v3 v4 v5 v12 b => v5 = nP ∧ v12 = .nilIface ∧ v4 = nP ∧ v3 = nP ∧ b = l) (Or.inl ⟨rfl, rfl, rfl⟩) (fun v3 b h => Or.inl ⟨rfl, rfl, h⟩) (fun v3 v4 b h => Or.inl ⟨rfl, rfl, h⟩) (fun v3 v4 v12 b h => Or.inl ⟨rfl, rfl, h⟩)).mono ?_
  rintro e w' ⟨rfl, A2, c2, gm, gpp, gpr, gds, gdr, v3, v4, v5, v12, cs, ⟨rfl, rfl, rfl, rfl, rfl⟩, hA⟩
  exact ⟨rfl, A2, c2, gm, gpp, gpr, gds, gdr, hA⟩
def Comp_z (w:World) (e:Ending) (w':World):Prop:=∃ gs A2 c2 gm gpp gpr gds gdr,e= .returned (.pointer (some ⟨gs,0,none⟩))∧w'.heap[gs]? =some (row (Sc.cells ⟨2020,⟨#[49]⟩,nP,nP,nP,nP,(.slice A2 0 c2),(.map (some gpr)),(.map (some gpp)),(.map (some gm)),(.map (some gdr)),(.map (some gds)),.nilIface⟩) 119)∧w'.heap[gpr]? =some (.map #[] 0)∧w'.heap[gpp]? =some (.map #[] 0)∧w'.heap[gm]? =some (.map #[] 0)∧w'.heap[gds]? =some (.map #[] 0)∧w'.heap[gdr]? =some (.map #[] 0)∧Below w.heap.size w w'
theorem compiled_z {pt ft:Value} (w:World) (gn cS:Nat) (hn1:(ndZ pt ft).all (·.oneCell')=true) (hS:w.heap[gn]? =some (row (ndZ pt ft) 45)):
  Calls Tryz.prog 27 #[.slice (some ⟨gn,0,none⟩) 1 cS,.int .i64 2020] w (Comp_z w):=by
 refine (compiled_any false nilS none 0 0 false pt false ft w gn cS hn1 hS (fun v3 v4 v5 v12 rest=>v3=nP∧v4=nP∧v5=nP∧v12= .nilIface∧rest=[]) (fun W l gs lv own hown H hgs=>(set_z W w l gs lv own 2020 hown H hgs).mono ?_)).mono ?_
 ·rintro e w' ⟨rfl,A2,c2,gm,gpp,gpr,gds,gdr,hA⟩
  exact ⟨rfl,A2,c2,gm,gpp,gpr,gds,gdr,_,_,_,_,_,⟨rfl,rfl,rfl,rfl,rfl⟩,by rw [List.append_nil];exact hA⟩
 ·rintro e w' ⟨gs,A2,c2,gm,gpp,gpr,gds,gdr,v3,v4,v5,v12,rest,rfl,⟨rfl,rfl,rfl,rfl,rfl⟩,h1,h2,h3,h4,h5,h6,hk,hb⟩
  exact ⟨gs,A2,c2,gm,gpp,gpr,gds,gdr,rfl,h1,h2,h3,h4,h5,h6,hb⟩
def Sch_z (gs:Nat) (W:World):Prop:=∃ A2 c2 gm gpp gpr gds gdr,W.heap[gs]? =some (row (Sc.cells ⟨2020,⟨#[49]⟩,nP,nP,nP,nP,.slice A2 0 c2,.map (some gpr),.map (some gpp),.map (some gm),.map (some gdr),.map (some gds),.nilIface⟩) 119)∧W.heap[gpr]? =some (.map #[] 0)∧W.heap[gpp]? =some (.map #[] 0)∧W.heap[gm]? =some (.map #[] 0)∧W.heap[gds]? =some (.map #[] 0)∧W.heap[gdr]? =some (.map #[] 0)
theorem Sch_z.below {gs:Nat} {W W1:World} (h:Sch_z gs W) (hb:Below W.heap.size W W1):Sch_z gs W1:=by
 obtain ⟨A2,c2,gm,gpp,gpr,gds,gdr,h1,h2,h3,h4,h5,h6⟩:=h
 exact ⟨A2,c2,gm,gpp,gpr,gds,gdr,blk_below h1 hb,blk_below h2 hb,blk_below h3 hb,blk_below h4 hb,blk_below h5 hb,blk_below h6 hb⟩
theorem comp_z (w:World) (gn cS:Nat) {pt ft:Value} (hn1:(ndZ pt ft).all (·.oneCell')=true) (hS:w.heap[gn]? =some (row (ndZ pt ft) 45)):Calls Tryz.prog 27 #[.slice (some ⟨gn,0,none⟩) 1 cS,.int .i64 2020] w fun e w'=>∃ v,e= .returned v∧(∃ gs,v= .pointer (some ⟨gs,0,none⟩)∧Sch_z gs w')∧Below w.heap.size w w':=by
 refine (compiled_z w gn cS hn1 hS).mono ?_
 rintro e w' ⟨gs,A2,c2,gm,gpp,gpr,gds,gdr,rfl,h1,h2,h3,h4,h5,h6,hb⟩
 exact ⟨_,rfl,⟨gs,rfl,A2,c2,gm,gpp,gpr,gds,gdr,h1,h2,h3,h4,h5,h6⟩,hb⟩
theorem errors_z_none (w:World) (gn cS:Nat) (x:S25) (A4 A5:Option Addr) (c4 c5:Nat) (hx:Rep w x A4 c4 A5 c5) (hV:V x) {pt ft:Value} (hn1:(ndZ pt ft).all (·.oneCell')=true) (hS:w.heap[gn]? =some (row (ndZ pt ft) 45)):
  Calls Tryz.prog 14 #[.slice (some ⟨gn,0,none⟩) 1 cS,.agg (jvc x A4 A5 c4 c5)] w (rb (.tuple #[.agg #[eS,eS,nilS,nilS,eS,nilS,nilS,nilS],.bool false]) w):=by
 refine errors_none w gn cS x A4 A5 c4 c5 (fun W hb=>draft_none W gn cS x A4 A5 c4 c5 Sch_z (fun _ _ _=>Sch_z.below) (hx.below hb) hV (fun W1 hb1=>comp_z W1 gn cS hn1 (blk_below hS (below_step hb hb1))) ?_)
 intro W0 gs v hP hO
 obtain ⟨A2,c2,gm,gpp,gpr,gds,gdr,h1,h2,h3,h4,h5,h6⟩:=hP
 by_cases hk:x.f0=5
 ·cases hO with
  |object _ g es ck e M hg=>
   subst e
   exact quiet_obj W0 gs _ _ _ _ _ _ _ h1 g (fun W l gv ad cp up H hgv=>obj_quiet W W0 l gv gs g gpr gpp gm gdr gds _ ad cp up _ es ck _ x.f4 A2 c2 _ _ _ _ H hgv h1 hg M h2 h3 h4 h5 h6)
  |null k=>omega
  |bool k=>omega
  |text k=>omega
  |array k=>omega
 ·exact quiet_kinds W0 gs _ _ _ _ _ _ _ h1 hO hk
theorem taken_not (w:World) (t:ByteArray) (A:Option Addr) (names:List ByteArray) (c:Nat) (hr:Kd.C Kd.string w A names.length names) (hc:names.length≤c):Calls Tryz.prog 37 #[.string t,.agg #[bF,.slice A names.length c]] w (rb (.bool true) w):=
 spec_jTaken.calls 0 t false A c names true w hr hc (by simp [spec_jTaken.f])
theorem tells_z (w:World) (gn cS:Nat) (x:S25) (A4 A5:Option Addr) (c4 c5:Nat) (hx:Rep w x A4 c4 A5 c5) (hV:V x) {pt ft:Value} (hn1:(ndZ pt ft).all (·.oneCell')=true) (hS:w.heap[gn]? =some (row (ndZ pt ft) 45)) (g2:Nat)
  (hP:∀ W,Below w.heap.size w W→Calls Tryz.prog 37 #[.string x.f3,.agg #[bF,pt]] W (rb (.bool true) W)) (hF:∀ W,Below w.heap.size w W→Calls Tryz.prog 37 #[.string x.f3,.agg #[bF,ft]] W (rb (.bool true) W)):
  Calls Tryz.prog 8 #[.slice (some ⟨gn,0,none⟩) 1 cS,.agg (jvc x A4 A5 c4 c5),.slice (some ⟨g2,0,none⟩) 1 1] w (rb (.bool true) w):=by
 refine tells_none w (some ⟨gn,0,none⟩) cS x A4 A5 c4 c5 (some ⟨g2,0,none⟩) 1 1 (fun W hb=>errors_z_none W gn cS x A4 A5 c4 c5 (hx.below hb) hV hn1 (blk_below hS hb)) (fun W hb=>valid_any W (some ⟨gn,0,none⟩) 1 cS true x A4 A5 c4 c5 (fun W0 h0=> ?_))
 have hw:=below_step hb h0
 have h:=judge_all W0 gn cS x A4 A5 c4 c5 (hx.below hw) hV ⟨0,false,nilS,nilS,false,pt,false,ft,nilS,nilS⟩ rfl rfl rfl hn1 (blk_below hS hw) true true true (fun W1 h1=>values_none W1 ⟨0,false,nilS,nilS,false,pt,false,ft,nilS,nilS⟩ rfl rfl x A4 A5 c4 c5) (fun _ W1 h1=>hP W1 (below_step hw h1)) (fun _ W1 h1=>hF W1 (below_step hw h1))
 simpa using h
end Go.Proofs.YtkphbhncpdcbeaaGreatDoor.J
