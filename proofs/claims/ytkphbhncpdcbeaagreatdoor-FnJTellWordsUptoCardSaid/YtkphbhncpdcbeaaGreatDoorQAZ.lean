/- Part. -/
import Derived.Test.YtkphbhncpdcbeaaGreatDoorQAY
set_option linter.unusedVariables false
set_option linter.unusedSimpArgs false
set_option maxHeartbeats 8000000
set_option maxRecDepth 100000
namespace Go.Proofs.YtkphbhncpdcbeaaGreatDoor.J
open Go.RowKit YtkphbhncpdcbeaaGreatDoorW.PrintWords YtkphbhncpdcbeaaGreatDoorW.PrintLast YtkphbhncpdcbeaaGreatDoorW.PrintMore PJT
theorem er_leaf (w:World) (sv:Value) (gc:Nat) (x:S25) (A4 A5:Option Addr) (c4 c5:Nat) (tx kn:ByteArray) (Ap Aa An:Option Addr) (np cp ca nn cn:Nat)
  (hP:∀ W,Below w.heap.size w W→Calls Tryz.prog 41 #[.agg #[.string ⟨#[49]⟩,.string kn,.slice Ap np cp,.slice Aa 0 ca,.string tx,.slice An nn cn,nilS,nilS]] W (rb (.bool true) W))
  (hD:∀ W,Below w.heap.size w W→Calls Tryz.prog 23 #[.string ⟨#[49]⟩,.pointer (some ⟨gc,0,none⟩)] W fun e w'=>∃ v,e= .returned v∧(∃ g7,v= .slice (some ⟨g7,0,none⟩) 1 1∧w'.heap[g7]? =some (row #[.int .i64 1] 3)∧W.heap.size≤g7)∧Below W.heap.size W w')
  (hT:∀ W,Below w.heap.size w W→Calls Tryz.prog 42 #[.int .i64 2020,.agg #[sv,nilS],.int .i64 1,.agg (jvc x A4 A5 c4 c5)] W (rb (.bool false) W))
  (hR:∀ W,Below w.heap.size w W→Calls Tryz.prog 43 #[.int .i64 2020,.agg #[sv,nilS],.int .i64 1,.agg (jvc x A4 A5 c4 c5),.agg #[.string ⟨#[49]⟩,.string kn,.slice Ap np cp,.slice Aa 0 ca,.string tx,.slice An nn cn,nilS,nilS]] W (rb (.bool true) W)):Calls Tryz.prog 22 #[.int .i64 2020,.agg #[sv,nilS],Value.func (.func 23) #[] #[.pointer (some ⟨gc,0,none⟩)],.agg (jvc x A4 A5 c4 c5),.agg #[.string ⟨#[49]⟩,.string kn,.slice Ap np cp,.slice Aa 0 ca,.string tx,.slice An nn cn,nilS,nilS]] w (rb (.bool true) w):=by
 have HP:=asd_ hP
 have HD:=asd_ hD
 have HT:=asd_ hT
 have HR:=asd_ hR
 clear hP hD hT hR
 have HK:=st0_ w
 go_enter Tryz.func22,Tryz.ntmps22
 go_wp2_with (first|((with_reducible refine gd_ 6 ?_);refine bx_ #[sv,nilS] 68 ?_;clear HK;intro g6 wb6 HK Gg6;replace Bc:=ce1_ HK 0)|((with_reducible refine gd_ 8 ?_);refine bx_ (jvc x A4 A5 c4 c5) 25 ?_;clear HK;intro g8 wb8 HK Gg8;replace Bc:=ce2_ HK 1 0)|((with_reducible refine gd_ 9 ?_);refine bx_ (#[.string ⟨#[49]⟩,.string kn,.slice Ap np cp,.slice Aa 0 ca,.string tx,.slice An nn cn,nilS,nilS]) 54 ?_;clear HK;intro g9 wb9 HK Gg9;replace Bc:=ce3_ HK 2 1 0)|((with_reducible refine gd_ 18 ?_);refine lo_ 25 8 g8 (jvc x A4 A5 c4 c5) HK.out.k.2.1 Tryz.underlying25 ?_)|((with_reducible refine gd_ 11 ?_);refine bx_ #[i0,bF,i0,eS,nilS,nilS] 25 ?_;clear HK;intro g11 wb11 HK Gg11;replace Bc:=ce4_ HK 3 2 1 0)|((with_reducible refine gd_ 27 ?_);(try (refine gate_guard (by rfl) ?_;dsimp only));refine lo_ 54 9 g9 (#[.string ⟨#[49]⟩,.string kn,.slice Ap np cp,.slice Aa 0 ca,.string tx,.slice An nn cn,nilS,nilS]) HK.out.k.2.1 Tryz.underlying54 ?_)|(go_at_call 23;refine (HD.out _ HK.out.b).mono ?_;rintro e w3 ⟨v34,rfl,⟨g7,rfl,h7,hf7⟩,hB⟩;have HK1:=At.came HK.out hB h7 hf7;clear hB h7 hf7;replace HK:=asd_ HK1;clear HK1;replace Bc:=ce5_ HK 4 3 2 1 0)|((with_reducible refine gd_ 21 ?_);refine cl_ #[.agg (jvc x A4 A5 c4 c5),.slice Aa 0 ca] (.tuple #[.agg (jvc x A4 A5 c4 c5),.bool true]) Tryz.func40 (part_nil _ x A4 A5 c4 c5 Aa ca) ?_;intro wc21 HK1;replace HK:=asd_ HK1;clear HK1;replace Bc:=ce3_ HK 2 1 0)|((first|((with_reducible refine gate_ (.store 25 (.tmp 11) (.tmp 22)) rfl ?_);refine storerow_at (cs:=#[i0,bF,i0,eS,nilS,nilS]) (g:=g11) 0 (jvc x A4 A5 c4 c5) at_ rfl Gg11.out rfl rfl rfl rfl rfl rfl kr_ rfl (by simp [Value.oneCell']) ?_)|((with_reducible refine gd_ 28 ?_);(try (refine gate_guard (by rfl) ?_;dsimp only));refine cl_ #[.agg #[.string ⟨#[49]⟩,.string kn,.slice Ap np cp,.slice Aa 0 ca,.string tx,.slice An nn cn,nilS,nilS]] (.bool true) Tryz.func41 (HP.out _ HK.out.b) ?_));intro wr1 HK1;replace HK:=asd_ HK1;clear HK1;replace Bc:=ce4_ HK 3 2 1 0))
 refine wp_loop_two ?_
 go_wp2_with fail
 refine su5_ 31 HK 4 3 2 1 0 [] (fun HS hHeld=> ?_)
 refine pu_ 0 41 1 ?_
 refine pu_ 1 42 3 ?_
 refine pu_ 2 43 7 ?_
 refine pu_ 3 44 15 ?_
 refine pu_ 4 45 31 ?_
 refine ta6_ 5 46 63 hHeld ?_
 refine pu_ 6 47 127 ?_
 refine pu_ 7 48 255 ?_
 refine pu_ 8 49 511 ?_
 refine pu_ 10 51 1535 ?_
 refine pu_ 11 52 3583 ?_
 refine pu_ 12 53 7679 ?_
 refine tq_ 9 50 8191 rfl hHeld (by rintro w' ⟨s0,s1,s2,s3,s4,s5⟩;exact rr_ 6 g6 (#[sv,nilS]) s0.k.2.2.2.2.1 Tryz.underlying68) ?_
 refine ta6_ 13 54 16383 hHeld ?_
 refine tq_ 14 55 32767 rfl hHeld (by rintro w' ⟨s0,s1,s2,s3,s4,s5⟩;exact rr_ 11 g11 (jvc x A4 A5 c4 c5) s0.k.2.1 Tryz.underlying25) ?_
 refine on_ 15 56 65535 (fun K hK=> ?_)
 have HE:=asd_ (hHeld.1)
 refine ge_ Tryz.func42 #[.int .i64 2020,.agg #[sv,nilS],.int .i64 1,.agg (jvc x A4 A5 c4 c5)] ?_
 with_reducible refine (HT.out _ HE.out.b).mono ?_
 rintro e w3 ⟨rfl,hb⟩
 refine ⟨_,rfl,?_⟩
 replace HE:=asd_ (At.step HE.out hb)
 refine hK.out _ _ ⟨HE.out,(cE_ HE 4),(cE_ HE 3),(cE_ HE 2),(cE_ HE 1),(cE_ HE 0)⟩ (fun hHeld=> ?_)
 clear hK K
 refine nq_ 56 ?_
 refine pu_ 16 57 131071 ?_
 refine pu_ 17 58 262143 ?_
 refine pu_ 18 59 524287 ?_
 refine pu_ 19 60 1048575 ?_
 refine pu_ 21 62 3145727 ?_
 refine pu_ 22 63 7340031 ?_
 refine pu_ 23 64 15728639 ?_
 refine tq_ 20 61 16777215 rfl hHeld (by rintro w' ⟨s0,s1,s2,s3,s4,s5⟩;exact rr_ 6 g6 (#[sv,nilS]) s0.k.2.2.2.2.1 Tryz.underlying68) ?_
 refine ta6_ 24 65 33554431 hHeld ?_
 refine tq_ 25 66 67108863 rfl hHeld (by rintro w' ⟨s0,s1,s2,s3,s4,s5⟩;exact rr_ 11 g11 (jvc x A4 A5 c4 c5) s0.k.2.1 Tryz.underlying25) ?_
 refine tq_ 26 67 134217727 rfl hHeld (by rintro w' ⟨s0,s1,s2,s3,s4,s5⟩;exact rr_ 9 g9 (#[.string ⟨#[49]⟩,.string kn,.slice Ap np cp,.slice Aa 0 ca,.string tx,.slice An nn cn,nilS,nilS]) s0.k.2.2.1 Tryz.underlying54) ?_
 refine on_ 27 68 268435455 (fun K hK=> ?_)
 refine ge_ Tryz.func43 #[.int .i64 2020,.agg #[sv,nilS],.int .i64 1,.agg (jvc x A4 A5 c4 c5),.agg #[.string ⟨#[49]⟩,.string kn,.slice Ap np cp,.slice Aa 0 ca,.string tx,.slice An nn cn,nilS,nilS]] ?_
 with_reducible refine (HR.out _ HE.out.b).mono ?_
 rintro e w3 ⟨rfl,hb⟩
 refine ⟨_,rfl,?_⟩
 replace HE:=asd_ (At.step HE.out hb)
 refine hK.out _ _ ⟨HE.out,(cE_ HE 4),(cE_ HE 3),(cE_ HE 2),(cE_ HE 1),(cE_ HE 0)⟩ (fun hHeld=> ?_)
 clear hK K
 refine nq_ 68 ?_
 refine pu_ 28 69 536870911 ?_
 refine pu_ 29 70 1073741823 ?_
 refine pu_ 30 14 2147483647 ?_
 refine done_ kr_ ?_
 clear HK;have HK:=HE;clear HE
 clear hHeld
 replace Bc:=ce5_ HK 4 3 2 1 0
 go_wp2_with fail
 refine wp_loop_once ?_
 go_wp2_with fail
 go_ret
 exact ⟨by first|rfl|simp,be_⟩
theorem begins_ok (w:World) (A A':Option Addr) (c c':Nat):Calls Tryz.prog 44 #[.slice A 0 c,.slice A' 0 c'] w (rb (.bool true) w):=
 (spec_jBegins.calls 1 A c [] A' c' [] true w ⟨rfl,by decide,fun h=>absurd h (by decide)⟩ (Nat.zero_le _) ⟨rfl,by decide,fun h=>absurd h (by decide)⟩ (Nat.zero_le _) (begins_is [])).mono (fun e w' h=>⟨h.1,h.2.below⟩)
theorem er_root (w:World) (sv:Value) (gc:Nat) (x:S25) (A4 A5:Option Addr) (c4 c5:Nat) (tx:ByteArray) (Ap Aa An:Option Addr) (cp ca nn cn:Nat) (gk ck:Nat) (a0 a1 a4:ByteArray) (B2 Aa2 B5:Option Addr) (m2 d2 ca2 m5 d5:Nat)
  (hP:∀ W,Below w.heap.size w W→Calls Tryz.prog 41 #[.agg #[.string ⟨#[49]⟩,.string ⟨#[83,99,104,101,109,97]⟩,.slice Ap 0 cp,.slice Aa 0 ca,.string tx,.slice An nn cn,nilS,.slice (some ⟨gk,0,none⟩) 1 ck]] W (rb (.bool true) W))
  (hD:∀ W,Below w.heap.size w W→Calls Tryz.prog 23 #[.string ⟨#[49]⟩,.pointer (some ⟨gc,0,none⟩)] W fun e w'=>∃ v,e= .returned v∧(∃ g7,v= .slice (some ⟨g7,0,none⟩) 1 1∧w'.heap[g7]? =some (row #[.int .i64 1] 3)∧W.heap.size≤g7)∧Below W.heap.size W w')
  (hT:∀ W,Below w.heap.size w W→Calls Tryz.prog 42 #[.int .i64 2020,.agg #[sv,nilS],.int .i64 1,.agg (jvc x A4 A5 c4 c5)] W (rb (.bool false) W))
  (hR:∀ W,Below w.heap.size w W→Calls Tryz.prog 43 #[.int .i64 2020,.agg #[sv,nilS],.int .i64 1,.agg (jvc x A4 A5 c4 c5),.agg #[.string ⟨#[49]⟩,.string ⟨#[83,99,104,101,109,97]⟩,.slice Ap 0 cp,.slice Aa 0 ca,.string tx,.slice An nn cn,nilS,.slice (some ⟨gk,0,none⟩) 1 ck]] W (rb (.bool true) W))
  (hC:∀ (i:Nat) (v:Value),(#[.string a0,.string a1,.slice B2 m2 d2,.slice Aa2 0 ca2,.string a4,.slice B5 m5 d5,nilS,nilS]:Array Value)[i]? =some v→w.cell? ⟨gk,i,none⟩=some v)
  (hL:∀ W,Below w.heap.size w W→Calls Tryz.prog 22 #[.int .i64 2020,.agg #[sv,nilS],Value.func (.func 23) #[] #[.pointer (some ⟨gc,0,none⟩)],.agg (jvc x A4 A5 c4 c5),.agg #[.string a0,.string a1,.slice B2 m2 d2,.slice Aa2 0 ca2,.string a4,.slice B5 m5 d5,nilS,nilS]] W (rb (.bool true) W)):Calls Tryz.prog 22 #[.int .i64 2020,.agg #[sv,nilS],Value.func (.func 23) #[] #[.pointer (some ⟨gc,0,none⟩)],.agg (jvc x A4 A5 c4 c5),.agg #[.string ⟨#[49]⟩,.string ⟨#[83,99,104,101,109,97]⟩,.slice Ap 0 cp,.slice Aa 0 ca,.string tx,.slice An nn cn,nilS,.slice (some ⟨gk,0,none⟩) 1 ck]] w (rb (.bool true) w):=by
 have HP:=asd_ hP
 have HD:=asd_ hD
 have HT:=asd_ hT
 have HR:=asd_ hR
 clear hP hD hT hR
 have HC:=asd_ hC
 have HL:=asd_ hL
 clear hC hL
 have HK:=st0_ w
 go_enter Tryz.func22,Tryz.ntmps22
 go_wp2_with (first|((with_reducible refine gd_ 6 ?_);refine bx_ #[sv,nilS] 68 ?_;clear HK;intro g6 wb6 HK Gg6;replace Bc:=ce1_ HK 0)|((with_reducible refine gd_ 8 ?_);refine bx_ (jvc x A4 A5 c4 c5) 25 ?_;clear HK;intro g8 wb8 HK Gg8;replace Bc:=ce2_ HK 1 0)|((with_reducible refine gd_ 9 ?_);refine bx_ (#[.string ⟨#[49]⟩,.string ⟨#[83,99,104,101,109,97]⟩,.slice Ap 0 cp,.slice Aa 0 ca,.string tx,.slice An nn cn,nilS,.slice (some ⟨gk,0,none⟩) 1 ck]) 54 ?_;clear HK;intro g9 wb9 HK Gg9;replace Bc:=ce3_ HK 2 1 0)|((with_reducible refine gd_ 18 ?_);refine lo_ 25 8 g8 (jvc x A4 A5 c4 c5) HK.out.k.2.1 Tryz.underlying25 ?_)|((with_reducible refine gd_ 11 ?_);refine bx_ #[i0,bF,i0,eS,nilS,nilS] 25 ?_;clear HK;intro g11 wb11 HK Gg11;replace Bc:=ce4_ HK 3 2 1 0)|((with_reducible refine gd_ 27 ?_);(try (refine gate_guard (by rfl) ?_;dsimp only));refine lo_ 54 9 g9 (#[.string ⟨#[49]⟩,.string ⟨#[83,99,104,101,109,97]⟩,.slice Ap 0 cp,.slice Aa 0 ca,.string tx,.slice An nn cn,nilS,.slice (some ⟨gk,0,none⟩) 1 ck]) HK.out.k.2.1 Tryz.underlying54 ?_)|(go_at_call 23;refine (HD.out _ HK.out.b).mono ?_;rintro e w3 ⟨v34,rfl,⟨g7,rfl,h7,hf7⟩,hB⟩;have HK1:=At.came HK.out hB h7 hf7;clear hB h7 hf7;replace HK:=asd_ HK1;clear HK1;replace Bc:=ce5_ HK 4 3 2 1 0)|((with_reducible refine gd_ 21 ?_);refine cl_ #[.agg (jvc x A4 A5 c4 c5),.slice Aa 0 ca] (.tuple #[.agg (jvc x A4 A5 c4 c5),.bool true]) Tryz.func40 (part_nil _ x A4 A5 c4 c5 Aa ca) ?_;intro wc21 HK1;replace HK:=asd_ HK1;clear HK1;replace Bc:=ce3_ HK 2 1 0)|((first|((with_reducible refine gate_ (.store 25 (.tmp 11) (.tmp 22)) rfl ?_);refine storerow_at (cs:=#[i0,bF,i0,eS,nilS,nilS]) (g:=g11) 0 (jvc x A4 A5 c4 c5) at_ rfl Gg11.out rfl rfl rfl rfl rfl rfl kr_ rfl (by simp [Value.oneCell']) ?_)|((with_reducible refine gd_ 28 ?_);(try (refine gate_guard (by rfl) ?_;dsimp only));refine cl_ #[.agg #[.string ⟨#[49]⟩,.string ⟨#[83,99,104,101,109,97]⟩,.slice Ap 0 cp,.slice Aa 0 ca,.string tx,.slice An nn cn,nilS,.slice (some ⟨gk,0,none⟩) 1 ck]] (.bool true) Tryz.func41 (HP.out _ HK.out.b) ?_));intro wr1 HK1;replace HK:=asd_ HK1;clear HK1;replace Bc:=ce4_ HK 3 2 1 0))
 refine wp_loop_two ?_
 go_wp2_with fail
 refine su5_ 31 HK 4 3 2 1 0 [] (fun HS hHeld=> ?_)
 refine pu_ 0 41 1 ?_
 refine pu_ 1 42 3 ?_
 refine pu_ 2 43 7 ?_
 refine pu_ 3 44 15 ?_
 refine pu_ 4 45 31 ?_
 refine ta6_ 5 46 63 hHeld ?_
 refine pu_ 6 47 127 ?_
 refine pu_ 7 48 255 ?_
 refine pu_ 8 49 511 ?_
 refine pu_ 10 51 1535 ?_
 refine pu_ 11 52 3583 ?_
 refine pu_ 12 53 7679 ?_
 refine tq_ 9 50 8191 rfl hHeld (by rintro w' ⟨s0,s1,s2,s3,s4,s5⟩;exact rr_ 6 g6 (#[sv,nilS]) s0.k.2.2.2.2.1 Tryz.underlying68) ?_
 refine ta6_ 13 54 16383 hHeld ?_
 refine tq_ 14 55 32767 rfl hHeld (by rintro w' ⟨s0,s1,s2,s3,s4,s5⟩;exact rr_ 11 g11 (jvc x A4 A5 c4 c5) s0.k.2.1 Tryz.underlying25) ?_
 refine on_ 15 56 65535 (fun K hK=> ?_)
 have HE:=asd_ (hHeld.1)
 refine ge_ Tryz.func42 #[.int .i64 2020,.agg #[sv,nilS],.int .i64 1,.agg (jvc x A4 A5 c4 c5)] ?_
 with_reducible refine (HT.out _ HE.out.b).mono ?_
 rintro e w3 ⟨rfl,hb⟩
 refine ⟨_,rfl,?_⟩
 replace HE:=asd_ (At.step HE.out hb)
 refine hK.out _ _ ⟨HE.out,(cE_ HE 4),(cE_ HE 3),(cE_ HE 2),(cE_ HE 1),(cE_ HE 0)⟩ (fun hHeld=> ?_)
 clear hK K
 refine nq_ 56 ?_
 refine pu_ 16 57 131071 ?_
 refine pu_ 17 58 262143 ?_
 refine pu_ 18 59 524287 ?_
 refine pu_ 19 60 1048575 ?_
 refine pu_ 21 62 3145727 ?_
 refine pu_ 22 63 7340031 ?_
 refine pu_ 23 64 15728639 ?_
 refine tq_ 20 61 16777215 rfl hHeld (by rintro w' ⟨s0,s1,s2,s3,s4,s5⟩;exact rr_ 6 g6 (#[sv,nilS]) s0.k.2.2.2.2.1 Tryz.underlying68) ?_
 refine ta6_ 24 65 33554431 hHeld ?_
 refine tq_ 25 66 67108863 rfl hHeld (by rintro w' ⟨s0,s1,s2,s3,s4,s5⟩;exact rr_ 11 g11 (jvc x A4 A5 c4 c5) s0.k.2.1 Tryz.underlying25) ?_
 refine tq_ 26 67 134217727 rfl hHeld (by rintro w' ⟨s0,s1,s2,s3,s4,s5⟩;exact rr_ 9 g9 (#[.string ⟨#[49]⟩,.string ⟨#[83,99,104,101,109,97]⟩,.slice Ap 0 cp,.slice Aa 0 ca,.string tx,.slice An nn cn,nilS,.slice (some ⟨gk,0,none⟩) 1 ck]) s0.k.2.2.1 Tryz.underlying54) ?_
 refine on_ 27 68 268435455 (fun K hK=> ?_)
 refine ge_ Tryz.func43 #[.int .i64 2020,.agg #[sv,nilS],.int .i64 1,.agg (jvc x A4 A5 c4 c5),.agg #[.string ⟨#[49]⟩,.string ⟨#[83,99,104,101,109,97]⟩,.slice Ap 0 cp,.slice Aa 0 ca,.string tx,.slice An nn cn,nilS,.slice (some ⟨gk,0,none⟩) 1 ck]] ?_
 with_reducible refine (HR.out _ HE.out.b).mono ?_
 rintro e w3 ⟨rfl,hb⟩
 refine ⟨_,rfl,?_⟩
 replace HE:=asd_ (At.step HE.out hb)
 refine hK.out _ _ ⟨HE.out,(cE_ HE 4),(cE_ HE 3),(cE_ HE 2),(cE_ HE 1),(cE_ HE 0)⟩ (fun hHeld=> ?_)
 clear hK K
 refine nq_ 68 ?_
 refine pu_ 28 69 536870911 ?_
 refine pu_ 29 70 1073741823 ?_
 refine pu_ 30 14 2147483647 ?_
 refine done_ kr_ ?_
 clear HK;have HK:=HE;clear HE
 clear hHeld
 replace Bc:=ce5_ HK 4 3 2 1 0
 go_wp2_with fail
 refine wp_loop_two ?_
 go_wp2_with fail
 refine st_ 25 (fun w'=>At w [.b g7 (row #[.int .i64 1] 3),.b g11 (row (jvc x A4 A5 c4 c5) 25),.b g9 (row (#[.string ⟨#[49]⟩,.string ⟨#[83,99,104,101,109,97]⟩,.slice Ap 0 cp,.slice Aa 0 ca,.string tx,.slice An nn cn,nilS,.slice (some ⟨gk,0,none⟩) 1 ck]) 54),.b g8 (row (jvc x A4 A5 c4 c5) 25),.b g6 (row (#[sv,nilS]) 68)] w'∧(∀ j,w'.cell? ⟨g6,j,none⟩=(#[sv,nilS]:Array Value)[j]?)∧(∀ j,w'.cell? ⟨g8,j,none⟩=(jvc x A4 A5 c4 c5:Array Value)[j]?)∧(∀ j,w'.cell? ⟨g9,j,none⟩=(#[.string ⟨#[49]⟩,.string ⟨#[83,99,104,101,109,97]⟩,.slice Ap 0 cp,.slice Aa 0 ca,.string tx,.slice An nn cn,nilS,.slice (some ⟨gk,0,none⟩) 1 ck]:Array Value)[j]?)∧(∀ j,w'.cell? ⟨g11,j,none⟩=(jvc x A4 A5 c4 c5:Array Value)[j]?)∧(∀ j,w'.cell? ⟨g7,j,none⟩=(#[.int .i64 1]:Array Value)[j]?)∧w'.cell? ⟨gk,0,none⟩=some (.string a0)∧w'.cell? ⟨gk,1,none⟩=some (.string a1)∧w'.cell? ⟨gk,2,none⟩=some (.slice B2 m2 d2)∧w'.cell? ⟨gk,3,none⟩=some (.slice Aa2 0 ca2)∧w'.cell? ⟨gk,4,none⟩=some (.string a4)∧w'.cell? ⟨gk,5,none⟩=some (.slice B5 m5 d5)∧w'.cell? ⟨gk,6,none⟩=some (nilS)∧w'.cell? ⟨gk,7,none⟩=some (nilS)) [] (fun A=>⟨A,(cA_ A 4),(cA_ A 3),(cA_ A 2),(cA_ A 1),(cA_ A 0),((A.b.cell (World.block_lt_of_cell? w _ (HC.out 0 _ rfl))).trans (HC.out 0 _ rfl)),((A.b.cell (World.block_lt_of_cell? w _ (HC.out 1 _ rfl))).trans (HC.out 1 _ rfl)),((A.b.cell (World.block_lt_of_cell? w _ (HC.out 2 _ rfl))).trans (HC.out 2 _ rfl)),((A.b.cell (World.block_lt_of_cell? w _ (HC.out 3 _ rfl))).trans (HC.out 3 _ rfl)),((A.b.cell (World.block_lt_of_cell? w _ (HC.out 4 _ rfl))).trans (HC.out 4 _ rfl)),((A.b.cell (World.block_lt_of_cell? w _ (HC.out 5 _ rfl))).trans (HC.out 5 _ rfl)),((A.b.cell (World.block_lt_of_cell? w _ (HC.out 6 _ rfl))).trans (HC.out 6 _ rfl)),((A.b.cell (World.block_lt_of_cell? w _ (HC.out 7 _ rfl))).trans (HC.out 7 _ rfl))⟩) (fun hHeld=> ?_)
 refine pu_ 0 78 1 ?_
 refine pu_ 1 79 3 ?_
 refine pu_ 2 80 7 ?_
 refine pu_ 4 82 23 ?_
 refine pu_ 8 86 279 ?_
 refine ta14_ 3 81 287 hHeld ?_
 refine pu_ 5 83 319 ?_
 refine pu_ 6 84 383 ?_
 refine ta14_ 7 85 511 hHeld ?_
 refine ta14_ 9 87 1023 hHeld ?_
 refine on_ 10 88 2047 (fun K hK=> ?_)
 have HE:=asd_ (hHeld.1)
 refine ge_ Tryz.func44 #[.slice Aa2 0 ca2,.slice Aa 0 ca] ?_
 with_reducible refine (begins_ok _ Aa2 Aa ca2 ca).mono ?_
 rintro e w3 ⟨rfl,hb⟩
 refine ⟨_,rfl,?_⟩
 replace HE:=asd_ (At.step HE.out hb)
 refine hK.out _ _ ⟨HE.out,(cE_ HE 4),(cE_ HE 3),(cE_ HE 2),(cE_ HE 1),(cE_ HE 0),((HE.out.b.cell (World.block_lt_of_cell? w _ (HC.out 0 _ rfl))).trans (HC.out 0 _ rfl)),((HE.out.b.cell (World.block_lt_of_cell? w _ (HC.out 1 _ rfl))).trans (HC.out 1 _ rfl)),((HE.out.b.cell (World.block_lt_of_cell? w _ (HC.out 2 _ rfl))).trans (HC.out 2 _ rfl)),((HE.out.b.cell (World.block_lt_of_cell? w _ (HC.out 3 _ rfl))).trans (HC.out 3 _ rfl)),((HE.out.b.cell (World.block_lt_of_cell? w _ (HC.out 4 _ rfl))).trans (HC.out 4 _ rfl)),((HE.out.b.cell (World.block_lt_of_cell? w _ (HC.out 5 _ rfl))).trans (HC.out 5 _ rfl)),((HE.out.b.cell (World.block_lt_of_cell? w _ (HC.out 6 _ rfl))).trans (HC.out 6 _ rfl)),((HE.out.b.cell (World.block_lt_of_cell? w _ (HC.out 7 _ rfl))).trans (HC.out 7 _ rfl))⟩ (fun hHeld=> ?_)
 clear hK K
 refine nq_ 88 ?_
 refine pu_ 11 89 4095 ?_
 refine pu_ 12 90 8191 ?_
 refine pu_ 13 91 16383 ?_
 refine pu_ 15 93 49151 ?_
 refine pu_ 17 95 180223 ?_
 refine pu_ 19 97 704511 ?_
 refine tq_ 14 92 720895 rfl hHeld (by rintro w' ⟨s0,s1,s2,s3,s4,s5,s6,s7,s8,s9,s10,s11,s12,s13⟩;exact rr_ 6 g6 (#[sv,nilS]) s0.k.2.2.2.2.1 Tryz.underlying68) ?_
 refine tq_ 16 94 786431 rfl hHeld (by rintro w' ⟨s0,s1,s2,s3,s4,s5,s6,s7,s8,s9,s10,s11,s12,s13⟩;exact rr_ 8 g8 (jvc x A4 A5 c4 c5) s0.k.2.2.2.1 Tryz.underlying25) ?_
 refine ta14_ 18 96 1048575 hHeld ?_
 refine pu_ 20 98 2097151 ?_
 refine ta14_ 21 99 4194303 hHeld ?_
 refine on_ 22 100 8388607 (fun K hK=> ?_)
 refine ge_ Tryz.func22 #[.int .i64 2020,.agg #[sv,nilS],Value.func (.func 23) #[] #[.pointer (some ⟨gc,0,none⟩)],.agg (jvc x A4 A5 c4 c5),.agg #[.string a0,.string a1,.slice B2 m2 d2,.slice Aa2 0 ca2,.string a4,.slice B5 m5 d5,nilS,nilS]] ?_
 with_reducible refine (HL.out _ HE.out.b).mono ?_
 rintro e w3 ⟨rfl,hb⟩
 refine ⟨_,rfl,?_⟩
 replace HE:=asd_ (At.step HE.out hb)
 refine hK.out _ _ ⟨HE.out,(cE_ HE 4),(cE_ HE 3),(cE_ HE 2),(cE_ HE 1),(cE_ HE 0),((HE.out.b.cell (World.block_lt_of_cell? w _ (HC.out 0 _ rfl))).trans (HC.out 0 _ rfl)),((HE.out.b.cell (World.block_lt_of_cell? w _ (HC.out 1 _ rfl))).trans (HC.out 1 _ rfl)),((HE.out.b.cell (World.block_lt_of_cell? w _ (HC.out 2 _ rfl))).trans (HC.out 2 _ rfl)),((HE.out.b.cell (World.block_lt_of_cell? w _ (HC.out 3 _ rfl))).trans (HC.out 3 _ rfl)),((HE.out.b.cell (World.block_lt_of_cell? w _ (HC.out 4 _ rfl))).trans (HC.out 4 _ rfl)),((HE.out.b.cell (World.block_lt_of_cell? w _ (HC.out 5 _ rfl))).trans (HC.out 5 _ rfl)),((HE.out.b.cell (World.block_lt_of_cell? w _ (HC.out 6 _ rfl))).trans (HC.out 6 _ rfl)),((HE.out.b.cell (World.block_lt_of_cell? w _ (HC.out 7 _ rfl))).trans (HC.out 7 _ rfl))⟩ (fun hHeld=> ?_)
 clear hK K
 refine nq_ 100 ?_
 refine pu_ 23 101 16777215 ?_
 refine pu_ 24 14 33554431 ?_
 refine done_ kr_ ?_
 clear HK;have HK:=HE;clear HE
 clear hHeld
 replace Bc:=ce5_ HK 4 3 2 1 0
 go_wp2_with fail
 go_ret
 exact ⟨by first|rfl|simp,be_⟩
theorem er17 (w:World) (A:Option Addr) (cS:Nat) (x:S25) (A4 A5:Option Addr) (c4 c5:Nat) (e0 e1 e4:ByteArray) (E2 E3 E5 E7:Option Addr) (m2 d2 m3 d3 m5 d5 m7 d7:Nat)
  (hE:∀ W gc,Below w.heap.size w W→W.heap[gc]? =some (row #[.slice A 1 cS] 31)→Calls Tryz.prog 22 #[.int .i64 2020,.agg #[.slice A 1 cS,nilS],Value.func (.func 23) #[] #[.pointer (some ⟨gc,0,none⟩)],.agg (jvc x A4 A5 c4 c5),.agg #[.string e0,.string e1,.slice E2 m2 d2,.slice E3 m3 d3,.string e4,.slice E5 m5 d5,nilS,.slice E7 m7 d7]] W (rb (.bool true) W)):Calls Tryz.prog 17 #[.int .i64 2020,.slice A 1 cS,.agg (jvc x A4 A5 c4 c5),.agg #[.string e0,.string e1,.slice E2 m2 d2,.slice E3 m3 d3,.string e4,.slice E5 m5 d5,nilS,.slice E7 m7 d7]] w (rb (.bool true) w):=by
 have HE:=asd_ hE
 clear hE
 have HK:=st0_ w
 go_enter Tryz.func17,Tryz.ntmps17
 go_wp2_with (first|((with_reducible refine gd_ 5 ?_);refine bx_ #[.slice A 1 cS] 31 ?_;clear HK;intro g5 wb5 HK Gg5;replace Bc:=ce1_ HK 0)|((with_reducible refine gd_ 6 ?_);refine bx_ (jvc x A4 A5 c4 c5) 25 ?_;clear HK;intro g6 wb6 HK Gg6;replace Bc:=ce2_ HK 1 0)|((with_reducible refine gd_ 7 ?_);refine bx_ #[.string e0,.string e1,.slice E2 m2 d2,.slice E3 m3 d3,.string e4,.slice E5 m5 d5,nilS,.slice E7 m7 d7] 54 ?_;clear HK;intro g7 wb7 HK Gg7;replace Bc:=ce3_ HK 2 1 0)|((with_reducible refine gd_ 13 ?_);refine lo_ 25 6 g6 (jvc x A4 A5 c4 c5) HK.out.k.2.1 Tryz.underlying25 ?_)|((with_reducible refine gd_ 14 ?_);refine lo_ 54 7 g7 (#[.string e0,.string e1,.slice E2 m2 d2,.slice E3 m3 d3,.string e4,.slice E5 m5 d5,nilS,.slice E7 m7 d7]) HK.out.k.1 Tryz.underlying54 ?_)|((with_reducible refine gd_ 15 ?_);refine cl_ #[.int .i64 2020,.agg #[.slice A 1 cS,nilS],Value.func (.func 23) #[] #[.pointer (some ⟨g5,0,none⟩)],.agg (jvc x A4 A5 c4 c5),.agg #[.string e0,.string e1,.slice E2 m2 d2,.slice E3 m3 d3,.string e4,.slice E5 m5 d5,nilS,.slice E7 m7 d7]] (.bool true) Tryz.func22 (HE.out _ g5 HK.out.b HK.out.k.2.2.1) ?_;intro wc15 HK1;replace HK:=asd_ HK1;clear HK1;replace Bc:=ce3_ HK 2 1 0))
 go_ret
 exact ⟨by first|rfl|simp,be_⟩
theorem kinds_leaf (w:World) (tx kn:ByteArray) (Ap Aa An:Option Addr) (np cp ca nn cn:Nat) (A2:Option Addr) (n2 c2:Nat)
  (hA:∀ W,Below w.heap.size w W→Calls Tryz.prog 21 #[.string kn,.slice A2 n2 c2] W (rb (.bool true) W)):Calls Tryz.prog 16 #[.agg #[.string ⟨#[49]⟩,.string kn,.slice Ap np cp,.slice Aa 0 ca,.string tx,.slice An nn cn,nilS,nilS],.string ⟨#[49]⟩,.slice A2 n2 c2] w (rb (.int .i64 1) w):=by
 have HA:=asd_ hA
 clear hA
 have HK:=st0_ w
 go_enter Tryz.func16,Tryz.ntmps16
 go_wp2_with (first|((with_reducible refine gd_ 3 ?_);refine bx_ (#[.string ⟨#[49]⟩,.string kn,.slice Ap np cp,.slice Aa 0 ca,.string tx,.slice An nn cn,nilS,nilS]) 54 ?_;clear HK;intro g3 wb3 HK Gg3;replace Bc:=ce1_ HK 0)|((with_reducible refine gd_ 17 ?_);(try (refine gate_guard (by rfl) ?_;dsimp only));refine cl_ #[.string kn,.slice A2 n2 c2] (.bool true) Tryz.func21 (HA.out _ HK.out.b) ?_;intro wc17 HK1;replace HK:=asd_ HK1;clear HK1;replace Bc:=ce1_ HK 0))
 refine wp_loop_once ?_
 go_wp2_with fail
 go_ret
 exact ⟨by first|rfl|simp,be_⟩
theorem kinds_root (w:World) (tx:ByteArray) (Ap Aa An:Option Addr) (cp ca nn cn:Nat) (A2:Option Addr) (n2 c2:Nat) (gk ck:Nat) (a0 a1 a4:ByteArray) (B2 Aa2 B5:Option Addr) (m2 d2 ca2 m5 d5:Nat)
  (hA:∀ W,Below w.heap.size w W→Calls Tryz.prog 21 #[.string ⟨#[83,99,104,101,109,97]⟩,.slice A2 n2 c2] W (rb (.bool false) W))
  (hC:∀ (i:Nat) (v:Value),(#[.string a0,.string a1,.slice B2 m2 d2,.slice Aa2 0 ca2,.string a4,.slice B5 m5 d5,nilS,nilS]:Array Value)[i]? =some v→w.cell? ⟨gk,i,none⟩=some v)
  (hL:∀ W,Below w.heap.size w W→Calls Tryz.prog 16 #[.agg #[.string a0,.string a1,.slice B2 m2 d2,.slice Aa2 0 ca2,.string a4,.slice B5 m5 d5,nilS,nilS],.string ⟨#[49]⟩,.slice A2 n2 c2] W (rb (.int .i64 1) W)):Calls Tryz.prog 16 #[.agg #[.string ⟨#[49]⟩,.string ⟨#[83,99,104,101,109,97]⟩,.slice Ap 0 cp,.slice Aa 0 ca,.string tx,.slice An nn cn,nilS,.slice (some ⟨gk,0,none⟩) 1 ck],.string ⟨#[49]⟩,.slice A2 n2 c2] w (rb (.int .i64 1) w):=by
 have HA:=asd_ hA
 clear hA
 have HC:=asd_ hC
 have HL:=asd_ hL
 clear hC hL
 have HK:=st0_ w
 go_enter Tryz.func16,Tryz.ntmps16
 go_wp2_with (first|((with_reducible refine gd_ 3 ?_);refine bx_ (#[.string ⟨#[49]⟩,.string ⟨#[83,99,104,101,109,97]⟩,.slice Ap 0 cp,.slice Aa 0 ca,.string tx,.slice An nn cn,nilS,.slice (some ⟨gk,0,none⟩) 1 ck]) 54 ?_;clear HK;intro g3 wb3 HK Gg3;replace Bc:=ce1_ HK 0;have hk0:World.cell? wb3 ⟨gk,0,none⟩=some (.string a0):=(HK.out.b.cell (World.block_lt_of_cell? w _ (HC.out 0 _ rfl))).trans (HC.out 0 _ rfl);have hk1:World.cell? wb3 ⟨gk,1,none⟩=some (.string a1):=(HK.out.b.cell (World.block_lt_of_cell? w _ (HC.out 1 _ rfl))).trans (HC.out 1 _ rfl);have hk2:World.cell? wb3 ⟨gk,2,none⟩=some (.slice B2 m2 d2):=(HK.out.b.cell (World.block_lt_of_cell? w _ (HC.out 2 _ rfl))).trans (HC.out 2 _ rfl);have hk3:World.cell? wb3 ⟨gk,3,none⟩=some (.slice Aa2 0 ca2):=(HK.out.b.cell (World.block_lt_of_cell? w _ (HC.out 3 _ rfl))).trans (HC.out 3 _ rfl);have hk4:World.cell? wb3 ⟨gk,4,none⟩=some (.string a4):=(HK.out.b.cell (World.block_lt_of_cell? w _ (HC.out 4 _ rfl))).trans (HC.out 4 _ rfl);have hk5:World.cell? wb3 ⟨gk,5,none⟩=some (.slice B5 m5 d5):=(HK.out.b.cell (World.block_lt_of_cell? w _ (HC.out 5 _ rfl))).trans (HC.out 5 _ rfl);have hk6:World.cell? wb3 ⟨gk,6,none⟩=some (nilS):=(HK.out.b.cell (World.block_lt_of_cell? w _ (HC.out 6 _ rfl))).trans (HC.out 6 _ rfl);have hk7:World.cell? wb3 ⟨gk,7,none⟩=some (nilS):=(HK.out.b.cell (World.block_lt_of_cell? w _ (HC.out 7 _ rfl))).trans (HC.out 7 _ rfl))|((with_reducible refine gd_ 17 ?_);(try (refine gate_guard (by rfl) ?_;dsimp only));refine cl_ #[.string ⟨#[83,99,104,101,109,97]⟩,.slice A2 n2 c2] (.bool false) Tryz.func21 (HA.out _ HK.out.b) ?_;intro wc17 HK1;replace HK:=asd_ HK1;clear HK1;clear hk0 hk1 hk2 hk3 hk4 hk5 hk6 hk7;replace Bc:=ce1_ HK 0;have hk0:World.cell? wc17 ⟨gk,0,none⟩=some (.string a0):=(HK.out.b.cell (World.block_lt_of_cell? w _ (HC.out 0 _ rfl))).trans (HC.out 0 _ rfl);have hk1:World.cell? wc17 ⟨gk,1,none⟩=some (.string a1):=(HK.out.b.cell (World.block_lt_of_cell? w _ (HC.out 1 _ rfl))).trans (HC.out 1 _ rfl);have hk2:World.cell? wc17 ⟨gk,2,none⟩=some (.slice B2 m2 d2):=(HK.out.b.cell (World.block_lt_of_cell? w _ (HC.out 2 _ rfl))).trans (HC.out 2 _ rfl);have hk3:World.cell? wc17 ⟨gk,3,none⟩=some (.slice Aa2 0 ca2):=(HK.out.b.cell (World.block_lt_of_cell? w _ (HC.out 3 _ rfl))).trans (HC.out 3 _ rfl);have hk4:World.cell? wc17 ⟨gk,4,none⟩=some (.string a4):=(HK.out.b.cell (World.block_lt_of_cell? w _ (HC.out 4 _ rfl))).trans (HC.out 4 _ rfl);have hk5:World.cell? wc17 ⟨gk,5,none⟩=some (.slice B5 m5 d5):=(HK.out.b.cell (World.block_lt_of_cell? w _ (HC.out 5 _ rfl))).trans (HC.out 5 _ rfl);have hk6:World.cell? wc17 ⟨gk,6,none⟩=some (nilS):=(HK.out.b.cell (World.block_lt_of_cell? w _ (HC.out 6 _ rfl))).trans (HC.out 6 _ rfl);have hk7:World.cell? wc17 ⟨gk,7,none⟩=some (nilS):=(HK.out.b.cell (World.block_lt_of_cell? w _ (HC.out 7 _ rfl))).trans (HC.out 7 _ rfl)))
 refine wp_loop_two ?_
 go_wp2_with (first|((with_reducible refine gd_ 34 ?_);refine cl_ #[.agg #[.string a0,.string a1,.slice B2 m2 d2,.slice Aa2 0 ca2,.string a4,.slice B5 m5 d5,nilS,nilS],.string ⟨#[49]⟩,.slice A2 n2 c2] (.int .i64 1) Tryz.func16 (HL.out _ HK.out.b) ?_;intro wc34 HK1;replace HK:=asd_ HK1;clear HK1;clear hk0 hk1 hk2 hk3 hk4 hk5 hk6 hk7;replace Bc:=ce1_ HK 0;have hk0:World.cell? wc34 ⟨gk,0,none⟩=some (.string a0):=(HK.out.b.cell (World.block_lt_of_cell? w _ (HC.out 0 _ rfl))).trans (HC.out 0 _ rfl);have hk1:World.cell? wc34 ⟨gk,1,none⟩=some (.string a1):=(HK.out.b.cell (World.block_lt_of_cell? w _ (HC.out 1 _ rfl))).trans (HC.out 1 _ rfl);have hk2:World.cell? wc34 ⟨gk,2,none⟩=some (.slice B2 m2 d2):=(HK.out.b.cell (World.block_lt_of_cell? w _ (HC.out 2 _ rfl))).trans (HC.out 2 _ rfl);have hk3:World.cell? wc34 ⟨gk,3,none⟩=some (.slice Aa2 0 ca2):=(HK.out.b.cell (World.block_lt_of_cell? w _ (HC.out 3 _ rfl))).trans (HC.out 3 _ rfl);have hk4:World.cell? wc34 ⟨gk,4,none⟩=some (.string a4):=(HK.out.b.cell (World.block_lt_of_cell? w _ (HC.out 4 _ rfl))).trans (HC.out 4 _ rfl);have hk5:World.cell? wc34 ⟨gk,5,none⟩=some (.slice B5 m5 d5):=(HK.out.b.cell (World.block_lt_of_cell? w _ (HC.out 5 _ rfl))).trans (HC.out 5 _ rfl);have hk6:World.cell? wc34 ⟨gk,6,none⟩=some (nilS):=(HK.out.b.cell (World.block_lt_of_cell? w _ (HC.out 6 _ rfl))).trans (HC.out 6 _ rfl);have hk7:World.cell? wc34 ⟨gk,7,none⟩=some (nilS):=(HK.out.b.cell (World.block_lt_of_cell? w _ (HC.out 7 _ rfl))).trans (HC.out 7 _ rfl)))
 go_ret
 exact ⟨by first|rfl|simp,be_⟩
theorem tells_err (w:World) (A:Option Addr) (cS:Nat) (x:S25) (A4 A5:Option Addr) (c4 c5:Nat) (A2:Option Addr) (n2 c2:Nat)
  (h14:∀ W,Below w.heap.size w W→Calls Tryz.prog 14 #[.slice A 1 cS,.agg (jvc x A4 A5 c4 c5)] W fun e w'=>∃ e0 e1 e4 E2 E3 E5 E7 m2 d2 m3 d3 m5 d5 m7 d7,e= .returned (.tuple #[.agg #[.string e0,.string e1,.slice E2 m2 d2,.slice E3 m3 d3,.string e4,.slice E5 m5 d5,nilS,.slice E7 m7 d7],.bool true])∧
   (∀ W1,Below w'.heap.size w' W1→Calls Tryz.prog 16 #[.agg #[.string e0,.string e1,.slice E2 m2 d2,.slice E3 m3 d3,.string e4,.slice E5 m5 d5,nilS,.slice E7 m7 d7],.string ⟨#[49]⟩,.slice A2 n2 c2] W1 fun e w1=>e= .returned (.int .i64 1)∧Below W1.heap.size W1 w1)∧
   (∀ W1,Below w'.heap.size w' W1→Calls Tryz.prog 17 #[.int .i64 2020,.slice A 1 cS,.agg (jvc x A4 A5 c4 c5),.agg #[.string e0,.string e1,.slice E2 m2 d2,.slice E3 m3 d3,.string e4,.slice E5 m5 d5,nilS,.slice E7 m7 d7]] W1 fun e w1=>e= .returned (.bool true)∧Below W1.heap.size W1 w1)∧Below W.heap.size W w'):Calls Tryz.prog 8 #[.slice A 1 cS,.agg (jvc x A4 A5 c4 c5),.slice A2 n2 c2] w (rb (.bool true) w):=by
 have H14:=asd_ h14
 clear h14
 have HK:=st0_ w
 go_enter Tryz.func8,Tryz.ntmps8
 go_wp2_with (first|((with_reducible refine gd_ 4 ?_);refine bx_ (jvc x A4 A5 c4 c5) 25 ?_;clear HK;intro g4 wb4 HK Gg4;replace Bc:=ce1_ HK 0)|((with_reducible refine gd_ 11 ?_);refine lo_ 25 4 g4 (jvc x A4 A5 c4 c5) HK.out.k.1 Tryz.underlying25 ?_)|(go_at_call 14;refine (H14.out _ HK.out.b).mono ?_;rintro e w3 ⟨e0,e1,e4,E2,E3,E5,E7,m2,d2,m3,d3,m5,d5,m7,d7,rfl,h16,h17,hB⟩;have HB0:=asd_ (below_step HK.out.b hB);have H16:=asd_ h16;have H17:=asd_ h17;have HK1:At w3 [.b g4 (row (jvc x A4 A5 c4 c5) 25)] w3:=At.hold (At.start w3) (HK.out.step hB).k.1 (by simp [nums]);clear hB h16 h17;replace HK:=asd_ HK1;clear HK1;replace Bc:=ce1_ HK 0)|((with_reducible refine gd_ 7 ?_);refine bx_ #[eS,eS,nilS,nilS,eS,nilS,nilS,nilS] 54 ?_;clear HK;intro g7 wb7 HK Gg7;replace Bc:=ce2_ HK 1 0)|((with_reducible refine gd_ 20 ?_);refine lo_ 54 7 g7 (#[.string e0,.string e1,.slice E2 m2 d2,.slice E3 m3 d3,.string e4,.slice E5 m5 d5,nilS,.slice E7 m7 d7]) HK.out.k.1 Tryz.underlying54 ?_)|((with_reducible refine gd_ 26 ?_);(try (refine gate_guard (by rfl) ?_;dsimp only));refine lo_ 25 4 g4 (jvc x A4 A5 c4 c5) HK.out.k.2.1 Tryz.underlying25 ?_)|((with_reducible refine gd_ 27 ?_);(try (refine gate_guard (by rfl) ?_;dsimp only));refine lo_ 54 7 g7 (#[.string e0,.string e1,.slice E2 m2 d2,.slice E3 m3 d3,.string e4,.slice E5 m5 d5,nilS,.slice E7 m7 d7]) HK.out.k.1 Tryz.underlying54 ?_)|((first|((with_reducible refine gate_ (.store 54 (.tmp 7) (.tmp 13)) rfl ?_);refine storerow_at (cs:=#[eS,eS,nilS,nilS,eS,nilS,nilS,nilS]) (g:=g7) 0 (#[.string e0,.string e1,.slice E2 m2 d2,.slice E3 m3 d3,.string e4,.slice E5 m5 d5,nilS,.slice E7 m7 d7]) at_ rfl Gg7.out rfl rfl rfl rfl rfl rfl kr_ rfl (by simp [Value.oneCell']) ?_)|((with_reducible refine gd_ 22 ?_);refine cl_ #[.agg #[.string e0,.string e1,.slice E2 m2 d2,.slice E3 m3 d3,.string e4,.slice E5 m5 d5,nilS,.slice E7 m7 d7],.string ⟨#[49]⟩,.slice A2 n2 c2] (.int .i64 1) Tryz.func16 (H16.out _ HK.out.b) ?_)|((with_reducible refine gd_ 28 ?_);(try (refine gate_guard (by rfl) ?_;dsimp only));refine cl_ #[.int .i64 2020,.slice A 1 cS,.agg (jvc x A4 A5 c4 c5),.agg #[.string e0,.string e1,.slice E2 m2 d2,.slice E3 m3 d3,.string e4,.slice E5 m5 d5,nilS,.slice E7 m7 d7]] (.bool true) Tryz.func17 (H17.out _ HK.out.b) ?_));intro wr1 HK1;replace HK:=asd_ HK1;clear HK1;replace Bc:=ce2_ HK 1 0))
 go_ret
 exact ⟨by first|rfl|simp,below_step HB0.out be_⟩
theorem tells_none (w:World) (A:Option Addr) (cS:Nat) (x:S25) (A4 A5:Option Addr) (c4 c5:Nat) (A2:Option Addr) (n2 c2:Nat)
  (h14:∀ W,Below w.heap.size w W→Calls Tryz.prog 14 #[.slice A 1 cS,.agg (jvc x A4 A5 c4 c5)] W (rb (.tuple #[.agg #[eS,eS,nilS,nilS,eS,nilS,nilS,nilS],.bool false]) W))
  (h15:∀ W,Below w.heap.size w W→Calls Tryz.prog 15 #[.slice A 1 cS,.agg (jvc x A4 A5 c4 c5)] W (rb (.bool true) W)):Calls Tryz.prog 8 #[.slice A 1 cS,.agg (jvc x A4 A5 c4 c5),.slice A2 n2 c2] w (rb (.bool true) w):=by
 have H14:=asd_ h14
 clear h14
 have H15:=asd_ h15
 clear h15
 have HK:=st0_ w
 go_enter Tryz.func8,Tryz.ntmps8
 go_wp2_with (first|((with_reducible refine gd_ 4 ?_);refine bx_ (jvc x A4 A5 c4 c5) 25 ?_;clear HK;intro g4 wb4 HK Gg4;replace Bc:=ce1_ HK 0)|((with_reducible refine gd_ 11 ?_);refine lo_ 25 4 g4 (jvc x A4 A5 c4 c5) HK.out.k.1 Tryz.underlying25 ?_)|((with_reducible refine gd_ 7 ?_);refine bx_ #[eS,eS,nilS,nilS,eS,nilS,nilS,nilS] 54 ?_;clear HK;intro g7 wb7 HK Gg7;replace Bc:=ce2_ HK 1 0)|((with_reducible refine gd_ 18 ?_);refine lo_ 25 4 g4 (jvc x A4 A5 c4 c5) HK.out.k.2.1 Tryz.underlying25 ?_)|((with_reducible refine gd_ 12 ?_);refine cl_ #[.slice A 1 cS,.agg (jvc x A4 A5 c4 c5)] (.tuple #[.agg #[eS,eS,nilS,nilS,eS,nilS,nilS,nilS],.bool false]) Tryz.func14 (H14.out _ HK.out.b) ?_;intro wc12 HK1;replace HK:=asd_ HK1;clear HK1;replace Bc:=ce1_ HK 0)|((first|((with_reducible refine gate_ (.store 54 (.tmp 7) (.tmp 13)) rfl ?_);refine storerow_at (cs:=#[eS,eS,nilS,nilS,eS,nilS,nilS,nilS]) (g:=g7) 0 (#[eS,eS,nilS,nilS,eS,nilS,nilS,nilS]) at_ rfl Gg7.out rfl rfl rfl rfl rfl rfl kr_ rfl (by simp [Value.oneCell']) ?_)|((with_reducible refine gd_ 19 ?_);refine cl_ #[.slice A 1 cS,.agg (jvc x A4 A5 c4 c5)] (.bool true) Tryz.func15 (H15.out _ HK.out.b) ?_));intro wr1 HK1;replace HK:=asd_ HK1;clear HK1;replace Bc:=ce2_ HK 1 0))
 go_ret
 exact ⟨by first|rfl|simp,be_⟩
theorem judge_false (w:World) (s1:Value) (gn cS:Nat) (x:S25) (A4 A5:Option Addr) (c4 c5:Nat) (hS:w.heap[gn]? =some (row (Nd.cells ⟨2,false,nilS,nilS,false,nilS,false,nilS,nilS,nilS⟩) 45)) (hn5:x.f5.length≤LM):
  Calls Tryz.prog 20 #[.int .i64 2020,.agg #[.slice (some ⟨gn,0,none⟩) 1 cS,s1],.int .i64 1,.agg (jvc x A4 A5 c4 c5)] w fun e w'=>∃ v,e= .returned (.tuple #[.bool false,v])∧Below w.heap.size w w':=by
 have hmk:=print_make_of (P:=Tryz.prog) 63 4 bF 1 Tryz.underlying63 kr_ rfl (by decide) x.f5.length (by simp only [LM] at hn5;omega)
 have hn1:(Nd.cells ⟨2,false,nilS,nilS,false,nilS,false,nilS,nilS,nilS⟩).all (·.oneCell')=true:=by first|kernel_rfl|simp [Nd.cells,Value.oneCell']
 have HK:Aside0 (At w [.b gn (row (Nd.cells ⟨2,false,nilS,nilS,false,nilS,false,nilS,nilS,nilS⟩) 45)] w):=asd_ (At.hold (At.start w) hS (by simp [nums]))
 replace Bc:=ce1_ HK 0
 go_enter Tryz.func20,Tryz.ntmps20
 go_wp2_with (first|((with_reducible refine gd_ 5 ?_);refine bx_ #[.slice (some ⟨gn,0,none⟩) 1 cS,s1] 68 ?_;clear HK;intro g5 wb5 HK Gg5;replace Bc:=ce2_ HK 1 0)|((with_reducible refine gd_ 7 ?_);refine bx_ (jvc x A4 A5 c4 c5) 25 ?_;clear HK;intro g7 wb7 HK Gg7;replace Bc:=ce3_ HK 2 1 0)|((with_reducible refine gd_ 18 ?_);refine lo_ 45 17 gn (Nd.cells ⟨2,false,nilS,nilS,false,nilS,false,nilS,nilS,nilS⟩) HK.out.k.2.2.1 Tryz.underlying45 ?_)|((with_reducible refine gd_ 10 ?_);refine bx_ (ndZ nilS nilS) 45 ?_;clear HK;intro g10 wb10 HK Gg10;replace Bc:=ce4_ HK 3 2 1 0)|((with_reducible refine gd_ 22 ?_);refine nw_ (row (madeCells #[bF] x.f5.length) 4) (fun b=> .slice (some ⟨b,0,none⟩) x.f5.length x.f5.length) ?_;clear HK;intro gm wb22 HK Ggm;replace Bc:=ce4_ HK 4 3 2 1)|((with_reducible refine gate_ (.store 45 (.tmp 10) (.tmp 18)) rfl ?_);refine storerow_at (cs:=ndZ nilS nilS) (g:=g10) 0 (Nd.cells ⟨2,false,nilS,nilS,false,nilS,false,nilS,nilS,nilS⟩) at_ rfl Gg10.out rfl rfl rfl rfl rfl rfl kr_ rfl (hn1) ?_;intro wsr HK1;replace HK:=asd_ HK1;clear HK1;replace Bc:=ce4_ HK 3 2 1 0))
 go_ret2
 exact ⟨_,rfl,be_⟩
theorem judge_form {f:FuncId} {args:Array Value} {W:World} {b:Bool} (h:Calls Tryz.prog f args W fun e w'=>∃ v,e= .returned (.tuple #[.bool b,v])∧Below W.heap.size W w'):
  Calls Tryz.prog f args W fun e w'=>∃ u,e= .returned u∧(∃ v,u= .tuple #[.bool b,v])∧Below W.heap.size W w':=by
 refine h.mono ?_
 rintro e w' ⟨v,rfl,hb⟩
 exact ⟨_,rfl,⟨v,rfl⟩,hb⟩
theorem valid_any (w:World) (S0:Option Addr) (k0 cS:Nat) (b:Bool) (x:S25) (A4 A5:Option Addr) (c4 c5:Nat)
  (hJ:∀ W,Below w.heap.size w W→Calls Tryz.prog 20 #[.int .i64 2020,.agg #[.slice S0 k0 cS,nilS],.int .i64 1,.agg (jvc x A4 A5 c4 c5)] W fun e w'=>∃ v,e= .returned (.tuple #[.bool b,v])∧Below W.heap.size W w'):
  Calls Tryz.prog 15 #[.slice S0 k0 cS,.agg (jvc x A4 A5 c4 c5)] w (rb (.bool b) w):=by
 have HJ:=asd_ hJ
 clear hJ
 have HK:=st0_ w
 go_enter Tryz.func15,Tryz.ntmps15
 go_wp2_with (first|((with_reducible refine gd_ 3 ?_);refine bx_ (jvc x A4 A5 c4 c5) 25 ?_;clear HK;intro g3 wb3 HK Gg3;replace Bc:=ce1_ HK 0)|((with_reducible refine gd_ 10 ?_);refine lo_ 25 3 g3 (jvc x A4 A5 c4 c5) HK.out.k.1 Tryz.underlying25 ?_)|((with_reducible refine gd_ 11 ?_);refine cw_ #[.int .i64 2020,.agg #[.slice S0 k0 cS,nilS],.int .i64 1,.agg (jvc x A4 A5 c4 c5)] Tryz.func20 (judge_form (HJ.out _ HK.out.b)) ?_;rintro v11 wc11 HK1 ⟨mv,rfl⟩ hB;clear hB;replace HK:=asd_ HK1;clear HK1;replace Bc:=ce1_ HK 0))
 go_ret
 exact ⟨rfl,be_⟩
theorem takes_any (w:World) (s0 s1:Value) (b:Bool) (x:S25) (A4 A5:Option Addr) (c4 c5:Nat)
  (hJ:∀ W,Below w.heap.size w W→Calls Tryz.prog 20 #[.int .i64 2020,.agg #[s0,s1],.int .i64 1,.agg (jvc x A4 A5 c4 c5)] W fun e w'=>∃ v,e= .returned (.tuple #[.bool b,v])∧Below W.heap.size W w'):
  Calls Tryz.prog 42 #[.int .i64 2020,.agg #[s0,s1],.int .i64 1,.agg (jvc x A4 A5 c4 c5)] w (rb (.bool b) w):=by
 have HJ:=asd_ hJ
 clear hJ
 have HK:=st0_ w
 go_enter Tryz.func42,Tryz.ntmps42
 go_wp2_with (first|((with_reducible refine gd_ 5 ?_);refine bx_ #[s0,s1] 68 ?_;clear HK;intro g5 wb5 HK Gg5;replace Bc:=ce1_ HK 0)|((with_reducible refine gd_ 7 ?_);refine bx_ (jvc x A4 A5 c4 c5) 25 ?_;clear HK;intro g7 wb7 HK Gg7;replace Bc:=ce2_ HK 1 0)|((with_reducible refine gd_ 13 ?_);refine lo_ 68 5 g5 (#[s0,s1]) HK.out.k.2.1 Tryz.underlying68 ?_)|((with_reducible refine gd_ 15 ?_);refine lo_ 25 7 g7 (jvc x A4 A5 c4 c5) HK.out.k.1 Tryz.underlying25 ?_)|((with_reducible refine gd_ 16 ?_);refine cw_ #[.int .i64 2020,.agg #[s0,s1],.int .i64 1,.agg (jvc x A4 A5 c4 c5)] Tryz.func20 (judge_form (HJ.out _ HK.out.b)) ?_;rintro v16 wc16 HK1 ⟨mv,rfl⟩ hB;clear hB;replace HK:=asd_ HK1;clear HK1;replace Bc:=ce2_ HK 1 0))
 go_ret
 exact ⟨rfl,be_⟩
end Go.Proofs.YtkphbhncpdcbeaaGreatDoor.J
