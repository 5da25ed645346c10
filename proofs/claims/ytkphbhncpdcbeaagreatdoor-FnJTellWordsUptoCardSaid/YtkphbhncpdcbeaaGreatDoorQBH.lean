/- Part. -/
import Derived.Test.YtkphbhncpdcbeaaGreatDoorQBF
import Derived.Test.YtkphbhncpdcbeaaGreatDoorQBG
set_option linter.unusedVariables false
set_option linter.unusedSimpArgs false
set_option maxHeartbeats 8000000
set_option maxRecDepth 100000
namespace Go.Proofs.YtkphbhncpdcbeaaGreatDoor.J
open Go.RowKit YtkphbhncpdcbeaaGreatDoorW.PrintWords YtkphbhncpdcbeaaGreatDoorW.PrintLast YtkphbhncpdcbeaaGreatDoorW.PrintMore PJT
theorem strs_C {W:World} {A:Option Addr} {n c:Nat} {xs:List ByteArray} (h:(Fact.strs (.slice A n c) xs).P W):n=xs.length∧xs.length≤c∧Kd.C Kd.string W A xs.length xs:=R_C (show Kd.R Kd.string 9 W 0 _ (.slice A n c) xs from h)
def FalseC (gs:Nat) (W:World):Prop:=∃ gb,W.heap[gs]? =some (row (Sc.cells ⟨2020,⟨#[49]⟩,.pointer (some ⟨gb,0,none⟩),nP,nP,nP,nilS,nM,nM,nM,nM,nM,.nilIface⟩) 119)∧W.heap[gb]? =some (row #[bF] 4)
theorem errors_false (w:World) (gn cS:Nat) (x:S25) (A4 A5:Option Addr) (c4 c5:Nat) (hx:Rep w x A4 c4 A5 c5) (hV:V x) (hk:x.f0=0) (hS:w.heap[gn]? =some (row (Nd.cells ⟨2,false,nilS,nilS,false,nilS,false,nilS,nilS,nilS⟩) 45)):
  Calls Tryz.prog 14 #[.slice (some ⟨gn,0,none⟩) 1 cS,.agg (jvc x A4 A5 c4 c5)] w fun e w'=>Told ⟨#[49]⟩ ⟨#[70,97,108,115,101,83,99,104,101,109,97]⟩ (.string ⟨#[]⟩) [] [] w e w':=by
 refine errors_some w gn cS x A4 A5 c4 c5 _ _ _ _ _ (fun W hb=>draft_some W gn cS x A4 A5 c4 c5 _ _ _ _ _ FalseC (fun gs W W1 ⟨gb,h1,h2⟩ hb=>⟨gb,blk_below h1 hb,blk_below h2 hb⟩) (hx.below hb) hV (fun W1 hb1=> ?_) (Left ⟨#[49]⟩ 267 (fun _ _=>True)) ?_ ?_)
 ·refine (compiled_false W1 gn cS (by simp [Nd.cells,Value.oneCell']) (blk_below hS (below_step hb hb1))).mono ?_
  rintro e w' ⟨gs,gb,rfl,h1,h2,hb2⟩
  exact ⟨_,rfl,⟨gs,rfl,gb,h1,h2⟩,hb2⟩
 ·rintro W0 gs v ⟨gb,h1,h2⟩ hO
  cases hO with
  |null _ e=>
   subst e
   refine validate_same W0 gs _ (fun u w'=>(∃ gr,u= .iface 76 (.pointer (some ⟨gr,0,none⟩))∧Left ⟨#[49]⟩ 267 (fun _ _=>True) gr w')∧Below W0.heap.size W0 w') ?_
   refine (sch_some W0 gs .nilIface rfl ⟨2020,⟨#[49]⟩,.pointer (some ⟨gb,0,none⟩),nP,nP,nP,nilS,nM,nM,nM,nM,nM,.nilIface⟩ h1 (fun W hb=>from_null W gs ⟨2020,⟨#[49]⟩,.pointer (some ⟨gb,0,none⟩),nP,nP,nP,nilS,nM,nM,nM,nM,nM,.nilIface⟩ (blk_below h1 hb)) 267 (fun _ _=>True) (fun v W=>tk_false_185 v W) ?_).mono ?_
   ·intro W l gv gc ad up H hgv
    refine (val_false W W0 _ gv gs gc gb _ ad up _ _ _ _ _ _ _ _ _ _ _ H hgv h1 h2).mono ?_
    rintro e w' ⟨ge,gki,Ae,ce,rfl,H'⟩
    exact ⟨ge,gki,Ae,ce,_,rfl,trivial,H'⟩
   ·rintro e w' ⟨gr,gk2,gz,ge,gki,Ae,ce,Y,rfl,_,H'⟩
    exact ⟨_,rfl,⟨gr,rfl,left_of (fun _=>trivial) H'⟩,H'.b⟩
  |bool k=>omega
  |text k=>omega
  |array k=>omega
  |object k=>omega
 ·rintro W gr ⟨gk2,adc,ge,gki,Ae,ce,h1,h2,h3,_⟩
  exact root_ok W gr ge gk2 _ _ _ _ _ adc 1 h1 h2 (fun W1 hb=>leaf_false W1 ge gki _ Ae ce (blk_below h3 hb))
def x0:S25:=⟨0,false,0,⟨#[]⟩,[],[]⟩
theorem rep0 (w:World):Rep w x0 none 0 none 0:=⟨⟨rfl,by decide,fun h=>absurd h (by decide)⟩,Nat.le_refl _,⟨rfl,by decide,fun h=>absurd h (by decide)⟩,Nat.le_refl _⟩
theorem v0:V x0:=V.mk (by decide) (by decide) (by decide) (by decide) (by decide) (by decide) (by intro s h;cases h) (by decide) (by intro y h;cases h)
theorem among_one (W:World) (g2:Nat) (s kn:ByteArray) (b:Bool) (h:W.heap[g2]? =some (row #[.string kn] 9)) (hb:∃ k,spec_JAmong.f k s [kn]=some b):
  Calls Tryz.prog 21 #[.string s,.slice (some ⟨g2,0,none⟩) 1 1] W (rb (.bool b) W):=by
 obtain ⟨k,hk⟩:=hb
 exact (spec_JAmong.calls k s (some ⟨g2,0,none⟩) 1 [kn] b W (reads_one (enc:=Value.string) h) (Nat.le_refl _) hk).mono (fun e w' h=>⟨h.1,h.2.below⟩)
theorem among_false:∃ k,spec_JAmong.f k ⟨#[70,97,108,115,101,83,99,104,101,109,97]⟩ [⟨#[70,97,108,115,101,83,99,104,101,109,97]⟩]=some true:=⟨4,by kernel_rfl⟩
theorem among_falseS:∃ k,spec_JAmong.f k ⟨#[83,99,104,101,109,97]⟩ [⟨#[70,97,108,115,101,83,99,104,101,109,97]⟩]=some false:=⟨4,by kernel_rfl⟩
theorem kid_cells {W:World} {gx:Nat} {curx:Array Value} {l:List Value} (hg:W.heap[gx]? =some (row curx 54)) (hcur:curx.toList.take 8=l) {l':Array Value} (e:l'.toList=l) (i:Nat) (v:Value) (h:l'[i]? =some v):W.cell? ⟨gx,i,none⟩=some v:=
 (blk_cell hg i).trans (cell_of_take hcur (by rw [← e];simpa using h))
theorem false16 (w:World) (gk:Nat) (Aq Aa Ap Aa2 An:Option Addr) (cq ca gx cx cp ca2 cn:Nat) (curx:Array Value) (hg:w.heap[gx]? =some (row curx 54)) (hcur:curx.toList.take 8=[.string ⟨#[49]⟩,.string ⟨#[70,97,108,115,101,83,99,104,101,109,97]⟩,.slice Ap 0 cp,.slice Aa2 0 ca2,.string ⟨#[]⟩,.slice An 0 cn,nilS,nilS]) (hk:w.heap[gk]? =some (row #[.string ⟨#[70,97,108,115,101,83,99,104,101,109,97]⟩] 9)):
  Calls Tryz.prog 16 #[.agg #[.string ⟨#[49]⟩,.string ⟨#[83,99,104,101,109,97]⟩,.slice Aq 0 cq,.slice Aa 0 ca,.string ⟨#[]⟩,.slice none 0 0,nilS,.slice (some ⟨gx,0,none⟩) 1 cx],.string ⟨#[49]⟩,.slice (some ⟨gk,0,none⟩) 1 1] w (rb (.int .i64 1) w):=
 right16 w ⟨#[]⟩ ⟨#[70,97,108,115,101,83,99,104,101,109,97]⟩ Aq Aa Ap Aa2 An (some ⟨gk,0,none⟩) cq ca gx cx 0 cp ca2 0 cn 1 1 (kid_cells hg hcur rfl) (fun W h=>among_one W gk _ _ true (blk_below hk h) among_false) (fun W h=>among_one W gk _ _ false (blk_below hk h) among_falseS)
theorem false17 (w:World) (gn:Nat) (Aq Aa Ap Aa2 An:Option Addr) (cq ca gx cx cp ca2 cn:Nat) (curx:Array Value) (hg:w.heap[gx]? =some (row curx 54)) (hcur:curx.toList.take 8=[.string ⟨#[49]⟩,.string ⟨#[70,97,108,115,101,83,99,104,101,109,97]⟩,.slice Ap 0 cp,.slice Aa2 0 ca2,.string ⟨#[]⟩,.slice An 0 cn,nilS,nilS]) (hS:w.heap[gn]? =some (row (Nd.cells ⟨2,false,nilS,nilS,false,nilS,false,nilS,nilS,nilS⟩) 45)):
  Calls Tryz.prog 17 #[.int .i64 2020,.slice (some ⟨gn,0,none⟩) 1 1,.agg (jvc x0 none none 0 0),.agg #[.string ⟨#[49]⟩,.string ⟨#[83,99,104,101,109,97]⟩,.slice Aq 0 cq,.slice Aa 0 ca,.string ⟨#[]⟩,.slice none 0 0,nilS,.slice (some ⟨gx,0,none⟩) 1 cx]] w (rb (.bool true) w):=
 right17 w gn 1 x0 none none 0 0 ⟨#[]⟩ ⟨#[70,97,108,115,101,83,99,104,101,109,97]⟩ Aq Aa Ap Aa2 An cq ca gx cx 0 cp ca2 0 cn (kid_cells hg hcur rfl)
  (fun W h=>judge_false W nilS gn 1 x0 none none 0 0 (blk_below hS h) (by decide)) (fun W h=>pathright_false W _ ⟨#[]⟩ Ap Aa2 An none cp ca2 cn 0 0 [])
  (fun W h=>kr_schema_false W gn 1 x0 none none 0 0 (blk_below hS h) _ ⟨#[]⟩ Aq Aa none (some ⟨gx,0,none⟩) 0 cq ca 0 cx []) (fun W h=>kr_false W gn 1 x0 none none 0 0 (blk_below hS h) _ ⟨#[]⟩ Ap Aa2 An none 0 cp ca2 cn 0 [])
theorem tells_false (w:World):Calls Tryz.prog 10 #[] w (rb (.bool true) w):=by
 have HK:=st0_ w
 go_enter Tryz.func10,Tryz.ntmps10
 go_wp2_with (first|((with_reducible refine gd_ 4 ?_);refine build_at (Nd.cells ⟨2,false,nilS,nilS,false,nilS,false,nilS,nilS,nilS⟩) rfl rfl rfl kr_ ?_)|((with_reducible refine gd_ 5 ?_);refine buildSlice_at (t:=31) (e:=45) (Nd.cells ⟨2,false,nilS,nilS,false,nilS,false,nilS,nilS,nilS⟩) at_ rfl rfl rfl Tryz.underlying31 kr_ ?_;intro gn wb5 HK1 hgn;have Ggn:=asd_ hgn;clear hgn;replace HK:=asd_ HK1;clear HK1;skip)|((with_reducible refine gd_ 6 ?_);refine build_at (jvc x0 none none 0 0) rfl rfl rfl kr_ ?_)|(go_at_call 14;refine (errors_false _ gn 1 x0 none none 0 0 (rep0 _) v0 rfl HK.out.k.1).mono ?_;rintro e w3 ⟨Aq,cq,Aa,ca,gx,cx,curx,Ap,cp,Aa2,ca2,An,cn,rfl,hg,hgx,_,hcur,_,_,hB⟩;have Hcur:=asd_ hcur;have HK1:=At.came HK.out hB hg hgx;clear hB hg hgx hcur;replace HK:=asd_ HK1;clear HK1;skip)|((with_reducible refine gd_ 1 ?_);refine bx_ #[eS,eS,nilS,nilS,eS,nilS,nilS,nilS] 54 ?_;clear HK;intro g1 wb1 HK Gg1;replace Bc:=ce1_ HK 0)|((with_reducible refine gd_ 12 ?_);(try (refine gate_guard (by rfl) ?_;dsimp only));refine build_at (Nd.cells ⟨2,false,nilS,nilS,false,nilS,false,nilS,nilS,nilS⟩) rfl rfl rfl kr_ ?_)|((with_reducible refine gd_ 13 ?_);(try (refine gate_guard (by rfl) ?_;dsimp only));refine buildSlice_at (t:=31) (e:=45) (Nd.cells ⟨2,false,nilS,nilS,false,nilS,false,nilS,nilS,nilS⟩) at_ rfl rfl rfl Tryz.underlying31 kr_ ?_;intro gm wb13 HK1 hgm;have Ggm:=asd_ hgm;clear hgm;replace HK:=asd_ HK1;clear HK1;replace Bc:=ce1_ HK 1)|((with_reducible refine gd_ 14 ?_);(try (refine gate_guard (by rfl) ?_;dsimp only));refine build_at (jvc x0 none none 0 0) rfl rfl rfl kr_ ?_)|((with_reducible refine gd_ 15 ?_);(try (refine gate_guard (by rfl) ?_;dsimp only));refine lo_ 54 1 g1 (#[.string ⟨#[49]⟩,.string ⟨#[83,99,104,101,109,97]⟩,.slice Aq 0 cq,.slice Aa 0 ca,.string ⟨#[]⟩,.slice none 0 0,nilS,.slice (some ⟨gx,0,none⟩) 1 cx]) HK.out.k.2.1 Tryz.underlying54 ?_)|((with_reducible refine gd_ 19 ?_);(try (refine gate_guard (by rfl) ?_;dsimp only));refine lo_ 54 1 g1 (#[.string ⟨#[49]⟩,.string ⟨#[83,99,104,101,109,97]⟩,.slice Aq 0 cq,.slice Aa 0 ca,.string ⟨#[]⟩,.slice none 0 0,nilS,.slice (some ⟨gx,0,none⟩) 1 cx]) HK.out.k.2.1 Tryz.underlying54 ?_)|((with_reducible refine gd_ 20 ?_);(try (refine gate_guard (by rfl) ?_;dsimp only));refine buildSlice_at (t:=22) (e:=9) (#[.string ⟨#[70,97,108,115,101,83,99,104,101,109,97]⟩]) at_ rfl rfl rfl Tryz.underlying22 kr_ ?_;intro gk wb20 HK1 hgk;have Ggk:=asd_ hgk;clear hgk;replace HK:=asd_ HK1;clear HK1;replace Bc:=ce1_ HK 2)|((with_reducible refine gate_ (.store 54 (.tmp 1) (.tmp 8)) rfl ?_);refine storerow_at (cs:=#[eS,eS,nilS,nilS,eS,nilS,nilS,nilS]) (g:=g1) 0 (#[.string ⟨#[49]⟩,.string ⟨#[83,99,104,101,109,97]⟩,.slice Aq 0 cq,.slice Aa 0 ca,.string ⟨#[]⟩,.slice none 0 0,nilS,.slice (some ⟨gx,0,none⟩) 1 cx]) at_ rfl Gg1.out rfl rfl rfl rfl rfl rfl kr_ rfl (by simp [Value.oneCell']) ?_;intro wr1 HK1;replace HK:=asd_ HK1;clear HK1;replace Bc:=ce1_ HK 0)|((with_reducible refine gd_ 16 ?_);(try (refine gate_guard (by rfl) ?_;dsimp only));refine cl_ #[.int .i64 2020,.slice (some ⟨gm,0,none⟩) 1 1,.agg (jvc x0 none none 0 0),.agg #[.string ⟨#[49]⟩,.string ⟨#[83,99,104,101,109,97]⟩,.slice Aq 0 cq,.slice Aa 0 ca,.string ⟨#[]⟩,.slice none 0 0,nilS,.slice (some ⟨gx,0,none⟩) 1 cx]] (.bool true) Tryz.func17 (false17 _ gm Aq Aa Ap Aa2 An cq ca gx cx cp ca2 cn curx HK.out.k.2.2.1 Hcur.out HK.out.k.1) ?_;intro wc16 HK1;replace HK:=asd_ HK1;clear HK1;replace Bc:=ce1_ HK 1)|((with_reducible refine gd_ 21 ?_);(try (refine gate_guard (by rfl) ?_;dsimp only));refine cl_ #[.agg #[.string ⟨#[49]⟩,.string ⟨#[83,99,104,101,109,97]⟩,.slice Aq 0 cq,.slice Aa 0 ca,.string ⟨#[]⟩,.slice none 0 0,nilS,.slice (some ⟨gx,0,none⟩) 1 cx],.string ⟨#[49]⟩,.slice (some ⟨gk,0,none⟩) 1 1] (.int .i64 1) Tryz.func16 (false16 _ gk Aq Aa Ap Aa2 An cq ca gx cx cp ca2 cn curx HK.out.k.2.2.2.1 Hcur.out HK.out.k.1) ?_;intro wc21 HK1;replace HK:=asd_ HK1;clear HK1;replace Bc:=ce1_ HK 2))
 go_ret
 exact ⟨by first|rfl|simp,be_⟩
theorem kr_schema (w:World) (gn cS:Nat) (x:S25) (A4 A5:Option Addr) (c4 c5:Nat) (n:Nd) (hk0:n.kind=0) (hn1:n.cells.all (·.oneCell')=true) (hS:w.heap[gn]? =some (row (n.cells) 45)) (loc tx:ByteArray) (Ap Aa An Ak:Option Addr) (np cp ca cn ck:Nat) (names:List ByteArray):Calls Tryz.prog 43 #[.int .i64 2020,.agg #[.slice (some ⟨gn,0,none⟩) 1 cS,nilS],.int .i64 1,.agg (jvc x A4 A5 c4 c5),.agg #[.string loc,.string ⟨#[83,99,104,101,109,97]⟩,.slice Ap np cp,.slice Aa 0 ca,.string tx,.slice An names.length cn,nilS,.slice Ak 1 ck]] w (rb (.bool true) w):=by
 have HK:Aside0 (At w [.b gn (row (n.cells) 45)] w):=asd_ (At.hold (At.start w) hS (by simp [nums]))
 replace Bc:=ce1_ HK 0
 go_enter Tryz.func43,Tryz.ntmps43
 go_wp2_with (first|((with_reducible refine gd_ 6 ?_);refine bx_ #[.slice (some ⟨gn,0,none⟩) 1 cS,nilS] 68 ?_;clear HK;intro g6 wb6 HK Gg6;replace Bc:=ce2_ HK 1 0)|((with_reducible refine gd_ 8 ?_);refine bx_ (jvc x A4 A5 c4 c5) 25 ?_;clear HK;intro g8 wb8 HK Gg8;replace Bc:=ce3_ HK 2 1 0)|((with_reducible refine gd_ 9 ?_);refine bx_ (#[.string loc,.string ⟨#[83,99,104,101,109,97]⟩,.slice Ap np cp,.slice Aa 0 ca,.string tx,.slice An names.length cn,nilS,.slice Ak 1 ck]) 54 ?_;clear HK;intro g9 wb9 HK Gg9;replace Bc:=ce4_ HK 3 2 1 0)|((with_reducible refine gd_ 17 ?_);refine lo_ 45 16 gn (n.cells) HK.out.k.2.2.2.1 Tryz.underlying45 ?_)|((with_reducible refine gd_ 11 ?_);refine bx_ (ndZ nilS nilS) 45 ?_;clear HK;intro g11 wb11 HK Gg11;replace Bc:=ce5_ HK 4 3 2 1 0)|((with_reducible refine gate_ (.store 45 (.tmp 11) (.tmp 17)) rfl ?_);refine storerow_at (cs:=ndZ nilS nilS) (g:=g11) 0 (n.cells) at_ rfl Gg11.out rfl rfl rfl rfl rfl rfl kr_ rfl (hn1) ?_;intro wsr HK1;replace HK:=asd_ HK1;clear HK1;replace Bc:=ce5_ HK 4 3 2 1 0))
 refine su5_ 35 HK 4 3 2 1 0 [] (fun HS hHeld=> ?_)
 refine pu_ 0 42 1 ?_
 refine tq_ 1 43 3 rfl hHeld (by rintro w' ⟨s0,s1,s2,s3,s4,s5⟩;exact rr_ 6 g6 (#[.slice (some ⟨gn,0,none⟩) 1 cS,nilS]) s0.k.2.2.2.1 Tryz.underlying68) ?_
 refine tq_ 2 44 7 rfl hHeld (by rintro w' ⟨s0,s1,s2,s3,s4,s5⟩;exact rr_ 11 g11 (n.cells) s0.k.1 Tryz.underlying45) ?_
 refine tq_ 3 45 15 rfl hHeld (by rintro w' ⟨s0,s1,s2,s3,s4,s5⟩;exact rr_ 8 g8 (jvc x A4 A5 c4 c5) s0.k.2.2.1 Tryz.underlying25) ?_
 refine tq_ 4 46 31 rfl hHeld (by rintro w' ⟨s0,s1,s2,s3,s4,s5⟩;exact rr_ 9 g9 (#[.string loc,.string ⟨#[83,99,104,101,109,97]⟩,.slice Ap np cp,.slice Aa 0 ca,.string tx,.slice An names.length cn,nilS,.slice Ak 1 ck]) s0.k.2.1 Tryz.underlying54) ?_
 refine on_ 5 47 63 (fun K hK=> ?_)
 have HE:=asd_ (hHeld.1)
 refine ge_ Tryz.func80 #[.int .i64 2020,.agg #[.slice (some ⟨gn,0,none⟩) 1 cS,nilS],.agg (n.cells),.agg (jvc x A4 A5 c4 c5),.agg #[.string loc,.string ⟨#[83,99,104,101,109,97]⟩,.slice Ap np cp,.slice Aa 0 ca,.string tx,.slice An names.length cn,nilS,.slice Ak 1 ck]] ?_
 with_reducible refine (ipr_schema _ (.slice (some ⟨gn,0,none⟩) 1 cS) n x A4 A5 c4 c5 loc tx Ap Aa An Ak np cp ca cn ck names).mono ?_
 rintro e w3 ⟨rfl,hb⟩
 refine ⟨_,rfl,?_⟩
 replace HE:=asd_ (At.step HE.out hb)
 refine hK.out _ _ ⟨HE.out,(cE_ HE 4),(cE_ HE 3),(cE_ HE 2),(cE_ HE 1),(cE_ HE 0)⟩ (fun hHeld=> ?_)
 clear hK K
 refine nq_ 47 ?_
 refine pu_ 6 48 127 ?_
 refine pn_ 7 49 255 ?_
 refine pn_ 8 50 511 ?_
 refine pn_ 9 51 1023 ?_
 refine pn_ 10 52 2047 ?_
 refine pu_ 11 53 4095 ?_
 refine pu_ 12 54 8191 ?_
 refine pn_ 13 55 16383 ?_
 refine pn_ 14 56 32767 ?_
 refine pn_ 15 57 65535 ?_
 refine pn_ 16 58 131071 ?_
 refine pn_ 17 59 262143 ?_
 refine pn_ 18 60 524287 ?_
 refine pu_ 19 61 1048575 ?_
 refine pu_ 20 62 2097151 ?_
 refine pn_ 21 63 4194303 ?_
 refine pn_ 22 64 8388607 ?_
 refine pn_ 23 65 16777215 ?_
 refine pn_ 24 66 33554431 ?_
 refine pn_ 25 67 67108863 ?_
 refine pn_ 26 68 134217727 ?_
 refine pu_ 27 69 268435455 ?_
 refine pu_ 28 70 536870911 ?_
 refine pn_ 29 71 1073741823 ?_
 refine pn_ 30 72 2147483647 ?_
 refine pn_ 31 73 4294967295 ?_
 refine pn_ 32 74 8589934591 ?_
 refine pu_ 33 75 17179869183 ?_
 refine pu_ 34 10 34359738367 ?_
 refine done_ kr_ ?_
 clear HK;have HK:=HE;clear HE
 clear hHeld
 replace Bc:=ce5_ HK 4 3 2 1 0
 go_wp2_with fail
 go_ret
 exact ⟨by first|rfl|simp,be_⟩
theorem strs_D {W:World} {A:Option Addr} {n c:Nat} {xs:List ByteArray} (h:(Fact.strs (.slice A n c) xs).P W):Kd.C Kd.string W A xs.length xs:=(R_C (show Kd.R Kd.string 9 W 0 _ (.slice A n c) xs from h)).2.2
end Go.Proofs.YtkphbhncpdcbeaaGreatDoor.J
