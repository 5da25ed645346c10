/- Part. -/
import Derived.Test.YtkphbhncpdcbeaaGreatDoorQBP
import Derived.Test.YtkphbhncpdcbeaaGreatDoorQBQ
import Derived.OpenShut
import Derived.ShutString
set_option linter.unusedVariables false
set_option linter.unusedSimpArgs false
set_option maxHeartbeats 8000000
set_option maxRecDepth 100000
namespace Go.Proofs.YtkphbhncpdcbeaaGreatDoor.J
open Go.RowKit YtkphbhncpdcbeaaGreatDoorW.PrintWords YtkphbhncpdcbeaaGreatDoorW.PrintLast YtkphbhncpdcbeaaGreatDoorW.PrintMore PJT
open YtkphbhncpdcbeaaGreatDoorW
theorem tells_pat (w:World) (gn cS:Nat) (x:S25) (A4 A5:Option Addr) (c4 c5:Nat) (hx:Rep w x A4 c4 A5 c5) (hV:V x) (tb:Bool) {A:Option Addr} {names:List ByteArray} {cn:Nat} (hr:Kd.C Kd.string w A names.length names) (hc:names.length≤cn) (hlen:names.length < 8796093022208) (hn:names.length≤LM) (hS:w.heap[gn]? =some (row (ndP tb A names cn) 45)) (g2:Nat) (hk:w.heap[g2]? =some (row #[.string ⟨#[80,97,116,116,101,114,110]⟩] 9)):
  Calls Tryz.prog 8 #[.slice (some ⟨gn,0,none⟩) 1 cS,.agg (jvc x A4 A5 c4 c5),.slice (some ⟨g2,0,none⟩) 1 1] w (rb (.bool true) w):=by
 cases tb with
 |true=>exact tells_pattern w gn cS x A4 A5 c4 c5 hx hV hr hc hlen hn hS g2 hk
 |false=>exact tells_z w gn cS x A4 A5 c4 c5 hx hV (by simp [Nd.cells,Value.oneCell']) hS g2 (fun W hb=>taken_not W _ A names cn (Kd.C_below hr hb) hc) (fun W hb=>taken_not W _ none [] 0 ⟨rfl,by decide,fun h=>absurd h (by decide)⟩ (Nat.le_refl _))
theorem tells_fmt (w:World) (gn cS:Nat) (x:S25) (A4 A5:Option Addr) (c4 c5:Nat) (hx:Rep w x A4 c4 A5 c5) (hV:V x) (tb:Bool) {A:Option Addr} {names:List ByteArray} {cn:Nat} (hr:Kd.C Kd.string w A names.length names) (hc:names.length≤cn) (hlen:names.length < 8796093022208) (hn:names.length≤LM) (hS:w.heap[gn]? =some (row (ndF tb A names cn) 45)) (g2:Nat) (hk:w.heap[g2]? =some (row #[.string ⟨#[70,111,114,109,97,116]⟩] 9)):
  Calls Tryz.prog 8 #[.slice (some ⟨gn,0,none⟩) 1 cS,.agg (jvc x A4 A5 c4 c5),.slice (some ⟨g2,0,none⟩) 1 1] w (rb (.bool true) w):=by
 cases tb with
 |true=>exact tells_format w gn cS x A4 A5 c4 c5 hx hV hr hc hlen hn hS g2 hk
 |false=>exact tells_z w gn cS x A4 A5 c4 c5 hx hV (by simp [Nd.cells,Value.oneCell']) hS g2 (fun W hb=>taken_not W _ none [] 0 ⟨rfl,by decide,fun h=>absurd h (by decide)⟩ (Nat.le_refl _)) (fun W hb=>taken_not W _ A names cn (Kd.C_below hr hb) hc)
theorem words_f (w:World) (AE:Option Addr) (cE:Nat) (l0:List S25) (y:S25) (B4 B5:Option Addr) (d4 d5:Nat) (tb:Bool) (A:Option Addr) (cn:Nat) (names:List ByteArray) (x:S25) (A4 A5:Option Addr) (c4 c5:Nat) (hlm:decide ((l0.length:Int) > 2147483647)=false) (ha:∀ W,Below w.heap.size w W→Calls Tryz.prog 6 #[.agg (jvc y B4 B5 d4 d5)] W (rb (.bool true) W)) (hb:∀ W,Below w.heap.size w W→Calls Tryz.prog 11 #[.agg (#[.bool tb,.slice A names.length cn])] W (rb (.bool true) W)) (hc:∀ W,Below w.heap.size w W→Calls Tryz.prog 6 #[.agg (jvc x A4 A5 c4 c5)] W (rb (.bool true) W)) (hd:∀ W,Below w.heap.size w W→Calls Tryz.prog 7 #[.slice AE l0.length cE] W (rb (.bool true) W)) (he5:∀ W gl,Below w.heap.size w W→W.heap[gl]? =some (row (jvc y B4 B5 d4 d5 ++ jvc x A4 A5 c4 c5) 25)→Calls Tryz.prog 7 #[.slice (some ⟨gl,0,none⟩) 2 2] W (rb (.bool true) W)) (hx:Rep w x A4 c4 A5 c5) (hV:V x) (hy:Rep w y B4 d4 B5 d5) (hW:V y) (hl:Kd.C k25 w AE l0.length l0) (hvl:∀ x∈l0,V x) (hr:Kd.C Kd.string w A names.length names) (hn0:l0.length≤LM) (hcn:names.length≤cn) (hnn:names.length≤LM) (hlen:names.length < 8796093022208):Calls Tryz.prog 4 #[.slice AE l0.length cE,.agg (jvc y B4 B5 d4 d5),.agg (#[.bool tb,.slice A names.length cn]),.agg (jvc x A4 A5 c4 c5)] w (rb (.bool true) w):=by
 have HA:=asd_ ha
 clear ha
 have HB:=asd_ hb
 clear hb
 have HC:=asd_ hc
 clear hc
 have HD:=asd_ hd
 clear hd
 have HE5:=asd_ he5
 clear he5
 have Hx:=asd_ hx
 clear hx
 have HV:=asd_ hV
 clear hV
 have Hy:=asd_ hy
 clear hy
 have HW:=asd_ hW
 clear hW
 have Hl:=asd_ hl
 clear hl
 have Hvl:=asd_ hvl
 clear hvl
 have Hr:=asd_ hr
 clear hr
 have HK:=st0_ w
 go_enter Tryz.func4,Tryz.ntmps4
 go_wp2_with (first|((with_reducible refine gd_ 5 ?_);refine bx_ (jvc y B4 B5 d4 d5) 25 ?_;clear HK;intro g5 wb5 HK Gg5;replace Bc:=ce1_ HK 0)|((with_reducible refine gd_ 6 ?_);refine bx_ #[.bool tb,.slice A names.length cn] 37 ?_;clear HK;intro g6 wb6 HK Gg6;replace Bc:=ce2_ HK 1 0)|((with_reducible refine gd_ 7 ?_);refine bx_ (jvc x A4 A5 c4 c5) 25 ?_;clear HK;intro g7 wb7 HK Gg7;replace Bc:=ce3_ HK 2 1 0)|((with_reducible refine gd_ 13 ?_);(try (refine gate_guard (by rfl) ?_;dsimp only));refine lo_ 25 5 g5 (jvc y B4 B5 d4 d5) HK.out.k.2.2.1 Tryz.underlying25 ?_)|((with_reducible refine gd_ 18 ?_);(try (refine gate_guard (by rfl) ?_;dsimp only));refine lo_ 37 6 g6 (#[.bool tb,.slice A names.length cn]) HK.out.k.2.1 Tryz.underlying37 ?_)|((with_reducible refine gd_ 23 ?_);(try (refine gate_guard (by rfl) ?_;dsimp only));refine lo_ 25 7 g7 (jvc x A4 A5 c4 c5) HK.out.k.1 Tryz.underlying25 ?_)|((with_reducible refine gd_ 31 ?_);(try (refine gate_guard (by rfl) ?_;dsimp only));refine lo_ 25 5 g5 (jvc y B4 B5 d4 d5) HK.out.k.2.2.1 Tryz.underlying25 ?_)|((with_reducible refine gd_ 32 ?_);(try (refine gate_guard (by rfl) ?_;dsimp only));refine lo_ 25 7 g7 (jvc x A4 A5 c4 c5) HK.out.k.1 Tryz.underlying25 ?_)|((with_reducible refine gd_ 33 ?_);(try (refine gate_guard (by rfl) ?_;dsimp only));refine buildSlice_at (t:=23) (e:=25) (jvc y B4 B5 d4 d5 ++ jvc x A4 A5 c4 c5) at_ rfl rfl rfl Tryz.underlying23 kr_ ?_;intro gl wb33 HK1 hgl;have Ggl:=asd_ hgl;clear hgl;replace HK:=asd_ HK1;clear HK1;replace Bc:=ce3_ HK 3 2 1)|((first|((with_reducible refine gd_ 14 ?_);(try (refine gate_guard (by rfl) ?_;dsimp only));refine cl_ #[.agg (jvc y B4 B5 d4 d5)] (.bool true) Tryz.func6 (HA.out _ HK.out.b) ?_)|((with_reducible refine gd_ 19 ?_);(try (refine gate_guard (by rfl) ?_;dsimp only));refine cl_ #[.agg (#[.bool tb,.slice A names.length cn])] (.bool true) Tryz.func11 (HB.out _ HK.out.b) ?_)|((with_reducible refine gd_ 24 ?_);(try (refine gate_guard (by rfl) ?_;dsimp only));refine cl_ #[.agg (jvc x A4 A5 c4 c5)] (.bool true) Tryz.func6 (HC.out _ HK.out.b) ?_)|((with_reducible refine gd_ 28 ?_);refine cl_ #[.slice AE l0.length cE] (.bool true) Tryz.func7 (HD.out _ HK.out.b) ?_));intro wc14 HK1;replace HK:=asd_ HK1;clear HK1;replace Bc:=ce3_ HK 2 1 0)|((with_reducible refine gd_ 34 ?_);(try (refine gate_guard (by rfl) ?_;dsimp only));refine cl_ #[.slice (some ⟨gl,0,none⟩) 2 2] (.bool true) Tryz.func7 (HE5.out _ gl HK.out.b HK.out.k.1) ?_;intro wc34 HK1;replace HK:=asd_ HK1;clear HK1;replace Bc:=ce3_ HK 3 2 1))
 refine su3_ 35 HK 3 2 1 [] (fun HS hHeld=> ?_)
 refine pu_ 0 37 1 ?_
 refine pq_ 1 38 3 rfl (by intro w';refine buildr_ (t:=45) (parts:=#[(10,.const (.bool true)),(11,.tmp 37)]) (ndE AE l0 cE) ?_ ?_;rfl;kernel_rfl) ?_
 refine tq_ 3 40 11 rfl hHeld (by rintro w' ⟨s0,s1,s2,s3⟩;exact rr_ 7 g7 (jvc x A4 A5 c4 c5) s0.k.2.1 Tryz.underlying25) ?_
 refine jo_ (σ:=Nat×Nat) 30 31 (fun s=>[(39,.slice (some ⟨s.1,0,none⟩) 1 1),(41,.slice (some ⟨s.2,0,none⟩) 1 1)]) (fun s w'=>At w (.b s.2 (row #[.string ⟨#[69,110,117,109]⟩] 9):: .b s.1 (row (ndE AE l0 cE) 45)::[.b gl (row (jvc y B4 B5 d4 d5 ++ jvc x A4 A5 c4 c5) 25),.b g7 (row (jvc x A4 A5 c4 c5) 25),.b g6 (row (#[.bool tb,.slice A names.length cn]) 37),.b g5 (row (jvc y B4 B5 d4 d5) 25)]) w') (fun hJ2_4=> ?_) ?_
 refine jo_ (σ:=Nat×Nat) 31 15 (fun s=>[(39,.slice (some ⟨s.1,0,none⟩) 1 1)]) (fun s w'=>At w (.b s.1 (row (ndE AE l0 cE) 45)::[.b gl (row (jvc y B4 B5 d4 d5 ++ jvc x A4 A5 c4 c5) 25),.b g7 (row (jvc x A4 A5 c4 c5) 25),.b g6 (row (#[.bool tb,.slice A names.length cn]) 37),.b g5 (row (jvc y B4 B5 d4 d5) 25)]) w') (fun hJ2=> ?_) ?_
 refine jo_ (σ:=Nat×Nat) 31 27 (fun s=>[(41,.slice (some ⟨s.2,0,none⟩) 1 1)]) (fun s w'=>At w (.b s.2 (row #[.string ⟨#[69,110,117,109]⟩] 9)::[.b gl (row (jvc y B4 B5 d4 d5 ++ jvc x A4 A5 c4 c5) 25),.b g7 (row (jvc x A4 A5 c4 c5) 25),.b g6 (row (#[.bool tb,.slice A names.length cn]) 37),.b g5 (row (jvc y B4 B5 d4 d5) 25)]) w') (fun hJ4=> ?_) ?_
 refine tw_ 2 4 39 41 15 27 (fun K hK=> ?_) (fun K hK=> ?_)
 ·skip
  have HE:=asd_ hHeld.1
  refine ge_ Tryz.func9 #[.agg (ndE AE l0 cE)] ?_
  with_reducible refine (alone_ok _ ⟨0,true,.slice AE l0.length cE,nilS,false,nilS,false,nilS,nilS,nilS⟩ (by simp [Nd.cells,Value.oneCell'])).mono ?_
  rintro e w3 ⟨gn1,rfl,hge,hgn,hb⟩
  refine ⟨_,rfl,?_⟩
  have HE0:=At.came HE.out hb hge hgn
  replace HE:=asd_ (At.sink 0 HE0);clear HE0
  have HEc:At w (.b gn1 (row (ndE AE l0 cE) 45)::[.b gl (row (jvc y B4 B5 d4 d5 ++ jvc x A4 A5 c4 c5) 25),.b g7 (row (jvc x A4 A5 c4 c5) 25),.b g6 (row (#[.bool tb,.slice A names.length cn]) 37),.b g5 (row (jvc y B4 B5 d4 d5) 25)]) w3:=HE.out
  refine hK.out _ _ ⟨HEc.drop,(cel_ HEc.drop.k.2.2.2.1),(cel_ HEc.drop.k.2.2.1),(cel_ HEc.drop.k.2.1)⟩ (fun hHeld=> ?_)
  clear hK K
  refine nq_ 39 ?_
  exact nx_ (hJ2 ⟨gn1,0⟩ _ HEc)
 ·skip
  have HE:=asd_ hHeld.1
  refine ne_ 41 (row #[.string ⟨#[69,110,117,109]⟩] 9) (fun b=> .slice (some ⟨b,0,none⟩) 1 1) ?_
  intro gk1 w3 HE0 hgk1
  replace HE:=asd_ (At.sink 0 HE0);clear HE0
  have HEc:At w (.b gk1 (row #[.string ⟨#[69,110,117,109]⟩] 9)::[.b gl (row (jvc y B4 B5 d4 d5 ++ jvc x A4 A5 c4 c5) 25),.b g7 (row (jvc x A4 A5 c4 c5) 25),.b g6 (row (#[.bool tb,.slice A names.length cn]) 37),.b g5 (row (jvc y B4 B5 d4 d5) 25)]) w3:=HE.out
  refine hK.out _ _ ⟨HEc.drop,(cel_ HEc.drop.k.2.2.2.1),(cel_ HEc.drop.k.2.2.1),(cel_ HEc.drop.k.2.1)⟩ (fun hHeld=> ?_)
  clear hK K
  refine nq_ 41 ?_
  exact nx_ (hJ4 ⟨0,gk1⟩ _ HEc)
 rintro ⟨gn1,gk1⟩ w' HE0
 have HE:Aside0 (At w (.b gk1 (row #[.string ⟨#[69,110,117,109]⟩] 9)::[.b gl (row (jvc y B4 B5 d4 d5 ++ jvc x A4 A5 c4 c5) 25),.b g7 (row (jvc x A4 A5 c4 c5) 25),.b g6 (row (#[.bool tb,.slice A names.length cn]) 37),.b g5 (row (jvc y B4 B5 d4 d5) 25)]) w'):=asd_ HE0
 clear HE0
 have hHeld:=(show At w [.b gl (row (jvc y B4 B5 d4 d5 ++ jvc x A4 A5 c4 c5) 25),.b g7 (row (jvc x A4 A5 c4 c5) 25),.b g6 (row (#[.bool tb,.slice A names.length cn]) 37),.b g5 (row (jvc y B4 B5 d4 d5) 25)] w'∧(∀ j,w'.cell? ⟨g5,j,none⟩=(jvc y B4 B5 d4 d5:Array Value)[j]?)∧(∀ j,w'.cell? ⟨g6,j,none⟩=(#[.bool tb,.slice A names.length cn]:Array Value)[j]?)∧(∀ j,w'.cell? ⟨g7,j,none⟩=(jvc x A4 A5 c4 c5:Array Value)[j]?) from ⟨HE.out.drop,(cel_ HE.out.drop.k.2.2.2.1),(cel_ HE.out.drop.k.2.2.1),(cel_ HE.out.drop.k.2.1)⟩)
 refine np_ ?_
 refine on_ 2 39 31 (fun K hK=> ?_)
 refine ge_ Tryz.func9 #[.agg (ndE AE l0 cE)] ?_
 with_reducible refine (alone_ok _ ⟨0,true,.slice AE l0.length cE,nilS,false,nilS,false,nilS,nilS,nilS⟩ (by simp [Nd.cells,Value.oneCell'])).mono ?_
 rintro e w3 ⟨gn1,rfl,hge,hgn,hb⟩
 refine ⟨_,rfl,?_⟩
 have HE0:=At.came HE.out hb hge hgn
 replace HE:=asd_ (At.sink 1 HE0);clear HE0
 have HEc:At w (.b gk1 (row #[.string ⟨#[69,110,117,109]⟩] 9):: .b gn1 (row (ndE AE l0 cE) 45)::[.b gl (row (jvc y B4 B5 d4 d5 ++ jvc x A4 A5 c4 c5) 25),.b g7 (row (jvc x A4 A5 c4 c5) 25),.b g6 (row (#[.bool tb,.slice A names.length cn]) 37),.b g5 (row (jvc y B4 B5 d4 d5) 25)]) w3:=HE.out
 refine hK.out _ _ ⟨HEc.drop.drop,(cel_ HEc.drop.drop.k.2.2.2.1),(cel_ HEc.drop.drop.k.2.2.1),(cel_ HEc.drop.drop.k.2.1)⟩ (fun hHeld=> ?_)
 clear hK K
 refine nq_ 39 ?_
 exact nx_ (hJ2_4 ⟨gn1,gk1⟩ _ HEc)
 rintro ⟨gn1,gk1⟩ w' HE0
 have HE:Aside0 (At w (.b gn1 (row (ndE AE l0 cE) 45)::[.b gl (row (jvc y B4 B5 d4 d5 ++ jvc x A4 A5 c4 c5) 25),.b g7 (row (jvc x A4 A5 c4 c5) 25),.b g6 (row (#[.bool tb,.slice A names.length cn]) 37),.b g5 (row (jvc y B4 B5 d4 d5) 25)]) w'):=asd_ HE0
 clear HE0
 have hHeld:=(show At w [.b gl (row (jvc y B4 B5 d4 d5 ++ jvc x A4 A5 c4 c5) 25),.b g7 (row (jvc x A4 A5 c4 c5) 25),.b g6 (row (#[.bool tb,.slice A names.length cn]) 37),.b g5 (row (jvc y B4 B5 d4 d5) 25)] w'∧(∀ j,w'.cell? ⟨g5,j,none⟩=(jvc y B4 B5 d4 d5:Array Value)[j]?)∧(∀ j,w'.cell? ⟨g6,j,none⟩=(#[.bool tb,.slice A names.length cn]:Array Value)[j]?)∧(∀ j,w'.cell? ⟨g7,j,none⟩=(jvc x A4 A5 c4 c5:Array Value)[j]?) from ⟨HE.out.drop,(cel_ HE.out.drop.k.2.2.2.1),(cel_ HE.out.drop.k.2.2.1),(cel_ HE.out.drop.k.2.1)⟩)
 refine np_ ?_
 refine on_ 4 41 31 (fun K hK=> ?_)
 refine ne_ 41 (row #[.string ⟨#[69,110,117,109]⟩] 9) (fun b=> .slice (some ⟨b,0,none⟩) 1 1) ?_
 intro gk1 w3 HE0 hgk1
 replace HE:=asd_ (At.sink 0 HE0);clear HE0
 have HEc:At w (.b gk1 (row #[.string ⟨#[69,110,117,109]⟩] 9):: .b gn1 (row (ndE AE l0 cE) 45)::[.b gl (row (jvc y B4 B5 d4 d5 ++ jvc x A4 A5 c4 c5) 25),.b g7 (row (jvc x A4 A5 c4 c5) 25),.b g6 (row (#[.bool tb,.slice A names.length cn]) 37),.b g5 (row (jvc y B4 B5 d4 d5) 25)]) w3:=HE.out
 refine hK.out _ _ ⟨HEc.drop.drop,(cel_ HEc.drop.drop.k.2.2.2.1),(cel_ HEc.drop.drop.k.2.2.1),(cel_ HEc.drop.drop.k.2.1)⟩ (fun hHeld=> ?_)
 clear hK K
 refine nq_ 41 ?_
 exact nx_ (hJ2_4 ⟨gn1,gk1⟩ _ HEc)
 rintro ⟨gn1,gk1⟩ w' HE0
 have HE:Aside0 (At w (.b gk1 (row #[.string ⟨#[69,110,117,109]⟩] 9):: .b gn1 (row (ndE AE l0 cE) 45)::[.b gl (row (jvc y B4 B5 d4 d5 ++ jvc x A4 A5 c4 c5) 25),.b g7 (row (jvc x A4 A5 c4 c5) 25),.b g6 (row (#[.bool tb,.slice A names.length cn]) 37),.b g5 (row (jvc y B4 B5 d4 d5) 25)]) w'):=asd_ HE0
 clear HE0
 have hHeld:=(show At w [.b gl (row (jvc y B4 B5 d4 d5 ++ jvc x A4 A5 c4 c5) 25),.b g7 (row (jvc x A4 A5 c4 c5) 25),.b g6 (row (#[.bool tb,.slice A names.length cn]) 37),.b g5 (row (jvc y B4 B5 d4 d5) 25)] w'∧(∀ j,w'.cell? ⟨g5,j,none⟩=(jvc y B4 B5 d4 d5:Array Value)[j]?)∧(∀ j,w'.cell? ⟨g6,j,none⟩=(#[.bool tb,.slice A names.length cn]:Array Value)[j]?)∧(∀ j,w'.cell? ⟨g7,j,none⟩=(jvc x A4 A5 c4 c5:Array Value)[j]?) from ⟨HE.out.drop.drop,(cel_ HE.out.drop.drop.k.2.2.2.1),(cel_ HE.out.drop.drop.k.2.2.1),(cel_ HE.out.drop.drop.k.2.1)⟩)
 refine np_ ?_
 refine on_ 5 42 63 (fun K hK=> ?_)
 have hq1:(_:World).heap[gk1]? =some (row #[.string ⟨#[69,110,117,109]⟩] 9):=HE.out.k.1
 have hq2:(_:World).heap[gn1]? =some (row (ndE AE l0 cE) 45):=HE.out.k.2.1
 refine ge_ Tryz.func8 #[.slice (some ⟨gn1,0,none⟩) 1 1,.agg (jvc x A4 A5 c4 c5),.slice (some ⟨gk1,0,none⟩) 1 1] ?_
 with_reducible refine (tells_enum _ gn1 1 x A4 A5 c4 c5 (Hx.out.below HE.out.b) HV.out (Kd.C_below Hl.out HE.out.b) hn0 Hvl.out hq2 gk1 hq1).mono ?_
 rintro e w3 ⟨rfl,hb⟩
 refine ⟨_,rfl,?_⟩
 have HE0:=At.step HE.out hb
 replace HE:=asd_ HE0.drop.drop;clear HE0
 refine hK.out _ _ ⟨HE.out,(cE_ HE 3),(cE_ HE 2),(cE_ HE 1)⟩ (fun hHeld=> ?_)
 clear hK K
 refine nq_ 42 ?_
 refine pu_ 6 43 127 ?_
 refine tq_ 7 44 255 rfl hHeld (by rintro w' ⟨s0,s1,s2,s3⟩;exact rr_ 5 g5 (jvc y B4 B5 d4 d5) s0.k.2.2.2.1 Tryz.underlying25) ?_
 refine tq_ 11 48 2303 rfl hHeld (by rintro w' ⟨s0,s1,s2,s3⟩;exact rr_ 7 g7 (jvc x A4 A5 c4 c5) s0.k.2.1 Tryz.underlying25) ?_
 refine jo_ (σ:=Nat×Nat×Nat) 22 8191 (fun s=>[(45,.slice (some ⟨s.1,0,none⟩) 1 1),(47,.slice (some ⟨s.2.1,0,none⟩) 1 1),(49,.slice (some ⟨s.2.2,0,none⟩) 1 1),(46,.agg (Nd.cells ⟨0,false,nilS,.slice (some ⟨s.1,0,none⟩) 1 1,false,nilS,false,nilS,nilS,nilS⟩))]) (fun s w'=>At w (.b s.2.2 (row #[.string ⟨#[67,111,110,115,116]⟩] 9):: .b s.2.1 (row (Nd.cells ⟨0,false,nilS,.slice (some ⟨s.1,0,none⟩) 1 1,false,nilS,false,nilS,nilS,nilS⟩) 45):: .b s.1 (row (jvc y B4 B5 d4 d5) 25)::[.b gl (row (jvc y B4 B5 d4 d5 ++ jvc x A4 A5 c4 c5) 25),.b g7 (row (jvc x A4 A5 c4 c5) 25),.b g6 (row (#[.bool tb,.slice A names.length cn]) 37),.b g5 (row (jvc y B4 B5 d4 d5) 25)]) w') (fun hJ8_10_12=> ?_) ?_
 refine jo_ (σ:=Nat×Nat×Nat) 23 4095 (fun s=>[(45,.slice (some ⟨s.1,0,none⟩) 1 1),(47,.slice (some ⟨s.2.1,0,none⟩) 1 1),(46,.agg (Nd.cells ⟨0,false,nilS,.slice (some ⟨s.1,0,none⟩) 1 1,false,nilS,false,nilS,nilS,nilS⟩))]) (fun s w'=>At w (.b s.2.1 (row (Nd.cells ⟨0,false,nilS,.slice (some ⟨s.1,0,none⟩) 1 1,false,nilS,false,nilS,nilS,nilS⟩) 45):: .b s.1 (row (jvc y B4 B5 d4 d5) 25)::[.b gl (row (jvc y B4 B5 d4 d5 ++ jvc x A4 A5 c4 c5) 25),.b g7 (row (jvc x A4 A5 c4 c5) 25),.b g6 (row (#[.bool tb,.slice A names.length cn]) 37),.b g5 (row (jvc y B4 B5 d4 d5) 25)]) w') (fun hJ8_10=> ?_) ?_
 refine jo_ (σ:=Nat×Nat×Nat) 23 7167 (fun s=>[(45,.slice (some ⟨s.1,0,none⟩) 1 1),(49,.slice (some ⟨s.2.2,0,none⟩) 1 1),(46,.agg (Nd.cells ⟨0,false,nilS,.slice (some ⟨s.1,0,none⟩) 1 1,false,nilS,false,nilS,nilS,nilS⟩))]) (fun s w'=>At w (.b s.2.2 (row #[.string ⟨#[67,111,110,115,116]⟩] 9):: .b s.1 (row (jvc y B4 B5 d4 d5) 25)::[.b gl (row (jvc y B4 B5 d4 d5 ++ jvc x A4 A5 c4 c5) 25),.b g7 (row (jvc x A4 A5 c4 c5) 25),.b g6 (row (#[.bool tb,.slice A names.length cn]) 37),.b g5 (row (jvc y B4 B5 d4 d5) 25)]) w') (fun hJ8_12=> ?_) ?_
 refine jo_ (σ:=Nat×Nat×Nat) 24 3071 (fun s=>[(45,.slice (some ⟨s.1,0,none⟩) 1 1),(46,.agg (Nd.cells ⟨0,false,nilS,.slice (some ⟨s.1,0,none⟩) 1 1,false,nilS,false,nilS,nilS,nilS⟩))]) (fun s w'=>At w (.b s.1 (row (jvc y B4 B5 d4 d5) 25)::[.b gl (row (jvc y B4 B5 d4 d5 ++ jvc x A4 A5 c4 c5) 25),.b g7 (row (jvc x A4 A5 c4 c5) 25),.b g6 (row (#[.bool tb,.slice A names.length cn]) 37),.b g5 (row (jvc y B4 B5 d4 d5) 25)]) w') (fun hJ8=> ?_) ?_
 refine jo_ (σ:=Nat×Nat×Nat) 25 6399 (fun s=>[(49,.slice (some ⟨s.2.2,0,none⟩) 1 1)]) (fun s w'=>At w (.b s.2.2 (row #[.string ⟨#[67,111,110,115,116]⟩] 9)::[.b gl (row (jvc y B4 B5 d4 d5 ++ jvc x A4 A5 c4 c5) 25),.b g7 (row (jvc x A4 A5 c4 c5) 25),.b g6 (row (#[.bool tb,.slice A names.length cn]) 37),.b g5 (row (jvc y B4 B5 d4 d5) 25)]) w') (fun hJ12=> ?_) ?_
 refine tw_ 8 12 45 49 2559 6399 (fun K hK=> ?_) (fun K hK=> ?_)
 ·skip
  refine ne_ 45 (row (jvc y B4 B5 d4 d5) 25) (fun b=> .slice (some ⟨b,0,none⟩) 1 1) ?_
  intro gq w3 HE0 hgq
  replace HE:=asd_ (At.sink 0 HE0);clear HE0
  have HEc:At w (.b gq (row (jvc y B4 B5 d4 d5) 25)::[.b gl (row (jvc y B4 B5 d4 d5 ++ jvc x A4 A5 c4 c5) 25),.b g7 (row (jvc x A4 A5 c4 c5) 25),.b g6 (row (#[.bool tb,.slice A names.length cn]) 37),.b g5 (row (jvc y B4 B5 d4 d5) 25)]) w3:=HE.out
  refine hK.out _ _ ⟨HEc.drop,(cel_ HEc.drop.k.2.2.2.1),(cel_ HEc.drop.k.2.2.1),(cel_ HEc.drop.k.2.1)⟩ (fun hHeld=> ?_)
  clear hK K
  refine nq_ 45 ?_
  refine pq_ 9 46 3071 rfl (by intro w';refine buildr_ (t:=45) (parts:=#[(12,.tmp 45)]) (ndC gq 1) ?_ ?_;rfl;kernel_rfl) ?_
  exact nx_ (hJ8 ⟨gq,0,0⟩ _ HEc)
 ·skip
  refine ne_ 49 (row #[.string ⟨#[67,111,110,115,116]⟩] 9) (fun b=> .slice (some ⟨b,0,none⟩) 1 1) ?_
  intro gk2 w3 HE0 hgk2
  replace HE:=asd_ (At.sink 0 HE0);clear HE0
  have HEc:At w (.b gk2 (row #[.string ⟨#[67,111,110,115,116]⟩] 9)::[.b gl (row (jvc y B4 B5 d4 d5 ++ jvc x A4 A5 c4 c5) 25),.b g7 (row (jvc x A4 A5 c4 c5) 25),.b g6 (row (#[.bool tb,.slice A names.length cn]) 37),.b g5 (row (jvc y B4 B5 d4 d5) 25)]) w3:=HE.out
  refine hK.out _ _ ⟨HEc.drop,(cel_ HEc.drop.k.2.2.2.1),(cel_ HEc.drop.k.2.2.1),(cel_ HEc.drop.k.2.1)⟩ (fun hHeld=> ?_)
  clear hK K
  refine nq_ 49 ?_
  exact nx_ (hJ12 ⟨0,0,gk2⟩ _ HEc)
 rintro ⟨gq,gn2,gk2⟩ w' HE0
 have HE:Aside0 (At w (.b gk2 (row #[.string ⟨#[67,111,110,115,116]⟩] 9)::[.b gl (row (jvc y B4 B5 d4 d5 ++ jvc x A4 A5 c4 c5) 25),.b g7 (row (jvc x A4 A5 c4 c5) 25),.b g6 (row (#[.bool tb,.slice A names.length cn]) 37),.b g5 (row (jvc y B4 B5 d4 d5) 25)]) w'):=asd_ HE0
 clear HE0
 have hHeld:=(show At w [.b gl (row (jvc y B4 B5 d4 d5 ++ jvc x A4 A5 c4 c5) 25),.b g7 (row (jvc x A4 A5 c4 c5) 25),.b g6 (row (#[.bool tb,.slice A names.length cn]) 37),.b g5 (row (jvc y B4 B5 d4 d5) 25)] w'∧(∀ j,w'.cell? ⟨g5,j,none⟩=(jvc y B4 B5 d4 d5:Array Value)[j]?)∧(∀ j,w'.cell? ⟨g6,j,none⟩=(#[.bool tb,.slice A names.length cn]:Array Value)[j]?)∧(∀ j,w'.cell? ⟨g7,j,none⟩=(jvc x A4 A5 c4 c5:Array Value)[j]?) from ⟨HE.out.drop,(cel_ HE.out.drop.k.2.2.2.1),(cel_ HE.out.drop.k.2.2.1),(cel_ HE.out.drop.k.2.1)⟩)
 refine np_ ?_
 refine on_ 8 45 6655 (fun K hK=> ?_)
 refine ne_ 45 (row (jvc y B4 B5 d4 d5) 25) (fun b=> .slice (some ⟨b,0,none⟩) 1 1) ?_
 intro gq w3 HE0 hgq
 replace HE:=asd_ (At.sink 1 HE0);clear HE0
 have HEc:At w (.b gk2 (row #[.string ⟨#[67,111,110,115,116]⟩] 9):: .b gq (row (jvc y B4 B5 d4 d5) 25)::[.b gl (row (jvc y B4 B5 d4 d5 ++ jvc x A4 A5 c4 c5) 25),.b g7 (row (jvc x A4 A5 c4 c5) 25),.b g6 (row (#[.bool tb,.slice A names.length cn]) 37),.b g5 (row (jvc y B4 B5 d4 d5) 25)]) w3:=HE.out
 refine hK.out _ _ ⟨HEc.drop.drop,(cel_ HEc.drop.drop.k.2.2.2.1),(cel_ HEc.drop.drop.k.2.2.1),(cel_ HEc.drop.drop.k.2.1)⟩ (fun hHeld=> ?_)
 clear hK K
 refine nq_ 45 ?_
 refine pq_ 9 46 7167 rfl (by intro w';refine buildr_ (t:=45) (parts:=#[(12,.tmp 45)]) (ndC gq 1) ?_ ?_;rfl;kernel_rfl) ?_
 exact nx_ (hJ8_12 ⟨gq,0,gk2⟩ _ HEc)
 rintro ⟨gq,gn2,gk2⟩ w' HE0
 have HE:Aside0 (At w (.b gq (row (jvc y B4 B5 d4 d5) 25)::[.b gl (row (jvc y B4 B5 d4 d5 ++ jvc x A4 A5 c4 c5) 25),.b g7 (row (jvc x A4 A5 c4 c5) 25),.b g6 (row (#[.bool tb,.slice A names.length cn]) 37),.b g5 (row (jvc y B4 B5 d4 d5) 25)]) w'):=asd_ HE0
 clear HE0
 have hHeld:=(show At w [.b gl (row (jvc y B4 B5 d4 d5 ++ jvc x A4 A5 c4 c5) 25),.b g7 (row (jvc x A4 A5 c4 c5) 25),.b g6 (row (#[.bool tb,.slice A names.length cn]) 37),.b g5 (row (jvc y B4 B5 d4 d5) 25)] w'∧(∀ j,w'.cell? ⟨g5,j,none⟩=(jvc y B4 B5 d4 d5:Array Value)[j]?)∧(∀ j,w'.cell? ⟨g6,j,none⟩=(#[.bool tb,.slice A names.length cn]:Array Value)[j]?)∧(∀ j,w'.cell? ⟨g7,j,none⟩=(jvc x A4 A5 c4 c5:Array Value)[j]?) from ⟨HE.out.drop,(cel_ HE.out.drop.k.2.2.2.1),(cel_ HE.out.drop.k.2.2.1),(cel_ HE.out.drop.k.2.1)⟩)
 refine np_ ?_
 refine tw_ 10 12 47 49 4095 7167 (fun K hK=> ?_) (fun K hK=> ?_)
 ·skip
  refine ge_ Tryz.func9 #[.agg (ndC gq 1)] ?_
  with_reducible refine (alone_ok _ ⟨0,false,nilS,.slice (some ⟨gq,0,none⟩) 1 1,false,nilS,false,nilS,nilS,nilS⟩ (by simp [Nd.cells,Value.oneCell'])).mono ?_
  rintro e w3 ⟨gn2,rfl,hge,hgn,hb⟩
  refine ⟨_,rfl,?_⟩
  have HE0:=At.came HE.out hb hge hgn
  replace HE:=asd_ (At.sink 0 HE0);clear HE0
  have HEc:At w (.b gn2 (row (ndC gq 1) 45):: .b gq (row (jvc y B4 B5 d4 d5) 25)::[.b gl (row (jvc y B4 B5 d4 d5 ++ jvc x A4 A5 c4 c5) 25),.b g7 (row (jvc x A4 A5 c4 c5) 25),.b g6 (row (#[.bool tb,.slice A names.length cn]) 37),.b g5 (row (jvc y B4 B5 d4 d5) 25)]) w3:=HE.out
  refine hK.out _ _ ⟨HEc.drop.drop,(cel_ HEc.drop.drop.k.2.2.2.1),(cel_ HEc.drop.drop.k.2.2.1),(cel_ HEc.drop.drop.k.2.1)⟩ (fun hHeld=> ?_)
  clear hK K
  refine nq_ 47 ?_
  exact nx_ (hJ8_10 ⟨gq,gn2,0⟩ _ HEc)
 ·skip
  refine ne_ 49 (row #[.string ⟨#[67,111,110,115,116]⟩] 9) (fun b=> .slice (some ⟨b,0,none⟩) 1 1) ?_
  intro gk2 w3 HE0 hgk2
  replace HE:=asd_ (At.sink 0 HE0);clear HE0
  have HEc:At w (.b gk2 (row #[.string ⟨#[67,111,110,115,116]⟩] 9):: .b gq (row (jvc y B4 B5 d4 d5) 25)::[.b gl (row (jvc y B4 B5 d4 d5 ++ jvc x A4 A5 c4 c5) 25),.b g7 (row (jvc x A4 A5 c4 c5) 25),.b g6 (row (#[.bool tb,.slice A names.length cn]) 37),.b g5 (row (jvc y B4 B5 d4 d5) 25)]) w3:=HE.out
  refine hK.out _ _ ⟨HEc.drop.drop,(cel_ HEc.drop.drop.k.2.2.2.1),(cel_ HEc.drop.drop.k.2.2.1),(cel_ HEc.drop.drop.k.2.1)⟩ (fun hHeld=> ?_)
  clear hK K
  refine nq_ 49 ?_
  exact nx_ (hJ8_12 ⟨gq,0,gk2⟩ _ HEc)
 rintro ⟨gq,gn2,gk2⟩ w' HE0
 have HE:Aside0 (At w (.b gk2 (row #[.string ⟨#[67,111,110,115,116]⟩] 9):: .b gq (row (jvc y B4 B5 d4 d5) 25)::[.b gl (row (jvc y B4 B5 d4 d5 ++ jvc x A4 A5 c4 c5) 25),.b g7 (row (jvc x A4 A5 c4 c5) 25),.b g6 (row (#[.bool tb,.slice A names.length cn]) 37),.b g5 (row (jvc y B4 B5 d4 d5) 25)]) w'):=asd_ HE0
 clear HE0
 have hHeld:=(show At w [.b gl (row (jvc y B4 B5 d4 d5 ++ jvc x A4 A5 c4 c5) 25),.b g7 (row (jvc x A4 A5 c4 c5) 25),.b g6 (row (#[.bool tb,.slice A names.length cn]) 37),.b g5 (row (jvc y B4 B5 d4 d5) 25)] w'∧(∀ j,w'.cell? ⟨g5,j,none⟩=(jvc y B4 B5 d4 d5:Array Value)[j]?)∧(∀ j,w'.cell? ⟨g6,j,none⟩=(#[.bool tb,.slice A names.length cn]:Array Value)[j]?)∧(∀ j,w'.cell? ⟨g7,j,none⟩=(jvc x A4 A5 c4 c5:Array Value)[j]?) from ⟨HE.out.drop.drop,(cel_ HE.out.drop.drop.k.2.2.2.1),(cel_ HE.out.drop.drop.k.2.2.1),(cel_ HE.out.drop.drop.k.2.1)⟩)
 refine np_ ?_
 refine on_ 10 47 8191 (fun K hK=> ?_)
 refine ge_ Tryz.func9 #[.agg (ndC gq 1)] ?_
 with_reducible refine (alone_ok _ ⟨0,false,nilS,.slice (some ⟨gq,0,none⟩) 1 1,false,nilS,false,nilS,nilS,nilS⟩ (by simp [Nd.cells,Value.oneCell'])).mono ?_
 rintro e w3 ⟨gn2,rfl,hge,hgn,hb⟩
 refine ⟨_,rfl,?_⟩
 have HE0:=At.came HE.out hb hge hgn
 replace HE:=asd_ (At.sink 1 HE0);clear HE0
 have HEc:At w (.b gk2 (row #[.string ⟨#[67,111,110,115,116]⟩] 9):: .b gn2 (row (ndC gq 1) 45):: .b gq (row (jvc y B4 B5 d4 d5) 25)::[.b gl (row (jvc y B4 B5 d4 d5 ++ jvc x A4 A5 c4 c5) 25),.b g7 (row (jvc x A4 A5 c4 c5) 25),.b g6 (row (#[.bool tb,.slice A names.length cn]) 37),.b g5 (row (jvc y B4 B5 d4 d5) 25)]) w3:=HE.out
 refine hK.out _ _ ⟨HEc.drop.drop.drop,(cel_ HEc.drop.drop.drop.k.2.2.2.1),(cel_ HEc.drop.drop.drop.k.2.2.1),(cel_ HEc.drop.drop.drop.k.2.1)⟩ (fun hHeld=> ?_)
 clear hK K
 refine nq_ 47 ?_
 exact nx_ (hJ8_10_12 ⟨gq,gn2,gk2⟩ _ HEc)
 rintro ⟨gq,gn2,gk2⟩ w' HE0
 have HE:Aside0 (At w (.b gn2 (row (ndC gq 1) 45):: .b gq (row (jvc y B4 B5 d4 d5) 25)::[.b gl (row (jvc y B4 B5 d4 d5 ++ jvc x A4 A5 c4 c5) 25),.b g7 (row (jvc x A4 A5 c4 c5) 25),.b g6 (row (#[.bool tb,.slice A names.length cn]) 37),.b g5 (row (jvc y B4 B5 d4 d5) 25)]) w'):=asd_ HE0
 clear HE0
 have hHeld:=(show At w [.b gl (row (jvc y B4 B5 d4 d5 ++ jvc x A4 A5 c4 c5) 25),.b g7 (row (jvc x A4 A5 c4 c5) 25),.b g6 (row (#[.bool tb,.slice A names.length cn]) 37),.b g5 (row (jvc y B4 B5 d4 d5) 25)] w'∧(∀ j,w'.cell? ⟨g5,j,none⟩=(jvc y B4 B5 d4 d5:Array Value)[j]?)∧(∀ j,w'.cell? ⟨g6,j,none⟩=(#[.bool tb,.slice A names.length cn]:Array Value)[j]?)∧(∀ j,w'.cell? ⟨g7,j,none⟩=(jvc x A4 A5 c4 c5:Array Value)[j]?) from ⟨HE.out.drop.drop,(cel_ HE.out.drop.drop.k.2.2.2.1),(cel_ HE.out.drop.drop.k.2.2.1),(cel_ HE.out.drop.drop.k.2.1)⟩)
 refine np_ ?_
 refine on_ 12 49 8191 (fun K hK=> ?_)
 refine ne_ 49 (row #[.string ⟨#[67,111,110,115,116]⟩] 9) (fun b=> .slice (some ⟨b,0,none⟩) 1 1) ?_
 intro gk2 w3 HE0 hgk2
 replace HE:=asd_ (At.sink 0 HE0);clear HE0
 have HEc:At w (.b gk2 (row #[.string ⟨#[67,111,110,115,116]⟩] 9):: .b gn2 (row (ndC gq 1) 45):: .b gq (row (jvc y B4 B5 d4 d5) 25)::[.b gl (row (jvc y B4 B5 d4 d5 ++ jvc x A4 A5 c4 c5) 25),.b g7 (row (jvc x A4 A5 c4 c5) 25),.b g6 (row (#[.bool tb,.slice A names.length cn]) 37),.b g5 (row (jvc y B4 B5 d4 d5) 25)]) w3:=HE.out
 refine hK.out _ _ ⟨HEc.drop.drop.drop,(cel_ HEc.drop.drop.drop.k.2.2.2.1),(cel_ HEc.drop.drop.drop.k.2.2.1),(cel_ HEc.drop.drop.drop.k.2.1)⟩ (fun hHeld=> ?_)
 clear hK K
 refine nq_ 49 ?_
 exact nx_ (hJ8_10_12 ⟨gq,gn2,gk2⟩ _ HEc)
 rintro ⟨gq,gn2,gk2⟩ w' HE0
 have HE:Aside0 (At w (.b gk2 (row #[.string ⟨#[67,111,110,115,116]⟩] 9):: .b gn2 (row (ndC gq 1) 45):: .b gq (row (jvc y B4 B5 d4 d5) 25)::[.b gl (row (jvc y B4 B5 d4 d5 ++ jvc x A4 A5 c4 c5) 25),.b g7 (row (jvc x A4 A5 c4 c5) 25),.b g6 (row (#[.bool tb,.slice A names.length cn]) 37),.b g5 (row (jvc y B4 B5 d4 d5) 25)]) w'):=asd_ HE0
 clear HE0
 have hHeld:=(show At w [.b gl (row (jvc y B4 B5 d4 d5 ++ jvc x A4 A5 c4 c5) 25),.b g7 (row (jvc x A4 A5 c4 c5) 25),.b g6 (row (#[.bool tb,.slice A names.length cn]) 37),.b g5 (row (jvc y B4 B5 d4 d5) 25)] w'∧(∀ j,w'.cell? ⟨g5,j,none⟩=(jvc y B4 B5 d4 d5:Array Value)[j]?)∧(∀ j,w'.cell? ⟨g6,j,none⟩=(#[.bool tb,.slice A names.length cn]:Array Value)[j]?)∧(∀ j,w'.cell? ⟨g7,j,none⟩=(jvc x A4 A5 c4 c5:Array Value)[j]?) from ⟨HE.out.drop.drop.drop,(cel_ HE.out.drop.drop.drop.k.2.2.2.1),(cel_ HE.out.drop.drop.drop.k.2.2.1),(cel_ HE.out.drop.drop.drop.k.2.1)⟩)
 refine np_ ?_
 refine on_ 13 50 16383 (fun K hK=> ?_)
 have hq1:(_:World).heap[gk2]? =some (row #[.string ⟨#[67,111,110,115,116]⟩] 9):=HE.out.k.1
 have hq2:(_:World).heap[gn2]? =some (row (ndC gq 1) 45):=HE.out.k.2.1
 have hq3:(_:World).heap[gq]? =some (row (jvc y B4 B5 d4 d5) 25):=HE.out.k.2.2.1
 refine ge_ Tryz.func8 #[.slice (some ⟨gn2,0,none⟩) 1 1,.agg (jvc x A4 A5 c4 c5),.slice (some ⟨gk2,0,none⟩) 1 1] ?_
 with_reducible refine (tells_const _ gn2 1 x A4 A5 c4 c5 (Hx.out.below HE.out.b) HV.out hq3 (Hy.out.below HE.out.b) HW.out hq2 gk2 hq1).mono ?_
 rintro e w3 ⟨rfl,hb⟩
 refine ⟨_,rfl,?_⟩
 have HE0:=At.step HE.out hb
 replace HE:=asd_ HE0.drop.drop.drop;clear HE0
 refine hK.out _ _ ⟨HE.out,(cE_ HE 3),(cE_ HE 2),(cE_ HE 1)⟩ (fun hHeld=> ?_)
 clear hK K
 refine nq_ 50 ?_
 refine pu_ 14 51 32767 ?_
 refine pu_ 15 52 65535 ?_
 refine tq_ 16 53 131071 rfl hHeld (by rintro w' ⟨s0,s1,s2,s3⟩;exact rr_ 6 g6 (#[.bool tb,.slice A names.length cn]) s0.k.2.2.1 Tryz.underlying37) ?_
 refine pq_ 17 54 262143 rfl (by intro w';refine buildr_ (t:=45) (parts:=#[(15,.tmp 53)]) (ndP tb A names cn) ?_ ?_;rfl;kernel_rfl) ?_
 refine tq_ 19 56 786431 rfl hHeld (by rintro w' ⟨s0,s1,s2,s3⟩;exact rr_ 7 g7 (jvc x A4 A5 c4 c5) s0.k.2.1 Tryz.underlying25) ?_
 refine jo_ (σ:=Nat×Nat) 14 2097151 (fun s=>[(55,.slice (some ⟨s.1,0,none⟩) 1 1),(57,.slice (some ⟨s.2,0,none⟩) 1 1)]) (fun s w'=>At w (.b s.2 (row #[.string ⟨#[80,97,116,116,101,114,110]⟩] 9):: .b s.1 (row (ndP tb A names cn) 45)::[.b gl (row (jvc y B4 B5 d4 d5 ++ jvc x A4 A5 c4 c5) 25),.b g7 (row (jvc x A4 A5 c4 c5) 25),.b g6 (row (#[.bool tb,.slice A names.length cn]) 37),.b g5 (row (jvc y B4 B5 d4 d5) 25)]) w') (fun hJ18_20=> ?_) ?_
 refine jo_ (σ:=Nat×Nat) 15 1048575 (fun s=>[(55,.slice (some ⟨s.1,0,none⟩) 1 1)]) (fun s w'=>At w (.b s.1 (row (ndP tb A names cn) 45)::[.b gl (row (jvc y B4 B5 d4 d5 ++ jvc x A4 A5 c4 c5) 25),.b g7 (row (jvc x A4 A5 c4 c5) 25),.b g6 (row (#[.bool tb,.slice A names.length cn]) 37),.b g5 (row (jvc y B4 B5 d4 d5) 25)]) w') (fun hJ18=> ?_) ?_
 refine jo_ (σ:=Nat×Nat) 15 1835007 (fun s=>[(57,.slice (some ⟨s.2,0,none⟩) 1 1)]) (fun s w'=>At w (.b s.2 (row #[.string ⟨#[80,97,116,116,101,114,110]⟩] 9)::[.b gl (row (jvc y B4 B5 d4 d5 ++ jvc x A4 A5 c4 c5) 25),.b g7 (row (jvc x A4 A5 c4 c5) 25),.b g6 (row (#[.bool tb,.slice A names.length cn]) 37),.b g5 (row (jvc y B4 B5 d4 d5) 25)]) w') (fun hJ20=> ?_) ?_
 refine tw_ 18 20 55 57 1048575 1835007 (fun K hK=> ?_) (fun K hK=> ?_)
 ·skip
  refine ge_ Tryz.func9 #[.agg (ndP tb A names cn)] ?_
  with_reducible refine (alone_ok _ ⟨0,false,nilS,nilS,tb,.slice A names.length cn,false,nilS,nilS,nilS⟩ (by simp [Nd.cells,Value.oneCell'])).mono ?_
  rintro e w3 ⟨gn3,rfl,hge,hgn,hb⟩
  refine ⟨_,rfl,?_⟩
  have HE0:=At.came HE.out hb hge hgn
  replace HE:=asd_ (At.sink 0 HE0);clear HE0
  have HEc:At w (.b gn3 (row (ndP tb A names cn) 45)::[.b gl (row (jvc y B4 B5 d4 d5 ++ jvc x A4 A5 c4 c5) 25),.b g7 (row (jvc x A4 A5 c4 c5) 25),.b g6 (row (#[.bool tb,.slice A names.length cn]) 37),.b g5 (row (jvc y B4 B5 d4 d5) 25)]) w3:=HE.out
  refine hK.out _ _ ⟨HEc.drop,(cel_ HEc.drop.k.2.2.2.1),(cel_ HEc.drop.k.2.2.1),(cel_ HEc.drop.k.2.1)⟩ (fun hHeld=> ?_)
  clear hK K
  refine nq_ 55 ?_
  exact nx_ (hJ18 ⟨gn3,0⟩ _ HEc)
 ·skip
  refine ne_ 57 (row #[.string ⟨#[80,97,116,116,101,114,110]⟩] 9) (fun b=> .slice (some ⟨b,0,none⟩) 1 1) ?_
  intro gk3 w3 HE0 hgk3
  replace HE:=asd_ (At.sink 0 HE0);clear HE0
  have HEc:At w (.b gk3 (row #[.string ⟨#[80,97,116,116,101,114,110]⟩] 9)::[.b gl (row (jvc y B4 B5 d4 d5 ++ jvc x A4 A5 c4 c5) 25),.b g7 (row (jvc x A4 A5 c4 c5) 25),.b g6 (row (#[.bool tb,.slice A names.length cn]) 37),.b g5 (row (jvc y B4 B5 d4 d5) 25)]) w3:=HE.out
  refine hK.out _ _ ⟨HEc.drop,(cel_ HEc.drop.k.2.2.2.1),(cel_ HEc.drop.k.2.2.1),(cel_ HEc.drop.k.2.1)⟩ (fun hHeld=> ?_)
  clear hK K
  refine nq_ 57 ?_
  exact nx_ (hJ20 ⟨0,gk3⟩ _ HEc)
 rintro ⟨gn3,gk3⟩ w' HE0
 have HE:Aside0 (At w (.b gk3 (row #[.string ⟨#[80,97,116,116,101,114,110]⟩] 9)::[.b gl (row (jvc y B4 B5 d4 d5 ++ jvc x A4 A5 c4 c5) 25),.b g7 (row (jvc x A4 A5 c4 c5) 25),.b g6 (row (#[.bool tb,.slice A names.length cn]) 37),.b g5 (row (jvc y B4 B5 d4 d5) 25)]) w'):=asd_ HE0
 clear HE0
 have hHeld:=(show At w [.b gl (row (jvc y B4 B5 d4 d5 ++ jvc x A4 A5 c4 c5) 25),.b g7 (row (jvc x A4 A5 c4 c5) 25),.b g6 (row (#[.bool tb,.slice A names.length cn]) 37),.b g5 (row (jvc y B4 B5 d4 d5) 25)] w'∧(∀ j,w'.cell? ⟨g5,j,none⟩=(jvc y B4 B5 d4 d5:Array Value)[j]?)∧(∀ j,w'.cell? ⟨g6,j,none⟩=(#[.bool tb,.slice A names.length cn]:Array Value)[j]?)∧(∀ j,w'.cell? ⟨g7,j,none⟩=(jvc x A4 A5 c4 c5:Array Value)[j]?) from ⟨HE.out.drop,(cel_ HE.out.drop.k.2.2.2.1),(cel_ HE.out.drop.k.2.2.1),(cel_ HE.out.drop.k.2.1)⟩)
 refine np_ ?_
 refine on_ 18 55 2097151 (fun K hK=> ?_)
 refine ge_ Tryz.func9 #[.agg (ndP tb A names cn)] ?_
 with_reducible refine (alone_ok _ ⟨0,false,nilS,nilS,tb,.slice A names.length cn,false,nilS,nilS,nilS⟩ (by simp [Nd.cells,Value.oneCell'])).mono ?_
 rintro e w3 ⟨gn3,rfl,hge,hgn,hb⟩
 refine ⟨_,rfl,?_⟩
 have HE0:=At.came HE.out hb hge hgn
 replace HE:=asd_ (At.sink 1 HE0);clear HE0
 have HEc:At w (.b gk3 (row #[.string ⟨#[80,97,116,116,101,114,110]⟩] 9):: .b gn3 (row (ndP tb A names cn) 45)::[.b gl (row (jvc y B4 B5 d4 d5 ++ jvc x A4 A5 c4 c5) 25),.b g7 (row (jvc x A4 A5 c4 c5) 25),.b g6 (row (#[.bool tb,.slice A names.length cn]) 37),.b g5 (row (jvc y B4 B5 d4 d5) 25)]) w3:=HE.out
 refine hK.out _ _ ⟨HEc.drop.drop,(cel_ HEc.drop.drop.k.2.2.2.1),(cel_ HEc.drop.drop.k.2.2.1),(cel_ HEc.drop.drop.k.2.1)⟩ (fun hHeld=> ?_)
 clear hK K
 refine nq_ 55 ?_
 exact nx_ (hJ18_20 ⟨gn3,gk3⟩ _ HEc)
 rintro ⟨gn3,gk3⟩ w' HE0
 have HE:Aside0 (At w (.b gn3 (row (ndP tb A names cn) 45)::[.b gl (row (jvc y B4 B5 d4 d5 ++ jvc x A4 A5 c4 c5) 25),.b g7 (row (jvc x A4 A5 c4 c5) 25),.b g6 (row (#[.bool tb,.slice A names.length cn]) 37),.b g5 (row (jvc y B4 B5 d4 d5) 25)]) w'):=asd_ HE0
 clear HE0
 have hHeld:=(show At w [.b gl (row (jvc y B4 B5 d4 d5 ++ jvc x A4 A5 c4 c5) 25),.b g7 (row (jvc x A4 A5 c4 c5) 25),.b g6 (row (#[.bool tb,.slice A names.length cn]) 37),.b g5 (row (jvc y B4 B5 d4 d5) 25)] w'∧(∀ j,w'.cell? ⟨g5,j,none⟩=(jvc y B4 B5 d4 d5:Array Value)[j]?)∧(∀ j,w'.cell? ⟨g6,j,none⟩=(#[.bool tb,.slice A names.length cn]:Array Value)[j]?)∧(∀ j,w'.cell? ⟨g7,j,none⟩=(jvc x A4 A5 c4 c5:Array Value)[j]?) from ⟨HE.out.drop,(cel_ HE.out.drop.k.2.2.2.1),(cel_ HE.out.drop.k.2.2.1),(cel_ HE.out.drop.k.2.1)⟩)
 refine np_ ?_
 refine on_ 20 57 2097151 (fun K hK=> ?_)
 refine ne_ 57 (row #[.string ⟨#[80,97,116,116,101,114,110]⟩] 9) (fun b=> .slice (some ⟨b,0,none⟩) 1 1) ?_
 intro gk3 w3 HE0 hgk3
 replace HE:=asd_ (At.sink 0 HE0);clear HE0
 have HEc:At w (.b gk3 (row #[.string ⟨#[80,97,116,116,101,114,110]⟩] 9):: .b gn3 (row (ndP tb A names cn) 45)::[.b gl (row (jvc y B4 B5 d4 d5 ++ jvc x A4 A5 c4 c5) 25),.b g7 (row (jvc x A4 A5 c4 c5) 25),.b g6 (row (#[.bool tb,.slice A names.length cn]) 37),.b g5 (row (jvc y B4 B5 d4 d5) 25)]) w3:=HE.out
 refine hK.out _ _ ⟨HEc.drop.drop,(cel_ HEc.drop.drop.k.2.2.2.1),(cel_ HEc.drop.drop.k.2.2.1),(cel_ HEc.drop.drop.k.2.1)⟩ (fun hHeld=> ?_)
 clear hK K
 refine nq_ 57 ?_
 exact nx_ (hJ18_20 ⟨gn3,gk3⟩ _ HEc)
 rintro ⟨gn3,gk3⟩ w' HE0
 have HE:Aside0 (At w (.b gk3 (row #[.string ⟨#[80,97,116,116,101,114,110]⟩] 9):: .b gn3 (row (ndP tb A names cn) 45)::[.b gl (row (jvc y B4 B5 d4 d5 ++ jvc x A4 A5 c4 c5) 25),.b g7 (row (jvc x A4 A5 c4 c5) 25),.b g6 (row (#[.bool tb,.slice A names.length cn]) 37),.b g5 (row (jvc y B4 B5 d4 d5) 25)]) w'):=asd_ HE0
 clear HE0
 have hHeld:=(show At w [.b gl (row (jvc y B4 B5 d4 d5 ++ jvc x A4 A5 c4 c5) 25),.b g7 (row (jvc x A4 A5 c4 c5) 25),.b g6 (row (#[.bool tb,.slice A names.length cn]) 37),.b g5 (row (jvc y B4 B5 d4 d5) 25)] w'∧(∀ j,w'.cell? ⟨g5,j,none⟩=(jvc y B4 B5 d4 d5:Array Value)[j]?)∧(∀ j,w'.cell? ⟨g6,j,none⟩=(#[.bool tb,.slice A names.length cn]:Array Value)[j]?)∧(∀ j,w'.cell? ⟨g7,j,none⟩=(jvc x A4 A5 c4 c5:Array Value)[j]?) from ⟨HE.out.drop.drop,(cel_ HE.out.drop.drop.k.2.2.2.1),(cel_ HE.out.drop.drop.k.2.2.1),(cel_ HE.out.drop.drop.k.2.1)⟩)
 refine np_ ?_
 refine on_ 21 58 4194303 (fun K hK=> ?_)
 have hq1:(_:World).heap[gk3]? =some (row #[.string ⟨#[80,97,116,116,101,114,110]⟩] 9):=HE.out.k.1
 have hq2:(_:World).heap[gn3]? =some (row (ndP tb A names cn) 45):=HE.out.k.2.1
 refine ge_ Tryz.func8 #[.slice (some ⟨gn3,0,none⟩) 1 1,.agg (jvc x A4 A5 c4 c5),.slice (some ⟨gk3,0,none⟩) 1 1] ?_
 with_reducible refine (tells_pat _ gn3 1 x A4 A5 c4 c5 (Hx.out.below HE.out.b) HV.out tb (Kd.C_below Hr.out HE.out.b) hcn hlen hnn hq2 gk3 hq1).mono ?_
 rintro e w3 ⟨rfl,hb⟩
 refine ⟨_,rfl,?_⟩
 have HE0:=At.step HE.out hb
 replace HE:=asd_ HE0.drop.drop;clear HE0
 refine hK.out _ _ ⟨HE.out,(cE_ HE 3),(cE_ HE 2),(cE_ HE 1)⟩ (fun hHeld=> ?_)
 clear hK K
 refine nq_ 58 ?_
 refine pu_ 22 59 8388607 ?_
 refine pu_ 23 60 16777215 ?_
 refine tq_ 24 61 33554431 rfl hHeld (by rintro w' ⟨s0,s1,s2,s3⟩;exact rr_ 6 g6 (#[.bool tb,.slice A names.length cn]) s0.k.2.2.1 Tryz.underlying37) ?_
 refine pq_ 25 62 67108863 rfl (by intro w';refine buildr_ (t:=45) (parts:=#[(16,.tmp 61)]) (ndF tb A names cn) ?_ ?_;rfl;kernel_rfl) ?_
 refine tq_ 27 64 201326591 rfl hHeld (by rintro w' ⟨s0,s1,s2,s3⟩;exact rr_ 7 g7 (jvc x A4 A5 c4 c5) s0.k.2.1 Tryz.underlying25) ?_
 refine jo_ (σ:=Nat×Nat) 6 536870911 (fun s=>[(63,.slice (some ⟨s.1,0,none⟩) 1 1),(65,.slice (some ⟨s.2,0,none⟩) 1 1)]) (fun s w'=>At w (.b s.2 (row #[.string ⟨#[70,111,114,109,97,116]⟩] 9):: .b s.1 (row (ndF tb A names cn) 45)::[.b gl (row (jvc y B4 B5 d4 d5 ++ jvc x A4 A5 c4 c5) 25),.b g7 (row (jvc x A4 A5 c4 c5) 25),.b g6 (row (#[.bool tb,.slice A names.length cn]) 37),.b g5 (row (jvc y B4 B5 d4 d5) 25)]) w') (fun hJ26_28=> ?_) ?_
 refine jo_ (σ:=Nat×Nat) 7 268435455 (fun s=>[(63,.slice (some ⟨s.1,0,none⟩) 1 1)]) (fun s w'=>At w (.b s.1 (row (ndF tb A names cn) 45)::[.b gl (row (jvc y B4 B5 d4 d5 ++ jvc x A4 A5 c4 c5) 25),.b g7 (row (jvc x A4 A5 c4 c5) 25),.b g6 (row (#[.bool tb,.slice A names.length cn]) 37),.b g5 (row (jvc y B4 B5 d4 d5) 25)]) w') (fun hJ26=> ?_) ?_
 refine jo_ (σ:=Nat×Nat) 7 469762047 (fun s=>[(65,.slice (some ⟨s.2,0,none⟩) 1 1)]) (fun s w'=>At w (.b s.2 (row #[.string ⟨#[70,111,114,109,97,116]⟩] 9)::[.b gl (row (jvc y B4 B5 d4 d5 ++ jvc x A4 A5 c4 c5) 25),.b g7 (row (jvc x A4 A5 c4 c5) 25),.b g6 (row (#[.bool tb,.slice A names.length cn]) 37),.b g5 (row (jvc y B4 B5 d4 d5) 25)]) w') (fun hJ28=> ?_) ?_
 refine tw_ 26 28 63 65 268435455 469762047 (fun K hK=> ?_) (fun K hK=> ?_)
 ·skip
  refine ge_ Tryz.func9 #[.agg (ndF tb A names cn)] ?_
  with_reducible refine (alone_ok _ ⟨0,false,nilS,nilS,false,nilS,tb,.slice A names.length cn,nilS,nilS⟩ (by simp [Nd.cells,Value.oneCell'])).mono ?_
  rintro e w3 ⟨gn4,rfl,hge,hgn,hb⟩
  refine ⟨_,rfl,?_⟩
  have HE0:=At.came HE.out hb hge hgn
  replace HE:=asd_ (At.sink 0 HE0);clear HE0
  have HEc:At w (.b gn4 (row (ndF tb A names cn) 45)::[.b gl (row (jvc y B4 B5 d4 d5 ++ jvc x A4 A5 c4 c5) 25),.b g7 (row (jvc x A4 A5 c4 c5) 25),.b g6 (row (#[.bool tb,.slice A names.length cn]) 37),.b g5 (row (jvc y B4 B5 d4 d5) 25)]) w3:=HE.out
  refine hK.out _ _ ⟨HEc.drop,(cel_ HEc.drop.k.2.2.2.1),(cel_ HEc.drop.k.2.2.1),(cel_ HEc.drop.k.2.1)⟩ (fun hHeld=> ?_)
  clear hK K
  refine nq_ 63 ?_
  exact nx_ (hJ26 ⟨gn4,0⟩ _ HEc)
 ·skip
  refine ne_ 65 (row #[.string ⟨#[70,111,114,109,97,116]⟩] 9) (fun b=> .slice (some ⟨b,0,none⟩) 1 1) ?_
  intro gk4 w3 HE0 hgk4
  replace HE:=asd_ (At.sink 0 HE0);clear HE0
  have HEc:At w (.b gk4 (row #[.string ⟨#[70,111,114,109,97,116]⟩] 9)::[.b gl (row (jvc y B4 B5 d4 d5 ++ jvc x A4 A5 c4 c5) 25),.b g7 (row (jvc x A4 A5 c4 c5) 25),.b g6 (row (#[.bool tb,.slice A names.length cn]) 37),.b g5 (row (jvc y B4 B5 d4 d5) 25)]) w3:=HE.out
  refine hK.out _ _ ⟨HEc.drop,(cel_ HEc.drop.k.2.2.2.1),(cel_ HEc.drop.k.2.2.1),(cel_ HEc.drop.k.2.1)⟩ (fun hHeld=> ?_)
  clear hK K
  refine nq_ 65 ?_
  exact nx_ (hJ28 ⟨0,gk4⟩ _ HEc)
 rintro ⟨gn4,gk4⟩ w' HE0
 have HE:Aside0 (At w (.b gk4 (row #[.string ⟨#[70,111,114,109,97,116]⟩] 9)::[.b gl (row (jvc y B4 B5 d4 d5 ++ jvc x A4 A5 c4 c5) 25),.b g7 (row (jvc x A4 A5 c4 c5) 25),.b g6 (row (#[.bool tb,.slice A names.length cn]) 37),.b g5 (row (jvc y B4 B5 d4 d5) 25)]) w'):=asd_ HE0
 clear HE0
 have hHeld:=(show At w [.b gl (row (jvc y B4 B5 d4 d5 ++ jvc x A4 A5 c4 c5) 25),.b g7 (row (jvc x A4 A5 c4 c5) 25),.b g6 (row (#[.bool tb,.slice A names.length cn]) 37),.b g5 (row (jvc y B4 B5 d4 d5) 25)] w'∧(∀ j,w'.cell? ⟨g5,j,none⟩=(jvc y B4 B5 d4 d5:Array Value)[j]?)∧(∀ j,w'.cell? ⟨g6,j,none⟩=(#[.bool tb,.slice A names.length cn]:Array Value)[j]?)∧(∀ j,w'.cell? ⟨g7,j,none⟩=(jvc x A4 A5 c4 c5:Array Value)[j]?) from ⟨HE.out.drop,(cel_ HE.out.drop.k.2.2.2.1),(cel_ HE.out.drop.k.2.2.1),(cel_ HE.out.drop.k.2.1)⟩)
 refine np_ ?_
 refine on_ 26 63 536870911 (fun K hK=> ?_)
 refine ge_ Tryz.func9 #[.agg (ndF tb A names cn)] ?_
 with_reducible refine (alone_ok _ ⟨0,false,nilS,nilS,false,nilS,tb,.slice A names.length cn,nilS,nilS⟩ (by simp [Nd.cells,Value.oneCell'])).mono ?_
 rintro e w3 ⟨gn4,rfl,hge,hgn,hb⟩
 refine ⟨_,rfl,?_⟩
 have HE0:=At.came HE.out hb hge hgn
 replace HE:=asd_ (At.sink 1 HE0);clear HE0
 have HEc:At w (.b gk4 (row #[.string ⟨#[70,111,114,109,97,116]⟩] 9):: .b gn4 (row (ndF tb A names cn) 45)::[.b gl (row (jvc y B4 B5 d4 d5 ++ jvc x A4 A5 c4 c5) 25),.b g7 (row (jvc x A4 A5 c4 c5) 25),.b g6 (row (#[.bool tb,.slice A names.length cn]) 37),.b g5 (row (jvc y B4 B5 d4 d5) 25)]) w3:=HE.out
 refine hK.out _ _ ⟨HEc.drop.drop,(cel_ HEc.drop.drop.k.2.2.2.1),(cel_ HEc.drop.drop.k.2.2.1),(cel_ HEc.drop.drop.k.2.1)⟩ (fun hHeld=> ?_)
 clear hK K
 refine nq_ 63 ?_
 exact nx_ (hJ26_28 ⟨gn4,gk4⟩ _ HEc)
 rintro ⟨gn4,gk4⟩ w' HE0
 have HE:Aside0 (At w (.b gn4 (row (ndF tb A names cn) 45)::[.b gl (row (jvc y B4 B5 d4 d5 ++ jvc x A4 A5 c4 c5) 25),.b g7 (row (jvc x A4 A5 c4 c5) 25),.b g6 (row (#[.bool tb,.slice A names.length cn]) 37),.b g5 (row (jvc y B4 B5 d4 d5) 25)]) w'):=asd_ HE0
 clear HE0
 have hHeld:=(show At w [.b gl (row (jvc y B4 B5 d4 d5 ++ jvc x A4 A5 c4 c5) 25),.b g7 (row (jvc x A4 A5 c4 c5) 25),.b g6 (row (#[.bool tb,.slice A names.length cn]) 37),.b g5 (row (jvc y B4 B5 d4 d5) 25)] w'∧(∀ j,w'.cell? ⟨g5,j,none⟩=(jvc y B4 B5 d4 d5:Array Value)[j]?)∧(∀ j,w'.cell? ⟨g6,j,none⟩=(#[.bool tb,.slice A names.length cn]:Array Value)[j]?)∧(∀ j,w'.cell? ⟨g7,j,none⟩=(jvc x A4 A5 c4 c5:Array Value)[j]?) from ⟨HE.out.drop,(cel_ HE.out.drop.k.2.2.2.1),(cel_ HE.out.drop.k.2.2.1),(cel_ HE.out.drop.k.2.1)⟩)
 refine np_ ?_
 refine on_ 28 65 536870911 (fun K hK=> ?_)
 refine ne_ 65 (row #[.string ⟨#[70,111,114,109,97,116]⟩] 9) (fun b=> .slice (some ⟨b,0,none⟩) 1 1) ?_
 intro gk4 w3 HE0 hgk4
 replace HE:=asd_ (At.sink 0 HE0);clear HE0
 have HEc:At w (.b gk4 (row #[.string ⟨#[70,111,114,109,97,116]⟩] 9):: .b gn4 (row (ndF tb A names cn) 45)::[.b gl (row (jvc y B4 B5 d4 d5 ++ jvc x A4 A5 c4 c5) 25),.b g7 (row (jvc x A4 A5 c4 c5) 25),.b g6 (row (#[.bool tb,.slice A names.length cn]) 37),.b g5 (row (jvc y B4 B5 d4 d5) 25)]) w3:=HE.out
 refine hK.out _ _ ⟨HEc.drop.drop,(cel_ HEc.drop.drop.k.2.2.2.1),(cel_ HEc.drop.drop.k.2.2.1),(cel_ HEc.drop.drop.k.2.1)⟩ (fun hHeld=> ?_)
 clear hK K
 refine nq_ 65 ?_
 exact nx_ (hJ26_28 ⟨gn4,gk4⟩ _ HEc)
 rintro ⟨gn4,gk4⟩ w' HE0
 have HE:Aside0 (At w (.b gk4 (row #[.string ⟨#[70,111,114,109,97,116]⟩] 9):: .b gn4 (row (ndF tb A names cn) 45)::[.b gl (row (jvc y B4 B5 d4 d5 ++ jvc x A4 A5 c4 c5) 25),.b g7 (row (jvc x A4 A5 c4 c5) 25),.b g6 (row (#[.bool tb,.slice A names.length cn]) 37),.b g5 (row (jvc y B4 B5 d4 d5) 25)]) w'):=asd_ HE0
 clear HE0
 have hHeld:=(show At w [.b gl (row (jvc y B4 B5 d4 d5 ++ jvc x A4 A5 c4 c5) 25),.b g7 (row (jvc x A4 A5 c4 c5) 25),.b g6 (row (#[.bool tb,.slice A names.length cn]) 37),.b g5 (row (jvc y B4 B5 d4 d5) 25)] w'∧(∀ j,w'.cell? ⟨g5,j,none⟩=(jvc y B4 B5 d4 d5:Array Value)[j]?)∧(∀ j,w'.cell? ⟨g6,j,none⟩=(#[.bool tb,.slice A names.length cn]:Array Value)[j]?)∧(∀ j,w'.cell? ⟨g7,j,none⟩=(jvc x A4 A5 c4 c5:Array Value)[j]?) from ⟨HE.out.drop.drop,(cel_ HE.out.drop.drop.k.2.2.2.1),(cel_ HE.out.drop.drop.k.2.2.1),(cel_ HE.out.drop.drop.k.2.1)⟩)
 refine np_ ?_
 refine on_ 29 66 1073741823 (fun K hK=> ?_)
 have hq1:(_:World).heap[gk4]? =some (row #[.string ⟨#[70,111,114,109,97,116]⟩] 9):=HE.out.k.1
 have hq2:(_:World).heap[gn4]? =some (row (ndF tb A names cn) 45):=HE.out.k.2.1
 refine ge_ Tryz.func8 #[.slice (some ⟨gn4,0,none⟩) 1 1,.agg (jvc x A4 A5 c4 c5),.slice (some ⟨gk4,0,none⟩) 1 1] ?_
 with_reducible refine (tells_fmt _ gn4 1 x A4 A5 c4 c5 (Hx.out.below HE.out.b) HV.out tb (Kd.C_below Hr.out HE.out.b) hcn hlen hnn hq2 gk4 hq1).mono ?_
 rintro e w3 ⟨rfl,hb⟩
 refine ⟨_,rfl,?_⟩
 have HE0:=At.step HE.out hb
 replace HE:=asd_ HE0.drop.drop;clear HE0
 refine hK.out _ _ ⟨HE.out,(cE_ HE 3),(cE_ HE 2),(cE_ HE 1)⟩ (fun hHeld=> ?_)
 clear hK K
 refine nq_ 66 ?_
 refine pu_ 30 67 2147483647 ?_
 refine pu_ 31 68 4294967295 ?_
 refine on_ 32 69 8589934591 (fun K hK=> ?_)
 refine goes_ Tryz.func10 kr_ rfl #[] (by rfl) rfl rfl (by simp only [List.map_toArray,List.map_cons,List.map_nil]) ?_
 with_reducible refine (tells_false _).mono ?_
 rintro e w3 ⟨rfl,hb⟩
 refine ⟨_,rfl,?_⟩
 replace HE:=asd_ (At.step HE.out hb)
 refine hK.out _ _ ⟨HE.out,(cE_ HE 3),(cE_ HE 2),(cE_ HE 1)⟩ (fun hHeld=> ?_)
 clear hK K
 refine nq_ 69 ?_
 refine pu_ 33 70 17179869183 ?_
 refine pu_ 34 8 34359738367 ?_
 refine done_ kr_ ?_
 clear HK;have HK:=HE;clear HE
 clear hHeld
 replace Bc:=ce3_ HK 3 2 1
 go_wp2_with fail
 go_ret
 exact ⟨by first|rfl|simp,be_⟩
end Go.Proofs.YtkphbhncpdcbeaaGreatDoor.J
