/- Part. -/
import Derived.Test.YtkphbhncpdcbeaaGreatDoorQAW
set_option linter.unusedVariables false
set_option linter.unusedSimpArgs false
set_option maxHeartbeats 8000000
set_option maxRecDepth 100000
namespace Go.Proofs.YtkphbhncpdcbeaaGreatDoor.J
open Go.RowKit YtkphbhncpdcbeaaGreatDoorW.PrintWords YtkphbhncpdcbeaaGreatDoorW.PrintLast YtkphbhncpdcbeaaGreatDoorW.PrintMore PJT
theorem jv_object_true (w:World) (s1:Value) (n:Nd) (gn cS:Nat) (x:S25) (A4 A5:Option Addr) (c4 c5:Nat) (hk0:n.kind=0) (k2:(x.f0 == 2)=false) (k3:(x.f0 == 3)=false) (k4:(x.f0 == 4)=false) (k5:(x.f0 == 5)=true) (hn4:x.f4.length≤LM) (h45:x.f4.length≤x.f5.length) (hn1:n.cells.all (·.oneCell')=true) (hS:w.heap[gn]? =some (row n.cells 45)) (hn5:x.f5.length≤LM)
  (h31:∀ W,Below w.heap.size w W→Calls Tryz.prog 31 #[.agg n.cells,.agg (jvc x A4 A5 c4 c5)] W (rb (.bool true) W)) (hx:Rep w x A4 c4 A5 c5) (hT:∀ W,Below w.heap.size w W→Calls Tryz.prog 75 #[.agg n.cells,.agg (jvc x A4 A5 c4 c5)] W (rb (.bool true) W)):
  Calls Tryz.prog 20 #[.int .i64 2020,.agg #[.slice (some ⟨gn,0,none⟩) 1 cS,s1],.int .i64 1,.agg (jvc x A4 A5 c4 c5)] w fun e w'=>∃ v,e= .returned (.tuple #[.bool true,v])∧Below w.heap.size w w':=by
 have hmk:=print_make_of (P:=Tryz.prog) 63 4 bF 1 Tryz.underlying63 kr_ rfl (by decide) x.f5.length (by simp only [LM] at hn5;omega)
 have H31:=asd_ h31
 clear h31
 have Hx:=asd_ hx
 have HT:=asd_ hT
 clear hx hT
 have HK:Aside0 (At w [.b gn (row (n.cells) 45)] w):=asd_ (At.hold (At.start w) hS (by simp [nums]))
 replace Bc:=ce1_ HK 0
 go_enter Tryz.func20,Tryz.ntmps20
 go_wp2_with (first|((with_reducible refine gd_ 5 ?_);refine bx_ #[.slice (some ⟨gn,0,none⟩) 1 cS,s1] 68 ?_;clear HK;intro g5 wb5 HK Gg5;replace Bc:=ce2_ HK 1 0)|((with_reducible refine gd_ 7 ?_);refine bx_ (jvc x A4 A5 c4 c5) 25 ?_;clear HK;intro g7 wb7 HK Gg7;replace Bc:=ce3_ HK 2 1 0)|((with_reducible refine gd_ 18 ?_);refine lo_ 45 17 gn (n.cells) HK.out.k.2.2.1 Tryz.underlying45 ?_)|((with_reducible refine gd_ 10 ?_);refine bx_ (ndZ nilS nilS) 45 ?_;clear HK;intro g10 wb10 HK Gg10;replace Bc:=ce4_ HK 3 2 1 0)|((with_reducible refine gd_ 22 ?_);refine nw_ (row (madeCells #[bF] x.f5.length) 4) (fun b=> .slice (some ⟨b,0,none⟩) x.f5.length x.f5.length) ?_;clear HK;intro gm wb22 HK Ggm;replace Bc:=ce4_ HK 4 3 2 1)|((with_reducible refine gd_ 30 ?_);refine lo_ 45 10 g10 (n.cells) HK.out.k.2.1 Tryz.underlying45 ?_)|((with_reducible refine gd_ 31 ?_);refine lo_ 25 7 g7 (jvc x A4 A5 c4 c5) HK.out.k.2.2.1 Tryz.underlying25 ?_)|((with_reducible refine gd_ 34 ?_);refine lo_ 68 5 g5 (#[.slice (some ⟨gn,0,none⟩) 1 cS,s1]) HK.out.k.2.2.2.1 Tryz.underlying68 ?_)|((with_reducible refine gd_ 35 ?_);refine lo_ 45 10 g10 (n.cells) HK.out.k.2.1 Tryz.underlying45 ?_)|((with_reducible refine gd_ 36 ?_);refine lo_ 25 7 g7 (jvc x A4 A5 c4 c5) HK.out.k.2.2.1 Tryz.underlying25 ?_)|((with_reducible refine gd_ 93 ?_);refine lo_ 68 5 g5 (#[.slice (some ⟨gn,0,none⟩) 1 cS,s1]) HK.out.k.2.2.2.1 Tryz.underlying68 ?_)|((with_reducible refine gd_ 94 ?_);refine lo_ 45 10 g10 (n.cells) HK.out.k.2.1 Tryz.underlying45 ?_)|((with_reducible refine gd_ 95 ?_);refine lo_ 25 7 g7 (jvc x A4 A5 c4 c5) HK.out.k.2.2.1 Tryz.underlying25 ?_)|((with_reducible refine gate_ (.store 45 (.tmp 10) (.tmp 18)) rfl ?_);refine storerow_at (cs:=ndZ nilS nilS) (g:=g10) 0 n.cells at_ rfl Gg10.out rfl rfl rfl rfl rfl rfl kr_ rfl (hn1) ?_;intro wsr HK1;replace HK:=asd_ HK1;clear HK1;replace Bc:=ce4_ HK 3 2 1 0)|((first|((with_reducible refine gd_ 32 ?_);refine cl_ #[.agg n.cells,.agg (jvc x A4 A5 c4 c5)] (.bool true) Tryz.func31 (H31.out _ HK.out.b) ?_)|((with_reducible refine gd_ 38 ?_);refine cl_ #[.int .i64 2020,.agg #[.slice (some ⟨gn,0,none⟩) 1 cS,s1],.agg n.cells,.agg (jvc x A4 A5 c4 c5),.slice (some ⟨gm,0,none⟩) x.f5.length x.f5.length] (.bool true) Tryz.func32 (inplace_none _ 2020 (.slice (some ⟨gn,0,none⟩) 1 cS) s1 (.slice (some ⟨gm,0,none⟩) x.f5.length x.f5.length) n x A4 A5 c4 c5) ?_)|((with_reducible refine gd_ 97 ?_);refine cl_ #[.int .i64 2020,.agg #[.slice (some ⟨gn,0,none⟩) 1 cS,s1],.agg n.cells,.agg (jvc x A4 A5 c4 c5),.slice (some ⟨gm,0,none⟩) x.f5.length x.f5.length] (.bool true) Tryz.func39 (object_true _ 2020 (.slice (some ⟨gn,0,none⟩) 1 cS) s1 (.slice (some ⟨gm,0,none⟩) x.f5.length x.f5.length) n x A4 A5 c4 c5 (Hx.out.below HK.out.b) hn4 h45 (fun W' hb=>HT.out W' (below_step HK.out.b hb))) ?_));intro wc32 HK1;replace HK:=asd_ HK1;clear HK1;replace Bc:=ce4_ HK 4 3 2 1))
 go_ret2
 exact ⟨_,rfl,be_⟩
theorem jv_object_false (w:World) (s1:Value) (n:Nd) (gn cS:Nat) (x:S25) (A4 A5:Option Addr) (c4 c5:Nat) (hk0:n.kind=0) (k2:(x.f0 == 2)=false) (k3:(x.f0 == 3)=false) (k4:(x.f0 == 4)=false) (k5:(x.f0 == 5)=true) (hn4:x.f4.length≤LM) (h45:x.f4.length≤x.f5.length) (hn1:n.cells.all (·.oneCell')=true) (hS:w.heap[gn]? =some (row n.cells 45)) (hn5:x.f5.length≤LM)
  (h31:∀ W,Below w.heap.size w W→Calls Tryz.prog 31 #[.agg n.cells,.agg (jvc x A4 A5 c4 c5)] W (rb (.bool false) W)) (hx:Rep w x A4 c4 A5 c5) (hT:∀ W,Below w.heap.size w W→Calls Tryz.prog 75 #[.agg n.cells,.agg (jvc x A4 A5 c4 c5)] W (rb (.bool true) W)):
  Calls Tryz.prog 20 #[.int .i64 2020,.agg #[.slice (some ⟨gn,0,none⟩) 1 cS,s1],.int .i64 1,.agg (jvc x A4 A5 c4 c5)] w fun e w'=>∃ v,e= .returned (.tuple #[.bool false,v])∧Below w.heap.size w w':=by
 have hmk:=print_make_of (P:=Tryz.prog) 63 4 bF 1 Tryz.underlying63 kr_ rfl (by decide) x.f5.length (by simp only [LM] at hn5;omega)
 have H31:=asd_ h31
 clear h31
 have Hx:=asd_ hx
 have HT:=asd_ hT
 clear hx hT
 have HK:Aside0 (At w [.b gn (row (n.cells) 45)] w):=asd_ (At.hold (At.start w) hS (by simp [nums]))
 replace Bc:=ce1_ HK 0
 go_enter Tryz.func20,Tryz.ntmps20
 go_wp2_with (first|((with_reducible refine gd_ 5 ?_);refine bx_ #[.slice (some ⟨gn,0,none⟩) 1 cS,s1] 68 ?_;clear HK;intro g5 wb5 HK Gg5;replace Bc:=ce2_ HK 1 0)|((with_reducible refine gd_ 7 ?_);refine bx_ (jvc x A4 A5 c4 c5) 25 ?_;clear HK;intro g7 wb7 HK Gg7;replace Bc:=ce3_ HK 2 1 0)|((with_reducible refine gd_ 18 ?_);refine lo_ 45 17 gn (n.cells) HK.out.k.2.2.1 Tryz.underlying45 ?_)|((with_reducible refine gd_ 10 ?_);refine bx_ (ndZ nilS nilS) 45 ?_;clear HK;intro g10 wb10 HK Gg10;replace Bc:=ce4_ HK 3 2 1 0)|((with_reducible refine gd_ 22 ?_);refine nw_ (row (madeCells #[bF] x.f5.length) 4) (fun b=> .slice (some ⟨b,0,none⟩) x.f5.length x.f5.length) ?_;clear HK;intro gm wb22 HK Ggm;replace Bc:=ce4_ HK 4 3 2 1)|((with_reducible refine gd_ 30 ?_);refine lo_ 45 10 g10 (n.cells) HK.out.k.2.1 Tryz.underlying45 ?_)|((with_reducible refine gd_ 31 ?_);refine lo_ 25 7 g7 (jvc x A4 A5 c4 c5) HK.out.k.2.2.1 Tryz.underlying25 ?_)|((with_reducible refine gd_ 34 ?_);refine lo_ 68 5 g5 (#[.slice (some ⟨gn,0,none⟩) 1 cS,s1]) HK.out.k.2.2.2.1 Tryz.underlying68 ?_)|((with_reducible refine gd_ 35 ?_);refine lo_ 45 10 g10 (n.cells) HK.out.k.2.1 Tryz.underlying45 ?_)|((with_reducible refine gd_ 36 ?_);refine lo_ 25 7 g7 (jvc x A4 A5 c4 c5) HK.out.k.2.2.1 Tryz.underlying25 ?_)|((with_reducible refine gd_ 93 ?_);refine lo_ 68 5 g5 (#[.slice (some ⟨gn,0,none⟩) 1 cS,s1]) HK.out.k.2.2.2.1 Tryz.underlying68 ?_)|((with_reducible refine gd_ 94 ?_);refine lo_ 45 10 g10 (n.cells) HK.out.k.2.1 Tryz.underlying45 ?_)|((with_reducible refine gd_ 95 ?_);refine lo_ 25 7 g7 (jvc x A4 A5 c4 c5) HK.out.k.2.2.1 Tryz.underlying25 ?_)|((with_reducible refine gate_ (.store 45 (.tmp 10) (.tmp 18)) rfl ?_);refine storerow_at (cs:=ndZ nilS nilS) (g:=g10) 0 n.cells at_ rfl Gg10.out rfl rfl rfl rfl rfl rfl kr_ rfl (hn1) ?_;intro wsr HK1;replace HK:=asd_ HK1;clear HK1;replace Bc:=ce4_ HK 3 2 1 0)|((first|((with_reducible refine gd_ 32 ?_);refine cl_ #[.agg n.cells,.agg (jvc x A4 A5 c4 c5)] (.bool false) Tryz.func31 (H31.out _ HK.out.b) ?_)|((with_reducible refine gd_ 38 ?_);refine cl_ #[.int .i64 2020,.agg #[.slice (some ⟨gn,0,none⟩) 1 cS,s1],.agg n.cells,.agg (jvc x A4 A5 c4 c5),.slice (some ⟨gm,0,none⟩) x.f5.length x.f5.length] (.bool true) Tryz.func32 (inplace_none _ 2020 (.slice (some ⟨gn,0,none⟩) 1 cS) s1 (.slice (some ⟨gm,0,none⟩) x.f5.length x.f5.length) n x A4 A5 c4 c5) ?_)|((with_reducible refine gd_ 97 ?_);refine cl_ #[.int .i64 2020,.agg #[.slice (some ⟨gn,0,none⟩) 1 cS,s1],.agg n.cells,.agg (jvc x A4 A5 c4 c5),.slice (some ⟨gm,0,none⟩) x.f5.length x.f5.length] (.bool true) Tryz.func39 (object_true _ 2020 (.slice (some ⟨gn,0,none⟩) 1 cS) s1 (.slice (some ⟨gm,0,none⟩) x.f5.length x.f5.length) n x A4 A5 c4 c5 (Hx.out.below HK.out.b) hn4 h45 (fun W' hb=>HT.out W' (below_step HK.out.b hb))) ?_));intro wc32 HK1;replace HK:=asd_ HK1;clear HK1;replace Bc:=ce4_ HK 4 3 2 1))
 go_region
 all_goals go_wp2
 all_goals go_ret2
 all_goals exact ⟨_,rfl,be_⟩
theorem runes_tells (s:ByteArray) (hs:s.size≤LM) (d:Nat):∀ (i n:Int),0≤i→i≤s.size→(s.size:Int) - i=d→∃ r,∀ k,d < k→spec_JRunes.l0 k s n i=some r:=by
 induction d with
 |zero=>
  intro i n h0 h1 hd
  refine ⟨n,fun k hk=> ?_⟩
  obtain ⟨k,rfl⟩:∃ m,k=m + 1:=⟨k - 1,by omega⟩
  simp only [spec_JRunes.l0];rw [if_neg (by omega)]
 |succ d ih=>
  intro i n h0 h1 hd
  have e1:wrap64 (i + 1)=i + 1:=wup h0 (n:=s.size) (by omega) hs
  by_cases ha:bt s i < 128
  ·obtain ⟨r,hr⟩:=ih (i + 1) (wrap64 (n + 1)) (by omega) (by omega) (by omega)
   refine ⟨r,fun k hk=> ?_⟩
   obtain ⟨k,rfl⟩:∃ m,k=m + 1:=⟨k - 1,by omega⟩
   simp only [spec_JRunes.l0];rw [if_pos (by omega),if_pos h0,if_pos ha,e1];exact hr k (by omega)
  ·by_cases hb:bt s i > 191
   ·obtain ⟨r,hr⟩:=ih (i + 1) (wrap64 (n + 1)) (by omega) (by omega) (by omega)
    refine ⟨r,fun k hk=> ?_⟩
    obtain ⟨k,rfl⟩:∃ m,k=m + 1:=⟨k - 1,by omega⟩
    simp only [spec_JRunes.l0];rw [if_pos (by omega),if_pos h0,if_neg ha,if_pos hb,e1];exact hr k (by omega)
   ·obtain ⟨r,hr⟩:=ih (i + 1) n (by omega) (by omega) (by omega)
    refine ⟨r,fun k hk=> ?_⟩
    obtain ⟨k,rfl⟩:∃ m,k=m + 1:=⟨k - 1,by omega⟩
    simp only [spec_JRunes.l0];rw [if_pos (by omega),if_pos h0,if_neg ha,if_neg hb,e1];exact hr k (by omega)
theorem runes_ok (s:ByteArray) (hs:s.size≤LM):∃ r:Int,∀ W:World,Calls Tryz.prog 36 #[.string s] W (rb (.int .i64 r) W):=by
 obtain ⟨r,hr⟩:=runes_tells s hs s.size 0 0 (Int.le_refl _) (by omega) (by omega)
 exact ⟨r,fun W=>(spec_JRunes.calls (s.size + 1) s r W (hr _ (Nat.lt_succ_self _))).mono (fun e w' h=>⟨h.1,h.2.below⟩)⟩
theorem ipr_schema (w:World) (s0:Value) (n:Nd) (x:S25) (A4 A5:Option Addr) (c4 c5:Nat) (loc tx:ByteArray) (Ap Aa An Ak:Option Addr) (np cp ca cn ck:Nat) (names:List ByteArray):Calls Tryz.prog 80 #[.int .i64 2020,.agg #[s0,nilS],.agg n.cells,.agg (jvc x A4 A5 c4 c5),.agg #[.string loc,.string ⟨#[83,99,104,101,109,97]⟩,.slice Ap np cp,.slice Aa 0 ca,.string tx,.slice An names.length cn,nilS,.slice Ak 1 ck]] w (rb (.bool true) w):=by
 have HK:=st0_ w
 go_enter Tryz.func80,Tryz.ntmps80
 go_wp2_with (first|((with_reducible refine gd_ 6 ?_);refine bx_ #[s0,nilS] 68 ?_;clear HK;intro g6 wb6 HK Gg6;replace Bc:=ce1_ HK 0)|((with_reducible refine gd_ 7 ?_);refine bx_ n.cells 45 ?_;clear HK;intro g7 wb7 HK Gg7;replace Bc:=ce2_ HK 1 0)|((with_reducible refine gd_ 8 ?_);refine bx_ (jvc x A4 A5 c4 c5) 25 ?_;clear HK;intro g8 wb8 HK Gg8;replace Bc:=ce3_ HK 2 1 0)|((with_reducible refine gd_ 9 ?_);refine bx_ (#[.string loc,.string ⟨#[83,99,104,101,109,97]⟩,.slice Ap np cp,.slice Aa 0 ca,.string tx,.slice An names.length cn,nilS,.slice Ak 1 ck]) 54 ?_;clear HK;intro g9 wb9 HK Gg9;replace Bc:=ce4_ HK 3 2 1 0))
 go_ret
 exact ⟨by first|rfl|simp,be_⟩
theorem jv_text_false (w:World) (s1:Value) (n:Nd) (gn cS:Nat) (x:S25) (A4 A5:Option Addr) (c4 c5:Nat) (hk0:n.kind=0) (k2:(x.f0 == 2)=false) (k3:(x.f0 == 3)=true) (k4:(x.f0 == 4)=false) (k5:(x.f0 == 5)=false) (hn1:n.cells.all (·.oneCell')=true) (hS:w.heap[gn]? =some (row n.cells 45)) (hn5:x.f5.length≤LM)
  (h31:∀ W,Below w.heap.size w W→Calls Tryz.prog 31 #[.agg n.cells,.agg (jvc x A4 A5 c4 c5)] W (rb (.bool false) W)):
  Calls Tryz.prog 20 #[.int .i64 2020,.agg #[.slice (some ⟨gn,0,none⟩) 1 cS,s1],.int .i64 1,.agg (jvc x A4 A5 c4 c5)] w fun e w'=>∃ v,e= .returned (.tuple #[.bool false,v])∧Below w.heap.size w w':=by
 have hmk:=print_make_of (P:=Tryz.prog) 63 4 bF 1 Tryz.underlying63 kr_ rfl (by decide) x.f5.length (by simp only [LM] at hn5;omega)
 have H31:=asd_ h31
 clear h31
 have HK:Aside0 (At w [.b gn (row (n.cells) 45)] w):=asd_ (At.hold (At.start w) hS (by simp [nums]))
 replace Bc:=ce1_ HK 0
 go_enter Tryz.func20,Tryz.ntmps20
 go_wp2_with (first|((with_reducible refine gd_ 5 ?_);refine bx_ #[.slice (some ⟨gn,0,none⟩) 1 cS,s1] 68 ?_;clear HK;intro g5 wb5 HK Gg5;replace Bc:=ce2_ HK 1 0)|((with_reducible refine gd_ 7 ?_);refine bx_ (jvc x A4 A5 c4 c5) 25 ?_;clear HK;intro g7 wb7 HK Gg7;replace Bc:=ce3_ HK 2 1 0)|((with_reducible refine gd_ 18 ?_);refine lo_ 45 17 gn (n.cells) HK.out.k.2.2.1 Tryz.underlying45 ?_)|((with_reducible refine gd_ 10 ?_);refine bx_ (ndZ nilS nilS) 45 ?_;clear HK;intro g10 wb10 HK Gg10;replace Bc:=ce4_ HK 3 2 1 0)|((with_reducible refine gd_ 22 ?_);refine nw_ (row (madeCells #[bF] x.f5.length) 4) (fun b=> .slice (some ⟨b,0,none⟩) x.f5.length x.f5.length) ?_;clear HK;intro gm wb22 HK Ggm;replace Bc:=ce4_ HK 4 3 2 1)|((with_reducible refine gd_ 30 ?_);refine lo_ 45 10 g10 (n.cells) HK.out.k.2.1 Tryz.underlying45 ?_)|((with_reducible refine gd_ 31 ?_);refine lo_ 25 7 g7 (jvc x A4 A5 c4 c5) HK.out.k.2.2.1 Tryz.underlying25 ?_)|((with_reducible refine gd_ 34 ?_);refine lo_ 68 5 g5 (#[.slice (some ⟨gn,0,none⟩) 1 cS,s1]) HK.out.k.2.2.2.1 Tryz.underlying68 ?_)|((with_reducible refine gd_ 35 ?_);refine lo_ 45 10 g10 (n.cells) HK.out.k.2.1 Tryz.underlying45 ?_)|((with_reducible refine gd_ 36 ?_);refine lo_ 25 7 g7 (jvc x A4 A5 c4 c5) HK.out.k.2.2.1 Tryz.underlying25 ?_)|((with_reducible refine gate_ (.store 45 (.tmp 10) (.tmp 18)) rfl ?_);refine storerow_at (cs:=ndZ nilS nilS) (g:=g10) 0 n.cells at_ rfl Gg10.out rfl rfl rfl rfl rfl rfl kr_ rfl (hn1) ?_;intro wsr HK1;replace HK:=asd_ HK1;clear HK1;replace Bc:=ce4_ HK 3 2 1 0)|((first|((with_reducible refine gd_ 32 ?_);refine cl_ #[.agg n.cells,.agg (jvc x A4 A5 c4 c5)] (.bool false) Tryz.func31 (H31.out _ HK.out.b) ?_)|((with_reducible refine gd_ 38 ?_);refine cl_ #[.int .i64 2020,.agg #[.slice (some ⟨gn,0,none⟩) 1 cS,s1],.agg n.cells,.agg (jvc x A4 A5 c4 c5),.slice (some ⟨gm,0,none⟩) x.f5.length x.f5.length] (.bool true) Tryz.func32 (inplace_none _ 2020 (.slice (some ⟨gn,0,none⟩) 1 cS) s1 (.slice (some ⟨gm,0,none⟩) x.f5.length x.f5.length) n x A4 A5 c4 c5) ?_));intro wc32 HK1;replace HK:=asd_ HK1;clear HK1;replace Bc:=ce4_ HK 4 3 2 1))
 have HKb:=HK
 refine su4_ 26 HK 4 3 2 1 [] (fun HS hHeld=> ?_)
 refine pu_ 0 54 1 ?_
 refine pu_ 1 55 3 ?_
 refine pn_ 2 56 7 ?_
 refine pn_ 3 57 15 ?_
 refine pn_ 4 58 31 ?_
 refine pn_ 5 59 63 ?_
 refine pn_ 6 60 127 ?_
 refine pn_ 7 61 255 ?_
 refine pn_ 8 62 511 ?_
 refine pn_ 9 63 1023 ?_
 refine pu_ 10 64 2047 ?_
 refine pu_ 11 65 4095 ?_
 refine pn_ 12 66 8191 ?_
 refine pn_ 13 67 16383 ?_
 refine pn_ 14 68 32767 ?_
 refine pn_ 15 69 65535 ?_
 refine pn_ 16 70 131071 ?_
 refine pu_ 17 71 262143 ?_
 refine pu_ 18 72 524287 ?_
 refine pn_ 19 73 1048575 ?_
 refine pn_ 20 74 2097151 ?_
 refine pn_ 21 75 4194303 ?_
 refine pn_ 22 76 8388607 ?_
 refine pn_ 23 77 16777215 ?_
 refine pu_ 24 78 33554431 ?_
 refine pu_ 25 12 67108863 ?_
 refine done_ kr_ ?_
 clear HK;have HK:=asd_ hHeld.1
 clear hHeld
 replace Bc:=ce4_ HK 4 3 2 1
 go_wp2_with fail
 go_region
 all_goals go_wp2
 all_goals go_ret2
 all_goals exact ⟨_,rfl,by repeat (first|exact HK.out.b|exact HKb.out.b|apply below_alloc|apply pw_below_drewN|apply below_drew1)⟩
theorem jv_text_tt (w:World) (s1:Value) (n:Nd) (gn cS:Nat) (x:S25) (A4 A5:Option Addr) (c4 c5:Nat) (hk0:n.kind=0) (k2:(x.f0 == 2)=false) (k3:(x.f0 == 3)=true) (k4:(x.f0 == 4)=false) (k5:(x.f0 == 5)=false) (hn1:n.cells.all (·.oneCell')=true) (hS:w.heap[gn]? =some (row n.cells 45)) (hn5:x.f5.length≤LM)
  (h31:∀ W,Below w.heap.size w W→Calls Tryz.prog 31 #[.agg n.cells,.agg (jvc x A4 A5 c4 c5)] W (rb (.bool true) W)) (h3:x.f3.size≤LM) (hP:∀ W,Below w.heap.size w W→Calls Tryz.prog 37 #[.string x.f3,.agg #[.bool n.pi,n.pt]] W (rb (.bool true) W)) (hF:∀ W,Below w.heap.size w W→Calls Tryz.prog 37 #[.string x.f3,.agg #[.bool n.fi,n.ft]] W (rb (.bool true) W)):
  Calls Tryz.prog 20 #[.int .i64 2020,.agg #[.slice (some ⟨gn,0,none⟩) 1 cS,s1],.int .i64 1,.agg (jvc x A4 A5 c4 c5)] w fun e w'=>∃ v,e= .returned (.tuple #[.bool true,v])∧Below w.heap.size w w':=by
 have hmk:=print_make_of (P:=Tryz.prog) 63 4 bF 1 Tryz.underlying63 kr_ rfl (by decide) x.f5.length (by simp only [LM] at hn5;omega)
 have H31:=asd_ h31
 clear h31
 obtain ⟨r,HR⟩:=runes_ok x.f3 h3
 have HP:=asd_ hP
 clear hP
 have HF:=asd_ hF
 clear hF
 have HK:Aside0 (At w [.b gn (row (n.cells) 45)] w):=asd_ (At.hold (At.start w) hS (by simp [nums]))
 replace Bc:=ce1_ HK 0
 go_enter Tryz.func20,Tryz.ntmps20
 go_wp2_with (first|((with_reducible refine gd_ 5 ?_);refine bx_ #[.slice (some ⟨gn,0,none⟩) 1 cS,s1] 68 ?_;clear HK;intro g5 wb5 HK Gg5;replace Bc:=ce2_ HK 1 0)|((with_reducible refine gd_ 7 ?_);refine bx_ (jvc x A4 A5 c4 c5) 25 ?_;clear HK;intro g7 wb7 HK Gg7;replace Bc:=ce3_ HK 2 1 0)|((with_reducible refine gd_ 18 ?_);refine lo_ 45 17 gn (n.cells) HK.out.k.2.2.1 Tryz.underlying45 ?_)|((with_reducible refine gd_ 10 ?_);refine bx_ (ndZ nilS nilS) 45 ?_;clear HK;intro g10 wb10 HK Gg10;replace Bc:=ce4_ HK 3 2 1 0)|((with_reducible refine gd_ 22 ?_);refine nw_ (row (madeCells #[bF] x.f5.length) 4) (fun b=> .slice (some ⟨b,0,none⟩) x.f5.length x.f5.length) ?_;clear HK;intro gm wb22 HK Ggm;replace Bc:=ce4_ HK 4 3 2 1)|((with_reducible refine gd_ 30 ?_);refine lo_ 45 10 g10 (n.cells) HK.out.k.2.1 Tryz.underlying45 ?_)|((with_reducible refine gd_ 31 ?_);refine lo_ 25 7 g7 (jvc x A4 A5 c4 c5) HK.out.k.2.2.1 Tryz.underlying25 ?_)|((with_reducible refine gd_ 34 ?_);refine lo_ 68 5 g5 (#[.slice (some ⟨gn,0,none⟩) 1 cS,s1]) HK.out.k.2.2.2.1 Tryz.underlying68 ?_)|((with_reducible refine gd_ 35 ?_);refine lo_ 45 10 g10 (n.cells) HK.out.k.2.1 Tryz.underlying45 ?_)|((with_reducible refine gd_ 36 ?_);refine lo_ 25 7 g7 (jvc x A4 A5 c4 c5) HK.out.k.2.2.1 Tryz.underlying25 ?_)|((with_reducible refine gate_ (.store 45 (.tmp 10) (.tmp 18)) rfl ?_);refine storerow_at (cs:=ndZ nilS nilS) (g:=g10) 0 n.cells at_ rfl Gg10.out rfl rfl rfl rfl rfl rfl kr_ rfl (hn1) ?_;intro wsr HK1;replace HK:=asd_ HK1;clear HK1;replace Bc:=ce4_ HK 3 2 1 0)|((first|((with_reducible refine gd_ 32 ?_);refine cl_ #[.agg n.cells,.agg (jvc x A4 A5 c4 c5)] (.bool true) Tryz.func31 (H31.out _ HK.out.b) ?_)|((with_reducible refine gd_ 38 ?_);refine cl_ #[.int .i64 2020,.agg #[.slice (some ⟨gn,0,none⟩) 1 cS,s1],.agg n.cells,.agg (jvc x A4 A5 c4 c5),.slice (some ⟨gm,0,none⟩) x.f5.length x.f5.length] (.bool true) Tryz.func32 (inplace_none _ 2020 (.slice (some ⟨gn,0,none⟩) 1 cS) s1 (.slice (some ⟨gm,0,none⟩) x.f5.length x.f5.length) n x A4 A5 c4 c5) ?_));intro wc32 HK1;replace HK:=asd_ HK1;clear HK1;replace Bc:=ce4_ HK 4 3 2 1))
 have HKb:=HK
 refine su4_ 26 HK 4 3 2 1 [] (fun HS hHeld=> ?_)
 refine pu_ 0 54 1 ?_
 refine pu_ 1 55 3 ?_
 refine pu_ 2 56 7 ?_
 refine pu_ 5 59 39 ?_
 refine pu_ 7 61 167 ?_
 refine ta5_ 3 57 175 hHeld ?_
 refine ta5_ 6 60 239 hHeld ?_
 refine ta5_ 8 62 495 hHeld ?_
 refine on_ 4 58 511 (fun K hK=> ?_)
 have HE:=asd_ (hHeld.1)
 refine ge_ Tryz.func36 #[.string x.f3] ?_
 with_reducible refine (HR _).mono ?_
 rintro e w3 ⟨rfl,hb⟩
 refine ⟨_,rfl,?_⟩
 replace HE:=asd_ (At.step HE.out hb)
 refine hK.out _ _ ⟨HE.out,(cE_ HE 4),(cE_ HE 3),(cE_ HE 2),(cE_ HE 1)⟩ (fun hHeld=> ?_)
 clear hK K
 refine nq_ 58 ?_
 refine on_ 9 63 1023 (fun K hK=> ?_)
 refine ge_ Tryz.func35 #[.int .i64 r,.agg #[bF,i0],.agg #[bF,i0]] ?_
 with_reducible refine (bounded_ok _ r).mono ?_
 rintro e w3 ⟨rfl,hb⟩
 refine ⟨_,rfl,?_⟩
 replace HE:=asd_ (At.step HE.out hb)
 refine hK.out _ _ ⟨HE.out,(cE_ HE 4),(cE_ HE 3),(cE_ HE 2),(cE_ HE 1)⟩ (fun hHeld=> ?_)
 clear hK K
 refine nq_ 63 ?_
 refine pu_ 10 64 2047 ?_
 refine pu_ 11 65 4095 ?_
 refine pu_ 12 66 8191 ?_
 refine pu_ 14 68 24575 ?_
 refine ta5_ 13 67 32767 hHeld ?_
 refine ta5_ 15 69 65535 hHeld ?_
 refine on_ 16 70 131071 (fun K hK=> ?_)
 refine ge_ Tryz.func37 #[.string x.f3,.agg #[.bool n.pi,n.pt]] ?_
 with_reducible refine (HP.out _ HE.out.b).mono ?_
 rintro e w3 ⟨rfl,hb⟩
 refine ⟨_,rfl,?_⟩
 replace HE:=asd_ (At.step HE.out hb)
 refine hK.out _ _ ⟨HE.out,(cE_ HE 4),(cE_ HE 3),(cE_ HE 2),(cE_ HE 1)⟩ (fun hHeld=> ?_)
 clear hK K
 refine nq_ 70 ?_
 refine pu_ 17 71 262143 ?_
 refine pu_ 18 72 524287 ?_
 refine pu_ 19 73 1048575 ?_
 refine pu_ 21 75 3145727 ?_
 refine ta5_ 20 74 4194303 hHeld ?_
 refine ta5_ 22 76 8388607 hHeld ?_
 refine on_ 23 77 16777215 (fun K hK=> ?_)
 refine ge_ Tryz.func37 #[.string x.f3,.agg #[.bool n.fi,n.ft]] ?_
 with_reducible refine (HF.out _ HE.out.b).mono ?_
 rintro e w3 ⟨rfl,hb⟩
 refine ⟨_,rfl,?_⟩
 replace HE:=asd_ (At.step HE.out hb)
 refine hK.out _ _ ⟨HE.out,(cE_ HE 4),(cE_ HE 3),(cE_ HE 2),(cE_ HE 1)⟩ (fun hHeld=> ?_)
 clear hK K
 refine nq_ 77 ?_
 refine pu_ 24 78 33554431 ?_
 refine pu_ 25 12 67108863 ?_
 refine done_ kr_ ?_
 clear HK;have HK:=HE;clear HE
 clear hHeld
 replace Bc:=ce4_ HK 4 3 2 1
 go_wp2_with fail
 go_ret2
 exact ⟨_,rfl,by repeat (first|exact HK.out.b|exact HKb.out.b|apply below_alloc|apply pw_below_drewN|apply below_drew1)⟩
theorem jv_text_tf (w:World) (s1:Value) (n:Nd) (gn cS:Nat) (x:S25) (A4 A5:Option Addr) (c4 c5:Nat) (hk0:n.kind=0) (k2:(x.f0 == 2)=false) (k3:(x.f0 == 3)=true) (k4:(x.f0 == 4)=false) (k5:(x.f0 == 5)=false) (hn1:n.cells.all (·.oneCell')=true) (hS:w.heap[gn]? =some (row n.cells 45)) (hn5:x.f5.length≤LM)
  (h31:∀ W,Below w.heap.size w W→Calls Tryz.prog 31 #[.agg n.cells,.agg (jvc x A4 A5 c4 c5)] W (rb (.bool true) W)) (h3:x.f3.size≤LM) (hP:∀ W,Below w.heap.size w W→Calls Tryz.prog 37 #[.string x.f3,.agg #[.bool n.pi,n.pt]] W (rb (.bool true) W)) (hF:∀ W,Below w.heap.size w W→Calls Tryz.prog 37 #[.string x.f3,.agg #[.bool n.fi,n.ft]] W (rb (.bool false) W)):
  Calls Tryz.prog 20 #[.int .i64 2020,.agg #[.slice (some ⟨gn,0,none⟩) 1 cS,s1],.int .i64 1,.agg (jvc x A4 A5 c4 c5)] w fun e w'=>∃ v,e= .returned (.tuple #[.bool false,v])∧Below w.heap.size w w':=by
 have hmk:=print_make_of (P:=Tryz.prog) 63 4 bF 1 Tryz.underlying63 kr_ rfl (by decide) x.f5.length (by simp only [LM] at hn5;omega)
 have H31:=asd_ h31
 clear h31
 obtain ⟨r,HR⟩:=runes_ok x.f3 h3
 have HP:=asd_ hP
 clear hP
 have HF:=asd_ hF
 clear hF
 have HK:Aside0 (At w [.b gn (row (n.cells) 45)] w):=asd_ (At.hold (At.start w) hS (by simp [nums]))
 replace Bc:=ce1_ HK 0
 go_enter Tryz.func20,Tryz.ntmps20
 go_wp2_with (first|((with_reducible refine gd_ 5 ?_);refine bx_ #[.slice (some ⟨gn,0,none⟩) 1 cS,s1] 68 ?_;clear HK;intro g5 wb5 HK Gg5;replace Bc:=ce2_ HK 1 0)|((with_reducible refine gd_ 7 ?_);refine bx_ (jvc x A4 A5 c4 c5) 25 ?_;clear HK;intro g7 wb7 HK Gg7;replace Bc:=ce3_ HK 2 1 0)|((with_reducible refine gd_ 18 ?_);refine lo_ 45 17 gn (n.cells) HK.out.k.2.2.1 Tryz.underlying45 ?_)|((with_reducible refine gd_ 10 ?_);refine bx_ (ndZ nilS nilS) 45 ?_;clear HK;intro g10 wb10 HK Gg10;replace Bc:=ce4_ HK 3 2 1 0)|((with_reducible refine gd_ 22 ?_);refine nw_ (row (madeCells #[bF] x.f5.length) 4) (fun b=> .slice (some ⟨b,0,none⟩) x.f5.length x.f5.length) ?_;clear HK;intro gm wb22 HK Ggm;replace Bc:=ce4_ HK 4 3 2 1)|((with_reducible refine gd_ 30 ?_);refine lo_ 45 10 g10 (n.cells) HK.out.k.2.1 Tryz.underlying45 ?_)|((with_reducible refine gd_ 31 ?_);refine lo_ 25 7 g7 (jvc x A4 A5 c4 c5) HK.out.k.2.2.1 Tryz.underlying25 ?_)|((with_reducible refine gd_ 34 ?_);refine lo_ 68 5 g5 (#[.slice (some ⟨gn,0,none⟩) 1 cS,s1]) HK.out.k.2.2.2.1 Tryz.underlying68 ?_)|((with_reducible refine gd_ 35 ?_);refine lo_ 45 10 g10 (n.cells) HK.out.k.2.1 Tryz.underlying45 ?_)|((with_reducible refine gd_ 36 ?_);refine lo_ 25 7 g7 (jvc x A4 A5 c4 c5) HK.out.k.2.2.1 Tryz.underlying25 ?_)|((with_reducible refine gate_ (.store 45 (.tmp 10) (.tmp 18)) rfl ?_);refine storerow_at (cs:=ndZ nilS nilS) (g:=g10) 0 n.cells at_ rfl Gg10.out rfl rfl rfl rfl rfl rfl kr_ rfl (hn1) ?_;intro wsr HK1;replace HK:=asd_ HK1;clear HK1;replace Bc:=ce4_ HK 3 2 1 0)|((first|((with_reducible refine gd_ 32 ?_);refine cl_ #[.agg n.cells,.agg (jvc x A4 A5 c4 c5)] (.bool true) Tryz.func31 (H31.out _ HK.out.b) ?_)|((with_reducible refine gd_ 38 ?_);refine cl_ #[.int .i64 2020,.agg #[.slice (some ⟨gn,0,none⟩) 1 cS,s1],.agg n.cells,.agg (jvc x A4 A5 c4 c5),.slice (some ⟨gm,0,none⟩) x.f5.length x.f5.length] (.bool true) Tryz.func32 (inplace_none _ 2020 (.slice (some ⟨gn,0,none⟩) 1 cS) s1 (.slice (some ⟨gm,0,none⟩) x.f5.length x.f5.length) n x A4 A5 c4 c5) ?_));intro wc32 HK1;replace HK:=asd_ HK1;clear HK1;replace Bc:=ce4_ HK 4 3 2 1))
 have HKb:=HK
 refine su4_ 26 HK 4 3 2 1 [] (fun HS hHeld=> ?_)
 refine pu_ 0 54 1 ?_
 refine pu_ 1 55 3 ?_
 refine pu_ 2 56 7 ?_
 refine pu_ 5 59 39 ?_
 refine pu_ 7 61 167 ?_
 refine ta5_ 3 57 175 hHeld ?_
 refine ta5_ 6 60 239 hHeld ?_
 refine ta5_ 8 62 495 hHeld ?_
 refine on_ 4 58 511 (fun K hK=> ?_)
 have HE:=asd_ (hHeld.1)
 refine ge_ Tryz.func36 #[.string x.f3] ?_
 with_reducible refine (HR _).mono ?_
 rintro e w3 ⟨rfl,hb⟩
 refine ⟨_,rfl,?_⟩
 replace HE:=asd_ (At.step HE.out hb)
 refine hK.out _ _ ⟨HE.out,(cE_ HE 4),(cE_ HE 3),(cE_ HE 2),(cE_ HE 1)⟩ (fun hHeld=> ?_)
 clear hK K
 refine nq_ 58 ?_
 refine on_ 9 63 1023 (fun K hK=> ?_)
 refine ge_ Tryz.func35 #[.int .i64 r,.agg #[bF,i0],.agg #[bF,i0]] ?_
 with_reducible refine (bounded_ok _ r).mono ?_
 rintro e w3 ⟨rfl,hb⟩
 refine ⟨_,rfl,?_⟩
 replace HE:=asd_ (At.step HE.out hb)
 refine hK.out _ _ ⟨HE.out,(cE_ HE 4),(cE_ HE 3),(cE_ HE 2),(cE_ HE 1)⟩ (fun hHeld=> ?_)
 clear hK K
 refine nq_ 63 ?_
 refine pu_ 10 64 2047 ?_
 refine pu_ 11 65 4095 ?_
 refine pu_ 12 66 8191 ?_
 refine pu_ 14 68 24575 ?_
 refine ta5_ 13 67 32767 hHeld ?_
 refine ta5_ 15 69 65535 hHeld ?_
 refine on_ 16 70 131071 (fun K hK=> ?_)
 refine ge_ Tryz.func37 #[.string x.f3,.agg #[.bool n.pi,n.pt]] ?_
 with_reducible refine (HP.out _ HE.out.b).mono ?_
 rintro e w3 ⟨rfl,hb⟩
 refine ⟨_,rfl,?_⟩
 replace HE:=asd_ (At.step HE.out hb)
 refine hK.out _ _ ⟨HE.out,(cE_ HE 4),(cE_ HE 3),(cE_ HE 2),(cE_ HE 1)⟩ (fun hHeld=> ?_)
 clear hK K
 refine nq_ 70 ?_
 refine pu_ 17 71 262143 ?_
 refine pu_ 18 72 524287 ?_
 refine pu_ 19 73 1048575 ?_
 refine pu_ 21 75 3145727 ?_
 refine ta5_ 20 74 4194303 hHeld ?_
 refine ta5_ 22 76 8388607 hHeld ?_
 refine on_ 23 77 16777215 (fun K hK=> ?_)
 refine ge_ Tryz.func37 #[.string x.f3,.agg #[.bool n.fi,n.ft]] ?_
 with_reducible refine (HF.out _ HE.out.b).mono ?_
 rintro e w3 ⟨rfl,hb⟩
 refine ⟨_,rfl,?_⟩
 replace HE:=asd_ (At.step HE.out hb)
 refine hK.out _ _ ⟨HE.out,(cE_ HE 4),(cE_ HE 3),(cE_ HE 2),(cE_ HE 1)⟩ (fun hHeld=> ?_)
 clear hK K
 refine nq_ 77 ?_
 refine pu_ 24 78 33554431 ?_
 refine pu_ 25 12 67108863 ?_
 refine done_ kr_ ?_
 clear HK;have HK:=HE;clear HE
 clear hHeld
 replace Bc:=ce4_ HK 4 3 2 1
 go_wp2_with fail
 go_region
 all_goals go_wp2
 all_goals go_ret2
 all_goals exact ⟨_,rfl,by repeat (first|exact HK.out.b|exact HKb.out.b|apply below_alloc|apply pw_below_drewN|apply below_drew1)⟩
theorem jv_text_fx (w:World) (s1:Value) (n:Nd) (gn cS:Nat) (x:S25) (A4 A5:Option Addr) (c4 c5:Nat) (hk0:n.kind=0) (k2:(x.f0 == 2)=false) (k3:(x.f0 == 3)=true) (k4:(x.f0 == 4)=false) (k5:(x.f0 == 5)=false) (hn1:n.cells.all (·.oneCell')=true) (hS:w.heap[gn]? =some (row n.cells 45)) (hn5:x.f5.length≤LM)
  (h31:∀ W,Below w.heap.size w W→Calls Tryz.prog 31 #[.agg n.cells,.agg (jvc x A4 A5 c4 c5)] W (rb (.bool true) W)) (h3:x.f3.size≤LM) (hP:∀ W,Below w.heap.size w W→Calls Tryz.prog 37 #[.string x.f3,.agg #[.bool n.pi,n.pt]] W (rb (.bool false) W)):
  Calls Tryz.prog 20 #[.int .i64 2020,.agg #[.slice (some ⟨gn,0,none⟩) 1 cS,s1],.int .i64 1,.agg (jvc x A4 A5 c4 c5)] w fun e w'=>∃ v,e= .returned (.tuple #[.bool false,v])∧Below w.heap.size w w':=by
 have hmk:=print_make_of (P:=Tryz.prog) 63 4 bF 1 Tryz.underlying63 kr_ rfl (by decide) x.f5.length (by simp only [LM] at hn5;omega)
 have H31:=asd_ h31
 clear h31
 obtain ⟨r,HR⟩:=runes_ok x.f3 h3
 have HP:=asd_ hP
 clear hP
 have HK:Aside0 (At w [.b gn (row (n.cells) 45)] w):=asd_ (At.hold (At.start w) hS (by simp [nums]))
 replace Bc:=ce1_ HK 0
 go_enter Tryz.func20,Tryz.ntmps20
 go_wp2_with (first|((with_reducible refine gd_ 5 ?_);refine bx_ #[.slice (some ⟨gn,0,none⟩) 1 cS,s1] 68 ?_;clear HK;intro g5 wb5 HK Gg5;replace Bc:=ce2_ HK 1 0)|((with_reducible refine gd_ 7 ?_);refine bx_ (jvc x A4 A5 c4 c5) 25 ?_;clear HK;intro g7 wb7 HK Gg7;replace Bc:=ce3_ HK 2 1 0)|((with_reducible refine gd_ 18 ?_);refine lo_ 45 17 gn (n.cells) HK.out.k.2.2.1 Tryz.underlying45 ?_)|((with_reducible refine gd_ 10 ?_);refine bx_ (ndZ nilS nilS) 45 ?_;clear HK;intro g10 wb10 HK Gg10;replace Bc:=ce4_ HK 3 2 1 0)|((with_reducible refine gd_ 22 ?_);refine nw_ (row (madeCells #[bF] x.f5.length) 4) (fun b=> .slice (some ⟨b,0,none⟩) x.f5.length x.f5.length) ?_;clear HK;intro gm wb22 HK Ggm;replace Bc:=ce4_ HK 4 3 2 1)|((with_reducible refine gd_ 30 ?_);refine lo_ 45 10 g10 (n.cells) HK.out.k.2.1 Tryz.underlying45 ?_)|((with_reducible refine gd_ 31 ?_);refine lo_ 25 7 g7 (jvc x A4 A5 c4 c5) HK.out.k.2.2.1 Tryz.underlying25 ?_)|((with_reducible refine gd_ 34 ?_);refine lo_ 68 5 g5 (#[.slice (some ⟨gn,0,none⟩) 1 cS,s1]) HK.out.k.2.2.2.1 Tryz.underlying68 ?_)|((with_reducible refine gd_ 35 ?_);refine lo_ 45 10 g10 (n.cells) HK.out.k.2.1 Tryz.underlying45 ?_)|((with_reducible refine gd_ 36 ?_);refine lo_ 25 7 g7 (jvc x A4 A5 c4 c5) HK.out.k.2.2.1 Tryz.underlying25 ?_)|((with_reducible refine gate_ (.store 45 (.tmp 10) (.tmp 18)) rfl ?_);refine storerow_at (cs:=ndZ nilS nilS) (g:=g10) 0 n.cells at_ rfl Gg10.out rfl rfl rfl rfl rfl rfl kr_ rfl (hn1) ?_;intro wsr HK1;replace HK:=asd_ HK1;clear HK1;replace Bc:=ce4_ HK 3 2 1 0)|((first|((with_reducible refine gd_ 32 ?_);refine cl_ #[.agg n.cells,.agg (jvc x A4 A5 c4 c5)] (.bool true) Tryz.func31 (H31.out _ HK.out.b) ?_)|((with_reducible refine gd_ 38 ?_);refine cl_ #[.int .i64 2020,.agg #[.slice (some ⟨gn,0,none⟩) 1 cS,s1],.agg n.cells,.agg (jvc x A4 A5 c4 c5),.slice (some ⟨gm,0,none⟩) x.f5.length x.f5.length] (.bool true) Tryz.func32 (inplace_none _ 2020 (.slice (some ⟨gn,0,none⟩) 1 cS) s1 (.slice (some ⟨gm,0,none⟩) x.f5.length x.f5.length) n x A4 A5 c4 c5) ?_));intro wc32 HK1;replace HK:=asd_ HK1;clear HK1;replace Bc:=ce4_ HK 4 3 2 1))
 have HKb:=HK
 refine su4_ 26 HK 4 3 2 1 [] (fun HS hHeld=> ?_)
 refine pu_ 0 54 1 ?_
 refine pu_ 1 55 3 ?_
 refine pu_ 2 56 7 ?_
 refine pu_ 5 59 39 ?_
 refine pu_ 7 61 167 ?_
 refine ta5_ 3 57 175 hHeld ?_
 refine ta5_ 6 60 239 hHeld ?_
 refine ta5_ 8 62 495 hHeld ?_
 refine on_ 4 58 511 (fun K hK=> ?_)
 have HE:=asd_ (hHeld.1)
 refine ge_ Tryz.func36 #[.string x.f3] ?_
 with_reducible refine (HR _).mono ?_
 rintro e w3 ⟨rfl,hb⟩
 refine ⟨_,rfl,?_⟩
 replace HE:=asd_ (At.step HE.out hb)
 refine hK.out _ _ ⟨HE.out,(cE_ HE 4),(cE_ HE 3),(cE_ HE 2),(cE_ HE 1)⟩ (fun hHeld=> ?_)
 clear hK K
 refine nq_ 58 ?_
 refine on_ 9 63 1023 (fun K hK=> ?_)
 refine ge_ Tryz.func35 #[.int .i64 r,.agg #[bF,i0],.agg #[bF,i0]] ?_
 with_reducible refine (bounded_ok _ r).mono ?_
 rintro e w3 ⟨rfl,hb⟩
 refine ⟨_,rfl,?_⟩
 replace HE:=asd_ (At.step HE.out hb)
 refine hK.out _ _ ⟨HE.out,(cE_ HE 4),(cE_ HE 3),(cE_ HE 2),(cE_ HE 1)⟩ (fun hHeld=> ?_)
 clear hK K
 refine nq_ 63 ?_
 refine pu_ 10 64 2047 ?_
 refine pu_ 11 65 4095 ?_
 refine pu_ 12 66 8191 ?_
 refine pu_ 14 68 24575 ?_
 refine ta5_ 13 67 32767 hHeld ?_
 refine ta5_ 15 69 65535 hHeld ?_
 refine on_ 16 70 131071 (fun K hK=> ?_)
 refine ge_ Tryz.func37 #[.string x.f3,.agg #[.bool n.pi,n.pt]] ?_
 with_reducible refine (HP.out _ HE.out.b).mono ?_
 rintro e w3 ⟨rfl,hb⟩
 refine ⟨_,rfl,?_⟩
 replace HE:=asd_ (At.step HE.out hb)
 refine hK.out _ _ ⟨HE.out,(cE_ HE 4),(cE_ HE 3),(cE_ HE 2),(cE_ HE 1)⟩ (fun hHeld=> ?_)
 clear hK K
 refine nq_ 70 ?_
 refine pu_ 17 71 262143 ?_
 refine pu_ 18 72 524287 ?_
 refine pn_ 19 73 1048575 ?_
 refine pn_ 20 74 2097151 ?_
 refine pn_ 21 75 4194303 ?_
 refine pn_ 22 76 8388607 ?_
 refine pn_ 23 77 16777215 ?_
 refine pu_ 24 78 33554431 ?_
 refine pu_ 25 12 67108863 ?_
 refine done_ kr_ ?_
 clear HK;have HK:=HE;clear HE
 clear hHeld
 replace Bc:=ce4_ HK 4 3 2 1
 go_wp2_with fail
 go_region
 all_goals go_wp2
 all_goals go_ret2
 all_goals exact ⟨_,rfl,by repeat (first|exact HK.out.b|exact HKb.out.b|apply below_alloc|apply pw_below_drewN|apply below_drew1)⟩
theorem values_const (w:World) (gq cq:Nat) (x:S25) (A4 A5:Option Addr) (c4 c5:Nat) (c:S25) (B4 B5:Option Addr) (d4 d5:Nat) (hq:w.heap[gq]? =some (row (jvc c B4 B5 d4 d5) 25)) (b:Bool)
  (hJ:∀ W,Below w.heap.size w W→Calls Tryz.prog 61 #[.agg (jvc x A4 A5 c4 c5),.agg (jvc c B4 B5 d4 d5)] W (rb (.bool b) W)):
  Calls Tryz.prog 31 #[.agg (ndC gq cq),.agg (jvc x A4 A5 c4 c5)] w (rb (.bool b) w):=by
 have HJ:=asd_ hJ
 clear hJ
 have HK:Aside0 (At w [.b gq (row (jvc c B4 B5 d4 d5) 25)] w):=asd_ (At.hold (At.start w) hq (by simp [nums]))
 replace Bc:=ce1_ HK 0
 go_enter Tryz.func31,Tryz.ntmps31
 go_wp2_with (first|((with_reducible refine gd_ 2 ?_);refine bx_ (ndC gq cq) 45 ?_;clear HK;intro g2 wb2 HK Gg2;replace Bc:=ce2_ HK 1 0)|((with_reducible refine gd_ 3 ?_);refine bx_ (jvc x A4 A5 c4 c5) 25 ?_;clear HK;intro g3 wb3 HK Gg3;replace Bc:=ce3_ HK 2 1 0))
 have HK0:=HK
 refine su3_ 36 HK 2 1 0 [] (fun HS hHeld=> ?_)
 refine pu_ 0 5 1 ?_
 refine ta4_ 1 6 3 hHeld ?_
 refine pu_ 2 7 7 ?_
 refine pu_ 3 8 15 ?_
 refine pu_ 4 9 31 ?_
 refine pn_ 5 10 63 ?_
 refine pn_ 6 11 127 ?_
 refine pn_ 7 12 255 ?_
 refine pn_ 8 13 511 ?_
 refine pu_ 9 14 1023 ?_
 refine pu_ 10 15 2047 ?_
 refine pu_ 11 16 4095 ?_
 refine ta4_ 12 17 8191 hHeld ?_
 refine pu_ 13 18 16383 ?_
 refine pu_ 14 19 32767 ?_
 refine pn_ 15 20 65535 ?_
 refine pn_ 16 21 131071 ?_
 refine pn_ 17 22 262143 ?_
 refine pn_ 18 23 524287 ?_
 refine pu_ 19 24 1048575 ?_
 refine pu_ 20 25 2097151 ?_
 refine pu_ 21 26 4194303 ?_
 refine pu_ 22 27 8388607 ?_
 refine ta4_ 23 28 16777215 hHeld ?_
 refine pu_ 24 29 33554431 ?_
 refine pu_ 25 30 67108863 ?_
 refine pu_ 26 31 134217727 ?_
 refine pu_ 28 33 402653183 ?_
 refine tq_ 27 32 536870911 rfl hHeld (by rintro w' ⟨s0,s1,s2,s3⟩;exact rr_ 3 g3 (jvc x A4 A5 c4 c5) s0.k.1 Tryz.underlying25) ?_
 refine ta4_ 29 34 1073741823 hHeld ?_
 refine pu_ 30 35 2147483647 ?_
 refine tq_ 31 36 4294967295 rfl hHeld (by rintro w' ⟨s0,s1,s2,s3⟩;exact rr_ 35 gq (jvc c B4 B5 d4 d5) s0.k.2.2.1 Tryz.underlying25) ?_
 refine on_ 32 37 8589934591 (fun K hK=> ?_)
 have HE:=asd_ (hHeld.1)
 refine ge_ Tryz.func61 #[.agg (jvc x A4 A5 c4 c5),.agg (jvc c B4 B5 d4 d5)] ?_
 with_reducible refine (HJ.out _ HE.out.b).mono ?_
 rintro e w3 ⟨rfl,hb⟩
 refine ⟨_,rfl,?_⟩
 replace HE:=asd_ (At.step HE.out hb)
 refine hK.out _ _ ⟨HE.out,(cE_ HE 2),(cE_ HE 1),(cE_ HE 0)⟩ (fun hHeld=> ?_)
 clear hK K
 refine nq_ 37 ?_
 refine pu_ 33 38 17179869183 ?_
 refine pu_ 34 39 34359738367 ?_
 refine pu_ 35 4 68719476735 ?_
 refine done_ kr_ ?_
 clear HK;have HK:=HE;clear HE
 clear hHeld
 replace Bc:=ce3_ HK 2 1 0
 go_wp2_with fail
 go_ret
 exact ⟨rfl,be_⟩
theorem there_none (w:World) (x:S25) (A4 A5:Option Addr) (c4 c5:Nat) (hx:Rep w x A4 c4 A5 c5) (hn4:x.f4.length≤LM):Calls Tryz.prog 116 #[.agg (jvc x A4 A5 c4 c5),nilS] w (rb (.bool true) w):=by
 have h:=there_ok w x A4 A5 none c4 c5 0 [] hx ⟨rfl,by decide,fun h=>absurd h (by decide)⟩ (Nat.le_refl _) hn4 (by decide)
 exact h
theorem needs_none (w:World) (n:Nd) (x:S25) (A4 A5:Option Addr) (c4 c5:Nat) (hrq:n.req=nilS) (hne:n.nee=nilS) (hx:Rep w x A4 c4 A5 c5) (hn4:x.f4.length≤LM):
  Calls Tryz.prog 75 #[.agg n.cells,.agg (jvc x A4 A5 c4 c5)] w (rb (.bool true) w):=by
 have Hx:=asd_ hx
 clear hx
 have HK:=st0_ w
 go_enter Tryz.func75,Tryz.ntmps75
 go_wp2_with (first|refine wp_loop_once ?_|((with_reducible refine gd_ 2 ?_);refine bx_ n.cells 45 ?_;clear HK;intro g2 wb2 HK Gg2;replace Bc:=ce1_ HK 0)|((with_reducible refine gd_ 3 ?_);refine bx_ (jvc x A4 A5 c4 c5) 25 ?_;clear HK;intro g3 wb3 HK Gg3;replace Bc:=ce2_ HK 1 0)|((with_reducible refine gd_ 8 ?_);refine lo_ 25 3 g3 (jvc x A4 A5 c4 c5) HK.out.k.1 Tryz.underlying25 ?_)|((with_reducible refine gd_ 11 ?_);refine cl_ #[.agg (jvc x A4 A5 c4 c5),nilS] (.bool true) Tryz.func116 (there_none _ x A4 A5 c4 c5 (Hx.out.below HK.out.b) hn4) ?_;intro wc11 HK1;replace HK:=asd_ HK1;clear HK1;replace Bc:=ce2_ HK 1 0))
 go_ret
 exact ⟨rfl,be_⟩
theorem taken_is (w:World) (t:ByteArray) (A:Option Addr) (names:List ByteArray) (c:Nat) (hr:Kd.C Kd.string w A names.length names) (hc:names.length≤c) (hn:names.length≤LM) (b:Bool) (hb:b=true↔t∈names):Calls Tryz.prog 37 #[.string t,.agg #[.bool true,.slice A names.length c]] w (rb (.bool b) w):=by
 obtain ⟨b',hb',hm⟩:=among_is t names hn
 have e:b'=b:=by
  have h:=hm.trans (mem_iff.trans hb.symm)
  cases b<;>cases b'<;>simp_all
 subst e
 exact spec_jTaken.calls (names.length + 1) t true A c names b' w hr hc (by simp [spec_jTaken.f,hb' _ (Nat.lt_succ_self _)])
theorem taken_no (w:World) (t:ByteArray):Calls Tryz.prog 37 #[.string t,.agg #[bF,nilS]] w (rb (.bool true) w):=
 (spec_jTaken.calls 0 t false none 0 [] true w ⟨rfl,by decide,fun h=>absurd h (by decide)⟩ (Nat.le_refl _) (by simp [spec_jTaken.f]))
end Go.Proofs.YtkphbhncpdcbeaaGreatDoor.J
