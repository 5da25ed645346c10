/- Part. -/
import Derived.Test.YtkphbhncpdcbeaaGreatDoorQAS
import Derived.Maps.Views
set_option linter.unusedVariables false
set_option linter.unusedSimpArgs false
set_option maxHeartbeats 8000000
set_option maxRecDepth 100000
namespace Go.Proofs.YtkphbhncpdcbeaaGreatDoor.J
open Go.RowKit YtkphbhncpdcbeaaGreatDoorW.PrintWords YtkphbhncpdcbeaaGreatDoorW.PrintLast YtkphbhncpdcbeaaGreatDoorW.PrintMore PJT
theorem E20:∀ q,q∈20::kAny.E→datT q=true:=by
 intro q hq
 have:q=20:=by simpa [kAny,Kd.scalar] using hq
 rw [this];rfl
theorem info20:(Tryz.prog.info? 20).map (fun i=>(i.zero,i.size,i.bytes))=some (some .nilIface,1,16):=by kernel_rfl
theorem values_of (w:World) (A:Option Addr) (c:Nat) (l:List S25) (hx:Kd.C k25 w A l.length l) (hn:l.length≤LM)
  (hT:∀ y∈l,∀ W B4 B5 d4 d5,Below w.heap.size w W→Rep W y B4 d4 B5 d5→Calls Tryz.prog 29 #[.agg (jvc y B4 B5 d4 d5)] W fun e w'=>∃ v,e= .returned v∧v.oneCell'=true∧Below W.heap.size W w'):
  Calls Tryz.prog 54 #[.slice A l.length c] w fun e w'=>∃ A' c',e= .returned (.slice A' l.length c')∧Below w.heap.size w w':=by
 have Hx:=asd_ hx
 have HT:=asd_ hT
 have hnL:l.length≤LM:=Nat.le_trans hn (by decide)
 have Hn:=asd_ hnL
 clear hx hT hn hnL
 have HK:=st0_ w
 go_enter Tryz.func54,Tryz.ntmps54
 go_wp2_with (first|((with_reducible refine gd_ 6 ?_);refine lit0_at kAny 20 (hE:=E20) at_ rfl (N:=6) rfl gs_ ?_;intro v6 wl HK1;replace HK:=asd_ HK1;clear HK1))
 go_loopg [3,9] l.length (fun kq v3 v9 w'=>∃ (i:Int) (xs:List {v:Value // v.oneCell'=true}) (u3:Value),u3=v3∧v9= .int .i64 i∧0≤i∧i + kq=l.length∧(xs.length:Int)=i∧Aside0 (At w [.f (Fact.rows kAny 20 w.heap.size E20 u3 xs)] w'))
 case atStart=>exact ⟨0,[],_,rfl,rfl,by omega,by omega,rfl,⟨at_⟩⟩
 case round=>
  clear HK
  obtain ⟨i,xs,u3,rfl,rfl,hi0,hik,hxl,HK⟩:=hrel
  cases gk with
  |zero=>
   have ht:decide (i < (l.length:Int))=false:=decide_eq_false (by omega)
   go_wp2_with fail
   go_ret
   have hR:Kd.R kAny 20 _ _ _ u3 xs:=HK.out.k.1
   obtain ⟨A',c',e⟩:=Kd.R_slice hR
   have hl2:xs.length=l.length:=by omega
   exact ⟨A',c',by rw [e,hl2];rfl,HK.out.b⟩
  |succ kk=>
   have ht:decide (i < (l.length:Int))=true:=decide_eq_true (by omega)
   have hil:i < (l.length:Int):=by omega
   obtain ⟨ad5,B4,d4,B5,d5,e5,hc50,hc51,hc52,hc53,hc54,hc55,m4,n4,m5,n5⟩:=at_T25 Hx.out i hi0 hil
   subst e5
   have q0:=(HK.out.b.cell (World.block_lt_of_cell? _ _ hc50)).trans hc50
   have q1:=(HK.out.b.cell (World.block_lt_of_cell? _ _ hc51)).trans hc51
   have q2:=(HK.out.b.cell (World.block_lt_of_cell? _ _ hc52)).trans hc52
   have q3:=(HK.out.b.cell (World.block_lt_of_cell? _ _ hc53)).trans hc53
   have q4:=(HK.out.b.cell (World.block_lt_of_cell? _ _ hc54)).trans hc54
   have q5:=(HK.out.b.cell (World.block_lt_of_cell? _ _ hc55)).trans hc55
   clear hc50 hc51 hc52 hc53 hc54 hc55
   have hY:=rd_T25_in hi0 hil
   have Hik:=asd_ hik;have Hi0:=asd_ hi0;have Hil:=asd_ hil;have Hxl:=asd_ hxl;have HM:=asd_ (And.intro m4 (And.intro n4 (And.intro m5 n5)));have HY:=asd_ hY
   have p1:=eq_true hi0;have p2:=eq_true hil
   clear hik hi0 hil hxl m4 n4 m5 n5 hY
   go_wp2_with (first|((with_reducible refine gd_ 5 ?_);refine bx_ #[i0,bF,i0,eS,nilS,nilS] 25 ?_;clear HK;intro g5 wb5 HK Gg5;replace Bc:=ce1_ HK 0)|((with_reducible refine gd_ 14 ?_);refine lo_ 25 5 g5 (#[.int .i64 (rd_T25 l i).f0,.bool (rd_T25 l i).f1,.int .i64 (rd_T25 l i).f2,.string (rd_T25 l i).f3,.slice B4 (rd_T25 l i).f4.length d4,.slice B5 (rd_T25 l i).f5.length d5]) HK.out.k.1 Tryz.underlying25 ?_)|((with_reducible refine gd_ 15 ?_);refine cw_ #[.agg (#[.int .i64 (rd_T25 l i).f0,.bool (rd_T25 l i).f1,.int .i64 (rd_T25 l i).f2,.string (rd_T25 l i).f3,.slice B4 (rd_T25 l i).f4.length d4,.slice B5 (rd_T25 l i).f5.length d5])] Tryz.func29 (HT.out _ HY.out _ B4 B5 d4 d5 (HK.out.b) ⟨Kd.C_below HM.out.2.1 HK.out.b,HM.out.1,Kd.C_below HM.out.2.2.2 HK.out.b,HM.out.2.2.1⟩) ?_;intro v15 wc15 HK1 hF hB;have HF:=asd_ hF;clear hF hB;replace HK:=asd_ HK1;clear HK1;replace Bc:=ce1_ HK 0;skip)|((with_reducible refine gd_ 16 ?_);refine new_at at_ rfl (N:=16) rfl (ob:=row #[v15] 20) (v:=(fun b=> .slice (some ⟨b,0,none⟩) 1 1)) (by exact lit1_run Tryz.underlying117 info20 rfl rfl rfl HF.out) ?_;intro g16 wb16 HK1 hgg16;have Gg16:=asd_ hgg16;clear hgg16;replace HK:=asd_ HK1;clear HK1;replace Bc:=ce1_ HK 1)|((with_reducible refine gate_builtin (b:= .append) (xs:=#[.tmp 13,.tmp 16]) rfl ?_);at_builtin;refine append1_at (p:=⟨v15,HF.out⟩) (xs:=xs) (g:=g16) (t:=117) (s:= .tmp 13) (x:= .tmp 16) (At.front 1 (At.front 2 HK.out rfl) rfl) rfl rfl rfl Tryz.underlying117 info20 rfl (by decide) rfl rfl (by have:=Hxl.out;have:=Hil.out;have:=Hn.out;simp only [LM] at this;omega) ?_;intro v17 wa17 HK1;replace HK:=asd_ HK1;clear HK1;replace Bc:=ce1_ HK 1)|((with_reducible refine gate_ (.store 25 (.tmp 5) (.tmp 12)) rfl ?_);refine storerow_at (cs:=#[i0,bF,i0,eS,nilS,nilS]) (g:=g5) 0 (#[.int .i64 (rd_T25 l i).f0,.bool (rd_T25 l i).f1,.int .i64 (rd_T25 l i).f2,.string (rd_T25 l i).f3,.slice B4 (rd_T25 l i).f4.length d4,.slice B5 (rd_T25 l i).f5.length d5]) at_ rfl Gg5.out rfl rfl rfl rfl rfl rfl kr_ rfl (by simp [Value.oneCell']) ?_;intro wr1 HK1;replace HK:=asd_ HK1;clear HK1;replace Bc:=ce1_ HK 0))
   go_roundg kk
   case measure=>exact Nat.lt_succ_self _
   case rel=>
    refine ⟨wrap64 (i + 1),xs ++ [⟨v15,HF.out⟩],_,rfl,rfl,by have:=Hi0.out;rw [wup Hi0.out Hil.out Hn.out];omega,by have:=Hik.out;rw [wup Hi0.out Hil.out Hn.out];omega,by have:=Hxl.out;rw [wup Hi0.out Hil.out Hn.out];simp;omega,⟨?_⟩⟩
    exact ((At.front 1 HK.out rfl).drop)
theorem KS:Maps.Keyed Tryz.prog 9:=Maps.string_keyed Tryz.underlying9
theorem key_of {s:ByteArray} (h:s.size≤LM):keyOf Tryz.prog 9 (.string s)=some (lit s):=WideMaps.keyOf_string_mk (P:=Tryz.prog) Tryz.underlying9 (Nat.le_trans h (by decide))
theorem take_snoc {l:List ByteArray} {n:Nat} (h:n < l.length):l.take (n + 1)=l.take n ++ [rdOf ByteArray.empty l (n:Int)]:=by
 unfold rdOf
 rw [Int.toNat_natCast,getD_lt h,List.take_add_one,List.getElem?_eq_getElem h]
 rfl
theorem value_null (w:World) (x:S25) (A4 A5:Option Addr) (c4 c5:Nat) (k1:(x.f0 == 1)=false) (k2:(x.f0 == 2)=false) (k3:(x.f0 == 3)=false) (k4:(x.f0 == 4)=false) (k5:(x.f0 == 5)=false):
  Calls Tryz.prog 29 #[.agg (jvc x A4 A5 c4 c5)] w (rb (.nilIface) w):=by
 have HK:=st0_ w
 go_enter Tryz.func29,Tryz.ntmps29
 go_wp2_with (first|((with_reducible refine gd_ 1 ?_);refine bx_ (jvc x A4 A5 c4 c5) 25 ?_;clear HK;intro g1 wb1 HK Gg1;replace Bc:=ce1_ HK 0))
 go_ret
 exact ⟨rfl,be_⟩
theorem value_bool (w:World) (x:S25) (A4 A5:Option Addr) (c4 c5:Nat) (k1:(x.f0 == 1)=true):
  Calls Tryz.prog 29 #[.agg (jvc x A4 A5 c4 c5)] w (rb (.iface 4 (.bool x.f1)) w):=by
 have HK:=st0_ w
 go_enter Tryz.func29,Tryz.ntmps29
 go_wp2_with (first|((with_reducible refine gd_ 1 ?_);refine bx_ (jvc x A4 A5 c4 c5) 25 ?_;clear HK;intro g1 wb1 HK Gg1;replace Bc:=ce1_ HK 0))
 go_ret
 exact ⟨rfl,be_⟩
theorem value_text (w:World) (x:S25) (A4 A5:Option Addr) (c4 c5:Nat) (k1:(x.f0 == 1)=false) (k2:(x.f0 == 2)=false) (k3:(x.f0 == 3)=true):
  Calls Tryz.prog 29 #[.agg (jvc x A4 A5 c4 c5)] w (rb (.iface 9 (.string x.f3)) w):=by
 have HK:=st0_ w
 go_enter Tryz.func29,Tryz.ntmps29
 go_wp2_with (first|((with_reducible refine gd_ 1 ?_);refine bx_ (jvc x A4 A5 c4 c5) 25 ?_;clear HK;intro g1 wb1 HK Gg1;replace Bc:=ce1_ HK 0))
 go_ret
 exact ⟨rfl,be_⟩
theorem values_form {f:FuncId} {args:Array Value} {W:World} {n:Nat} (h:Calls Tryz.prog f args W fun e w'=>∃ A' c',e= .returned (.slice A' n c')∧Below W.heap.size W w'):
  Calls Tryz.prog f args W fun e w'=>∃ u,e= .returned u∧(∃ A' c',u= .slice A' n c')∧Below W.heap.size W w':=by
 refine h.mono ?_
 rintro e w' ⟨A',c',rfl,hb⟩
 exact ⟨_,rfl,⟨A',c',rfl⟩,hb⟩
theorem value_array (w:World) (x:S25) (A4 A5:Option Addr) (c4 c5:Nat) (hx:Rep w x A4 c4 A5 c5) (hn:x.f5.length≤LM) (k1:(x.f0 == 1)=false) (k2:(x.f0 == 2)=false) (k3:(x.f0 == 3)=false) (k4:(x.f0 == 4)=true)
  (hT:∀ y∈x.f5,∀ W B4 B5 d4 d5,Below w.heap.size w W→Rep W y B4 d4 B5 d5→Calls Tryz.prog 29 #[.agg (jvc y B4 B5 d4 d5)] W fun e w'=>∃ v,e= .returned v∧v.oneCell'=true∧Below W.heap.size W w'):
  Calls Tryz.prog 29 #[.agg (jvc x A4 A5 c4 c5)] w fun e w'=>∃ A' c',e= .returned (.iface 117 (.slice A' x.f5.length c'))∧Below w.heap.size w w':=by
 have Hx:=asd_ hx
 have HT:=asd_ hT
 clear hx hT
 have HK:=st0_ w
 go_enter Tryz.func29,Tryz.ntmps29
 go_wp2_with (first|((with_reducible refine gd_ 1 ?_);refine bx_ (jvc x A4 A5 c4 c5) 25 ?_;clear HK;intro g1 wb1 HK Gg1;replace Bc:=ce1_ HK 0)|((with_reducible refine gd_ 27 ?_);refine cw_ #[.slice A5 x.f5.length c5] Tryz.func54 (values_form (values_of _ A5 c5 x.f5 (Kd.C_below Hx.out.h5 HK.out.b) hn (fun y hy W B4 B5 d4 d5 hb=>HT.out y hy W B4 B5 d4 d5 (below_step HK.out.b hb)))) ?_;rintro v27 wc27 HK1 ⟨A',c',rfl⟩ hB;clear hB;replace HK:=asd_ HK1;clear HK1;replace Bc:=ce1_ HK 0))
 go_ret
 exact ⟨_,_,rfl,be_⟩
theorem value_object (w:World) (x:S25) (A4 A5:Option Addr) (c4 c5:Nat) (hx:Rep w x A4 c4 A5 c5) (hn:x.f5.length≤LM) (h45:x.f4.length=x.f5.length) (ht4n:∀ s∈x.f4,s.size≤LM) (k1:(x.f0 == 1)=false) (k2:(x.f0 == 2)=false) (k3:(x.f0 == 3)=false) (k4:(x.f0 == 4)=false) (k5:(x.f0 == 5)=true)
  (hT:∀ y∈x.f5,∀ W B4 B5 d4 d5,Below w.heap.size w W→Rep W y B4 d4 B5 d5→Calls Tryz.prog 29 #[.agg (jvc y B4 B5 d4 d5)] W fun e w'=>∃ v,e= .returned v∧v.oneCell'=true∧Below W.heap.size W w'):
  Calls Tryz.prog 29 #[.agg (jvc x A4 A5 c4 c5)] w fun e w'=>∃ g es ck,e= .returned (.iface 113 (.map (some g)))∧MapIs Tryz.prog 9 RT es ck x.f5.length (mapOf x.f4)∧w'.heap[g]? =some (.map es ck)∧w.heap.size≤g∧Below w.heap.size w w':=by
 have hmm:= @run_makeMap Tryz.prog
 have Hx:=asd_ hx
 have HT:=asd_ hT
 have H45:=asd_ h45
 clear hx hT
 have HK:=st0_ w
 go_enter Tryz.func29,Tryz.ntmps29
 go_wp2_with (first|((with_reducible refine gd_ 1 ?_);refine bx_ (jvc x A4 A5 c4 c5) 25 ?_;clear HK;intro g1 wb1 HK Gg1;replace Bc:=ce1_ HK 0)|((with_reducible refine gd_ 31 ?_);refine nw_ (.map #[] 0) (fun b=> .map (some b)) ?_;clear HK;intro gm wb31 HK Ggm;replace Bc:=ce1_ HK 1))
 go_loopg [35] x.f5.length (fun kq v35 w'=>∃ (i:Int) (es:Array MapEntry) (ck:Nat),v35= .int .i64 i∧0≤i∧i + kq=x.f5.length∧Aside0 (MapIs Tryz.prog 9 RT es ck i.toNat (mapOf (x.f4.take i.toNat)))∧Aside0 (At w [.b gm (.map es ck),.b g1 (row (jvc x A4 A5 c4 c5) 25)] w'))
 case atStart=>exact ⟨0,#[],0,rfl,by omega,by omega,⟨map_made _ _ _⟩,⟨at_⟩⟩
 case round=>
  clear HK
  obtain ⟨i,es,ck,rfl,hi0,hik,HM0,HK⟩:=hrel
  replace Bc:=ce1_ HK 1
  cases gk with
  |zero=>
   have ht:decide (i < (x.f5.length:Int))=false:=decide_eq_false (by omega)
   go_wp2_with fail
   go_ret
   have hl2:x.f4.take i.toNat=x.f4:=List.take_of_length_le (by omega)
   have hM:=HM0.out;rw [hl2] at hM
   exact ⟨gm,es,ck,rfl,⟨hM.fit,by have:=hM.size;omega,hM.eq⟩,HK.out.k.1,Ggm.out,HK.out.b⟩
  |succ kk=>
   have ht:decide (i < (x.f5.length:Int))=true:=decide_eq_true (by omega)
   have hil:i < (x.f5.length:Int):=by omega
   have hi4:i < (x.f4.length:Int):=by omega
   have ht4:decide (i < (x.f4.length:Int))=true:=decide_eq_true hi4
   obtain ⟨ad5,B4,d4,B5,d5,e5,hc50,hc51,hc52,hc53,hc54,hc55,m4,n4,m5,n5⟩:=at_T25 Hx.out.h5 i hi0 hil
   obtain ⟨ad4,e4,hc4⟩:=Kd.at_string Hx.out.h4 i hi0 hi4
   subst e5 e4
   have q0:=(HK.out.b.cell (World.block_lt_of_cell? _ _ hc50)).trans hc50
   have q1:=(HK.out.b.cell (World.block_lt_of_cell? _ _ hc51)).trans hc51
   have q2:=(HK.out.b.cell (World.block_lt_of_cell? _ _ hc52)).trans hc52
   have q3:=(HK.out.b.cell (World.block_lt_of_cell? _ _ hc53)).trans hc53
   have q4:=(HK.out.b.cell (World.block_lt_of_cell? _ _ hc54)).trans hc54
   have q5:=(HK.out.b.cell (World.block_lt_of_cell? _ _ hc55)).trans hc55
   have hY:=rd_T25_in hi0 hil
   have hkey:keyOf Tryz.prog 9 (.string (rdOf ByteArray.empty x.f4 i))=some (lit (rdOf ByteArray.empty x.f4 i)):=key_of (ht4n _ (by unfold rdOf;rw [getD_lt (by omega)];exact List.getElem_mem _))
   have Hkey:=asd_ hkey;have Hik:=asd_ hik;have Hi0:=asd_ hi0;have Hil:=asd_ hil;have HN:=asd_ (And.intro m4 (And.intro n4 (And.intro m5 n5)));have HY:=asd_ hY;have Hc4:=asd_ hc4
   have p1:=eq_true hi0;have p2:=eq_true hil;have p3:=eq_true hi4
   clear hkey hik hi0 hil hi4 hc4 m4 n4 m5 n5 hY hc50 hc51 hc52 hc53 hc54 hc55
   go_wp2_with (first|((with_reducible refine gd_ 5 ?_);refine bx_ #[i0,bF,i0,eS,nilS,nilS] 25 ?_;clear HK;intro g5 wb5 HK Gg5;replace Bc:=ce2_ HK 2 0)|((with_reducible refine gate_ (.store 25 (.tmp 5) (.tmp 39)) rfl ?_);refine storerow_at (cs:=#[i0,bF,i0,eS,nilS,nilS]) (g:=g5) 0 (#[.int .i64 (rd_T25 x.f5 i).f0,.bool (rd_T25 x.f5 i).f1,.int .i64 (rd_T25 x.f5 i).f2,.string (rd_T25 x.f5 i).f3,.slice B4 (rd_T25 x.f5 i).f4.length d4,.slice B5 (rd_T25 x.f5 i).f5.length d5]) at_ rfl Gg5.out rfl rfl rfl rfl rfl rfl kr_ rfl (by simp [Value.oneCell']) ?_;intro wr1 HK1;replace HK:=asd_ HK1;clear HK1;replace Bc:=ce2_ HK 2 0))
   refine st_ 9 (fun w'=>At w [.b g5 (row (#[.int .i64 (rd_T25 x.f5 i).f0,.bool (rd_T25 x.f5 i).f1,.int .i64 (rd_T25 x.f5 i).f2,.string (rd_T25 x.f5 i).f3,.slice B4 (rd_T25 x.f5 i).f4.length d4,.slice B5 (rd_T25 x.f5 i).f5.length d5]) 25),.b gm (.map es ck),.b g1 (row (jvc x (some ad4) (some ad5) c4 c5) 25)] w'∧(∀ j,w'.cell? ⟨g1,j,none⟩=(jvc x (some ad4) (some ad5) c4 c5:Array Value)[j]?)∧(∀ j,w'.cell? ⟨g5,j,none⟩=(#[.int .i64 (rd_T25 x.f5 i).f0,.bool (rd_T25 x.f5 i).f1,.int .i64 (rd_T25 x.f5 i).f2,.string (rd_T25 x.f5 i).f3,.slice B4 (rd_T25 x.f5 i).f4.length d4,.slice B5 (rd_T25 x.f5 i).f5.length d5]:Array Value)[j]?)∧w'.cell? (ad4.add i.toNat)=some (.string (rdOf ByteArray.empty x.f4 i))) [8] (fun A=>⟨A,(cA_ A 2),(cA_ A 0),((A.b.cell (World.block_lt_of_cell? w _ Hc4.out)).trans Hc4.out)⟩) (fun hHeld=> ?_)
   refine pu_ 0 45 1 ?_
   refine pu_ 1 46 3 ?_
   refine pu_ 3 48 11 ?_
   refine ta4_ 2 47 15 hHeld ?_
   refine pu_ 4 49 31 ?_
   refine ta4_ 5 50 63 hHeld ?_
   refine on_ 6 51 127 (fun K hK=> ?_)
   refine loadr_ (ty:=25) (x:= .tmp 5) g5 (#[.int .i64 (rd_T25 x.f5 i).f0,.bool (rd_T25 x.f5 i).f1,.int .i64 (rd_T25 x.f5 i).f2,.string (rd_T25 x.f5 i).f3,.slice B4 (rd_T25 x.f5 i).f4.length d4,.slice B5 (rd_T25 x.f5 i).f5.length d5]) (by rfl) rfl rfl rfl hHeld.1.k.1 Tryz.underlying25 rfl kr_ ?_
   refine hK.out _ _ ⟨hHeld.1,hHeld.2.1,hHeld.2.2.1,hHeld.2.2.2⟩ (fun hHeld=> ?_)
   clear hK K
   refine nq_ 51 ?_
   refine on_ 7 52 255 (fun K hK=> ?_)
   have HE:=asd_ (hHeld.1)
   refine ge_ Tryz.func29 #[.agg (#[.int .i64 (rd_T25 x.f5 i).f0,.bool (rd_T25 x.f5 i).f1,.int .i64 (rd_T25 x.f5 i).f2,.string (rd_T25 x.f5 i).f3,.slice B4 (rd_T25 x.f5 i).f4.length d4,.slice B5 (rd_T25 x.f5 i).f5.length d5])] ?_
   with_reducible refine (HT.out _ HY.out _ B4 B5 d4 d5 HE.out.b ⟨Kd.C_below HN.out.2.1 HE.out.b,HN.out.1,Kd.C_below HN.out.2.2.2 HE.out.b,HN.out.2.2.1⟩).mono ?_
   rintro e w3 ⟨v52,rfl,hF,hb⟩
   refine ⟨_,rfl,?_⟩
   have HE0:=At.step HE.out hb
   replace HE:=asd_ HE0;clear HE0
   refine hK.out _ _ ⟨HE.out,(cE_ HE 2),(cE_ HE 0),((HE.out.b.cell (World.block_lt_of_cell? w _ Hc4.out)).trans Hc4.out)⟩ (fun hHeld=> ?_)
   clear hK K
   refine nq_ 52 ?_
   refine lz_ 8 511 (fun K hK=> ?_)
   refine mapput_ KS 1 HE.out rfl Ggm.out HM0.out (by have:=Hi0.out;have:=Hil.out;have h2:=hn;simp only [LM] at h2;unfold maxLen;omega) (by rfl) rfl rfl Tryz.underlying113 rfl rfl rfl Hkey.out rfl ?_
   intro es2 ck2 w3 HM2 HE0
   have HM2:=asd_ HM2
   replace HE:=asd_ HE0;clear HE0
   refine hK.out _ _ ?_
   clear hK K
   refine done_ kr_ ?_
   clear HK;have HK:=HE;clear HE
   clear hHeld
   replace Bc:=ce2_ HK 2 0
   go_wp2_with fail
   go_roundg kk
   case measure=>exact Nat.lt_succ_self _
   case rel=>
    have e1:wrap64 (i + 1)=i + 1:=wup Hi0.out Hil.out (Nat.le_trans hn (by decide))
    have e2:(i + 1).toNat=i.toNat + 1:=by have:=Hi0.out;omega
    refine ⟨wrap64 (i + 1),es2,ck2,rfl,by have:=Hi0.out;rw [e1];omega,by have:=Hik.out;rw [e1];omega,⟨?_⟩,⟨?_⟩⟩
    ·rw [e1,e2,take_snoc (by have:=Hi0.out;have:=Hil.out;omega),mapOf,putAll_snoc];exact HM2.out
    ·exact ((At.front 0 HK.out rfl).drop)
end Go.Proofs.YtkphbhncpdcbeaaGreatDoor.J
namespace Go.Proofs.YtkphbhncpdcbeaaGreatDoor.J
open Go.RowKit YtkphbhncpdcbeaaGreatDoorW.PrintWords YtkphbhncpdcbeaaGreatDoorW.PrintLast YtkphbhncpdcbeaaGreatDoorW.PrintMore PJT
inductive Out (x:S25) (v:Value) (W:World):Prop
 |null (k:x.f0=0) (e:v= .nilIface)
 |bool (k:x.f0=1) (e:v= .iface 4 (.bool x.f1))
 |text (k:x.f0=3) (e:v= .iface 9 (.string x.f3))
 |array (k:x.f0=4) (A:Option Addr) (c:Nat) (e:v= .iface 117 (.slice A x.f5.length c))
 |object (k:x.f0=5) (g:Nat) (es:Array MapEntry) (ck:Nat) (e:v= .iface 113 (.map (some g))) (M:MapIs Tryz.prog 9 RT es ck x.f5.length (mapOf x.f4)) (h:W.heap[g]? =some (.map es ck))
theorem Out.one {x:S25} {v:Value} {W:World} (h:Out x v W):v.oneCell'=true:=by
 cases h with
 |null _ e=>rw [e];rfl
 |bool _ e=>rw [e];rfl
 |text _ e=>rw [e];rfl
 |array _ _ _ e=>rw [e];rfl
 |object _ _ _ _ e=>rw [e];rfl
theorem beq_t {a b:Int} (h:a=b):(a == b)=true:=by simp [h]
theorem beq_f {a b:Int} (h:a≠b):(a == b)=false:=by simp [h]
theorem value_ok (w:World) (x:S25) (A4 A5:Option Addr) (c4 c5:Nat) (hx:Rep w x A4 c4 A5 c5) (hV:V x)
  (hT:∀ y∈x.f5,∀ W B4 B5 d4 d5,Below w.heap.size w W→Rep W y B4 d4 B5 d5→Calls Tryz.prog 29 #[.agg (jvc y B4 B5 d4 d5)] W fun e w'=>∃ v,e= .returned v∧v.oneCell'=true∧Below W.heap.size W w'):
  Calls Tryz.prog 29 #[.agg (jvc x A4 A5 c4 c5)] w fun e w'=>∃ v,e= .returned v∧Out x v w'∧Below w.heap.size w w':=by
 obtain ⟨k0,k5,k2,n3,n4,n5,t4,ee,sub⟩:=hV
 have hk:x.f0=0∨x.f0=1∨x.f0=3∨x.f0=4∨x.f0=5:=by omega
 rcases hk with h|h|h|h|h
 ·refine (value_null w x A4 A5 c4 c5 (beq_f (by omega)) (beq_f (by omega)) (beq_f (by omega)) (beq_f (by omega)) (beq_f (by omega))).mono ?_
  rintro e w' ⟨rfl,hb⟩
  exact ⟨_,rfl,.null h rfl,hb⟩
 ·refine (value_bool w x A4 A5 c4 c5 (beq_t h)).mono ?_
  rintro e w' ⟨rfl,hb⟩
  exact ⟨_,rfl,.bool h rfl,hb⟩
 ·refine (value_text w x A4 A5 c4 c5 (beq_f (by omega)) (beq_f (by omega)) (beq_t h)).mono ?_
  rintro e w' ⟨rfl,hb⟩
  exact ⟨_,rfl,.text h rfl,hb⟩
 ·refine (value_array w x A4 A5 c4 c5 hx n5 (beq_f (by omega)) (beq_f (by omega)) (beq_f (by omega)) (beq_t h) hT).mono ?_
  rintro e w' ⟨A',c',rfl,hb⟩
  exact ⟨_,rfl,.array h A' c' rfl,hb⟩
 ·refine (value_object w x A4 A5 c4 c5 hx n5 (ee h) t4 (beq_f (by omega)) (beq_f (by omega)) (beq_f (by omega)) (beq_f (by omega)) (beq_t h) hT).mono ?_
  rintro e w' ⟨g,es,ck,rfl,M,hg,_,hb⟩
  exact ⟨_,rfl,.object h g es ck rfl M hg,hb⟩
theorem value_weak {x:S25} (hV:V x):∀ (w:World) (A4 A5:Option Addr) (c4 c5:Nat),Rep w x A4 c4 A5 c5→
  Calls Tryz.prog 29 #[.agg (jvc x A4 A5 c4 c5)] w fun e w'=>∃ v,e= .returned v∧v.oneCell'=true∧Below w.heap.size w w':=by
 induction hV with
 | @mk x k0 k5 k2 n3 n4 n5 t4 ee sub ih=>
  intro w A4 A5 c4 c5 hx
  refine (value_ok w x A4 A5 c4 c5 hx (.mk k0 k5 k2 n3 n4 n5 t4 ee sub) (fun y hy W B4 B5 d4 d5 _ hr=>ih y hy W B4 B5 d4 d5 hr)).mono ?_
  rintro e w' ⟨v,rfl,ho,hb⟩
  exact ⟨v,rfl,ho.one,hb⟩
theorem value_out (w:World) (x:S25) (A4 A5:Option Addr) (c4 c5:Nat) (hx:Rep w x A4 c4 A5 c5) (hV:V x):
  Calls Tryz.prog 29 #[.agg (jvc x A4 A5 c4 c5)] w fun e w'=>∃ v,e= .returned v∧Out x v w'∧Below w.heap.size w w':=by
 refine value_ok w x A4 A5 c4 c5 hx hV (fun y hy W B4 B5 d4 d5 _ hr=>value_weak ?_ W B4 B5 d4 d5 hr)
 obtain ⟨k0,k5,k2,n3,n4,n5,t4,ee,sub⟩:=hV
 exact sub y hy
end Go.Proofs.YtkphbhncpdcbeaaGreatDoor.J
namespace Go.Proofs.YtkphbhncpdcbeaaGreatDoor.J
open Go.RowKit YtkphbhncpdcbeaaGreatDoorW.PrintWords YtkphbhncpdcbeaaGreatDoorW.PrintLast YtkphbhncpdcbeaaGreatDoorW.PrintMore PJT
open Go.WideShapes Go.ChangeMaps Go.MapKept
open Go.Maps (Keyed IsMap)
def RC:RD
 | .nilIface=>some (.nil,[])
 | .iface 4 (.bool b)=>some (.lit (.bool b),[])
 | .iface 9 (.string s)=>some (.lit (.string s.data.toList),[])
 | .iface 117 (.slice none n c)=>some (.agg [.nil,.lit (.int .i64 n),.lit (.int .i64 c)],[])
 | .iface 117 (.slice (some ⟨b,o,none⟩) n c)=>some (.agg [.agg [.lit (.int .i64 b),.lit (.int .i64 o)],.lit (.int .i64 n),.lit (.int .i64 c)],[])
 | .iface 113 (.map (some g))=>some (.ptr (.lit (.int .i64 g)),[])
 |_=>none
inductive Coded:Value→Prop
 |null:Coded .nilIface
 |bool (b:Bool):Coded (.iface 4 (.bool b))
 |text (s:ByteArray):Coded (.iface 9 (.string s))
 |none (n c:Nat):Coded (.iface 117 (.slice none n c))
 |arr (b o n c:Nat):Coded (.iface 117 (.slice (some ⟨b,o,Option.none⟩) n c))
 |map (g:Nat):Coded (.iface 113 (.map (some g)))
theorem RC_coded {u:Value} {y:DataW Unit×List MemPlace} (h:RC u=some y):Coded u:=by
 unfold RC at h
 split at h<;>first|constructor|cases h
theorem RC_of {u:Value} (h:Coded u):∃ d,RC u=some (d,[]):=by
 cases h<;>exact ⟨_,rfl⟩
theorem RC_inj {u v:Value} {y y':DataW Unit×List MemPlace} (h:RC u=some y) (h':RC v=some y') (e:y.1=y'.1):u=v:=by
 cases RC_coded h<;>cases RC_coded h'<;>(simp only [RC,Option.some.injEq] at h h';subst h h')<;>first|rfl|(simp at e;done)|skip
 case bool.bool b b'=>simp at e;rw [e]
 case text.text s t=>
  simp only [DataW.lit.injEq,Lit.string.injEq] at e
  rw [lit_inj (show lit s=lit t by unfold lit;rw [e])]
 case none.none n c m d=>
  simp at e
  rw [show n=m by omega,show c=d by omega]
 case arr.arr b o n c b' o' m d=>
  simp at e
  rw [show n=m by omega,show c=d by omega,show b=b' by omega,show o=o' by omega]
 case map.map g g'=>
  simp at e
  rw [show g=g' by omega]
def cd (v:Value):DataW Unit:=match RC v with
 |some y=>y.1
 |none=> .nil
theorem cd_of {v:Value} {y:DataW Unit×List MemPlace} (h:RC v=some y):cd v=y.1:=by unfold cd;rw [h]
theorem RC_cd {v:Value} (h:Coded v):RC v=some (cd v,[]):=by
 obtain ⟨d,hd⟩:=RC_of h
 rw [cd_of hd,hd]
def lastAt:List ByteArray→ByteArray→Option Nat
 |[],_=>none
 |x::r,s=>match lastAt r s with
  |some j=>some (j + 1)
  |none=>if x=s then some 0 else none
theorem lastAt_get {l:List ByteArray} {s:ByteArray} {i:Nat} (h:lastAt l s=some i):l[i]? =some s:=by
 induction l generalizing i with
 |nil=>cases h
 |cons x r ih=>
  unfold lastAt at h
  cases hr:lastAt r s with
  |some j=>
   rw [hr] at h
   cases h
   simpa using ih hr
  |none=>
   rw [hr] at h
   simp only at h
   split at h
   ·cases h;simpa
   ·cases h
theorem lastAt_lt {l:List ByteArray} {s:ByteArray} {i:Nat} (h:lastAt l s=some i):i < l.length:=(List.getElem?_eq_some_iff.1 (lastAt_get h)).1
theorem lastAt_mem {l:List ByteArray} {s:ByteArray}:(∃ i,lastAt l s=some i)↔s∈l:=by
 refine ⟨fun ⟨i,h⟩=>List.mem_of_getElem? (lastAt_get h),fun h=> ?_⟩
 induction l with
 |nil=>cases h
 |cons x r ih=>
  unfold lastAt
  cases hr:lastAt r s with
  |some j=>exact ⟨_,rfl⟩
  |none=>
   rcases List.mem_cons.1 h with rfl|h
   ·exact ⟨0,by simp⟩
   ·obtain ⟨i,hi⟩:=ih h
    rw [hr] at hi;cases hi
theorem lastAt_none {l:List ByteArray} {s:ByteArray}:lastAt l s=none↔s∉l:=by
 rw [← lastAt_mem]
 cases lastAt l s<;>simp
theorem lastAt_is {l:List ByteArray} {s:ByteArray} {i:Nat} (h:l[i]? =some s) (hl:∀ j,i < j→l[j]? ≠some s):lastAt l s=some i:=by
 induction l generalizing i with
 |nil=>simp at h
 |cons x r ih=>
  unfold lastAt
  cases i with
  |zero=>
   have hn:lastAt r s=none:=lastAt_none.2 (fun hm=>by
    obtain ⟨j,hj⟩:=List.mem_iff_getElem?.1 hm
    exact hl (j + 1) (by omega) (by simpa using hj))
   rw [hn]
   simp only [List.getElem?_cons_zero,Option.some.injEq] at h
   simp [h]
  |succ i=>
   rw [ih (by simpa using h) (fun j hj=>by have:=hl (j + 1) (by omega);simpa using this)]
def putV (D:DataW Unit) (l:List (ByteArray×Value)):DataW Unit:=l.foldl (fun D p=>D.put (lit p.1) (cd p.2)) D
abbrev mapV (names:List ByteArray) (vs:List Value):DataW Unit:=putV (.map []) (names.zip vs)
theorem mapV_snoc (names:List ByteArray) (vs:List Value) (h:names.length=vs.length) (s:ByteArray) (v:Value):mapV (names ++ [s]) (vs ++ [v])=(mapV names vs).put (lit s) (cd v):=by
 unfold mapV putV
 rw [List.zip_append h,List.foldl_append]
 rfl
theorem putV_at {D:DataW Unit} (h:IsMap D) (l:List (ByteArray×Value)) (s:ByteArray) (z:DataW Unit):
  (putV D l).atKey (lit s) z=match lastAt (l.map (·.1)) s with
   |some i=>cd ((l.map (·.2)).getD i .nilIface)
   |none=>D.atKey (lit s) z:=by
 induction l generalizing D with
 |nil=>rfl
 |cons p l ih=>
  show (putV (D.put (lit p.1) (cd p.2)) l).atKey (lit s) z=_
  rw [ih (h.put _ _)]
  simp only [List.map_cons,lastAt]
  cases hr:lastAt (l.map (·.1)) s with
  |some j=>simp
  |none=>
   simp only
   by_cases e:p.1=s
   ·subst e
    rw [if_pos rfl,Maps.atKey_put_same h (show WideAt.IsKeyLit (lit p.1) from trivial)]
    rfl
   ·rw [if_neg e,Maps.atKey_put_other (fun h=>e (lit_inj h.symm))]
theorem zip_fst {names:List ByteArray} {vs:List Value} (h:names.length=vs.length):(names.zip vs).map (·.1)=names:=by
 rw [List.map_fst_zip (by omega)]
theorem zip_snd {names:List ByteArray} {vs:List Value} (h:names.length=vs.length):(names.zip vs).map (·.2)=vs:=by
 rw [List.map_snd_zip (by omega)]
theorem mapV_at {names:List ByteArray} {vs:List Value} (h:names.length=vs.length) (s:ByteArray) (z:DataW Unit):
  (mapV names vs).atKey (lit s) z=match lastAt names s with
   |some i=>cd (vs.getD i .nilIface)
   |none=>z:=by
 have:=putV_at (D:= .map []) ⟨_,rfl⟩ (names.zip vs) s z
 rw [zip_fst h,zip_snd h] at this
 rw [mapV,this]
 cases lastAt names s<;>rfl
theorem putV_has {D:DataW Unit} (h:IsMap D) (l:List (ByteArray×Value)) (s:ByteArray):Maps.has (putV D l) (lit s)=true↔s∈l.map (·.1)∨Maps.has D (lit s)=true:=by
 induction l generalizing D with
 |nil=>simp [putV]
 |cons p l ih=>
  show Maps.has (putV (D.put (lit p.1) (cd p.2)) l) (lit s)=true↔_
  rw [ih (h.put _ _)]
  by_cases e:s=p.1
  ·subst e
   simp [Maps.has_put_same h (show WideAt.IsKeyLit (lit p.1) from trivial)]
  ·rw [Maps.has_put_other (fun h=>e (lit_inj h))]
   simp [e]
theorem mapV_has {names:List ByteArray} {vs:List Value} (h:names.length=vs.length) (s:ByteArray):Maps.has (mapV names vs) (lit s)=true↔s∈names:=by
 have:=putV_has (D:= .map []) ⟨_,rfl⟩ (names.zip vs) s
 rw [zip_fst h] at this
 rw [mapV,this]
 simp [Maps.has]
open Classical in
noncomputable def many:List ByteArray→Nat
 |[]=>0
 |x::r=>if x∈r then many r else many r + 1
open Classical in
theorem many_snoc (l:List ByteArray) (s:ByteArray):many (l ++ [s])=if s∈l then many l else many l + 1:=by
 induction l with
 |nil=>rfl
 |cons x r ih=>
  rw [List.cons_append,many,ih,many]
  by_cases h2:s∈r
  ·rw [if_pos h2,if_pos (List.mem_cons_of_mem _ h2)]
   by_cases h1:x∈r
   ·rw [if_pos h1,if_pos (List.mem_append_left _ h1)]
   ·rw [if_neg h1,if_neg (fun h=>(List.mem_append.1 h).elim h1 (fun h=>h1 (by rw [List.mem_singleton.1 h];exact h2)))]
  ·rw [if_neg h2]
   by_cases h3:s=x
   ·subst h3
    rw [if_pos (List.mem_append_right _ List.mem_cons_self),if_pos List.mem_cons_self,if_neg h2]
   ·rw [if_neg (fun h=>(List.mem_cons.1 h).elim h3 h2)]
    by_cases h1:x∈r
    ·rw [if_pos h1,if_pos (List.mem_append_left _ h1)]
    ·rw [if_neg h1,if_neg (fun h=>(List.mem_append.1 h).elim h1 (fun h=>h3 (List.mem_singleton.1 h).symm))]
theorem snoc_ind {α:Type} {P:List α→Prop} (h0:P []) (hs:∀ l x,P l→P (l ++ [x])) (l:List α):P l:=by
 have h:∀ r:List α,P r.reverse:=fun r=>by
  induction r with
  |nil=>exact h0
  |cons x r ih=>rw [List.reverse_cons];exact hs _ _ ih
 have:=h l.reverse
 rwa [List.reverse_reverse] at this
theorem mapV_tidy:∀ (names:List ByteArray) (vs:List Value),Maps.Tidy (mapV names vs):=by
 intro names vs
 unfold mapV putV
 generalize names.zip vs=l
 have h0:Maps.Tidy (DataW.map (H:=Unit) []):=⟨[],rfl,List.Pairwise.nil⟩
 generalize DataW.map (H:=Unit) []=D at h0
 induction l generalizing D with
 |nil=>exact h0
 |cons p l ih=>exact ih _ (h0.put (show WideAt.IsKeyLit (lit p.1) from trivial) _)
open Classical in
theorem mapV_size (names:List ByteArray):∀ (vs:List Value),names.length=vs.length→Maps.size (mapV names vs)=many names:=by
 refine snoc_ind (P:=fun names=>∀ (vs:List Value),names.length=vs.length→Maps.size (mapV names vs)=many names) (fun vs h=> ?_) (fun l s ih vs h=> ?_) names
 ·rfl
 ·skip
  obtain ⟨vs',v,rfl⟩:∃ vs' v,vs=vs' ++ [v]:=by
   rcases List.eq_nil_or_concat vs with rfl|⟨a,b,rfl⟩
   ·simp at h
   ·exact ⟨a,b,by simp⟩
  have hl:l.length=vs'.length:=by simpa using h
  rw [mapV_snoc _ _ hl,Maps.size_put (mapV_tidy _ _),many_snoc,ih vs' hl]
  by_cases hm:s∈l
  ·rw [if_pos ((mapV_has hl s).2 hm),if_pos hm]
  ·rw [if_neg (fun h=>hm ((mapV_has hl s).1 h)),if_neg hm]
open Classical in
noncomputable def once:List ByteArray→List ByteArray
 |[]=>[]
 |x::r=>if x∈r then once r else x::once r
open Classical in
theorem once_mem (l:List ByteArray) (s:ByteArray):s∈once l↔s∈l:=by
 induction l with
 |nil=>simp [once]
 |cons x r ih=>
  by_cases hx:x∈r
  ·rw [once,if_pos hx,ih];constructor
   ·exact List.mem_cons_of_mem _
   ·intro h;rcases List.mem_cons.1 h with rfl|h
    ·exact hx
    ·exact h
  ·rw [once,if_neg hx];simp [ih]
open Classical in
theorem once_nodup (l:List ByteArray):(once l).Nodup:=by
 induction l with
 |nil=>exact List.nodup_nil
 |cons x r ih=>
  by_cases h:x∈r
  ·rw [once,if_pos h];exact ih
  ·rw [once,if_neg h]
   exact List.nodup_cons.2 ⟨fun hm=>h ((once_mem r x).1 hm),ih⟩
open Classical in
theorem once_length (l:List ByteArray):(once l).length=many l:=by
 induction l with
 |nil=>rfl
 |cons x r ih=>by_cases h:x∈r<;>simp [once,many,h,ih]
theorem nodup_le {l m:List ByteArray} (h:l.Nodup) (hs:∀ s∈l,s∈m):l.length≤m.length:=by
 induction l generalizing m with
 |nil=>simp
 |cons x r ih=>
  have hx:=hs x List.mem_cons_self
  classical
  have:=ih (List.nodup_cons.1 h).2 (m:=m.filter (fun s=>decide (s≠x))) (fun s hm=>by
   have hne:s≠x:=fun e=>(List.nodup_cons.1 h).1 (e ▸ hm)
   exact List.mem_filter.2 ⟨hs s (List.mem_cons_of_mem _ hm),by simpa using hne⟩)
  have h1:(m.filter (fun s=>decide (s≠x))).length < m.length:=List.length_filter_lt_length_iff_exists.2 ⟨x,hx,by simp⟩
  simp only [List.length_cons]
  omega
open Classical in
theorem many_le {l m:List ByteArray} (hs:∀ s∈l,s∈m):many l≤many m:=by
 rw [← once_length,← once_length]
 exact nodup_le (once_nodup l) (fun s h=>(once_mem m s).2 (hs s ((once_mem l s).1 h)))
open Classical in
theorem many_eq {l m:List ByteArray} (hs:∀ s∈l,s∈m) (h:many l=many m):∀ s∈m,s∈l:=by
 intro s hm
 refine Classical.byContradiction fun hn=> ?_
 have h1:many (l ++ [s])≤many m:=many_le (fun t ht=>by
  rcases List.mem_append.1 ht with ht|ht
  ·exact hs t ht
  ·rw [List.mem_singleton.1 ht];exact hm)
 rw [many_snoc,if_neg hn] at h1
 omega
inductive OutD (W:World) (ok:Nat→Prop):S25→Value→Prop
 |null {x:S25} (k:x.f0=0):OutD W ok x .nilIface
 |bool {x:S25} (k:x.f0=1):OutD W ok x (.iface 4 (.bool x.f1))
 |text {x:S25} (k:x.f0=3):OutD W ok x (.iface 9 (.string x.f3))
 |empty {x:S25} (k:x.f0=4) (c:Nat) (h0:x.f5.length=0):OutD W ok x (.iface 117 (.slice none x.f5.length c))
 |array {x:S25} (k:x.f0=4) (b c:Nat) (cur:Array Value) (vs:List Value) (hl:vs.length=x.f5.length) (hb:ok b) (h:W.heap[b]? =some (.cells cur 20 (0,0))) (hc:∀ i,i < x.f5.length→cur[i]? =some (vs.getD i .nilIface))
   (hs:∀ i,i < x.f5.length→OutD W ok (x.f5.getD i z25) (vs.getD i .nilIface)):OutD W ok x (.iface 117 (.slice (some ⟨b,0,none⟩) x.f5.length c))
 |object {x:S25} (k:x.f0=5) (g:Nat) (es:Array MapEntry) (ck:Nat) (vs:List Value) (hl:vs.length=x.f5.length) (h45:x.f4.length=x.f5.length) (hg:ok g) (h:W.heap[g]? =some (.map es ck)) (M:MapIs Tryz.prog 9 RC es ck x.f5.length (mapV x.f4 vs))
   (hs:∀ i,i < x.f5.length→OutD W ok (x.f5.getD i z25) (vs.getD i .nilIface)):OutD W ok x (.iface 113 (.map (some g)))
theorem OutD.coded {W:World} {ok:Nat→Prop} {x:S25} {v:Value} (h:OutD W ok x v):Coded v:=by
 cases h<;>constructor
theorem OutD.one {W:World} {ok:Nat→Prop} {x:S25} {v:Value} (h:OutD W ok x v):v.oneCell'=true:=by
 cases h<;>rfl
theorem OutD.move {W W1:World} {ok ok':Nat→Prop} {x:S25} {v:Value} (h:OutD W ok x v) (hm:∀ k,ok k→k < W.heap.size→ok' k∧W1.heap[k]? =W.heap[k]?):OutD W1 ok' x v:=by
 induction h with
 |null k=>exact .null k
 |bool k=>exact .bool k
 |text k=>exact .text k
 |empty k c h0=>exact .empty k c h0
 |array k b c cur vs hl hb h hc hs ih=>exact .array k b c cur vs hl (hm b hb (blk_lt h)).1 ((hm b hb (blk_lt h)).2.trans h) hc ih
 |object k g es ck vs hl h45 hg h M hs ih=>exact .object k g es ck vs hl h45 (hm g hg (blk_lt h)).1 ((hm g hg (blk_lt h)).2.trans h) M ih
theorem OutD.grow {W W1:World} {ok:Nat→Prop} {x:S25} {v:Value} (h:OutD W ok x v) (hb:Below W.heap.size W W1):OutD W1 ok x v:=h.move (fun k hk hl=>⟨hk,hb.block k hl⟩)
theorem OutD.mono {W:World} {ok ok':Nat→Prop} {x:S25} {v:Value} (h:OutD W ok x v) (hm:∀ k,ok k→k < W.heap.size→ok' k):OutD W ok' x v:=h.move (fun k hk hl=>⟨hm k hk hl,rfl⟩)
end Go.Proofs.YtkphbhncpdcbeaaGreatDoor.J
namespace Go.Proofs.YtkphbhncpdcbeaaGreatDoor.J
open Go.RowKit YtkphbhncpdcbeaaGreatDoorW.PrintWords YtkphbhncpdcbeaaGreatDoorW.PrintLast YtkphbhncpdcbeaaGreatDoorW.PrintMore PJT
section
variable {P:Program} {ops:Array Oper} {rest:List Oper} {o:Oper} {a:Act} {Q:Exit→Act→World→Prop} {w W W1:World} {l:List Blk} {Kc:Act→World→Prop}
theorem asd_ {p:Prop} (h:p):Aside0 p:=⟨h⟩
theorem append1g_at {α:Type} {enc:α→Value} {h1:∀ x,(enc x).oneCell'=true} {e:Nat} {hE:∀ q,q∈e::(Kd.scalar enc h1).E→datT q=true} {v:Value} {xs:List α} {p:α} {g:Nat} {s x:Operand} {t:TypeId} {z:Value} {bytes:Nat}
  (H:At w (.b g (row #[enc p] e):: .f (Fact.rows (Kd.scalar enc h1) e w.heap.size hE v xs)::l) W) (hl:offT e l=true) (hgd:o.guard=none)
  (ho:o.op= .call {callee:= .builtin .append,args:=#[s,x],argTypes:=#[t,t]}) (ht:P.underlying t=some (.slice e)) (hinfo:(P.info? e).map (fun i=>(i.zero,i.size,i.bytes))=some (some z,1,bytes)) (hz:z.cells.size=1) (hb0:0 < bytes) (hs:a.eval s=v) (hx:a.eval x= .slice (some ⟨g,0,none⟩) 1 1) (hlen:(xs.length + 1) * bytes≤140737488355328)
  (h:∀ v1 w1,At w (.f (Fact.rows (Kd.scalar enc h1) e w.heap.size hE v1 (xs ++ [p]))::l) w1→W.grownBy w1 v.ownBlock→(v1.ownBlock=v.ownBlock∨∃ b,v1.ownBlock=some b∧W.heap.size≤b)→wpList P ops Q rest (a.put o.dst v1) w1):wpList P ops Q (o::rest) a W:=by
 have HO:Kd.R (Kd.scalar enc h1) e W w.heap.size (fun _=>True) v xs:=H.k.2.1
 refine Kd.R_append_rows (Kd.scalar enc h1) (w0:=w) w.heap.size hgd s x t e z bytes ho ht hinfo hz Nat.one_pos hb0 v xs [p] _ 1 1 (fun _=>True) (fun _=>False) hs hx HO (reads_one H.k.1) (fun x cs hc=>hc) (fun _ h=>h.elim) (fun _ _=>trivial) H.b H.b.size hlen ?_
 intro v1 w1 hR hB hg hat
 refine h v1 w1 ?_ hg hat
 obtain ⟨_,inner,hown,_⟩:=HO
 exact (H.drop.drop.grown hl (fun k hk=>⟨own_base hown k hk,own_typed hown k hk⟩) hg).fact _ hR
theorem kAny_row {e base:Nat} {ok:Nat→Prop} {v:Value} {xs:List {v:Value // v.oneCell'=true}} (h:Kd.R kAny e W base ok v xs):
  (v= .slice none 0 0∧xs=[])∨∃ g cap cur,v= .slice (some ⟨g,0,none⟩) xs.length cap∧base≤g∧W.heap[g]? =some (.cells cur e (0,0))∧∀ i,i < xs.length→cur[i]? =some ((xs.map (·.1)).getD i .nilIface):=by
 obtain ⟨_,inner,⟨hlen,hown⟩,hrl,hr⟩:=h
 rcases hown with ⟨rfl,h0⟩|⟨g,cap,cur,rfl,hb,hh,_,_,hcs,htk⟩
 ·exact .inl ⟨rfl,List.eq_nil_of_length_eq_zero h0⟩
 ·refine .inr ⟨g,cap,cur,rfl,hb,hh,fun i hi=> ?_⟩
  have h1:=hr i xs[i] (List.getElem?_eq_getElem hi)
  have h2:(inner.drop (i * 1)).take 1=[xs[i].1]:=h1
  have hil:i < inner.length:=by rw [hlen,show kAny.sz=1 from rfl];omega
  have h3:inner[i]? =some xs[i].1:=by
   rw [Nat.mul_one,List.drop_eq_getElem_cons hil] at h2
   simp only [List.take_succ_cons,List.take_zero,List.cons.injEq,and_true] at h2
   rw [List.getElem?_eq_getElem hil,h2]
  rw [← htk] at h3
  have h4:cur.toList[i]? =some xs[i].1:=by
   rw [List.getElem?_take] at h3
   split at h3
   ·exact h3
   ·cases h3
  rw [← Array.getElem?_toList,h4]
  simp [List.getD,hi]
end
def RowD (W:World) (base:Nat) (l:List S25) (v:Value):Prop:=
 (v= .slice none l.length 0∧l.length=0)∨∃ (b c:Nat) (cur:Array Value) (vs:List Value),v= .slice (some ⟨b,0,none⟩) l.length c∧base≤b∧W.heap[b]? =some (.cells cur 20 (0,0))∧vs.length=l.length∧(∀ i,i < l.length→cur[i]? =some (vs.getD i .nilIface))∧∀ i,i < l.length→OutD W (fun k=>base≤k) (l.getD i z25) (vs.getD i .nilIface)
theorem RowD.grow {W W1:World} {base:Nat} {l:List S25} {v:Value} (h:RowD W base l v) (hb:Below W.heap.size W W1):RowD W1 base l v:=by
 rcases h with h|⟨b,c,cur,vs,e,h1,h2,h3,h4,h5⟩
 ·exact Or.inl h
 ·exact Or.inr ⟨b,c,cur,vs,e,h1,blk_below h2 hb,h3,h4,fun i hi=>(h5 i hi).grow hb⟩
abbrev DeepC (y:S25) (w:World):Prop:=∀ W B4 B5 d4 d5,Below w.heap.size w W→Rep W y B4 d4 B5 d5→Calls Tryz.prog 29 #[.agg (jvc y B4 B5 d4 d5)] W fun e w'=>∃ v,e= .returned v∧OutD w' (fun k=>W.heap.size≤k) y v∧Below W.heap.size W w'
theorem values_deep (w:World) (A:Option Addr) (c:Nat) (l:List S25) (hx:Kd.C k25 w A l.length l) (hn:l.length≤LM)
  (hT:∀ y∈l,DeepC y w):
  Calls Tryz.prog 54 #[.slice A l.length c] w fun e w'=>∃ v,e= .returned v∧RowD w' w.heap.size l v∧Below w.heap.size w w':=by
 have Hx:=asd_ hx
 have HT:=asd_ hT
 have hnL:l.length≤LM:=Nat.le_trans hn (by decide)
 have Hn:=asd_ hnL
 clear hx hT hn hnL
 have HK:=st0_ w
 go_enter Tryz.func54,Tryz.ntmps54
 go_wp2_with (first|((with_reducible refine gd_ 6 ?_);refine lit0_at kAny 20 (hE:=E20) at_ rfl (N:=6) rfl gs_ ?_;intro v6 wl HK1;replace HK:=asd_ HK1;clear HK1))
 go_loopg [3,9] l.length (fun kq v3 v9 w'=>∃ (i:Int) (xs:List {v:Value // v.oneCell'=true}) (u3:Value),u3=v3∧v9= .int .i64 i∧0≤i∧i + kq=l.length∧(xs.length:Int)=i∧Aside0 (∀ j,j < xs.length→OutD w' (fun k=>w.heap.size≤k∧some k≠u3.ownBlock) (l.getD j z25) ((xs.map (·.1)).getD j .nilIface))∧Aside0 (At w [.f (Fact.rows kAny 20 w.heap.size E20 u3 xs)] w'))
 case atStart=>exact ⟨0,[],_,rfl,rfl,by omega,by omega,rfl,⟨fun j hj=>absurd hj (Nat.not_lt_zero _)⟩,⟨at_⟩⟩
 case round=>
  clear HK
  obtain ⟨i,xs,u3,rfl,rfl,hi0,hik,hxl,HD,HK⟩:=hrel
  cases gk with
  |zero=>
   have ht:decide (i < (l.length:Int))=false:=decide_eq_false (by omega)
   go_wp2_with fail
   go_ret
   have hR:Kd.R kAny 20 _ _ _ u3 xs:=HK.out.k.1
   have hl2:xs.length=l.length:=by omega
   refine ⟨u3,rfl,?_,HK.out.b⟩
   rcases kAny_row hR with ⟨e,hn⟩|⟨g,cap,cur,e,hb,hh,hc⟩
   ·refine Or.inl ⟨?_,by rw [← hl2,hn];rfl⟩
    rw [e,← hl2,hn];rfl
   ·refine Or.inr ⟨g,cap,cur,xs.map (·.1),by rw [e,hl2],hb,hh,by simpa using hl2,fun i hi=>hc i (by omega),fun i hi=> ?_⟩
    exact (HD.out i (by omega)).mono (fun k hk _=>hk.1)
  |succ kk=>
   have ht:decide (i < (l.length:Int))=true:=decide_eq_true (by omega)
   have hil:i < (l.length:Int):=by omega
   obtain ⟨ad5,B4,d4,B5,d5,e5,hc50,hc51,hc52,hc53,hc54,hc55,m4,n4,m5,n5⟩:=at_T25 Hx.out i hi0 hil
   subst e5
   have q0:=(HK.out.b.cell (World.block_lt_of_cell? _ _ hc50)).trans hc50
   have q1:=(HK.out.b.cell (World.block_lt_of_cell? _ _ hc51)).trans hc51
   have q2:=(HK.out.b.cell (World.block_lt_of_cell? _ _ hc52)).trans hc52
   have q3:=(HK.out.b.cell (World.block_lt_of_cell? _ _ hc53)).trans hc53
   have q4:=(HK.out.b.cell (World.block_lt_of_cell? _ _ hc54)).trans hc54
   have q5:=(HK.out.b.cell (World.block_lt_of_cell? _ _ hc55)).trans hc55
   clear hc50 hc51 hc52 hc53 hc54 hc55
   have hY:=rd_T25_in hi0 hil
   have HW:=HK
   have hlt:∀ k,u3.ownBlock=some k→k < wr.heap.size:=fun k hk=>by
    obtain ⟨cells,hc⟩:=own_typed (show Kd.R kAny 20 wr _ _ u3 xs from HW.out.k.1).2.choose_spec.1 k hk
    exact blk_lt hc
   have Hlt:=asd_ hlt
   clear hlt HK
   have HK:Aside0 (At wr [] wr):=asd_ (At.start wr)
   have Hik:=asd_ hik;have Hi0:=asd_ hi0;have Hil:=asd_ hil;have Hxl:=asd_ hxl;have HM:=asd_ (And.intro m4 (And.intro n4 (And.intro m5 n5)));have HY:=asd_ hY
   have p1:=eq_true hi0;have p2:=eq_true hil
   clear hik hi0 hil hxl m4 n4 m5 n5 hY
   go_wp2_with (first|((with_reducible refine gd_ 5 ?_);refine bx_ #[i0,bF,i0,eS,nilS,nilS] 25 ?_;clear HK;intro g5 wb5 HK Gg5;replace Bc:=ce1_ HK 0)|((with_reducible refine gd_ 14 ?_);refine lo_ 25 5 g5 (#[.int .i64 (rd_T25 l i).f0,.bool (rd_T25 l i).f1,.int .i64 (rd_T25 l i).f2,.string (rd_T25 l i).f3,.slice B4 (rd_T25 l i).f4.length d4,.slice B5 (rd_T25 l i).f5.length d5]) HK.out.k.1 Tryz.underlying25 ?_)|((with_reducible refine gd_ 15 ?_);refine cw_ #[.agg (#[.int .i64 (rd_T25 l i).f0,.bool (rd_T25 l i).f1,.int .i64 (rd_T25 l i).f2,.string (rd_T25 l i).f3,.slice B4 (rd_T25 l i).f4.length d4,.slice B5 (rd_T25 l i).f5.length d5])] Tryz.func29 (HT.out _ HY.out _ B4 B5 d4 d5 (below_step HW.out.b HK.out.b) ⟨Kd.C_below HM.out.2.1 (below_step HW.out.b HK.out.b),HM.out.1,Kd.C_below HM.out.2.2.2 (below_step HW.out.b HK.out.b),HM.out.2.2.1⟩) ?_;intro v15 wc15 HK1 hF hB;have HF:=asd_ (hF.mono (ok':=fun k=>wr.heap.size≤k) (fun k hk _=>Nat.le_trans HK.out.b.size hk));have HV:=asd_ HK1.b;clear hF hB HK1 HK;have HK:Aside0 (At wc15 [] wc15):=asd_ (At.start wc15))|((with_reducible refine gd_ 16 ?_);refine new_at at_ rfl (N:=16) rfl (ob:=row #[v15] 20) (v:=(fun b=> .slice (some ⟨b,0,none⟩) 1 1)) (by exact lit1_run Tryz.underlying117 info20 rfl rfl rfl HF.out.one) ?_;intro g16 wb16 HK1 hgg16;have Gg16:=asd_ hgg16;clear hgg16;replace HK:=asd_ HK1;clear HK1)|((with_reducible refine gate_builtin (b:= .append) (xs:=#[.tmp 13,.tmp 16]) rfl ?_);at_builtin;refine append1g_at (p:=⟨v15,HF.out.one⟩) (xs:=xs) (g:=g16) (t:=117) (s:= .tmp 13) (x:= .tmp 16) (((HW.out.step HV.out).step HK.out.b).hold HK.out.k.1 (by simp [nums])) rfl rfl rfl Tryz.underlying117 info20 rfl (by decide) rfl rfl (by have:=Hxl.out;have:=Hil.out;have:=Hn.out;simp only [LM] at this;omega) ?_;intro v17 wa17 HK1 hg17 ho17;have HG:=asd_ hg17;have HO:=asd_ ho17;have HB:=asd_ HK.out.b;clear hg17 ho17;replace HK:=asd_ HK1;clear HK1)|((with_reducible refine gate_ (.store 25 (.tmp 5) (.tmp 12)) rfl ?_);refine storerow_at (cs:=#[i0,bF,i0,eS,nilS,nilS]) (g:=g5) 0 (#[.int .i64 (rd_T25 l i).f0,.bool (rd_T25 l i).f1,.int .i64 (rd_T25 l i).f2,.string (rd_T25 l i).f3,.slice B4 (rd_T25 l i).f4.length d4,.slice B5 (rd_T25 l i).f5.length d5]) at_ rfl Gg5.out rfl rfl rfl rfl rfl rfl kr_ rfl (by simp [Value.oneCell']) ?_;intro wr1 HK1;replace HK:=asd_ HK1;clear HK1;replace Bc:=ce1_ HK 0))
   go_roundg kk
   case measure=>exact Nat.lt_succ_self _
   case rel=>
    have hB1:=HB.out
    have hbs:wr.heap.size≤wc15.heap.size:=HV.out.size
    have hnew:∀ k,u3.ownBlock=some k→k < wr.heap.size:=Hlt.out
    have hmv:∀ {x:S25} {v:Value} {W0 W1:World} {ok:Nat→Prop},OutD W0 ok x v→Below W0.heap.size W0 W1→W1.grownBy wa17 u3.ownBlock→(v17.ownBlock=u3.ownBlock∨∃ b,v17.ownBlock=some b∧W1.heap.size≤b)→(∀ k,ok k→w.heap.size≤k∧some k≠u3.ownBlock)→OutD wa17 (fun k=>w.heap.size≤k∧some k≠v17.ownBlock) x v:=
     fun h h1 h2 h3 h4=>(h.grow h1).move (fun k hk hl=>⟨⟨(h4 k hk).1,by
      rcases h3 with h3|⟨b,h3,hb⟩
      ·rw [h3];exact (h4 k hk).2
      ·rw [h3];intro e;cases e;omega⟩,h2.block k hl (h4 k hk).2⟩)
    refine ⟨wrap64 (i + 1),xs ++ [⟨v15,HF.out.one⟩],_,rfl,rfl,by have:=Hi0.out;rw [wup Hi0.out Hil.out Hn.out];omega,by have:=Hik.out;rw [wup Hi0.out Hil.out Hn.out];omega,by have:=Hxl.out;rw [wup Hi0.out Hil.out Hn.out];simp;omega,⟨?_⟩,HK⟩
    intro j hj
    by_cases hjx:j < xs.length
    ·have:=hmv (HD.out j hjx) (below_step HV.out HB.out) HG.out HO.out (fun k hk=>hk)
     simpa [List.getD,List.getElem?_append,hjx] using this
    ·have hje:j=xs.length:=by simp at hj;omega
     have hji:j=i.toNat:=by have:=Hxl.out;omega
     have:=hmv HF.out HB.out HG.out HO.out (fun k hk=>⟨Nat.le_trans HW.out.b.size hk,fun e=>by have:=hnew k e.symm;omega⟩)
     subst hji
     rw [hje]
     simpa [List.getD,rd_T25,hje] using this
end Go.Proofs.YtkphbhncpdcbeaaGreatDoor.J
namespace Go.Proofs.YtkphbhncpdcbeaaGreatDoor.J
open Go.RowKit YtkphbhncpdcbeaaGreatDoorW.PrintWords YtkphbhncpdcbeaaGreatDoorW.PrintLast YtkphbhncpdcbeaaGreatDoorW.PrintMore PJT
open Go.ChangeMaps Go.MapKept Go.WideShapes
open Go.Maps (Keyed IsMap)
section
variable {P:Program} {ops:Array Oper} {o:Oper} {a:Act} {Q:Exit→Act→World→Prop} {w W W1:World} {l:List Blk} {Kc:Act→World→Prop}
theorem mapputd_ {kt:TypeId} {R:RD} {es:Array MapEntry} {clock n g:Nat} {D:DataW Unit} (K:Keyed P kt) (k:Nat) (H:At w l W) (hk:l[k]? =some (.b g (.map es clock))) (hg:w.heap.size≤g) (M:MapIs P kt R es clock n D) (hn:n < maxLen) (hw:Region.wanted o (yielded ops a.tmps)=true) {m x v:Operand} {t e:TypeId} (ho:o.op= .mapUpdate t m x v) (hN:o.dst=none)
  (ht:P.underlying t=some (.map kt e)) (hm:a.eval m= .map (some g)) {key val:Value} {kl:Lit} (hx:a.eval x=key) (hv:a.eval v=val) (hkey:keyOf P kt key=some kl) {d:DataW Unit} {ps:List MemPlace} (hval:R val=some (d,ps))
  (h:∀ es' clock' w1,MapIs P kt R es' clock' (n + 1) (D.put kl d)→At w (l.set k (.b g (.map es' clock'))) w1→(∀ i,i≠g→w1.heap[i]? =W.heap[i]?)→Kc a w1):if Region.wanted o (yielded ops a.tmps)=true then Oper.wp P o a W Kc Q else Kc (a.put none undef) W:=by
 obtain ⟨w',hrun,r1,r2⟩:=(H.owns k hk M).store K ht hn hkey hval
 obtain ⟨es',c',M',H'⟩:=H.updated k hk hg r1 r2
 obtain ⟨e1,c1,e2,c2,hb,rfl⟩:=r2
 refine skip_ hw hN (w1:=_) ?_ (h es' c' _ M' H' (fun i hi=>heap_setBlock_other hb _ hi))
 simp [execOp,ho,hm,hx,hv,hrun,Result.andThen]
end
theorem value_obj (w:World) (x:S25) (A4 A5:Option Addr) (c4 c5:Nat) (hx:Rep w x A4 c4 A5 c5) (hn:x.f5.length≤LM) (h45:x.f4.length=x.f5.length) (ht4n:∀ s∈x.f4,s.size≤LM) (k1:(x.f0 == 1)=false) (k2:(x.f0 == 2)=false) (k3:(x.f0 == 3)=false) (k4:(x.f0 == 4)=false) (k5:(x.f0 == 5)=true)
  (hT:∀ y∈x.f5,DeepC y w):
  Calls Tryz.prog 29 #[.agg (jvc x A4 A5 c4 c5)] w fun e w'=>∃ g es ck vs,e= .returned (.iface 113 (.map (some g)))∧vs.length=x.f5.length∧MapIs Tryz.prog 9 RC es ck x.f5.length (mapV x.f4 vs)∧w'.heap[g]? =some (.map es ck)∧w.heap.size≤g∧(∀ i,i < x.f5.length→OutD w' (fun k=>w.heap.size≤k) (x.f5.getD i z25) (vs.getD i .nilIface))∧Below w.heap.size w w':=by
 have hmm:= @run_makeMap Tryz.prog
 have Hx:=asd_ hx
 have HT:=asd_ hT
 have H45:=asd_ h45
 clear hx hT
 have HK:=st0_ w
 go_enter Tryz.func29,Tryz.ntmps29
 go_wp2_with (first|((with_reducible refine gd_ 1 ?_);refine bx_ (jvc x A4 A5 c4 c5) 25 ?_;clear HK;intro g1 wb1 HK Gg1;replace Bc:=ce1_ HK 0)|((with_reducible refine gd_ 31 ?_);refine nw_ (.map #[] 0) (fun b=> .map (some b)) ?_;clear HK;intro gm wb31 HK Ggm;replace Bc:=ce1_ HK 1))
 go_loopg [35] x.f5.length (fun kq v35 w'=>∃ (i:Int) (es:Array MapEntry) (ck:Nat) (vs:List Value),v35= .int .i64 i∧0≤i∧i + kq=x.f5.length∧Aside0 ((vs.length:Int)=i)∧Aside0 (∀ j,j < vs.length→OutD w' (fun k=>gm < k) (x.f5.getD j z25) (vs.getD j .nilIface))∧Aside0 (MapIs Tryz.prog 9 RC es ck i.toNat (mapV (x.f4.take i.toNat) vs))∧Aside0 (At w [.b gm (.map es ck),.b g1 (row (jvc x A4 A5 c4 c5) 25)] w'))
 case atStart=>exact ⟨0,#[],0,[],rfl,by omega,by omega,⟨rfl⟩,⟨fun j hj=>absurd hj (Nat.not_lt_zero _)⟩,⟨map_made _ _ _⟩,⟨at_⟩⟩
 case round=>
  clear HK
  obtain ⟨i,es,ck,vs,rfl,hi0,hik,HL,HD,HM0,HK⟩:=hrel
  replace Bc:=ce1_ HK 1
  cases gk with
  |zero=>
   have ht:decide (i < (x.f5.length:Int))=false:=decide_eq_false (by omega)
   go_wp2_with fail
   go_ret
   have hl2:x.f4.take i.toNat=x.f4:=List.take_of_length_le (by omega)
   have hM:=HM0.out;rw [hl2] at hM
   have hvl:vs.length=x.f5.length:=by have:=HL.out;omega
   exact ⟨gm,es,ck,vs,rfl,hvl,⟨hM.fit,by have:=hM.size;omega,hM.eq⟩,HK.out.k.1,Ggm.out,fun j hj=>(HD.out j (by omega)).mono (fun k hk _=>Nat.le_of_lt (Nat.lt_of_le_of_lt Ggm.out hk)),HK.out.b⟩
  |succ kk=>
   have ht:decide (i < (x.f5.length:Int))=true:=decide_eq_true (by omega)
   have hil:i < (x.f5.length:Int):=by omega
   have hi4:i < (x.f4.length:Int):=by omega
   have ht4:decide (i < (x.f4.length:Int))=true:=decide_eq_true hi4
   obtain ⟨ad5,B4,d4,B5,d5,e5,hc50,hc51,hc52,hc53,hc54,hc55,m4,n4,m5,n5⟩:=at_T25 Hx.out.h5 i hi0 hil
   obtain ⟨ad4,e4,hc4⟩:=Kd.at_string Hx.out.h4 i hi0 hi4
   subst e5 e4
   have q0:=(HK.out.b.cell (World.block_lt_of_cell? _ _ hc50)).trans hc50
   have q1:=(HK.out.b.cell (World.block_lt_of_cell? _ _ hc51)).trans hc51
   have q2:=(HK.out.b.cell (World.block_lt_of_cell? _ _ hc52)).trans hc52
   have q3:=(HK.out.b.cell (World.block_lt_of_cell? _ _ hc53)).trans hc53
   have q4:=(HK.out.b.cell (World.block_lt_of_cell? _ _ hc54)).trans hc54
   have q5:=(HK.out.b.cell (World.block_lt_of_cell? _ _ hc55)).trans hc55
   have hY:=rd_T25_in hi0 hil
   have HW:=HK
   have hgm:gm < wr.heap.size:=blk_lt HW.out.k.1
   have Hgm:=asd_ hgm
   clear hgm HK
   have HK:Aside0 (At wr [] wr):=asd_ (At.start wr)
   have bg1:=cE_ HW 1
   have hkey:keyOf Tryz.prog 9 (.string (rdOf ByteArray.empty x.f4 i))=some (lit (rdOf ByteArray.empty x.f4 i)):=key_of (ht4n _ (by unfold rdOf;rw [getD_lt (by omega)];exact List.getElem_mem _))
   have Hkey:=asd_ hkey;have Hik:=asd_ hik;have Hi0:=asd_ hi0;have Hil:=asd_ hil;have HN:=asd_ (And.intro m4 (And.intro n4 (And.intro m5 n5)));have HY:=asd_ hY;have Hc4:=asd_ ((HW.out.b.cell (World.block_lt_of_cell? _ _ hc4)).trans hc4);have HG1:=asd_ HW.out.k.2.1
   have p1:=eq_true hi0;have p2:=eq_true hil;have p3:=eq_true hi4
   clear hkey hik hi0 hil hi4 hc4 m4 n4 m5 n5 hY hc50 hc51 hc52 hc53 hc54 hc55
   go_wp2_with (first|((with_reducible refine gd_ 5 ?_);refine bx_ #[i0,bF,i0,eS,nilS,nilS] 25 ?_;clear HK;intro g5 wb5 HK Gg5;have bg1:=cel_ (blk_below HG1.out HK.out.b);replace Bc:=ce1_ HK 0)|((with_reducible refine gate_ (.store 25 (.tmp 5) (.tmp 39)) rfl ?_);refine storerow_at (cs:=#[i0,bF,i0,eS,nilS,nilS]) (g:=g5) 0 (#[.int .i64 (rd_T25 x.f5 i).f0,.bool (rd_T25 x.f5 i).f1,.int .i64 (rd_T25 x.f5 i).f2,.string (rd_T25 x.f5 i).f3,.slice B4 (rd_T25 x.f5 i).f4.length d4,.slice B5 (rd_T25 x.f5 i).f5.length d5]) at_ rfl Gg5.out rfl rfl rfl rfl rfl rfl kr_ rfl (by simp [Value.oneCell']) ?_;intro wr1 HK1;replace HK:=asd_ HK1;clear HK1;have bg1:=cel_ (blk_below HG1.out HK.out.b);replace Bc:=ce1_ HK 0))
   refine st_ 9 (fun w'=>At wr [.b g5 (row (#[.int .i64 (rd_T25 x.f5 i).f0,.bool (rd_T25 x.f5 i).f1,.int .i64 (rd_T25 x.f5 i).f2,.string (rd_T25 x.f5 i).f3,.slice B4 (rd_T25 x.f5 i).f4.length d4,.slice B5 (rd_T25 x.f5 i).f5.length d5]) 25)] w'∧(∀ j,w'.cell? ⟨g1,j,none⟩=(jvc x (some ad4) (some ad5) c4 c5:Array Value)[j]?)∧(∀ j,w'.cell? ⟨g5,j,none⟩=(#[.int .i64 (rd_T25 x.f5 i).f0,.bool (rd_T25 x.f5 i).f1,.int .i64 (rd_T25 x.f5 i).f2,.string (rd_T25 x.f5 i).f3,.slice B4 (rd_T25 x.f5 i).f4.length d4,.slice B5 (rd_T25 x.f5 i).f5.length d5]:Array Value)[j]?)∧w'.cell? (ad4.add i.toNat)=some (.string (rdOf ByteArray.empty x.f4 i))) [8] (fun A=>⟨A,(cel_ (blk_below HG1.out A.b)),(cA_ A 0),((A.b.cell (World.block_lt_of_cell? wr _ Hc4.out)).trans Hc4.out)⟩) (fun hHeld=> ?_)
   refine pu_ 0 45 1 ?_
   refine pu_ 1 46 3 ?_
   refine pu_ 3 48 11 ?_
   refine ta4_ 2 47 15 hHeld ?_
   refine pu_ 4 49 31 ?_
   refine ta4_ 5 50 63 hHeld ?_
   refine on_ 6 51 127 (fun K hK=> ?_)
   refine loadr_ (ty:=25) (x:= .tmp 5) g5 (#[.int .i64 (rd_T25 x.f5 i).f0,.bool (rd_T25 x.f5 i).f1,.int .i64 (rd_T25 x.f5 i).f2,.string (rd_T25 x.f5 i).f3,.slice B4 (rd_T25 x.f5 i).f4.length d4,.slice B5 (rd_T25 x.f5 i).f5.length d5]) (by rfl) rfl rfl rfl hHeld.1.k.1 Tryz.underlying25 rfl kr_ ?_
   refine hK.out _ _ ⟨hHeld.1,hHeld.2.1,hHeld.2.2.1,hHeld.2.2.2⟩ (fun hHeld=> ?_)
   clear hK K
   refine nq_ 51 ?_
   refine on_ 7 52 255 (fun K hK=> ?_)
   have HE:=asd_ (hHeld.1)
   refine ge_ Tryz.func29 #[.agg (#[.int .i64 (rd_T25 x.f5 i).f0,.bool (rd_T25 x.f5 i).f1,.int .i64 (rd_T25 x.f5 i).f2,.string (rd_T25 x.f5 i).f3,.slice B4 (rd_T25 x.f5 i).f4.length d4,.slice B5 (rd_T25 x.f5 i).f5.length d5])] ?_
   with_reducible refine (HT.out _ HY.out _ B4 B5 d4 d5 (below_step HW.out.b HE.out.b) ⟨Kd.C_below HN.out.2.1 (below_step HW.out.b HE.out.b),HN.out.1,Kd.C_below HN.out.2.2.2 (below_step HW.out.b HE.out.b),HN.out.2.2.1⟩).mono ?_
   rintro e w3 ⟨v52,rfl,hF,hb⟩
   refine ⟨_,rfl,?_⟩
   have HF:=asd_ (hF.mono (ok':=fun k=>gm < k) (fun k hk _=>Nat.lt_of_lt_of_le Hgm.out (Nat.le_trans HE.out.b.size hk)))
   clear hF
   have HE0:=At.step HE.out hb
   replace HE:=asd_ HE0;clear HE0
   refine hK.out _ _ ⟨HE.out,(cel_ (blk_below HG1.out HE.out.b)),(cE_ HE 0),((HE.out.b.cell (World.block_lt_of_cell? wr _ Hc4.out)).trans Hc4.out)⟩ (fun hHeld=> ?_)
   clear hK K
   refine nq_ 52 ?_
   refine lz_ 8 511 (fun K hK=> ?_)
   refine mapputd_ KS 0 (HW.out.step HE.out.b) rfl Ggm.out HM0.out (by have:=Hi0.out;have:=Hil.out;have h2:=hn;simp only [LM] at h2;unfold maxLen;omega) (by rfl) rfl rfl Tryz.underlying113 rfl rfl rfl Hkey.out (RC_cd HF.out.coded) ?_
   intro es2 ck2 w4 HM2 HE0 hne
   have HM2:=asd_ HM2;have HV:=asd_ HE.out.b;have Hne:=asd_ hne
   clear hne
   replace HE:=asd_ HE0;clear HE0
   refine hK.out _ _ ?_
   clear hK K
   refine done_ kr_ ?_
   clear HK;have HK:=HE;clear HE
   clear hHeld
   replace Bc:=ce1_ HK 1
   go_wp2_with fail
   go_roundg kk
   case measure=>exact Nat.lt_succ_self _
   case rel=>
    have e1:wrap64 (i + 1)=i + 1:=wup Hi0.out Hil.out (Nat.le_trans hn (by decide))
    have e2:(i + 1).toNat=i.toNat + 1:=by have:=Hi0.out;omega
    have hvl:vs.length=i.toNat:=by have:=HL.out;omega
    refine ⟨wrap64 (i + 1),es2,ck2,vs ++ [v52],rfl,by have:=Hi0.out;rw [e1];omega,by have:=Hik.out;rw [e1];omega,⟨by have:=Hi0.out;rw [e1];simp;omega⟩,⟨?_⟩,⟨?_⟩,HK⟩
    ·intro j hj
     have hmv:∀ {x:S25} {v:Value},OutD w3 (fun k=>gm < k) x v→OutD w4 (fun k=>gm < k) x v:=fun h=>h.move (fun k hk hl=>⟨hk,Hne.out k (by omega)⟩)
     by_cases hjx:j < vs.length
     ·have:=hmv ((HD.out j hjx).grow HV.out)
      simpa [List.getD,List.getElem?_append,hjx] using this
     ·have hje:j=vs.length:=by simp at hj;omega
      have:=hmv HF.out
      rw [hje]
      simpa [List.getD,rd_T25,hvl] using this
    ·rw [e1,e2,take_snoc (by have:=Hi0.out;have:=Hil.out;omega),mapV_snoc _ _ (by rw [List.length_take,hvl];have:=Hi0.out;have:=Hil.out;omega)];exact HM2.out
theorem RowD.low {W:World} {b b':Nat} {l:List S25} {v:Value} (h:RowD W b l v) (hb:b'≤b):RowD W b' l v:=by
 rcases h with h|⟨k,c,cur,vs,e,h1,h2,h3,h4,h5⟩
 ·exact Or.inl h
 ·exact Or.inr ⟨k,c,cur,vs,e,Nat.le_trans hb h1,h2,h3,h4,fun i hi=>(h5 i hi).mono (fun k hk _=>Nat.le_trans hb hk)⟩
theorem value_arr (w:World) (x:S25) (A4 A5:Option Addr) (c4 c5:Nat) (hx:Rep w x A4 c4 A5 c5) (hn:x.f5.length≤LM) (k1:(x.f0 == 1)=false) (k2:(x.f0 == 2)=false) (k3:(x.f0 == 3)=false) (k4:(x.f0 == 4)=true)
  (hT:∀ y∈x.f5,DeepC y w):
  Calls Tryz.prog 29 #[.agg (jvc x A4 A5 c4 c5)] w fun e w'=>∃ v,e= .returned (.iface 117 v)∧RowD w' w.heap.size x.f5 v∧Below w.heap.size w w':=by
 have Hx:=asd_ hx
 have HT:=asd_ hT
 clear hx hT
 have HK:=st0_ w
 go_enter Tryz.func29,Tryz.ntmps29
 go_wp2_with (first|((with_reducible refine gd_ 1 ?_);refine bx_ (jvc x A4 A5 c4 c5) 25 ?_;clear HK;intro g1 wb1 HK Gg1;replace Bc:=ce1_ HK 0)|((with_reducible refine gd_ 27 ?_);refine cw_ #[.slice A5 x.f5.length c5] Tryz.func54 (values_deep _ A5 c5 x.f5 (Kd.C_below Hx.out.h5 HK.out.b) hn (fun y hy W B4 B5 d4 d5 hb=>HT.out y hy W B4 B5 d4 d5 (below_step HK.out.b hb))) ?_;intro v27 wc27 HK1 hF hB;have HF:=asd_ (RowD.low hF HK.out.b.size);clear hB hF;replace HK:=asd_ HK1;clear HK1;replace Bc:=ce1_ HK 0))
 go_ret
 exact ⟨_,rfl,HF.out,be_⟩
theorem value_deep {x:S25} (hV:V x):∀ (w:World),DeepC x w:=by
 induction hV with
 | @mk x k0 k5 k2 n3 n4 n5 t4 ee sub ih=>
  intro w W A4 A5 c4 c5 _ hx
  have hT:∀ y∈x.f5,DeepC y W:=fun y hy=>ih y hy W
  have hk:x.f0=0∨x.f0=1∨x.f0=3∨x.f0=4∨x.f0=5:=by omega
  rcases hk with h|h|h|h|h
  ·refine (value_null W x A4 A5 c4 c5 (beq_f (by omega)) (beq_f (by omega)) (beq_f (by omega)) (beq_f (by omega)) (beq_f (by omega))).mono ?_
   rintro e w' ⟨rfl,hb⟩
   exact ⟨_,rfl,.null h,hb⟩
  ·refine (value_bool W x A4 A5 c4 c5 (beq_t h)).mono ?_
   rintro e w' ⟨rfl,hb⟩
   exact ⟨_,rfl,.bool h,hb⟩
  ·refine (value_text W x A4 A5 c4 c5 (beq_f (by omega)) (beq_f (by omega)) (beq_t h)).mono ?_
   rintro e w' ⟨rfl,hb⟩
   exact ⟨_,rfl,.text h,hb⟩
  ·refine (value_arr W x A4 A5 c4 c5 hx n5 (beq_f (by omega)) (beq_f (by omega)) (beq_f (by omega)) (beq_t h) hT).mono ?_
   rintro e w' ⟨v,rfl,hR,hb⟩
   rcases hR with ⟨rfl,h0⟩|⟨b,c,cur,vs,rfl,h1,h2,h3,h4,h5⟩
   ·exact ⟨_,rfl,.empty h 0 h0,hb⟩
   ·exact ⟨_,rfl,.array h b c cur vs h3 h1 h2 h4 h5,hb⟩
  ·refine (value_obj W x A4 A5 c4 c5 hx n5 (ee h) t4 (beq_f (by omega)) (beq_f (by omega)) (beq_f (by omega)) (beq_f (by omega)) (beq_t h) hT).mono ?_
   rintro e w' ⟨g,es,ck,vs,rfl,h1,h2,h3,h4,h5,hb⟩
   exact ⟨_,rfl,.object h g es ck vs h1 (ee h) h4 h3 h2 h5,hb⟩
end Go.Proofs.YtkphbhncpdcbeaaGreatDoor.J
namespace Go.Proofs.YtkphbhncpdcbeaaGreatDoor.J
open Go.RowKit YtkphbhncpdcbeaaGreatDoorW.PrintWords YtkphbhncpdcbeaaGreatDoorW.PrintLast YtkphbhncpdcbeaaGreatDoorW.PrintMore PJT
abbrev vdc (vv:Value) (ad:Addr) (sp cp up er:Value):Array Value:=#[vv,.slice (some ad) 0 8,sp,cp,up,er,.bool false]
theorem zero20 (W:World):(zeroValue 20).run Tryz.prog W= .ok .nilIface W:=by kernel_rfl
theorem mem_iff {xs:List ByteArray} {s:ByteArray}:mem xs s↔s∈xs:=by
 constructor
 ·rintro ⟨y,hy,e⟩
  have:y=s:=WideShapes.bytes_inj (by rw [← ByteArray.toList_eq,← ByteArray.toList_eq];exact e)
  exact this ▸ hy
 ·exact fun h=>⟨s,h,rfl⟩
theorem some_of {α:Type} {d:Kd α} {w:World} {A:Option Addr} {n:Nat} {xs:List α} (h:Kd.C d w A n xs) (h0:0 < n):∃ ad,A=some ad:=by
 obtain ⟨ad,e,_⟩:=h.2.2 h0
 exact ⟨ad,e⟩
end Go.Proofs.YtkphbhncpdcbeaaGreatDoor.J
