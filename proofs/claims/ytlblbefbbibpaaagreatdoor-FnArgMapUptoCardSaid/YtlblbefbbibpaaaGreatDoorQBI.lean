/- Part. -/
import Derived.Test.YtlblbefbbibpaaaGreatDoorQBH
import Derived.Test.YtlblbefbbibpaaaGreatDoorQBG
import Derived.Test.YtlblbefbbibpaaaGreatDoorQAS
set_option linter.unusedVariables false
set_option linter.unusedSimpArgs false
set_option maxHeartbeats 8000000
set_option maxRecDepth 100000
namespace Go.Proofs.YtlblbefbbibpaaaGreatDoor.J
open Go.RowKit Zw Zw.PrintWords Zw.PrintLast Zw.PrintMore PAM
theorem len_ok (x:Int) (w:World) (h0:0≤x) (h1:x≤18446744073709551615):Calls Tryz.prog 76 #[.int .u64 x] w fun e w'=>e= .returned (.int .i64 (Lib.bitLen x.toNat))∧Below w.heap.size w w':=
 (Tryz.bits_Len64 x w h0 h1).mono fun _ _ ⟨e1,e2⟩=>⟨e1,by rw [e2];exact Below.refl _ _⟩
theorem bitLenAux_le:∀ f x:Nat,Lib.bitLenAux f x≤f
 |0,_=>Nat.le_refl _
 |f + 1,x=>by
  have:=bitLenAux_le f (x / 2)
  unfold Lib.bitLenAux
  split<;>omega
theorem bitLen_le (n:Nat):Lib.bitLen n≤64:=bitLenAux_le 64 n
def rnd (a:Int):Int:=(strconv_unrounded_round.f a).getD 0
theorem rnd_ok (a:Int) (w:World):Calls Tryz.prog 138 #[.int .u64 a] w fun e w'=>e= .returned (.int .u64 (rnd a))∧Below w.heap.size w w':=(strconv_unrounded_round.calls a _ w rfl).mono fun _ _ h=>⟨h.1,h.2.below⟩
theorem l2p_ok (a:Int) (w:World):Calls Tryz.prog 132 #[.int .i64 a] w fun e w'=>e= .returned (.int .i64 (wrap64 (a * 108853) / 32768))∧Below w.heap.size w w':=(strconv_log2Pow10.calls a _ w rfl).mono fun _ _ h=>⟨h.1,h.2.below⟩
theorem umn_ok (w:World):Calls Tryz.prog 136 #[.int .u64 9007199254740992] w fun e w'=>e= .returned (.int .u64 36028797018963966)∧Below w.heap.size w w':=(strconv_unmin.calls 9007199254740992 36028797018963966 w (by decide)).mono fun _ _ h=>⟨h.1,h.2.below⟩
def pf64 (d p sign:Int):Int×Bool:=
 let b:=Lib.bitLen d.toNat
 let lp:=p * 108853 / 32768
 let e:=if 53 - (b:Int) - lp < 1074 then 53 - (b:Int) - lp else 1074
 let k:=(p + 348).toNat
 let s:= -(e - (64 - (b:Int)) + lp + 3)
 if 64≤s then (bits .or .u64 sign 0,false) else
 let u:=usc (IntKind.u64.wrap (d * 2 ^ (64 - b))) (p10 k).1 (p10 k).2 s
 if 36028797018963966≤u then pk64 (bits .or .u64 sign (rnd (bits .or .u64 (u / 2) (bits .and .u64 u 1)))) (-(e - 1)) else
 pk64 (bits .or .u64 sign (rnd (bits .or .u64 u (bits .and .u64 u 1)))) (-e)
theorem pf64_ok (d p sign:Int) (w:World) (hT:Tens w) (hd0:0≤d) (hd1:d≤18446744073709551615) (hp1: -348≤p) (hp2:p≤347):
  Calls Tryz.prog 121 #[.int .u64 d,.int .i64 p,.int .u64 sign] w fun e w'=>e= .returned (.tuple #[.float .f64 (pf64 d p sign).1.toNat,erv (pf64 d p sign).2])∧Below w.heap.size w w':=by
 obtain ⟨r,hr⟩:∃ r,pf64 d p sign=r:=⟨_,rfl⟩;rw [hr];unfold pf64 at hr;dsimp only at hr
 obtain ⟨k,hk⟩:∃ k:Nat,(p + 348).toNat=k:=⟨_,rfl⟩;rw [hk] at hr;have Hkb:Aside0 (k < 696):=⟨by omega⟩;have Hkp:Aside0 (p=(k:Int) - 348):=⟨by omega⟩
 obtain ⟨b,hb⟩:∃ b,Lib.bitLen d.toNat=b:=⟨_,rfl⟩;have hb64:b≤64:=(by rw [← hb];exact bitLen_le _);rw [hb] at hr;have Hb:=asd_ hb;clear hb hk;obtain ⟨HT,Hd0,Hd1⟩:=as3_ hT hd0 hd1;clear hT hd0 hd1
 obtain ⟨lp,hlp⟩:∃ lp,p * 108853 / 32768=lp:=⟨_,rfl⟩;rw [hlp] at hr;have hl1: -1160≤lp:=(by omega);have hl2:lp≤1160:=(by omega);have Hlp:Aside0 (wrap64 (p * 108853) / 32768=lp):=⟨by rw [wrap64_in _ (by omega) (by omega)];exact hlp⟩;clear hlp hp1 hp2
 obtain ⟨j,hj⟩:∃ j,64 - b=j:=⟨_,rfl⟩;have hj2:(64:Int) - (b:Int)=(j:Int):=(by omega);have hj64:j≤64:=(by omega);rw [hj,hj2] at hr
 obtain ⟨q,hq⟩:∃ q,53 - (b:Int) - lp=q:=⟨_,rfl⟩;rw [hq] at hr;obtain ⟨e,he⟩:∃ e,(if q < 1074 then q else 1074)=e:=⟨_,rfl⟩;rw [he] at hr;have hq1: -1180≤q:=(by omega);have hq2:q≤1220:=(by omega);have he1: -1180≤e:=(by rw [← he];split<;>omega);have he2:e≤1074:=(by rw [← he];split<;>omega)
 have hmin:(if q < 1074 then Value.int .i64 q else Value.int .i64 1074)=Value.int .i64 e:=by rw [← he];split<;>rfl
 have hmin2:(if q < 1074 then q else 1074)=e:=he
 have hminb:(if (1074:Int) < q then 1074 else q)=e:=by rw [← he];split<;>split<;>omega
 have hminc:min (1074:Int) q=e:=by rw [← he];split<;>omega
 have g1:IntKind.i64.wrap (53 - (b:Int))=53 - (b:Int):=IntWalk.i64_in _ (by omega);have g2:IntKind.i64.wrap (53 - (b:Int) - lp)=q:=(IntWalk.i64_in _ (by omega)).trans hq;have g3:IntKind.i64.wrap (64 - (b:Int))=(j:Int):=(IntWalk.i64_in _ (by omega)).trans hj2
 obtain ⟨ee,hee⟩:∃ ee,e - (j:Int)=ee:=⟨_,rfl⟩;rw [hee] at hr;have g4:IntKind.i64.wrap (e - (j:Int))=ee:=(IntWalk.i64_in _ (by omega)).trans hee
 obtain ⟨sv,hsv⟩:∃ sv,-(ee + lp + 3)=sv:=⟨_,rfl⟩;rw [hsv] at hr;have hws:wrap64 (-wrap64 (wrap64 (ee + lp) + 3))=sv:=(by rw [wrap64_in (ee + lp) (by omega) (by omega),wrap64_in (ee + lp + 3) (by omega) (by omega),wrap64_in _ (by omega) (by omega)];exact hsv)
 have g5:IntKind.i64.wrap (e - 1)=e - 1:=IntWalk.i64_in _ (by omega);have g6:IntKind.i64.wrap (-(e - 1))= -(e - 1):=IntWalk.i64_in _ (by omega);have g7:IntKind.i64.wrap (-e)= -e:=IntWalk.i64_in _ (by omega);have g8:IntKind.i64.wrap e=e:=IntWalk.i64_in _ (by omega)
 have Hws:=asd_ hws;have j0:(0:Int)≤(j:Int):=(by omega);clear hws hsv hee he hq hj hj2 hq1 hq2 hl1 hl2 he1 he2
 have HK:=st0_ w
 have Hpre:Aside0 (∀ (g:Nat) (W:World),w.heap.size≤g→At w [.b g (row (#[.int .u64 0,.int .u64 0,.int .i64 0]) 256)] W→Calls Tryz.prog 133 #[.pointer (some ⟨g,0,none⟩),.int .i64 ee,.int .i64 p,.int .i64 lp] W fun e' w'=>e'= .returned (.tuple #[])∧At w [.b g (row (#[.int .u64 (p10 k).1,.int .u64 (p10 k).2,.int .i64 sv]) 256)] w'):=⟨fun g W hg hW=>by rw [← Hws.out];exact pre_ok ee p lp k Hkb.out Hkp.out HT.out hg hW⟩
 by_cases hs:64≤sv
 case pos=>
  rw [if_pos hs] at hr;have f0:decide (64≤sv)=true:=decide_eq_true hs;have Hr:=asd_ hr;clear hr hs
  go_enter Tryz.func121,Tryz.ntmps121
  go_wp2_with (first|((with_reducible refine gd_ 11 ?_);refine bx_ #[.int .u64 0,.int .u64 0,.int .i64 0] 256 ?_;clear HK;intro g wb11 HK Gg;replace Bc:=ce1_ HK 0;replace Bf:=fe1_ HK 0)|((with_reducible refine gd_ 29 ?_);refine call_to #[.pointer (some ⟨g,0,none⟩),.int .i64 ee,.int .i64 p,.int .i64 lp] (.tuple #[]) _ rfl Tryz.func133 kr_ rfl rfl ar_ (Hpre.out _ _ Gg.out at_) ?_;rintro wc29 HK1;replace HK:=asd_ HK1;clear HK1;skip;replace Bc:=ce1_ HK 0;replace Bf:=fe1_ HK 0)|((with_reducible refine gd_ 35 ?_);refine from_at (bits .or .u64 sign 0) ((bits .or .u64 sign 0).toNat) rfl rfl rfl ar_ ?_)|((first|((with_reducible refine gd_ 15 ?_);refine cl_ #[.int .u64 d] (.int .i64 (b:Nat)) Tryz.func76 (by rw [← Hb.out];exact len_ok _ _ Hd0.out Hd1.out) ?_)|((with_reducible refine gd_ 17 ?_);refine cl_ #[.int .i64 p] (.int .i64 lp) Tryz.func132 (by rw [← Hlp.out];exact l2p_ok _ _) ?_));intro wc15 HK1;replace HK:=asd_ HK1;clear HK1;skip))
  go_ret2
  exact ⟨by rw [← Hr.out];rfl,be_⟩
 case neg=>
  rw [if_neg hs] at hr;have f0:decide (64≤sv)=false:=decide_eq_false hs;obtain ⟨u,hu⟩:∃ u,usc (IntKind.u64.wrap (d * 2 ^ j)) (p10 k).1 (p10 k).2 sv=u:=⟨_,rfl⟩;rw [hu] at hr;have Hu:=asd_ hu;clear hu hs
  by_cases h3:36028797018963966≤u
  case pos=>
   rw [if_pos h3] at hr;have f1:decide (36028797018963966≤u)=true:=decide_eq_true h3;have Hr:=asd_ hr;clear hr h3
   go_enter Tryz.func121,Tryz.ntmps121
   go_wp2_with (first|((with_reducible refine gd_ 11 ?_);refine bx_ #[.int .u64 0,.int .u64 0,.int .i64 0] 256 ?_;clear HK;intro g wb11 HK Gg;replace Bc:=ce1_ HK 0;replace Bf:=fe1_ HK 0)|((with_reducible refine gd_ 29 ?_);refine call_to #[.pointer (some ⟨g,0,none⟩),.int .i64 ee,.int .i64 p,.int .i64 lp] (.tuple #[]) _ rfl Tryz.func133 kr_ rfl rfl ar_ (Hpre.out _ _ Gg.out at_) ?_;rintro wc29 HK1;replace HK:=asd_ HK1;clear HK1;skip;replace Bc:=ce1_ HK 0;replace Bf:=fe1_ HK 0)|((first|((with_reducible refine gd_ 15 ?_);refine cl_ #[.int .u64 d] (.int .i64 (b:Nat)) Tryz.func76 (by rw [← Hb.out];exact len_ok _ _ Hd0.out Hd1.out) ?_)|((with_reducible refine gd_ 17 ?_);refine cl_ #[.int .i64 p] (.int .i64 lp) Tryz.func132 (by rw [← Hlp.out];exact l2p_ok _ _) ?_));intro wc15 HK1;replace HK:=asd_ HK1;clear HK1;skip)|((first|((with_reducible refine gd_ 40 ?_);refine cl_ #[.int .u64 (IntKind.u64.wrap (d * 2 ^ j)),.pointer (some ⟨g,0,none⟩)] (.int .u64 u) Tryz.func134 (by rw [← Hu.out];exact usc_ok _ _ _ _ HK.out.k.1) ?_)|((with_reducible refine gd_ 42 ?_);refine cl_ #[.int .u64 9007199254740992] (.int .u64 36028797018963966) Tryz.func136 (umn_ok _) ?_)|((with_reducible refine gd_ 44 ?_);refine cl_ #[.bool true] (.int .i64 1) Tryz.func135 (b2i true _) ?_)|((with_reducible refine gd_ 56 ?_);refine call_at #[.int .u64 (bits .or .u64 (u / 2) (bits .and .u64 u 1))] (.int .u64 (rnd (bits .or .u64 (u / 2) (bits .and .u64 u 1)))) at_ rfl Tryz.func138 kr_ rfl rfl ar_ (rnd_ok _ _) ?_)|((with_reducible refine gd_ 60 ?_);refine cl_ #[.int .u64 (bits .or .u64 sign (rnd (bits .or .u64 (u / 2) (bits .and .u64 u 1)))),.int .i64 (-(e - 1))] (.tuple #[.float .f64 r.1.toNat,erv r.2]) Tryz.func141 (by rw [← Hr.out];exact pk64_ok _ _ _) ?_));intro wc40 HK1;replace HK:=asd_ HK1;clear HK1;replace Bc:=ce1_ HK 0;replace Bf:=fe1_ HK 0))
   go_ret2
   exact ⟨rfl,be_⟩
  case neg=>
   rw [if_neg h3] at hr;have f1:decide (36028797018963966≤u)=false:=decide_eq_false h3;have Hr:=asd_ hr;clear hr h3
   go_enter Tryz.func121,Tryz.ntmps121
   go_wp2_with (first|((with_reducible refine gd_ 11 ?_);refine bx_ #[.int .u64 0,.int .u64 0,.int .i64 0] 256 ?_;clear HK;intro g wb11 HK Gg;replace Bc:=ce1_ HK 0;replace Bf:=fe1_ HK 0)|((with_reducible refine gd_ 29 ?_);refine call_to #[.pointer (some ⟨g,0,none⟩),.int .i64 ee,.int .i64 p,.int .i64 lp] (.tuple #[]) _ rfl Tryz.func133 kr_ rfl rfl ar_ (Hpre.out _ _ Gg.out at_) ?_;rintro wc29 HK1;replace HK:=asd_ HK1;clear HK1;skip;replace Bc:=ce1_ HK 0;replace Bf:=fe1_ HK 0)|((first|((with_reducible refine gd_ 15 ?_);refine cl_ #[.int .u64 d] (.int .i64 (b:Nat)) Tryz.func76 (by rw [← Hb.out];exact len_ok _ _ Hd0.out Hd1.out) ?_)|((with_reducible refine gd_ 17 ?_);refine cl_ #[.int .i64 p] (.int .i64 lp) Tryz.func132 (by rw [← Hlp.out];exact l2p_ok _ _) ?_));intro wc15 HK1;replace HK:=asd_ HK1;clear HK1;skip)|((first|((with_reducible refine gd_ 40 ?_);refine cl_ #[.int .u64 (IntKind.u64.wrap (d * 2 ^ j)),.pointer (some ⟨g,0,none⟩)] (.int .u64 u) Tryz.func134 (by rw [← Hu.out];exact usc_ok _ _ _ _ HK.out.k.1) ?_)|((with_reducible refine gd_ 42 ?_);refine cl_ #[.int .u64 9007199254740992] (.int .u64 36028797018963966) Tryz.func136 (umn_ok _) ?_)|((with_reducible refine gd_ 44 ?_);refine cl_ #[.bool false] (.int .i64 0) Tryz.func135 (b2i false _) ?_)|((with_reducible refine gd_ 56 ?_);refine call_at #[.int .u64 (bits .or .u64 u (bits .and .u64 u 1))] (.int .u64 (rnd (bits .or .u64 u (bits .and .u64 u 1)))) at_ rfl Tryz.func138 kr_ rfl rfl ar_ (rnd_ok _ _) ?_)|((with_reducible refine gd_ 60 ?_);refine cl_ #[.int .u64 (bits .or .u64 sign (rnd (bits .or .u64 u (bits .and .u64 u 1)))),.int .i64 (-e)] (.tuple #[.float .f64 r.1.toNat,erv r.2]) Tryz.func141 (by rw [← Hr.out];exact pk64_ok _ _ _) ?_));intro wc40 HK1;replace HK:=asd_ HK1;clear HK1;replace Bc:=ce1_ HK 0;replace Bf:=fe1_ HK 0))
   go_ret2
   exact ⟨rfl,be_⟩
theorem zc235:dc (dz (List.replicate 800 0))=Tryz.zeroCells235:=by kernel_rfl
theorem Finfo.up {w0 W:World} {l:List Blk} (h:Finfo w0) (H:At w0 l W):Finfo W:=⟨pw_cell_add H h.m,pw_cell_add H h.e,pw_cell_add H h.b⟩
theorem Two.up {w0 W:World} {l:List Blk} (T:Two w0) (H:At w0 l W):Two W:=by
 obtain ⟨c5,t5,h5⟩:=T.a
 obtain ⟨c3,t3,h3⟩:=T.b
 exact ⟨⟨c5,t5,(H.b.block 5 (Array.getElem?_eq_some_iff.1 h5).1).trans h5⟩,⟨c3,t3,(H.b.block 3 (Array.getElem?_eq_some_iff.1 h3).1).trans h3⟩⟩
theorem Pow8.up {w0 W:World} {l:List Blk} {ad:Addr} {c:Nat} (h:Pow8 w0 ad c) (H:At w0 l W):Pow8 W ad c:=⟨pw_cell_add H h.v,fun k hk=>pw_cell_add H (h.d k hk)⟩
theorem Tens.up {w0 W:World} {l:List Blk} (h:Tens w0) (H:At w0 l W):Tens W:=⟨fun k hk=>pw_cell_add H (h.h k hk),fun k hk=>pw_cell_add H (h.l k hk)⟩
def RdV (s:ByteArray) (v:Value):Prop:=∃ (m p:Int) (ng tr hx:Bool) (i:Nat) (ok:Bool),v= .tuple #[.int .u64 m,.int .i64 p,.bool ng,.bool tr,.bool hx,.int .i64 i,.bool ok]∧(ok=true→rdF s=some (m,p,ng,tr,hx,i)∧0≤m∧m≤18446744073709551615∧i≤s.size∧ -10000000≤p∧p≤10000000)∧(ok=false→rdF s=none)
theorem rd_call (s:ByteArray) (w:World) (hs:s.size≤1048576):Calls Tryz.prog 110 #[.string s] w fun e w'=>∃ v,e= .returned v∧RdV s v∧Below w.heap.size w w':=
 (rd_ok s w hs).mono fun e w' ⟨⟨m,p,ng,tr,hx,i,ok,he,h1,h2⟩,hb⟩=>⟨_,he,⟨m,p,ng,tr,hx,i,ok,rfl,h1,h2⟩,hb⟩
theorem sp_call {s:ByteArray} {f n:Nat} {b:Bool} (w:World) (hs:s.size≤1048576) (h:spF s=(f,n,b)):Calls Tryz.prog 109 #[.string s] w fun e w'=>e= .returned (.tuple #[.float .f64 f,.int .i64 n,.bool b])∧Below w.heap.size w w':=by
 have h9:=special_ok s w hs
 rw [h] at h9;exact h9
theorem hex_call {w0 W:World} {l:List Blk} (s:ByteArray) {m:Nat} {p:Int} {ng tr:Bool} {f:Int} {b:Bool} (hI:Finfo w0) (hT:Two w0) (H:At w0 l W) (hm:m < 18446744073709551616) (h1: -10000000≤p) (h2:p≤10000000) (h:hexF m p ng tr=(f,b)):
  Calls Tryz.prog 111 #[.string s,.pointer (some ⟨5,0,none⟩),.int .u64 m,.int .i64 p,.bool ng,.bool tr] W fun e w'=>e= .returned (.tuple #[.float .f64 f.toNat,erv b])∧Below W.heap.size W w':=by
 have h9:=hexfl_ok s m p ng tr W (hI.up H) (hT.up H) hm h1 h2
 rw [h] at h9;exact h9
theorem ex_call {w0 W:World} {l:List Blk} {ad:Addr} {c:Nat} {m p:Int} {ng:Bool} {f:Nat} {b:Bool} (hI:Finfo w0) (hP:Pow8 w0 ad c) (H:At w0 l W) (h:ex64 m p ng=(f,b)):
  Calls Tryz.prog 120 #[.int .u64 m,.int .i64 p,.bool ng] W fun e w'=>e= .returned (.tuple #[.float .f64 f,.bool b])∧Below W.heap.size W w':=by
 have h9:=ex64_ok m p ng W (hI.up H) (hP.up H)
 rw [h] at h9;exact h9
theorem pf_call {w0 W:World} {l:List Blk} {d p sg:Int} {f:Int} {b:Bool} (hT:Tens w0) (H:At w0 l W) (hd0:0≤d) (hd1:d≤18446744073709551615) (hp1: -345≤p) (hp2:p≤310) (h:pf64 d p sg=(f,b)):
  Calls Tryz.prog 121 #[.int .u64 d,.int .i64 p,.int .u64 sg] W fun e w'=>e= .returned (.tuple #[.float .f64 f.toNat,erv b])∧Below W.heap.size W w':=by
 have h9:=pf64_ok d p sg W (hT.up H) hd0 hd1 (by omega) (by omega)
 rw [h] at h9;exact h9
theorem b2u0 (w:World):Calls Tryz.prog 118 #[.bool false] w fun e w'=>e= .returned (.int .u64 0)∧Below w.heap.size w w':=b2u false w
theorem b2u1 (w:World):Calls Tryz.prog 118 #[.bool true] w fun e w'=>e= .returned (.int .u64 1)∧Below w.heap.size w w':=b2u true w
section
variable {P:Program} {ops:Array Oper} {rest:List Oper} {o:Oper} {a:Act} {Q:Exit→Act→World→Prop} {W:World}
theorem call_ex {f:FuncId} {fn:Func} {xs:Array Operand} {ts:Array TypeId} (args:Array Value) (F:Value→World→Prop) (hg:o.guard=none) (hf:P.funcs[f]? =some fn) (hname:(fn.name == "runtime.NumGoroutine")=false) (hb:fn.body.isSome=true)
  (hop:o.op= .call {callee:= .value (.func f),args:=xs,argTypes:=ts}) (hargs:xs.map a.eval=args)
  (hc:Calls P f args W fun e w'=>∃ v,e= .returned v∧F v w')
  (h:∀ v w1,F v w1→wpList P ops Q rest (a.put o.dst v) w1):wpList P ops Q (o::rest) a W:=by
 refine goesL_ _ rfl hg hf hname hb args hop hargs (hc.mono ?_)
 rintro e w' ⟨v,rfl,hF⟩
 exact ⟨v,rfl,h v w' hF⟩
end
def SetV (L:List Nat) (s:ByteArray) (w0:World) (l:List Blk) (g:Nat) (v:Value) (w':World):Prop:=∃ (ok:Bool) (D:Dec.D),v= .bool ok∧(ok=true→setF L s=some D∧Dec.Good D)∧(ok=false→setF L s=none)∧At w0 (.b g (row (dc D) 235)::l) w'
theorem set_call {w0 w:World} {l:List Blk} {g:Nat} {L:List Nat} (s:ByteArray) (hL:L.length=800) (H:At w0 (.b g (row (dc (dz L)) 235)::l) w) (hg:w0.heap.size≤g) (hs:s.size≤1048576):
  Calls Tryz.prog 116 #[.pointer (some ⟨g,0,none⟩),.string s] w fun e w'=>∃ v,e= .returned v∧SetV L s w0 l g v w':=
 (set_ok s hL H hg hs).mono fun e w' ⟨ok,D,he,h1,h2,h3⟩=>⟨_,he,ok,D,rfl,h1,h2,h3⟩
theorem fb_call {w0 w:World} {l:List Blk} {g:Nat} {s:Dec.D} {ad7 ad:Addr} {c7 c:Nat} {f:Int} {b:Bool} (H:At w0 (.b g (row (dc s) 235)::l) w) (hg:w0.heap.size≤g) (hs:Dec.Good s) (hT:Cheats w0 ad c) (hP:Pows w0 ad7 c7) (hI:Finfo w0) (h:fbits s=(f,b)):
  Calls Tryz.prog 117 #[.pointer (some ⟨g,0,none⟩),.pointer (some ⟨5,0,none⟩)] w fun e w'=>e= .returned (.tuple #[.int .u64 f,.bool b])∧At w0 l w':=by
 have h9:=fb_ok H hg hs hT hP hI
 rw [h] at h9;exact h9
theorem ext_le (s:ByteArray) (i:Nat) (h:s.size≤1048576):(s.extract 0 i).size≤1048576:=by rw [ByteArray.size_extract];omega
abbrev AR:=Option (Nat×Int×Bool)
def sgI (b:Bool):Int:=if b then 9223372036854775808 else 0
def atD (L:List Nat) (t:ByteArray) (n:Int):AR:=match setF L t with|none=>none|some D=>some ((fbits D).1.toNat,n,(fbits D).2)
def feq (a b:Nat):Bool:=FloatKind.f64.format.order a b == some .eq
def atX (L:List Nat) (s:ByteArray) (m p:Int) (ng tr:Bool) (n:Nat):AR:=
 if tr=false then (if (ex64 m p ng).2=true then some ((ex64 m p ng).1,n,false) else some ((pf64 m p (sgI ng)).1.toNat,n,(pf64 m p (sgI ng)).2)) else
 if feq (pf64 m p (sgI ng)).1.toNat (pf64 (IntKind.u64.wrap (m + 1)) p (sgI ng)).1.toNat=true then some ((pf64 m p (sgI ng)).1.toNat,n,(pf64 m p (sgI ng)).2) else atD L (s.extract 0 n) n
def atE (L:List Nat) (s:ByteArray) (m p:Int) (ng tr:Bool) (n:Nat):AR:=
 if m=0 then some ((sgI ng).toNat,n,false) else
 if 310 < p then some ((sgI ng).toNat + 9218868437227405312,n,true) else
 if p < -345 then some ((sgI ng).toNat,n,false) else atX L s m p ng tr n
def atF (L:List Nat) (s:ByteArray):AR:=
 if (spF s).2.2=true then some ((spF s).1,((spF s).2.1:Int),false) else
 match rdF s with|none=>none|some (m,p,ng,tr,hx,n)=>if hx=true then some ((hexF m.toNat p ng tr).1.toNat,(n:Int),(hexF m.toNat p ng tr).2) else atE L s m p ng tr n
def errY:Value:= .iface 163 (.int .i64 2)
def AtP (L:List Nat) (s:ByteArray) (e:Ending):Prop:=(atF L s=none∧∃ n:Int,e= .returned (.tuple #[.float .f64 0,.int .i64 n,errY]))∨∃ (f:Nat) (n:Int) (b:Bool),atF L s=some (f,n,b)∧e= .returned (.tuple #[.float .f64 f,.int .i64 n,erv b])
theorem atof_ok {w:World} {ad8 ad11 ad7:Addr} {c8 c11 c7:Nat} {L:List Nat} (s:ByteArray) (hs:s.size≤1048576) (hI:Finfo w) (hT:Two w) (hP:Pow8 w ad8 c8) (hTn:Tens w) (hC:Cheats w ad11 c11) (hW:Pows w ad7 c7) (hO:w.cell? ⟨4,0,none⟩=some (.bool true)) (hL:L.length=800) (hz:dc (dz L)=Tryz.zeroCells235):
  Calls Tryz.prog 94 #[.string s] w fun e w'=>AtP L s e∧Below w.heap.size w w':=by
 obtain ⟨Hs,HI,HT,HP,HTn,HC,HW,HO,HLL,HZ⟩:=as10_ hs hI hT hP hTn hC hW hO hL hz;clear hs hI hT hP hTn hC hW hO hL hz;obtain ⟨R,hR⟩:∃ R,atF L s=R:=⟨_,rfl⟩;have HR:=asd_ hR;unfold atF at hR;obtain ⟨⟨f0,n0,b0⟩,h0⟩:∃ x,spF s=x:=⟨_,rfl⟩;rw [h0] at hR;dsimp only at hR;have H0:=asd_ h0;clear h0
 have HK:=st0_ w
 go_enter Tryz.func94,Tryz.ntmps94
 go_upto_if 32 with (first|((with_reducible refine gd_ 28 ?_);refine cl_ #[.string s] (.tuple #[.float .f64 f0,.int .i64 n0,.bool b0]) Tryz.func109 (sp_call _ Hs.out H0.out) ?_;intro wc28 HK1;replace HK:=asd_ HK1;clear HK1;skip))
 cases b0
 case true=>
  rw [if_pos rfl] at hR;have Hr:=asd_ hR;clear hR
  go_wp2_with fail
  try rw [Exit.noGoto_ret]
  exact bodyPost_ret (v:= .tuple #[.float .f64 (f0),.int .i64 n0,.nilIface]) (by simp [results,Tryz.results94,go_sem]) rfl ⟨.inr ⟨f0,n0,false,by rw [HR.out,← Hr.out]<;>rfl,rfl⟩,be_⟩
 case false=>
  rw [if_neg (by decide)] at hR
  go_upto_if 46 with (first|((with_reducible refine gd_ 37 ?_);refine cw_ #[.string s] Tryz.func110 (rd_call s _ Hs.out) ?_;intro v37 wc37 HK1 hF hB;obtain ⟨m,p,ng,tr,hx,i,ok,rfl,h1,h2⟩:=hF;obtain ⟨H1,H2⟩:=as2_ h1 h2;clear h1 h2;replace HK:=asd_ HK1;clear HK1;skip;skip))
  cases ok
  case false=>
   rw [H2.out rfl] at hR;dsimp only at hR;have Hr:=asd_ hR;clear hR
   go_wp2_with fail
   try rw [Exit.noGoto_ret]
   exact bodyPost_ret (v:= .tuple #[.float .f64 (0),.int .i64 i,.iface 163 (.int .i64 2)]) (by simp [results,Tryz.results94,go_sem]) rfl ⟨.inl ⟨by rw [HR.out,← Hr.out],_,rfl⟩,be_⟩
  case true=>
   have h1:=H1.out rfl;clear H1 H2;obtain ⟨hr,m0,m1,hi,pb0,pb1⟩:=h1;rw [hr] at hR;dsimp only at hR;obtain ⟨mn,rfl⟩:∃ k:Nat,m=(k:Int):=⟨m.toNat,by omega⟩;have Hm1:Aside0 (mn < 18446744073709551616):=⟨by omega⟩;obtain ⟨Hp0,Hp1⟩:=as2_ pb0 pb1;have q1:i≤s.size:=hi;have q2:(i:Int)≤s.size:=(by omega);have q3:(0:Int)≤(i:Int):=(by omega);clear hr m0 m1 pb0 pb1 hi
   have ho4:World.cell? _ ⟨4,0,none⟩=some (.bool true):=pw_cell_add HK.out HO.out
   cases hx
   case true=>
    rw [if_pos rfl,Int.toNat_natCast] at hR;obtain ⟨⟨hf,hb⟩,hh⟩:∃ x,hexF mn p ng tr=x:=⟨_,rfl⟩;rw [hh] at hR;dsimp only at hR;have Hh:=asd_ hh;clear hh;have Hr:=asd_ hR;clear hR
    go_wp2_with (first|((with_reducible refine gd_ 58 ?_);refine cl_ #[.string (s.extract 0 i),.pointer (some ⟨5,0,none⟩),.int .u64 (mn:Int),.int .i64 p,.bool ng,.bool tr] (.tuple #[.float .f64 hf.toNat,erv hb]) Tryz.func111 (hex_call _ HI.out HT.out HK.out Hm1.out Hp0.out Hp1.out Hh.out) ?_;intro wc58 HK1;replace HK:=asd_ HK1;clear HK1;skip))
    try rw [Exit.noGoto_ret]
    exact bodyPost_ret (v:= .tuple #[.float .f64 (hf.toNat),.int .i64 i,erv hb]) (by simp [results,Tryz.results94,go_sem]) rfl ⟨.inr ⟨hf.toNat,i,hb,by rw [HR.out,← Hr.out]<;>rfl,rfl⟩,be_⟩
   case false=>
    rw [if_neg (by decide)] at hR;unfold atE at hR;cases ng
    case false=>
     go_upto_if 69 with (first|((with_reducible refine gd_ 66 ?_);refine cl_ #[.bool false] (.int .u64 0) Tryz.func118 (b2u0 _) ?_;intro wc66 HK1;replace HK:=asd_ HK1;clear HK1;skip))
     by_cases hm0:(mn:Int)=0
     case pos=>
      rw [if_pos hm0] at hR;have gm:((mn:Int) == 0)=true:=beq_iff_eq.2 hm0
      rw [show sgI false=0 from rfl] at hR
      have Hr:=asd_ hR;clear hR
      go_wp2_with (first|((with_reducible refine gd_ 72 ?_);refine from_at (0) (0) rfl rfl rfl ar_ ?_))
      try rw [Exit.noGoto_ret]
      exact bodyPost_ret (v:= .tuple #[.float .f64 (0),.int .i64 i,.nilIface]) (by simp [results,Tryz.results94,go_sem]) rfl ⟨.inr ⟨0,i,false,by rw [HR.out,← Hr.out]<;>rfl,rfl⟩,be_⟩
     case neg=>
      rw [if_neg hm0] at hR;have gm:((mn:Int) == 0)=false:=beq_eq_false_iff_ne.2 hm0
      go_upto_if 75 with fail
      by_cases hp1:310 < p
      case pos=>
       rw [if_pos hp1] at hR
       have g1:decide (310 < p)=true:=decide_eq_true (hp1)
       rw [show sgI false=0 from rfl] at hR
       have Hr:=asd_ hR;clear hR
       go_wp2_with (first|((with_reducible refine gd_ 78 ?_);refine from_at (9218868437227405312) (9218868437227405312) rfl rfl rfl ar_ ?_))
       try rw [Exit.noGoto_ret]
       exact bodyPost_ret (v:= .tuple #[.float .f64 (9218868437227405312),.int .i64 i,.iface 163 (.int .i64 1)]) (by simp [results,Tryz.results94,go_sem]) rfl ⟨.inr ⟨9218868437227405312,i,true,by rw [HR.out,← Hr.out]<;>rfl,rfl⟩,be_⟩
      case neg=>
       rw [if_neg hp1] at hR
       have g1:decide (310 < p)=false:=decide_eq_false (hp1)
       go_upto_if 82 with fail
       by_cases hp2:p < -345
       case pos=>
        rw [if_pos hp2] at hR
        have g2:decide (p < -345)=true:=decide_eq_true (hp2)
        rw [show sgI false=0 from rfl] at hR
        have Hr:=asd_ hR;clear hR
        go_wp2_with (first|((with_reducible refine gd_ 85 ?_);refine from_at (0) (0) rfl rfl rfl ar_ ?_))
        try rw [Exit.noGoto_ret]
        exact bodyPost_ret (v:= .tuple #[.float .f64 (0),.int .i64 i,.nilIface]) (by simp [results,Tryz.results94,go_sem]) rfl ⟨.inr ⟨0,i,false,by rw [HR.out,← Hr.out]<;>rfl,rfl⟩,be_⟩
       case neg=>
        rw [if_neg hp2] at hR
        have g2:decide (p < -345)=false:=decide_eq_false (hp2)
        have Hp2:Aside0 (-345≤p):=⟨by omega⟩;have Hp3:Aside0 (p≤310):=⟨by omega⟩;have hm0:True:=trivial;clear hm0
        unfold atX at hR;rw [show sgI false=0 from rfl] at hR;obtain ⟨⟨pf,pb⟩,hpf⟩:∃ x,pf64 (mn:Int) p 0=x:=⟨_,rfl⟩;rw [hpf] at hR;have Hpf:=asd_ hpf;clear hpf;dsimp only at hR;have Hmm:Aside0 ((0:Int)≤(mn:Int)∧(mn:Int)≤18446744073709551615):=⟨by have:=Hm1.out;omega⟩
        cases tr
        case false=>
         rw [if_pos rfl] at hR;obtain ⟨⟨ef,eb⟩,hef⟩:∃ x,ex64 (mn:Int) p false=x:=⟨_,rfl⟩;rw [hef] at hR;have Hef:=asd_ hef;clear hef;dsimp only at hR;have HR3:=asd_ hR;clear hR
         go_upto_if 96 with (first|((with_reducible refine gd_ 93 ?_);refine cl_ #[.int .u64 (mn:Int),.int .i64 p,.bool false] (.tuple #[.float .f64 ef,.bool eb]) Tryz.func120 (ex_call HI.out HP.out HK.out Hef.out) ?_;intro wc93 HK1;replace HK:=asd_ HK1;clear HK1;skip))
         have hR:=HR3.out;clear HR3;cases eb
         case true=>
          rw [if_pos rfl] at hR;have Hr:=asd_ hR;clear hR
          go_wp2_with fail
          try rw [Exit.noGoto_ret]
          exact bodyPost_ret (v:= .tuple #[.float .f64 (ef),.int .i64 i,.nilIface]) (by simp [results,Tryz.results94,go_sem]) rfl ⟨.inr ⟨ef,i,false,by rw [HR.out,← Hr.out]<;>rfl,rfl⟩,be_⟩
         case false=>
          rw [if_neg (by decide)] at hR;have Hr:=asd_ hR;clear hR
          go_wp2_with (first|((with_reducible refine gd_ 103 ?_);refine cl_ #[.int .u64 (mn:Int),.int .i64 p,.int .u64 0] (.tuple #[.float .f64 pf.toNat,erv pb]) Tryz.func121 (pf_call HTn.out HK.out Hmm.out.1 Hmm.out.2 Hp2.out Hp3.out Hpf.out) ?_;intro wc103 HK1;replace HK:=asd_ HK1;clear HK1;skip))
          try rw [Exit.noGoto_ret]
          exact bodyPost_ret (v:= .tuple #[.float .f64 (pf.toNat),.int .i64 i,erv pb]) (by simp [results,Tryz.results94,go_sem]) rfl ⟨.inr ⟨pf.toNat,i,pb,by rw [HR.out,← Hr.out]<;>rfl,rfl⟩,be_⟩
        case true=>
         rw [if_neg (by decide)] at hR
         go_upto_if 107 with (first|((with_reducible refine gd_ 103 ?_);refine cl_ #[.int .u64 (mn:Int),.int .i64 p,.int .u64 0] (.tuple #[.float .f64 pf.toNat,erv pb]) Tryz.func121 (pf_call HTn.out HK.out Hmm.out.1 Hmm.out.2 Hp2.out Hp3.out Hpf.out) ?_;intro wc103 HK1;replace HK:=asd_ HK1;clear HK1;skip))
         obtain ⟨d1,hd1⟩:∃ x,IntKind.u64.wrap ((mn:Int) + 1)=x:=⟨_,rfl⟩;have Hdd:Aside0 (0≤d1∧d1≤18446744073709551615):=⟨by rw [← hd1];exact u64_rng _⟩;rw [hd1] at hR;have ku1:=hd1;clear hd1;obtain ⟨⟨qf,qb⟩,hqf⟩:∃ x,pf64 d1 p 0=x:=⟨_,rfl⟩;rw [hqf] at hR;have Hqf:=asd_ hqf;clear hqf;dsimp only at hR;obtain ⟨fe,hfe⟩:∃ b,feq pf.toNat qf.toNat=b:=⟨_,rfl⟩;rw [hfe] at hR;unfold feq at hfe;have HR3:=asd_ hR;clear hR
         go_upto_if 121 with (first|((with_reducible refine gd_ 116 ?_);refine cl_ #[.int .u64 d1,.int .i64 p,.int .u64 0] (.tuple #[.float .f64 qf.toNat,erv qb]) Tryz.func121 (pf_call HTn.out HK.out Hdd.out.1 Hdd.out.2 Hp2.out Hp3.out Hqf.out) ?_;intro wc116 HK1;replace HK:=asd_ HK1;clear HK1;skip))
         have hR:=HR3.out;clear HR3;cases fe
         case true=>
          rw [if_pos rfl] at hR;have Hr:=asd_ hR;clear hR
          go_wp2_with fail
          try rw [Exit.noGoto_ret]
          exact bodyPost_ret (v:= .tuple #[.float .f64 (pf.toNat),.int .i64 i,erv pb]) (by simp [results,Tryz.results94,go_sem]) rfl ⟨.inr ⟨pf.toNat,i,pb,by rw [HR.out,← Hr.out]<;>rfl,rfl⟩,be_⟩
         case false=>
          rw [if_neg (by decide)] at hR;unfold atD at hR;obtain ⟨tx,htx⟩:∃ t,s.extract 0 i=t:=⟨_,rfl⟩;have Htz:Aside0 (tx.size≤1048576):=⟨by rw [← htx];exact ext_le s i Hs.out⟩;rw [htx] at hR;have HR3:=asd_ hR;clear hR
          go_upto_if 129 with (first|((with_reducible refine gd_ 23 ?_);refine new_at at_ rfl (N:=23) rfl (ob:=row (dc (dz L)) 235) (v:=fun k=> .pointer (some ⟨k,0,none⟩)) (by rw [HZ.out];go_simp) ?_;intro g wb23 HK1 hgg;have Gg:=asd_ hgg;clear hgg;replace HK:=asd_ HK1;clear HK1;skip)|((with_reducible refine gd_ 128 ?_);refine call_ex #[.pointer (some ⟨g,0,none⟩),.string tx] _ rfl Tryz.func116 kr_ rfl rfl (by (try simp only [List.map_toArray,List.map_cons,List.map_nil]);rw [← htx];first|done|rfl) (set_call tx HLL.out HK.out Gg.out Htz.out) ?_;rintro v128 wc128 ⟨ok2,D,rfl,h1,h2,HK1⟩;obtain ⟨H1,H2⟩:=as2_ h1 h2;clear h1 h2;replace HK:=asd_ HK1;clear HK1))
          have hR:=HR3.out;clear HR3;cases ok2
          case false=>
           rw [H2.out rfl] at hR;dsimp only at hR;have Hr:=asd_ hR;clear hR
           go_wp2_with fail
           try rw [Exit.noGoto_ret]
           exact bodyPost_ret (v:= .tuple #[.float .f64 (0),.int .i64 i,.iface 163 (.int .i64 2)]) (by simp [results,Tryz.results94,go_sem]) rfl ⟨.inl ⟨by rw [HR.out,← Hr.out],_,rfl⟩,be_⟩
          case true=>
           have h1:=H1.out rfl;clear H1 H2;rw [h1.1] at hR;dsimp only at hR;have Hgd:Aside0 (Dec.Good D):=⟨h1.2⟩;clear h1;obtain ⟨⟨bf,bo⟩,hbf⟩:∃ x,fbits D=x:=⟨_,rfl⟩;rw [hbf] at hR;dsimp only at hR;have Hbf:=asd_ hbf;clear hbf;have Hr:=asd_ hR;clear hR
           go_upto_if 138 with (first|((with_reducible refine gd_ 133 ?_);refine call_to #[.pointer (some ⟨g,0,none⟩),.pointer (some ⟨5,0,none⟩)] (.tuple #[.int .u64 bf,.bool bo]) _ rfl Tryz.func117 kr_ rfl rfl ar_ (fb_call HK.out Gg.out Hgd.out HC.out HW.out HI.out Hbf.out) ?_;rintro wc133 HK1;replace HK:=asd_ HK1;clear HK1)|((with_reducible refine gd_ 137 ?_);refine from_at (bf) (bf.toNat) rfl rfl rfl ar_ ?_))
           cases bo
           case false=>
            go_wp2_with fail
            try rw [Exit.noGoto_ret]
            exact bodyPost_ret (v:= .tuple #[.float .f64 (bf.toNat),.int .i64 i,.nilIface]) (by simp [results,Tryz.results94,go_sem]) rfl ⟨.inr ⟨bf.toNat,i,false,by rw [HR.out,← Hr.out]<;>rfl,rfl⟩,be_⟩
           case true=>
            go_wp2_with fail
            try rw [Exit.noGoto_ret]
            exact bodyPost_ret (v:= .tuple #[.float .f64 (bf.toNat),.int .i64 i,.iface 163 (.int .i64 1)]) (by simp [results,Tryz.results94,go_sem]) rfl ⟨.inr ⟨bf.toNat,i,true,by rw [HR.out,← Hr.out]<;>rfl,rfl⟩,be_⟩
    case true=>
     go_upto_if 69 with (first|((with_reducible refine gd_ 66 ?_);refine cl_ #[.bool true] (.int .u64 1) Tryz.func118 (b2u1 _) ?_;intro wc66 HK1;replace HK:=asd_ HK1;clear HK1;skip))
     by_cases hm0:(mn:Int)=0
     case pos=>
      rw [if_pos hm0] at hR;have gm:((mn:Int) == 0)=true:=beq_iff_eq.2 hm0
      rw [show sgI true=9223372036854775808 from rfl] at hR
      have Hr:=asd_ hR;clear hR
      go_wp2_with (first|((with_reducible refine gd_ 72 ?_);refine from_at (9223372036854775808) (9223372036854775808) rfl rfl rfl ar_ ?_))
      try rw [Exit.noGoto_ret]
      exact bodyPost_ret (v:= .tuple #[.float .f64 (9223372036854775808),.int .i64 i,.nilIface]) (by simp [results,Tryz.results94,go_sem]) rfl ⟨.inr ⟨9223372036854775808,i,false,by rw [HR.out,← Hr.out]<;>rfl,rfl⟩,be_⟩
     case neg=>
      rw [if_neg hm0] at hR;have gm:((mn:Int) == 0)=false:=beq_eq_false_iff_ne.2 hm0
      go_upto_if 75 with fail
      by_cases hp1:310 < p
      case pos=>
       rw [if_pos hp1] at hR
       have g1:decide (310 < p)=true:=decide_eq_true (hp1)
       rw [show sgI true=9223372036854775808 from rfl] at hR
       have Hr:=asd_ hR;clear hR
       go_wp2_with (first|((with_reducible refine gd_ 78 ?_);refine from_at (18442240474082181120) (18442240474082181120) rfl rfl rfl ar_ ?_))
       try rw [Exit.noGoto_ret]
       exact bodyPost_ret (v:= .tuple #[.float .f64 (18442240474082181120),.int .i64 i,.iface 163 (.int .i64 1)]) (by simp [results,Tryz.results94,go_sem]) rfl ⟨.inr ⟨18442240474082181120,i,true,by rw [HR.out,← Hr.out]<;>rfl,rfl⟩,be_⟩
      case neg=>
       rw [if_neg hp1] at hR
       have g1:decide (310 < p)=false:=decide_eq_false (hp1)
       go_upto_if 82 with fail
       by_cases hp2:p < -345
       case pos=>
        rw [if_pos hp2] at hR
        have g2:decide (p < -345)=true:=decide_eq_true (hp2)
        rw [show sgI true=9223372036854775808 from rfl] at hR
        have Hr:=asd_ hR;clear hR
        go_wp2_with (first|((with_reducible refine gd_ 85 ?_);refine from_at (9223372036854775808) (9223372036854775808) rfl rfl rfl ar_ ?_))
        try rw [Exit.noGoto_ret]
        exact bodyPost_ret (v:= .tuple #[.float .f64 (9223372036854775808),.int .i64 i,.nilIface]) (by simp [results,Tryz.results94,go_sem]) rfl ⟨.inr ⟨9223372036854775808,i,false,by rw [HR.out,← Hr.out]<;>rfl,rfl⟩,be_⟩
       case neg=>
        rw [if_neg hp2] at hR
        have g2:decide (p < -345)=false:=decide_eq_false (hp2)
        have Hp2:Aside0 (-345≤p):=⟨by omega⟩;have Hp3:Aside0 (p≤310):=⟨by omega⟩;have hm0:True:=trivial;clear hm0
        unfold atX at hR;rw [show sgI true=9223372036854775808 from rfl] at hR;obtain ⟨⟨pf,pb⟩,hpf⟩:∃ x,pf64 (mn:Int) p 9223372036854775808=x:=⟨_,rfl⟩;rw [hpf] at hR;have Hpf:=asd_ hpf;clear hpf;dsimp only at hR;have Hmm:Aside0 ((0:Int)≤(mn:Int)∧(mn:Int)≤18446744073709551615):=⟨by have:=Hm1.out;omega⟩
        cases tr
        case false=>
         rw [if_pos rfl] at hR;obtain ⟨⟨ef,eb⟩,hef⟩:∃ x,ex64 (mn:Int) p true=x:=⟨_,rfl⟩;rw [hef] at hR;have Hef:=asd_ hef;clear hef;dsimp only at hR;have HR3:=asd_ hR;clear hR
         go_upto_if 96 with (first|((with_reducible refine gd_ 93 ?_);refine cl_ #[.int .u64 (mn:Int),.int .i64 p,.bool true] (.tuple #[.float .f64 ef,.bool eb]) Tryz.func120 (ex_call HI.out HP.out HK.out Hef.out) ?_;intro wc93 HK1;replace HK:=asd_ HK1;clear HK1;skip))
         have hR:=HR3.out;clear HR3;cases eb
         case true=>
          rw [if_pos rfl] at hR;have Hr:=asd_ hR;clear hR
          go_wp2_with fail
          try rw [Exit.noGoto_ret]
          exact bodyPost_ret (v:= .tuple #[.float .f64 (ef),.int .i64 i,.nilIface]) (by simp [results,Tryz.results94,go_sem]) rfl ⟨.inr ⟨ef,i,false,by rw [HR.out,← Hr.out]<;>rfl,rfl⟩,be_⟩
         case false=>
          rw [if_neg (by decide)] at hR;have Hr:=asd_ hR;clear hR
          go_wp2_with (first|((with_reducible refine gd_ 103 ?_);refine cl_ #[.int .u64 (mn:Int),.int .i64 p,.int .u64 9223372036854775808] (.tuple #[.float .f64 pf.toNat,erv pb]) Tryz.func121 (pf_call HTn.out HK.out Hmm.out.1 Hmm.out.2 Hp2.out Hp3.out Hpf.out) ?_;intro wc103 HK1;replace HK:=asd_ HK1;clear HK1;skip))
          try rw [Exit.noGoto_ret]
          exact bodyPost_ret (v:= .tuple #[.float .f64 (pf.toNat),.int .i64 i,erv pb]) (by simp [results,Tryz.results94,go_sem]) rfl ⟨.inr ⟨pf.toNat,i,pb,by rw [HR.out,← Hr.out]<;>rfl,rfl⟩,be_⟩
        case true=>
         rw [if_neg (by decide)] at hR
         go_upto_if 107 with (first|((with_reducible refine gd_ 103 ?_);refine cl_ #[.int .u64 (mn:Int),.int .i64 p,.int .u64 9223372036854775808] (.tuple #[.float .f64 pf.toNat,erv pb]) Tryz.func121 (pf_call HTn.out HK.out Hmm.out.1 Hmm.out.2 Hp2.out Hp3.out Hpf.out) ?_;intro wc103 HK1;replace HK:=asd_ HK1;clear HK1;skip))
         obtain ⟨d1,hd1⟩:∃ x,IntKind.u64.wrap ((mn:Int) + 1)=x:=⟨_,rfl⟩;have Hdd:Aside0 (0≤d1∧d1≤18446744073709551615):=⟨by rw [← hd1];exact u64_rng _⟩;rw [hd1] at hR;have ku1:=hd1;clear hd1;obtain ⟨⟨qf,qb⟩,hqf⟩:∃ x,pf64 d1 p 9223372036854775808=x:=⟨_,rfl⟩;rw [hqf] at hR;have Hqf:=asd_ hqf;clear hqf;dsimp only at hR;obtain ⟨fe,hfe⟩:∃ b,feq pf.toNat qf.toNat=b:=⟨_,rfl⟩;rw [hfe] at hR;unfold feq at hfe;have HR3:=asd_ hR;clear hR
         go_upto_if 121 with (first|((with_reducible refine gd_ 116 ?_);refine cl_ #[.int .u64 d1,.int .i64 p,.int .u64 9223372036854775808] (.tuple #[.float .f64 qf.toNat,erv qb]) Tryz.func121 (pf_call HTn.out HK.out Hdd.out.1 Hdd.out.2 Hp2.out Hp3.out Hqf.out) ?_;intro wc116 HK1;replace HK:=asd_ HK1;clear HK1;skip))
         have hR:=HR3.out;clear HR3;cases fe
         case true=>
          rw [if_pos rfl] at hR;have Hr:=asd_ hR;clear hR
          go_wp2_with fail
          try rw [Exit.noGoto_ret]
          exact bodyPost_ret (v:= .tuple #[.float .f64 (pf.toNat),.int .i64 i,erv pb]) (by simp [results,Tryz.results94,go_sem]) rfl ⟨.inr ⟨pf.toNat,i,pb,by rw [HR.out,← Hr.out]<;>rfl,rfl⟩,be_⟩
         case false=>
          rw [if_neg (by decide)] at hR;unfold atD at hR;obtain ⟨tx,htx⟩:∃ t,s.extract 0 i=t:=⟨_,rfl⟩;have Htz:Aside0 (tx.size≤1048576):=⟨by rw [← htx];exact ext_le s i Hs.out⟩;rw [htx] at hR;have HR3:=asd_ hR;clear hR
          go_upto_if 129 with (first|((with_reducible refine gd_ 23 ?_);refine new_at at_ rfl (N:=23) rfl (ob:=row (dc (dz L)) 235) (v:=fun k=> .pointer (some ⟨k,0,none⟩)) (by rw [HZ.out];go_simp) ?_;intro g wb23 HK1 hgg;have Gg:=asd_ hgg;clear hgg;replace HK:=asd_ HK1;clear HK1;skip)|((with_reducible refine gd_ 128 ?_);refine call_ex #[.pointer (some ⟨g,0,none⟩),.string tx] _ rfl Tryz.func116 kr_ rfl rfl (by (try simp only [List.map_toArray,List.map_cons,List.map_nil]);rw [← htx];first|done|rfl) (set_call tx HLL.out HK.out Gg.out Htz.out) ?_;rintro v128 wc128 ⟨ok2,D,rfl,h1,h2,HK1⟩;obtain ⟨H1,H2⟩:=as2_ h1 h2;clear h1 h2;replace HK:=asd_ HK1;clear HK1))
          have hR:=HR3.out;clear HR3;cases ok2
          case false=>
           rw [H2.out rfl] at hR;dsimp only at hR;have Hr:=asd_ hR;clear hR
           go_wp2_with fail
           try rw [Exit.noGoto_ret]
           exact bodyPost_ret (v:= .tuple #[.float .f64 (0),.int .i64 i,.iface 163 (.int .i64 2)]) (by simp [results,Tryz.results94,go_sem]) rfl ⟨.inl ⟨by rw [HR.out,← Hr.out],_,rfl⟩,be_⟩
          case true=>
           have h1:=H1.out rfl;clear H1 H2;rw [h1.1] at hR;dsimp only at hR;have Hgd:Aside0 (Dec.Good D):=⟨h1.2⟩;clear h1;obtain ⟨⟨bf,bo⟩,hbf⟩:∃ x,fbits D=x:=⟨_,rfl⟩;rw [hbf] at hR;dsimp only at hR;have Hbf:=asd_ hbf;clear hbf;have Hr:=asd_ hR;clear hR
           go_upto_if 138 with (first|((with_reducible refine gd_ 133 ?_);refine call_to #[.pointer (some ⟨g,0,none⟩),.pointer (some ⟨5,0,none⟩)] (.tuple #[.int .u64 bf,.bool bo]) _ rfl Tryz.func117 kr_ rfl rfl ar_ (fb_call HK.out Gg.out Hgd.out HC.out HW.out HI.out Hbf.out) ?_;rintro wc133 HK1;replace HK:=asd_ HK1;clear HK1)|((with_reducible refine gd_ 137 ?_);refine from_at (bf) (bf.toNat) rfl rfl rfl ar_ ?_))
           cases bo
           case false=>
            go_wp2_with fail
            try rw [Exit.noGoto_ret]
            exact bodyPost_ret (v:= .tuple #[.float .f64 (bf.toNat),.int .i64 i,.nilIface]) (by simp [results,Tryz.results94,go_sem]) rfl ⟨.inr ⟨bf.toNat,i,false,by rw [HR.out,← Hr.out]<;>rfl,rfl⟩,be_⟩
           case true=>
            go_wp2_with fail
            try rw [Exit.noGoto_ret]
            exact bodyPost_ret (v:= .tuple #[.float .f64 (bf.toNat),.int .i64 i,.iface 163 (.int .i64 1)]) (by simp [results,Tryz.results94,go_sem]) rfl ⟨.inr ⟨bf.toNat,i,true,by rw [HR.out,← Hr.out]<;>rfl,rfl⟩,be_⟩
theorem Cheats.up {w0 W:World} {l:List Blk} {ad:Addr} {c:Nat} (h:Cheats w0 ad c) (H:At w0 l W):Cheats W ad c:=⟨pw_cell_add H h.v,fun k hk=>pw_cell_add H (h.d k hk),fun k hk=>pw_cell_add H (h.s k hk)⟩
theorem Pows.up {w0 W:World} {l:List Blk} {ad:Addr} {c:Nat} (h:Pows w0 ad c) (H:At w0 l W):Pows W ad c:=⟨pw_cell_add H h.v,fun k hk=>pw_cell_add H (h.d k hk)⟩
def ErrC (w:World) (k:Nat):Prop:=∃ ev,w.cell? ⟨k,0,none⟩=some ev∧(ev= .nilIface∨∃ te pe,ev= .iface te pe)
theorem ErrC.up {w0 W:World} {l:List Blk} {k:Nat} (h:ErrC w0 k) (H:At w0 l W):ErrC W k:=by
 obtain ⟨ev,h1,h2⟩:=h
 exact ⟨ev,pw_cell_add H h1,h2⟩
structure FTabs (w:World):Prop where
 i:Finfo w
 t:Two w
 p:∃ ad c,Pow8 w ad c
 n:Tens w
 c:∃ ad c,Cheats w ad c
 q:∃ ad c,Pows w ad c
 o:w.cell? ⟨4,0,none⟩=some (.bool true)
 sy:ErrC w 1
 ra:ErrC w 2
theorem FTabs.up {w0 W:World} {l:List Blk} (h:FTabs w0) (H:At w0 l W):FTabs W:=by
 obtain ⟨a8,c8,h8⟩:=h.p
 obtain ⟨a1,c1,h1⟩:=h.c
 obtain ⟨a7,c7,h7⟩:=h.q
 exact ⟨h.i.up H,h.t.up H,⟨a8,c8,h8.up H⟩,h.n.up H,⟨a1,c1,h1.up H⟩,⟨a7,c7,h7.up H⟩,pw_cell_add H h.o,h.sy.up H,h.ra.up H⟩
def L0:List Nat:=List.replicate 800 0
theorem L0_len:L0.length=800:=List.length_replicate
def AtW (s:ByteArray) (f:Nat) (n:Int) (er:Value):Prop:=(atF L0 s=none∧f=0∧er=errY)∨∃ b,atF L0 s=some (f,n,b)∧er=erv b
def AtV (s:ByteArray) (v:Value):Prop:=∃ (f:Nat) (n:Int) (er:Value),v= .tuple #[.float .f64 f,.int .i64 n,er]∧AtW s f n er
theorem at_call (s:ByteArray) (w:World) (hs:s.size≤1048576) (hF:FTabs w):Calls Tryz.prog 94 #[.string s] w fun e w'=>∃ v,e= .returned v∧AtV s v∧Below w.heap.size w w':=by
 obtain ⟨a8,c8,h8⟩:=hF.p
 obtain ⟨a1,c1,h1⟩:=hF.c
 obtain ⟨a7,c7,h7⟩:=hF.q
 refine (atof_ok s hs hF.i hF.t h8 hF.n h1 h7 hF.o L0_len zc235).mono ?_
 rintro e w' ⟨h|⟨f,n,b,h,he⟩,hb⟩
 ·obtain ⟨h,n,he⟩:=h
  exact ⟨_,he,⟨0,n,errY,rfl,.inl ⟨h,rfl,rfl⟩⟩,hb⟩
 ·exact ⟨_,he,⟨f,n,erv b,rfl,.inr ⟨b,h,rfl⟩⟩,hb⟩
def pfF (s:ByteArray):Option (Nat×Bool):=match atF L0 s with|none=>none|some (f,n,b)=>if n=(s.size:Int) then some (f,b) else none
def PfW (s:ByteArray) (f:Nat) (er:Value):Prop:=(pfF s=none∧f=0∧er=errY)∨∃ b,pfF s=some (f,b)∧er=erv b
def PfV (s:ByteArray) (v:Value):Prop:=∃ (f:Nat) (er:Value),v= .tuple #[.float .f64 f,er]∧PfW s f er
theorem pfW_eq {s:ByteArray} {f:Nat} {n:Int} {er:Value} (h:AtW s f n er) (hn:n=(s.size:Int)):PfW s f er:=by
 rcases h with ⟨h,hf,he⟩|⟨b,h,he⟩
 ·exact .inl ⟨by unfold pfF;rw [h],hf,he⟩
 ·exact .inr ⟨b,by unfold pfF;rw [h];exact if_pos hn,he⟩
theorem pfW_ne {s:ByteArray} {f:Nat} {n:Int} {er:Value} (h:AtW s f n er) (hn:n≠(s.size:Int)):PfW s 0 errY:=by
 rcases h with ⟨h,hf,he⟩|⟨b,h,he⟩
 ·exact .inl ⟨by unfold pfF;rw [h],rfl,rfl⟩
 ·exact .inl ⟨by unfold pfF;rw [h];exact if_neg hn,rfl,rfl⟩
theorem pfx_ok {w:World} (s:ByteArray) (hs:s.size≤1048576) (hF:FTabs w):
  Calls Tryz.prog 65 #[.string s,.int .i64 64] w fun e w'=>∃ v,e= .returned v∧AtV s v∧Below w.heap.size w w':=by
 obtain ⟨Hs,HF⟩:=as2_ hs hF;clear hs hF;have HK:=st0_ w
 go_enter Tryz.func65,Tryz.ntmps65
 go_wp2_with (first|((with_reducible refine gd_ 23 ?_);refine cw_ #[.string s] Tryz.func94 (at_call s _ Hs.out (HF.out.up HK.out)) ?_;intro v23 wc23 HK1 hF hB;obtain ⟨f,n,er,rfl,h1⟩:=hF;have H1:=asd_ h1;clear h1;replace HK:=asd_ HK1;clear HK1;skip;skip))
 try rw [Exit.noGoto_ret]
 exact bodyPost_ret (v:= .tuple #[.float .f64 f,.int .i64 n,er]) (by simp [results,Tryz.results65,go_sem]) rfl ⟨_,rfl,⟨f,n,er,rfl,H1.out⟩,be_⟩
theorem pf51_ok {w:World} (s:ByteArray) (hs:s.size≤1048576) (hF:FTabs w):
  Calls Tryz.prog 51 #[.string s,.int .i64 64] w fun e w'=>∃ v,e= .returned v∧PfV s v∧Below w.heap.size w w':=by
 obtain ⟨Hs,HF⟩:=as2_ hs hF;clear hs hF;have HK:=st0_ w
 go_enter Tryz.func51,Tryz.ntmps51
 go_upto_if 19 with (first|((with_reducible refine gd_ 12 ?_);refine cw_ #[.string s,.int .i64 64] Tryz.func65 (pfx_ok s Hs.out (HF.out.up HK.out)) ?_;intro v12 wc12 HK1 hF hB;obtain ⟨f,n,er,rfl,h1⟩:=hF;have H1:=asd_ h1;clear h1;replace HK:=asd_ HK1;clear HK1;skip;skip))
 by_cases hn:n=(s.size:Int)
 case pos=>
  have Hn:=asd_ hn;have g1:(n != (s.size:Int))=false:=bne_eq_false_iff_eq.2 hn;go_wp2_with fail
  go_ret2
  exact ⟨_,rfl,⟨f,er,rfl,pfW_eq H1.out Hn.out⟩,be_⟩
 case neg=>
  have Hn:=asd_ hn;have g1:(n != (s.size:Int))=true:=bne_iff_ne.2 hn;go_wp2_with fail
  go_ret2
  exact ⟨_,rfl,⟨0,errY,rfl,pfW_ne H1.out Hn.out⟩,be_⟩
theorem p51_of {s:ByteArray} {w:World} (hs:s.size≤1048576) (hF:FTabs w) {f:Nat} {er:Value} (h:∀ f2 er2,PfW s f2 er2→f2=f∧er2=er):
  Calls Tryz.prog 51 #[.string s,.int .i64 64] w fun e w'=>e= .returned (.tuple #[.float .f64 f,er])∧Below w.heap.size w w':=
 (pf51_ok s hs hF).mono fun e w' ⟨v,he,⟨f2,er2,hv,hp⟩,hb⟩=>by
  obtain ⟨h1,h2⟩:=h f2 er2 hp
  exact ⟨by rw [he,hv,h1,h2],hb⟩
theorem p51_none {s:ByteArray} {w:World} (hs:s.size≤1048576) (hF:FTabs w) (h:pfF s=none):
  Calls Tryz.prog 51 #[.string s,.int .i64 64] w fun e w'=>e= .returned (.tuple #[.float .f64 0,.iface 163 (.int .i64 2)])∧Below w.heap.size w w':=
 p51_of hs hF fun f2 er2 hp=>by
  rcases hp with ⟨_,hf,he⟩|⟨b,hq,he⟩
  ·exact ⟨hf,he⟩
  ·rw [h] at hq;cases hq
theorem p51_some {s:ByteArray} {w:World} (hs:s.size≤1048576) (hF:FTabs w) {f:Nat} {b:Bool} (h:pfF s=some (f,b)):
  Calls Tryz.prog 51 #[.string s,.int .i64 64] w fun e w'=>e= .returned (.tuple #[.float .f64 f,erv b])∧Below w.heap.size w w':=
 p51_of hs hF fun f2 er2 hp=>by
  rcases hp with ⟨hq,_,_⟩|⟨b2,hq,he⟩
  ·rw [h] at hq;cases hq
  ·rw [h] at hq;cases hq;exact ⟨rfl,he⟩
theorem te_syn (fn s:ByteArray) (w:World) (hs:s.size≤1048576) (hF:FTabs w):Calls Tryz.prog 50 #[.string fn,.string s,.int .i64 0,.int .i64 64,.iface 163 (.int .i64 2)] w fun e w'=>∃ v,e= .returned v∧(∃ N,v= .iface 166 (.pointer (some ⟨N,0,none⟩)))∧Below w.heap.size w w':=by
 obtain ⟨ev,h1,h2⟩:=hF.sy
 exact (Tryz.strconv_toError_syntax fn s 0 64 ev w (by omega) h1 h2).mono fun e w' ⟨N,he,_,_,hb⟩=>⟨_,he,⟨N,rfl⟩,hb⟩
theorem te_ran (fn s:ByteArray) (w:World) (hs:s.size≤1048576) (hF:FTabs w):Calls Tryz.prog 50 #[.string fn,.string s,.int .i64 0,.int .i64 64,.iface 163 (.int .i64 1)] w fun e w'=>∃ v,e= .returned v∧(∃ N,v= .iface 166 (.pointer (some ⟨N,0,none⟩)))∧Below w.heap.size w w':=by
 obtain ⟨ev,h1,h2⟩:=hF.ra
 exact (Tryz.strconv_toError_range fn s 0 64 ev w (by omega) h1 h2).mono fun e w' ⟨N,he,_,_,hb⟩=>⟨_,he,⟨N,rfl⟩,hb⟩
theorem p32_none {w:World} {f:Nat} (s:ByteArray) (hs:s.size≤1048576) (hF:FTabs w) (hh:pfF s=none):
  Calls Tryz.prog 32 #[.string s,.int .i64 64] w fun e w'=>∃ v,e= .returned v∧(∃ f te pe,v= .tuple #[.float .f64 f,.iface te pe])∧Below w.heap.size w w':=by
 obtain ⟨Hs,HF,Hh⟩:=as3_ hs hF hh;clear hs hF hh;have HK:=st0_ w
 go_enter Tryz.func32,Tryz.ntmps32
 go_wp2_with (first|((with_reducible refine gd_ 20 ?_);refine cw_ #[.string ⟨#[80,97,114,115,101,70,108,111,97,116]⟩,.string s,.int .i64 0,.int .i64 64,.iface 163 (.int .i64 2)] Tryz.func50 (te_syn _ s _ Hs.out (HF.out.up HK.out)) ?_;intro v20 wc20 HK1 hF hB;obtain ⟨N,rfl⟩:=hF;replace HK:=asd_ HK1;clear HK1;skip;skip)|((with_reducible refine gd_ 11 ?_);refine cl_ #[.string s,.int .i64 64] (.tuple #[.float .f64 0,.iface 163 (.int .i64 2)]) Tryz.func51 (p51_none Hs.out (HF.out.up HK.out) Hh.out) ?_;intro wc11 HK1;replace HK:=asd_ HK1;clear HK1;skip))
 go_ret2
 exact ⟨_,rfl,⟨_,_,_,rfl⟩,be_⟩
theorem p32_far {w:World} {f:Nat} (s:ByteArray) (hs:s.size≤1048576) (hF:FTabs w) (hh:pfF s=some (f,true)):
  Calls Tryz.prog 32 #[.string s,.int .i64 64] w fun e w'=>∃ v,e= .returned v∧(∃ f te pe,v= .tuple #[.float .f64 f,.iface te pe])∧Below w.heap.size w w':=by
 obtain ⟨Hs,HF,Hh⟩:=as3_ hs hF hh;clear hs hF hh;have HK:=st0_ w
 go_enter Tryz.func32,Tryz.ntmps32
 go_wp2_with (first|((with_reducible refine gd_ 20 ?_);refine cw_ #[.string ⟨#[80,97,114,115,101,70,108,111,97,116]⟩,.string s,.int .i64 0,.int .i64 64,.iface 163 (.int .i64 1)] Tryz.func50 (te_ran _ s _ Hs.out (HF.out.up HK.out)) ?_;intro v20 wc20 HK1 hF hB;obtain ⟨N,rfl⟩:=hF;replace HK:=asd_ HK1;clear HK1;skip;skip)|((with_reducible refine gd_ 11 ?_);refine cl_ #[.string s,.int .i64 64] (.tuple #[.float .f64 f,.iface 163 (.int .i64 1)]) Tryz.func51 (p51_some Hs.out (HF.out.up HK.out) Hh.out) ?_;intro wc11 HK1;replace HK:=asd_ HK1;clear HK1;skip))
 go_ret2
 exact ⟨_,rfl,⟨_,_,_,rfl⟩,be_⟩
theorem p32_ok {w:World} {f:Nat} (s:ByteArray) (hs:s.size≤1048576) (hF:FTabs w) (hh:pfF s=some (f,false)):
  Calls Tryz.prog 32 #[.string s,.int .i64 64] w fun e w'=>e= .returned (.tuple #[.float .f64 f,.nilIface])∧Below w.heap.size w w':=by
 obtain ⟨Hs,HF,Hh⟩:=as3_ hs hF hh;clear hs hF hh;have HK:=st0_ w
 go_enter Tryz.func32,Tryz.ntmps32
 go_wp2_with (first|((with_reducible refine gd_ 11 ?_);refine cl_ #[.string s,.int .i64 64] (.tuple #[.float .f64 f,.nilIface]) Tryz.func51 (p51_some Hs.out (HF.out.up HK.out) Hh.out) ?_;intro wc11 HK1;replace HK:=asd_ HK1;clear HK1;skip))
 go_ret2
 exact ⟨rfl,be_⟩
theorem floats {w0:World} (hF:FTabs w0) (s:ByteArray) (hs:s.size≤1048576):(∃ f,FOk w0 s f)∨FBad w0 s:=by
 have hup:∀ W,Below w0.heap.size w0 W→FTabs W:=fun W hb=>hF.up (⟨hb,trivial,List.nodup_nil⟩:At w0 [] W)
 cases h:pfF s with
 |none=>exact .inr fun W hb=>p32_none (f:=0) s hs (hup W hb) h
 |some x=>
  obtain ⟨f,b⟩:=x
  cases b with
  |true=>exact .inr fun W hb=>p32_far s hs (hup W hb) h
  |false=>exact .inl ⟨f,fun W hb=>p32_ok s hs (hup W hb) h⟩
theorem i49 (s:ByteArray) (w:World) (hs:s.size≤1048576) {v:Value} (h:Lib.intTuple 163 (Lib.intSat 64 s.data.toList) (Lib.parseIntB 64 s.data.toList)=v):
  Calls Tryz.prog 49 #[.string s,.int .i64 10,.int .i64 64] w fun e w'=>e= .returned v∧Below w.heap.size w w':=
 (Tryz.internal_strconv_ParseInt_10_all64 s (by omega) w).mono fun e w' ⟨he,hw⟩=>by
  refine ⟨by rw [he,h],?_⟩
  rcases hw with rfl|⟨t,rfl⟩
  ·exact Below.refl _ _
  ·exact bytes_below (Below.refl _ _) (Nat.le_refl _) 5 t
theorem ti_syn (fn s:ByteArray) (w:World) (hs:s.size≤1048576) (hF:FTabs w):Calls Tryz.prog 50 #[.string fn,.string s,.int .i64 10,.int .i64 64,.iface 163 (.int .i64 2)] w fun e w'=>∃ v,e= .returned v∧(∃ N,v= .iface 166 (.pointer (some ⟨N,0,none⟩)))∧Below w.heap.size w w':=by
 obtain ⟨ev,h1,h2⟩:=hF.sy
 exact (Tryz.strconv_toError_syntax fn s 10 64 ev w (by omega) h1 h2).mono fun e w' ⟨N,he,_,_,hb⟩=>⟨_,he,⟨N,rfl⟩,hb⟩
theorem ti_ran (fn s:ByteArray) (w:World) (hs:s.size≤1048576) (hF:FTabs w):Calls Tryz.prog 50 #[.string fn,.string s,.int .i64 10,.int .i64 64,.iface 163 (.int .i64 1)] w fun e w'=>∃ v,e= .returned v∧(∃ N,v= .iface 166 (.pointer (some ⟨N,0,none⟩)))∧Below w.heap.size w w':=by
 obtain ⟨ev,h1,h2⟩:=hF.ra
 exact (Tryz.strconv_toError_range fn s 10 64 ev w (by omega) h1 h2).mono fun e w' ⟨N,he,_,_,hb⟩=>⟨_,he,⟨N,rfl⟩,hb⟩
theorem p31_ok {w:World} {n:Int} (s:ByteArray) (hs:s.size≤1048576) (hF:FTabs w) (hh:Lib.intTuple 163 (Lib.intSat 64 s.data.toList) (Lib.parseIntB 64 s.data.toList)= .tuple #[.int .i64 n,.nilIface]):
  Calls Tryz.prog 31 #[.string s,.int .i64 10,.int .i64 64] w fun e w'=>e= .returned (.tuple #[.int .i64 n,.nilIface])∧Below w.heap.size w w':=by
 obtain ⟨Hs,HF,Hh⟩:=as3_ hs hF hh;clear hs hF hh;have HK:=st0_ w
 go_enter Tryz.func31,Tryz.ntmps31
 go_wp2_with (first|((with_reducible refine gd_ 13 ?_);refine cl_ #[.string s,.int .i64 10,.int .i64 64] (.tuple #[.int .i64 n,.nilIface]) Tryz.func49 (i49 s _ Hs.out Hh.out) ?_;intro wc13 HK1;replace HK:=asd_ HK1;clear HK1;skip))
 go_ret2
 exact ⟨rfl,be_⟩
theorem p31_syn {w:World} {n:Int} (s:ByteArray) (hs:s.size≤1048576) (hF:FTabs w) (hh:Lib.intTuple 163 (Lib.intSat 64 s.data.toList) (Lib.parseIntB 64 s.data.toList)= .tuple #[.int .i64 0,.iface 163 (.int .i64 2)]):
  Calls Tryz.prog 31 #[.string s,.int .i64 10,.int .i64 64] w fun e w'=>∃ v,e= .returned v∧(∃ n te pe,v= .tuple #[.int .i64 n,.iface te pe])∧Below w.heap.size w w':=by
 obtain ⟨Hs,HF,Hh⟩:=as3_ hs hF hh;clear hs hF hh;have HK:=st0_ w
 go_enter Tryz.func31,Tryz.ntmps31
 go_wp2_with (first|((with_reducible refine gd_ 23 ?_);refine cw_ #[.string ⟨#[80,97,114,115,101,73,110,116]⟩,.string s,.int .i64 10,.int .i64 64,.iface 163 (.int .i64 2)] Tryz.func50 (ti_syn _ s _ Hs.out (HF.out.up HK.out)) ?_;intro v23 wc23 HK1 hF hB;obtain ⟨N,rfl⟩:=hF;replace HK:=asd_ HK1;clear HK1;skip;skip)|((with_reducible refine gd_ 13 ?_);refine cl_ #[.string s,.int .i64 10,.int .i64 64] (.tuple #[.int .i64 0,.iface 163 (.int .i64 2)]) Tryz.func49 (i49 s _ Hs.out Hh.out) ?_;intro wc13 HK1;replace HK:=asd_ HK1;clear HK1;skip))
 go_ret2
 exact ⟨_,rfl,⟨_,_,_,rfl⟩,be_⟩
theorem p31_ran {w:World} {n:Int} (s:ByteArray) (hs:s.size≤1048576) (hF:FTabs w) (hh:Lib.intTuple 163 (Lib.intSat 64 s.data.toList) (Lib.parseIntB 64 s.data.toList)= .tuple #[.int .i64 n,.iface 163 (.int .i64 1)]):
  Calls Tryz.prog 31 #[.string s,.int .i64 10,.int .i64 64] w fun e w'=>∃ v,e= .returned v∧(∃ n te pe,v= .tuple #[.int .i64 n,.iface te pe])∧Below w.heap.size w w':=by
 obtain ⟨Hs,HF,Hh⟩:=as3_ hs hF hh;clear hs hF hh;have HK:=st0_ w
 go_enter Tryz.func31,Tryz.ntmps31
 go_wp2_with (first|((with_reducible refine gd_ 23 ?_);refine cw_ #[.string ⟨#[80,97,114,115,101,73,110,116]⟩,.string s,.int .i64 10,.int .i64 64,.iface 163 (.int .i64 1)] Tryz.func50 (ti_ran _ s _ Hs.out (HF.out.up HK.out)) ?_;intro v23 wc23 HK1 hF hB;obtain ⟨N,rfl⟩:=hF;replace HK:=asd_ HK1;clear HK1;skip;skip)|((with_reducible refine gd_ 13 ?_);refine cl_ #[.string s,.int .i64 10,.int .i64 64] (.tuple #[.int .i64 n,.iface 163 (.int .i64 1)]) Tryz.func49 (i49 s _ Hs.out Hh.out) ?_;intro wc13 HK1;replace HK:=asd_ HK1;clear HK1;skip))
 go_ret2
 exact ⟨_,rfl,⟨_,_,_,rfl⟩,be_⟩
theorem ints {w0:World} (hF:FTabs w0) (s:ByteArray) (hs:s.size≤1048576):(∃ n,IOk w0 s n)∨IBad w0 s:=by
 have hup:∀ W,Below w0.heap.size w0 W→FTabs W:=fun W hb=>hF.up (⟨hb,trivial,List.nodup_nil⟩:At w0 [] W)
 cases h:Lib.parseIntB 64 s.data.toList
 case ok n=>exact .inl ⟨n,fun W hb=>p31_ok s hs (hup W hb) (by rw [h];rfl)⟩
 case range=>exact .inr fun W hb=>p31_ran s hs (hup W hb) (by rw [h];rfl)
 exact .inr fun W hb=>p31_syn (n:=0) s hs (hup W hb) (by rw [h];rfl)
theorem nums_ok {w0:World} (hF:FTabs w0):Nums w0:=⟨ints hF,floats hF⟩
end Go.Proofs.YtlblbefbbibpaaaGreatDoor.J
