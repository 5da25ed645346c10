/- Part. -/
import Derived.Test.YtlblbefbbibpaaaGreatDoorQBA
import Derived.ScopeJumps
import Derived.Test.YtlblbefbbibpaaaGreatDoorQAQ
set_option linter.unusedVariables false
set_option linter.unusedSimpArgs false
set_option maxHeartbeats 8000000
set_option maxRecDepth 100000
namespace Go.Proofs.YtlblbefbbibpaaaGreatDoor.J
open Go.RowKit Zw Zw.PrintWords Zw.PrintLast Zw.PrintMore PAM
theorem q0_le {k nd:Nat} (hk:k≤60):∀ (r n:Nat),nd≤r→10 ^ (r - nd)≤n→n < 10 * 2 ^ k→(Dec.q0 k r n).1≤nd + 20:=by
 intro r n
 have hp:=pw60 hk
 rw [Dec.q0]
 split
 ·rename_i h
  intro h1 h2 h3
  have:=ten_lt h2 (by omega)
  show r≤nd + 20
  omega
 ·rename_i h
  intro h1 h2 h3
  refine q0_le hk (r + 1) (n * 10) (by omega) ?_ (by omega)
  rw [show r + 1 - nd=(r - nd) + 1 by omega,Nat.pow_succ]
  omega
termination_by r n=>2 ^ k - n
decreasing_by omega
theorem q1_le {s:Dec.D} (hs:Dec.Good s) (h0:0 < s.nd) {k:Nat} (hk:k≤60):∀ (r n:Nat),r≤s.nd→Dec.J1 k s.nd s.d r n→(Dec.q1 k s.nd s.d r n).1≤s.nd + 20:=by
 intro r n h1 h
 rw [Dec.q1]
 split
 ·show r≤s.nd + 20
  omega
 ·rename_i hn
  split
  ·rename_i hr
   exact q1_le hs h0 hk (r + 1) _ (by omega) (h.step hn hr (hs.dg r hr) (hs.top h0))
  ·rename_i hr
   refine q0_le hk r n (by omega) ?_ h.lt
   rw [show r - s.nd=0 by omega]
   exact h.pos (by omega)
termination_by r n=>s.nd - r
decreasing_by omega
theorem rd_le {s:Dec.D} (hs:Dec.Good s) (h0:0 < s.nd) {k:Nat} (hk:k≤60):(Dec.rd k s).1≤s.nd + 20:=q1_le hs h0 hk 0 0 (Nat.zero_le _) (Dec.J1.start _ _ _)
theorem rsh_dp {s:Dec.D} (hs:Dec.Good s) (h0:0 < s.nd) {k:Nat} (hk:k≤60):s.dp - 819≤(Dec.rsh k s).dp∧(Dec.rsh k s).dp≤s.dp:=by
 obtain ⟨_,_,e,_⟩:=Dec.rsh_good hs h0 k
 have h1:=rd_le hs h0 hk
 obtain ⟨_,_,h2⟩:=Dec.rd_inv hs h0 k
 have:=hs.nd
 omega
def shr:Nat→Nat→Dec.D→Dec.D
 |0,_,s=>s
 |f + 1,k,s=>if 60 < k then shr f (k - 60) (Dec.rsh 60 s) else Dec.rsh k s
def shl (k:Nat) (s:Dec.D):Dec.D:=Dec.lsh k (cheat k).1 (cutOf k) s
theorem shr_good:∀ (f k:Nat) (s:Dec.D),Dec.Good s→0 < s.nd→Dec.Good (shr f k s)∧0 < (shr f k s).nd
 |0,_,s,h,h0=>⟨h,h0⟩
 |f + 1,k,s,h,h0=>by
  unfold shr
  split
  ·obtain ⟨a,b,_⟩:=Dec.rsh_good h h0 60
   exact shr_good f (k - 60) _ a b
  ·obtain ⟨a,b,_⟩:=Dec.rsh_good h h0 k
   exact ⟨a,b⟩
theorem shl_good {s:Dec.D} (h:Dec.Good s) (h0:0 < s.nd) {k:Nat} (h1:1≤k) (h2:k≤60):Dec.Good (shl k s)∧0 < (shl k s).nd∧s.dp≤(shl k s).dp∧(shl k s).dp≤s.dp + 19∧((shl k s).dp=s.dp→s.d.getD 0 0 < (shl k s).d.getD 0 0):=by
 obtain ⟨C,_,_,hd⟩:=cheat_row h1 h2
 obtain ⟨a,b,c,d⟩:=Dec.lsh_good C h h0 h1
 have hle:Dec.added (cheat k).1 (cutOf k) s≤19:=by unfold Dec.added;split<;>omega
 refine ⟨a,b,?_,?_,fun e=>d ?_⟩<;>unfold shl at * <;>omega
theorem shl_ok {w0 w:World} {l:List Blk} {g:Nat} {s:Dec.D} (k:Nat) {ad:Addr} {c:Nat} (H:At w0 (.b g (row (dc s) 235)::l) w) (hT:Cheats w0 ad c) (hg:w0.heap.size≤g) (hs:Dec.Good s) (hp:0 < s.nd) (hk1:1≤k) (hk2:k≤60) (hd1: -100000000≤s.dp) (hd2:s.dp≤100000000):
  Calls Tryz.prog 139 #[.pointer (some ⟨g,0,none⟩),.int .i64 k] w fun e w'=>e= .returned (.tuple #[])∧At w0 (.b g (row (dc (shl k s)) 235)::l) w':=by
 obtain ⟨Hg,Hgd,HL⟩:=as3_ hg hs hs.len;obtain ⟨Hp,Hd1,Hd2⟩:=as3_ hp hd1 hd2;clear hg hs hp hd1 hd2;have HT:=asd_ hT;clear hT
 have HK:=asd_ H;clear H
 have cnd:=At.dnd (W:=w) HK.out HL.out;have cdp:=At.ddp (W:=w) HK.out HL.out;have cneg:=At.dneg (W:=w) HK.out HL.out;have ctr:=At.dtr (W:=w) HK.out HL.out;have cfr:=At.dfro (W:=w) HK.out
 have f0:((s.nd:Int) == 0)=false:=beq_eq_false_iff_ne.2 (by have:=Hp.out;omega)
 have f1:decide ((0:Int) < (k:Int))=true:=decide_eq_true (by omega);have f1n:decide (0 < k)=true:=decide_eq_true (by omega);have f2:decide ((60:Int) < (k:Int))=false:=decide_eq_false (by omega);have f2n:decide (60 < k)=false:=decide_eq_false (by omega)
 have e1:IntKind.u64.wrap (k:Int)=(k:Int):=u64w _ (by omega) (by omega)
 have HL2:Aside0 ((shl k s).d.length=800):=⟨(shl_good Hgd.out Hp.out hk1 hk2).1.len⟩
 go_enter Tryz.func139,Tryz.ntmps139
 go_wp2_with (first|(refine wp_loop_once ?_)|((with_reducible refine gd_ 22 ?_);refine call_to #[.pointer (some ⟨g,0,none⟩),.int .u64 k] (.tuple #[]) _ rfl Tryz.func150 kr_ rfl rfl ar_ (lsh_ok k at_ HT.out Hg.out Hgd.out Hp.out hk1 hk2 Hd1.out Hd2.out) ?_;rintro wc22 HK1;replace HK:=asd_ HK1;clear HK1;skip;clear cnd cdp cneg ctr cfr;have cnd:=At.dnd (W:=wc22) HK.out HL2.out;have cdp:=At.ddp (W:=wc22) HK.out HL2.out;have cneg:=At.dneg (W:=wc22) HK.out HL2.out;have ctr:=At.dtr (W:=wc22) HK.out HL2.out;have cfr:=At.dfro (W:=wc22) HK.out))
 go_end0
 exact ⟨rfl,at_⟩
theorem shr_ok {w0 w:World} {l:List Blk} {g:Nat} {s:Dec.D} (k:Nat) (H:At w0 (.b g (row (dc s) 235)::l) w) (hg:w0.heap.size≤g) (hs:Dec.Good s) (hp:0 < s.nd) (hk1:1≤k) (hd1: -100000000≤s.dp - 14 * (k:Int)) (hd2:s.dp≤100000000):
  Calls Tryz.prog 139 #[.pointer (some ⟨g,0,none⟩),.int .i64 (-(k:Int))] w fun e w'=>e= .returned (.tuple #[])∧At w0 (.b g (row (dc (shr k k s)) 235)::l) w':=by
 obtain ⟨Hg,Hgd,HL⟩:=as3_ hg hs hs.len;obtain ⟨Hp,Hd1,Hd2⟩:=as3_ hp hd1 hd2;clear hg hs hp hd1 hd2
 have HK:=asd_ H;clear H
 have cnd:=At.dnd (W:=w) HK.out HL.out;have cdp:=At.ddp (W:=w) HK.out HL.out;have cneg:=At.dneg (W:=w) HK.out HL.out;have ctr:=At.dtr (W:=w) HK.out HL.out;have cfr:=At.dfro (W:=w) HK.out
 have f0:((s.nd:Int) == 0)=false:=beq_eq_false_iff_ne.2 (by have:=Hp.out;omega)
 obtain ⟨v,hv⟩:∃ v:Int,-(k:Int)=v:=⟨_,rfl⟩;rw [hv];have Hv:=asd_ hv.symm;clear hv
 have f1:decide (0 < v)=false:=decide_eq_false (by have:=Hv.out;omega);have f3:decide (v < 0)=true:=decide_eq_true (by have:=Hv.out;omega)
 go_enter Tryz.func139,Tryz.ntmps139
 go_wp2_with fail
 go_loopg [1] k (fun kq r w'=>∃ (v':Int) (m:Nat) (s':Dec.D),r= .int .i64 v'∧Aside0 (v'= -(m:Int))∧Aside0 (1≤m)∧Aside0 (m≤kq)∧Aside0 (kq≤k)∧Aside0 (Dec.Good s')∧Aside0 (0 < s'.nd)∧Aside0 (s'.dp≤s.dp)∧Aside0 (s.dp - 14 * ((k:Int) - m)≤s'.dp)∧Aside0 (shr kq m s'=shr k k s)∧Aside0 (At w0 (.b g (row (dc s') 235)::l) w'))
 case atStart=>exact ⟨v,k,s,rfl,Hv,⟨hk1⟩,⟨Nat.le_refl _⟩,⟨Nat.le_refl _⟩,Hgd,Hp,⟨Int.le_refl _⟩,⟨by omega⟩,⟨rfl⟩,⟨at_⟩⟩
 case round=>
  clear HK Hgd HL Hp Hv f0 f1 f3 cnd cdp cneg ctr cfr
  obtain ⟨v',m,s',rfl,Hv,Hm1,Hmk,Hkk,Hgd,Hp,Hdu,Hdl,Hs,HK⟩:=hrel
  have HL:Aside0 (s'.d.length=800):=⟨Hgd.out.len⟩
  have cnd:=At.dnd (W:=wr) HK.out HL.out;have cdp:=At.ddp (W:=wr) HK.out HL.out;have cneg:=At.dneg (W:=wr) HK.out HL.out;have ctr:=At.dtr (W:=wr) HK.out HL.out;have cfr:=At.dfro (W:=wr) HK.out
  obtain ⟨q,hq⟩:∃ q,gk=q + 1:=⟨gk - 1,by have:=Hmk.out;have:=Hm1.out;omega⟩;subst hq
  have hss:=Hs.out;simp only [shr] at hss
  by_cases h60:60 < m
  case pos=>
   rw [if_pos h60] at hss;have Hss:=asd_ hss;clear hss
   have f1:decide (v' < -60)=true:=decide_eq_true (by have:=Hv.out;omega)
   have e1:IntKind.i64.wrap (v' + 60)=v' + 60:=IntWalk.i64_in _ (by have:=Hv.out;have:=Hmk.out;have:=Hkk.out;have:=Hd1.out;have:=Hd2.out;omega)
   have H60:=asd_ h60;clear h60;obtain ⟨ha,hb,_⟩:=Dec.rsh_good Hgd.out Hp.out 60;have hc:=rsh_dp Hgd.out Hp.out (k:=60) (by omega);obtain ⟨Ha,Hb,Hc⟩:=as3_ ha hb hc;clear ha hb hc;have HL2:Aside0 ((Dec.rsh 60 s').d.length=800):=⟨Ha.out.len⟩
   go_wp2_with (first|((with_reducible refine gd_ 29 ?_);refine call_to #[.pointer (some ⟨g,0,none⟩),.int .u64 60] (.tuple #[]) _ rfl Tryz.func151 kr_ rfl rfl ar_ (rsh_ok 60 at_ Hg.out Hgd.out Hp.out (by omega) (by omega) (by have:=Hdl.out;have:=Hd1.out;have:=Hmk.out;have:=Hkk.out;omega) (by have:=Hdu.out;have:=Hd2.out;omega)) ?_;rintro wc29 HK1;replace HK:=asd_ HK1;clear HK1;skip;clear cnd cdp cneg ctr cfr;have cnd:=At.dnd (W:=wc29) HK.out HL2.out;have cdp:=At.ddp (W:=wc29) HK.out HL2.out;have cneg:=At.dneg (W:=wc29) HK.out HL2.out;have ctr:=At.dtr (W:=wc29) HK.out HL2.out;have cfr:=At.dfro (W:=wc29) HK.out))
   go_roundg q
   case measure=>exact Nat.lt_succ_self _
   case rel=>exact ⟨v' + 60,m - 60,Dec.rsh 60 s',rfl,⟨by have:=Hv.out;have:=H60.out;omega⟩,⟨by have:=H60.out;omega⟩,⟨by have:=Hmk.out;omega⟩,⟨by have:=Hkk.out;omega⟩,Ha,Hb,⟨by have:=Hc.out.2;have:=Hdu.out;omega⟩,⟨by have:=Hc.out.1;have:=Hdl.out;have:=H60.out;omega⟩,Hss,⟨at_⟩⟩
  case neg=>
   rw [if_neg h60] at hss;have Hss:=asd_ hss;clear hss
   have f1:decide (v' < -60)=false:=decide_eq_false (by have:=Hv.out;omega)
   have e1:IntKind.i64.wrap (-v')=(m:Int):=by rw [IntWalk.i64_in _ (by have:=Hv.out;omega)];have:=Hv.out;omega
   have e2:IntKind.u64.wrap (m:Int)=(m:Int):=u64w _ (by omega) (by omega);have H60:=asd_ h60;clear h60
   have HL2:Aside0 ((Dec.rsh m s').d.length=800):=⟨(Dec.rsh_good Hgd.out Hp.out m).1.len⟩
   go_wp2_with (first|((with_reducible refine gd_ 36 ?_);refine call_to #[.pointer (some ⟨g,0,none⟩),.int .u64 m] (.tuple #[]) _ rfl Tryz.func151 kr_ rfl rfl ar_ (rsh_ok m at_ Hg.out Hgd.out Hp.out Hm1.out (by have:=H60.out;omega) (by have:=Hdl.out;have:=Hd1.out;have:=Hm1.out;omega) (by have:=Hdu.out;have:=Hd2.out;omega)) ?_;rintro wc36 HK1;replace HK:=asd_ HK1;clear HK1;skip;clear cnd cdp cneg ctr cfr;have cnd:=At.dnd (W:=wc36) HK.out HL2.out;have cdp:=At.ddp (W:=wc36) HK.out HL2.out;have cneg:=At.dneg (W:=wc36) HK.out HL2.out;have ctr:=At.dtr (W:=wc36) HK.out HL2.out;have cfr:=At.dfro (W:=wc36) HK.out))
   go_end0
   rw [← Hss.out];exact ⟨rfl,at_⟩
def Exit.jumps (J:Nat→Act→World→Prop) (Q:Exit→Act→World→Prop):Exit→Act→World→Prop
 | .goto l,a,w=>J l a w
 |e,a,w=>Q e a w
section
variable {P:Program} {a:Act} {w:World} {Q:Exit→Act→World→Prop} {J:Nat→Act→World→Prop}
@[go_sem] theorem Exit.jumps_normal:Exit.jumps J Q .normal a w=Q .normal a w:=rfl
@[go_sem] theorem Exit.jumps_exit (id:Nat):Exit.jumps J Q (.exit id) a w=Q (.exit id) a w:=rfl
@[go_sem] theorem Exit.jumps_ret:Exit.jumps J Q .ret a w=Q .ret a w:=rfl
@[go_sem] theorem Exit.jumps_panic (ch:List PanicEntry):Exit.jumps J Q (.panic ch) a w=Q (.panic ch) a w:=rfl
theorem wp_scope_fwd {c:Code} (J:Nat→Act→World→Prop) (first:c.wp P (Exit.jumps J Q) a w) (pass:∀ l a w,J l a w→∃ rest,findLabel c l=some rest∧rest.wp P (Exit.noGoto Q) a w):(Code.scope c).wp P Q a w:=by
 intro b k cs
 obtain ⟨e,a₁,w₁,hq,harr⟩:=first b (.inScope c::k) cs
 cases e with
 |normal=>exact ⟨.normal,a₁,w₁,hq,.head step_scope (Steps.trans harr (.one step_inScope))⟩
 |exit id=>exact ⟨.exit id,a₁,w₁,hq,fun k' hk=> .head step_scope (harr k' (by simp [exitTo,hk]))⟩
 |goto l=>
  obtain ⟨rest,hf,hr⟩:=pass l a₁ w₁ hq
  have hg:gotoIn l (.inScope c::k)=some (.code rest:: .inScope c::k):=by simp [gotoIn,hf]
  obtain ⟨e,a₂,w₂,hq₂,harr₂⟩:=hr b (.inScope c::k) cs
  have h0:=Arrives.of_steps (.head step_scope (harr _ hg)) harr₂
  cases e with
  |normal=>exact ⟨.normal,a₂,w₂,hq₂,Steps.trans h0 (.one step_inScope)⟩
  |exit id=>exact ⟨.exit id,a₂,w₂,hq₂,fun k' hk=>h0 k' (by simp [exitTo,hk])⟩
  |goto l'=>exact hq₂.elim
  |ret=>exact ⟨_,a₂,w₂,hq₂,h0⟩
  |panic ch=>exact ⟨_,a₂,w₂,hq₂,h0⟩
  |outgrown=>exact ⟨_,a₂,w₂,hq₂,h0⟩
 |ret=>exact ⟨_,a₁,w₁,hq,.of_steps (.one step_scope) harr⟩
 |panic ch=>exact ⟨_,a₁,w₁,hq,.of_steps (.one step_scope) harr⟩
 |outgrown=>exact ⟨_,a₁,w₁,hq,.of_steps (.one step_scope) harr⟩
end
def pt (n:Nat):Nat:=[1,3,6,9,13,16,19,23,26].getD n 27
structure Pows (w:World) (ad:Addr) (c:Nat):Prop where
 v:w.cell? ⟨7,0,none⟩=some (.slice (some ad) 9 c)
 d:∀ k,k < 9→w.cell? (ad.add k)=some (.int .i64 (pt k:Nat))
structure Finfo (w:World):Prop where
 m:w.cell? ⟨5,0,none⟩=some (.int .u64 52)
 e:w.cell? ⟨5,1,none⟩=some (.int .u64 11)
 b:w.cell? ⟨5,2,none⟩=some (.int .i64 (-1023))
theorem pt_le (n:Nat):1≤pt n∧pt n≤27:=by
 unfold pt
 match n with
 |0|1|2|3|4|5|6|7|8=>simp
 |n + 9=>simp
theorem pt_3 {n:Nat} (h:1≤n):3≤pt n:=by
 unfold pt
 match n with
 |0=>omega
 |1|2|3|4|5|6|7|8=>simp
 |n + 9=>simp
theorem pt_ge {n:Nat} (h:9≤n):pt n=27:=by
 unfold pt
 match n with
 |0|1|2|3|4|5|6|7|8=>omega
 |n + 9=>simp
abbrev FB (g:Nat) (T:Nat→Value) (m e:Int) (ov:Bool):Array Value:=#[.pointer (some ⟨g,0,none⟩),.pointer (some ⟨5,0,none⟩),T 2,T 3,T 4,.bool ov,.int .i64 e,.int .u64 m,T 8,T 9,T 10,T 11,T 12,T 13,T 14,T 15,T 16,T 17,T 18,T 19,T 20,T 21,T 22,T 23,T 24,T 25,T 26,T 27,T 28,T 29,T 30,T 31,T 32,T 33,T 34,T 35,T 36,T 37,T 38,T 39,T 40,T 41,T 42,T 43,T 44,T 45,T 46,T 47,T 48,T 49,T 50,T 51,T 52,T 53,T 54,T 55,T 56,T 57,T 58,T 59,T 60,T 61,T 62,T 63,T 64,T 65,T 66,T 67,T 68,T 69,T 70,T 71,T 72,T 73,T 74,T 75,T 76,T 77,T 78,T 79,T 80,T 81,T 82,T 83,T 84,T 85,T 86,T 87,T 88,T 89,T 90,T 91,T 92,T 93,T 94,T 95,T 96,T 97,T 98,T 99,T 100,T 101,T 102,T 103,T 104,T 105,T 106,T 107,T 108,T 109,T 110,T 111,T 112,T 113,T 114,T 115,T 116,T 117,T 118,T 119,T 120,T 121,T 122,T 123,T 124,T 125,T 126,T 127,T 128,T 129,T 130,T 131,T 132,T 133,T 134,T 135,T 136,T 137,T 138,T 139,T 140,T 141,T 142,T 143,T 144,T 145,T 146,T 147,T 148,T 149,T 150,T 151,T 152,T 153,T 154,T 155,T 156,T 157,T 158,T 159,T 160,T 161,T 162,T 163,T 164,T 165,T 166,T 167,T 168,T 169,T 170,T 171,T 172,T 173,T 174,T 175,T 176,T 177,T 178,T 179,T 180,T 181,T 182,T 183,T 184,T 185,T 186,T 187,T 188,T 189,T 190,T 191,T 192,T 193,T 194,T 195,T 196,T 197,T 198,T 199,T 200,T 201,T 202,T 203,T 204,T 205,T 206,T 207,T 208,T 209,T 210,T 211,T 212,T 213,T 214,T 215,T 216,T 217,T 218,T 219,T 220,T 221,T 222,T 223,T 224,T 225,T 226,T 227,T 228,T 229,T 230,T 231,T 232,T 233,T 234,T 235,T 236,T 237,T 238,T 239,T 240,T 241,T 242]
def fout (neg:Bool) (m e:Int):Int:=
 let b:=bits .or .u64 (bits .and .u64 m 4503599627370495) (IntKind.u64.wrap (IntKind.u64.wrap (bits .and .i64 (wrap64 (e + 1023)) 2047) * 4503599627370496))
 if neg then bits .or .u64 b 9223372036854775808 else b
def fb1:Nat→Dec.D→Int→Dec.D×Int
 |0,s,e=>(s,e)
 |f + 1,s,e=>if 0 < s.dp then fb1 f (shr (pt s.dp.toNat) (pt s.dp.toNat) s) (e + pt s.dp.toNat) else (s,e)
def up (s:Dec.D):Bool:=decide (s.dp < 0)||(decide (s.dp=0)&&decide (s.d.getD 0 0 < 53))
def fb2:Nat→Dec.D→Int→Dec.D×Int
 |0,s,e=>(s,e)
 |f + 1,s,e=>if up s then fb2 f (shl (pt (-s.dp).toNat) s) (e - pt (-s.dp).toNat) else (s,e)
def fb4 (neg:Bool) (m e:Int):Int×Bool:=(fout neg m (if bits .and .u64 m 4503599627370496=0 then -1023 else e),false)
def fb3 (neg:Bool) (s:Dec.D) (e:Int):Int×Bool:=
 if 1024≤e then (fout neg 0 1024,true) else
 let m:=ri (shl 53 s)
 if m=9007199254740992 then (if 1024≤e + 1 then (fout neg 0 1024,true) else fb4 neg 4503599627370496 (e + 1)) else fb4 neg m e
def fbd (s:Dec.D) (e:Int):Dec.D×Int:=if e < -1022 then (shr (-1022 - e).toNat (-1022 - e).toNat s,-1022) else (s,e)
def fbits (s:Dec.D):Int×Bool:=
 if s.nd=0 then (fout s.neg 0 (-1023),false) else if 310 < s.dp then (fout s.neg 0 1024,true) else if s.dp < -330 then (fout s.neg 0 (-1023),false) else
 let r1:=fb1 622 s 0
 let r2:=fb2 9100 r1.1 r1.2
 let r3:=fbd r2.1 (r2.2 - 1)
 fb3 s.neg r3.1 r3.2
theorem shr_neg:∀ (f k:Nat) (s:Dec.D),(shr f k s).neg=s.neg
 |0,_,_=>rfl
 |f + 1,k,s=>by
  unfold shr
  split
  ·exact shr_neg f (k - 60) _
  ·rfl
theorem shr_dp:∀ (f k:Nat) (s:Dec.D),Dec.Good s→0 < s.nd→k≤f→s.dp - 14 * (k:Int) - 819≤(shr f k s).dp∧(shr f k s).dp≤s.dp
 |0,k,s,h,h0,hk=>by unfold shr;omega
 |f + 1,k,s,h,h0,hk=>by
  unfold shr
  split
  ·obtain ⟨a,b,_⟩:=Dec.rsh_good h h0 60
   have:=shr_dp f (k - 60) _ a b (by omega)
   have:=rsh_dp h h0 (k:=60) (by omega)
   omega
  ·have:=rsh_dp h h0 (k:=k) (by omega)
   omega
def far1 (s:Dec.D):Nat:=2 * s.dp.toNat + if 56≤s.d.getD 0 0 then 1 else 0
def far2 (s:Dec.D):Nat:=if s.dp≤0 then (-s.dp).toNat * 10 + (58 - s.d.getD 0 0) + 1 else 0
theorem shr_one {k:Nat} (h1:1≤k) (h:k≤60) (s:Dec.D):shr k k s=Dec.rsh k s:=by
 cases k with
 |zero=>omega
 |succ k=>unfold shr;exact if_neg (by omega)
theorem far1_less {s:Dec.D} (hs:Dec.Good s) (h0:0 < s.nd) (hd:0 < s.dp):far1 (shr (pt s.dp.toNat) (pt s.dp.toNat) s) < far1 s:=by
 have hp:=pt_le s.dp.toNat
 rw [shr_one hp.1 (by omega)]
 obtain ⟨h1,h2⟩:=Dec.rsh_less hs h0 (pt s.dp.toNat) (pt_3 (by omega))
 unfold far1
 by_cases e:(Dec.rsh (pt s.dp.toNat) s).dp=s.dp
 ·obtain ⟨h3,h4⟩:=h2 e
  rw [e,if_pos h3,if_neg (by omega)]
  omega
 ·split<;>split<;>omega
theorem far2_less {s:Dec.D} (hs:Dec.Good s) (h0:0 < s.nd) (hd:up s=true):far2 (shl (pt (-s.dp).toNat) s) < far2 s:=by
 have hp:=pt_le (-s.dp).toNat
 obtain ⟨hg,h1,h2,h3,h4⟩:=shl_good hs h0 hp.1 (by omega:pt (-s.dp).toNat≤60)
 have t1:=hg.top h1
 have t2:=(hg.dg 0 h1).2
 have t3:=hs.top h0
 have t4:=(hs.dg 0 h0).2
 have hle:s.dp≤0:=by simp [up] at hd;omega
 unfold far2
 rw [if_pos hle]
 split
 ·by_cases e:(shl (pt (-s.dp).toNat) s).dp=s.dp
  ·have:=h4 e
   rw [e]
   omega
  ·omega
 ·omega
theorem jump_fb {g:Nat} {A:Array Value} {w' w0:World} {l:List Blk} {D:Dec.D} {neg:Bool} {R:Int→Int→Bool→Prop} (m e:Int) (ov:Bool) (hA:A=FB g (fun i=>A.getD i undef) m e ov) (hR:R m e ov) (hn:D.neg=neg) (hl:D.d.length=800) (hK:At w0 (.b g (row (dc D) 235)::l) w'):
  ∃ (T:Nat→Value) (m e:Int) (ov:Bool) (D:Dec.D),({tmps:=A,defers:=[]}:Act)={tmps:=FB g T m e ov,defers:=[]}∧R m e ov∧D.neg=neg∧D.d.length=800∧At w0 (.b g (row (dc D) 235)::l) w':=
 ⟨fun i=>A.getD i undef,m,e,ov,D,by rw [← hA],hR,hn,hl,hK⟩
theorem frombits (n:Int) (w:World):(callFunc 119 #[.int .u64 n]).run Tryz.prog w= .ok (.value (.float .f64 n.toNat)) w:=by
 rw [run_callFunc_extern (e:=Extern.MathFloatBits.float64frombits) Tryz.func119 kr_ rfl kr_ (by rfl)]
 rfl
theorem call119_run {a:Act} {o:Oper} {xs:Array Operand} {ts:Array TypeId} {w:World} (n:Int) (ho:o.op= .call {callee:= .value (.func 119),args:=xs,argTypes:=ts}) (hargs:xs.map a.eval=#[.int .u64 n]):(execOp a.eval o).run Tryz.prog w= .ok (.value (.float .f64 n.toNat)) w:=by
 have he:=frombits n w
 unfold execOp
 simp [ho,resolve,Deferred.ofValue,invoke,Act.eval,hargs,he]
theorem from_at {ops:Array Oper} {rest:List Oper} {o:Oper} {a:Act} {Q:Exit→Act→World→Prop} {W:World} {xs:Array Operand} {ts:Array TypeId} (n:Int) (m:Nat) (hm:n.toNat=m) (hgd:o.guard=none) (ho:o.op= .call {callee:= .value (.func 119),args:=xs,argTypes:=ts}) (hargs:xs.map a.eval=#[.int .u64 n])
  (h:wpList Tryz.prog ops Q rest (a.put o.dst (.float .f64 m)) W):wpList Tryz.prog ops Q (o::rest) a W:=by
 subst hm
 exact Kd.event_run hgd (call119_run n ho hargs) h
def ch (s:ByteArray) (i:Nat):Int:=if h:i < s.size then ((s[i]'h).toNat:Int) else 0
theorem ch_at {s:ByteArray} {i:Nat} (h:i < s.size):((s[i]'h).toNat:Int)=ch s i:=by simp [ch,h]
theorem ch_bd (s:ByteArray) (i:Nat):0≤ch s i∧ch s i≤255:=by
 unfold ch
 split
 ·rename_i h
  have:=(s[i]'h).toNat_lt
  omega
 ·omega
def fold (c:Int):Int:=if 65≤c∧c≤90 then c + 32 else c
def cp (s t:ByteArray):Nat→Nat→Nat
 |0,i=>i
 |f + 1,i=>if fold (ch s i)=ch t i then cp s t f (i + 1) else i
def cpl (s t:ByteArray):Nat:=cp s t (min t.size s.size) 0
theorem ri_ {k:IntKind} {a b:Int} (h:a=b):Ending.returned (.int k a)= .returned (.int k b):=by rw [h]
theorem cpl_ok (s t:ByteArray) (w:World) (hs:s.size≤1048576):
  Calls Tryz.prog 129 #[.string s,.string t] w fun e w'=>e= .returned (.int .i64 (cpl s t:Nat))∧Below w.heap.size w w':=by
 obtain ⟨n,hn⟩:∃ n,min t.size s.size=n:=⟨_,rfl⟩;have hns:n≤s.size:=(by omega);have hnt:n≤t.size:=(by omega);obtain ⟨Hns,Hnt,Hs,Hn⟩:=as4_ hns hnt hs hn
 have hmin:(if (s.size:Int) < (t.size:Int) then (s.size:Int) else (t.size:Int))=(n:Int):=by split<;>omega
 have hmin2:(if s.size < t.size then (s.size:Int) else (t.size:Int))=(n:Int):=by split<;>omega
 have hmin3:(if s.size < t.size then Value.int .i64 s.size else Value.int .i64 t.size)=Value.int .i64 n:=by split<;>(congr 1;omega)
 clear hn hns hnt hs
 have HK:=st0_ w
 go_enter Tryz.func129,Tryz.ntmps129
 go_wp2_with fail
 go_loopg [6] n (fun kq v6 w'=>∃ i:Nat,v6= .int .i64 i∧Aside0 (kq + i=n)∧Aside0 (cp s t kq i=cpl s t)∧Aside0 (At w [] w'))
 case atStart=>exact ⟨0,rfl,⟨rfl⟩,⟨by unfold cpl;rw [Hn.out]⟩,⟨at_⟩⟩
 case round=>
  clear HK hmin hmin2 hmin3;obtain ⟨i,rfl,Hi,Hc,HK⟩:=hrel
  cases gk with
  |zero=>
   have f0:decide (i < n)=false:=decide_eq_false (by have:=Hi.out;omega);have Hin:Aside0 (n=i):=⟨by have:=Hi.out;omega⟩
   go_wp2_with fail
   go_ret
   exact ⟨ri_ (by rw [← Hc.out,Hin.out];rfl),be_⟩
  |succ q=>
   have hin:i < n:=(by have:=Hi.out;omega);have f0:decide (i < n)=true:=decide_eq_true hin
   have q1:i < s.size:=(by have:=Hns.out;omega);have q2:i < t.size:=(by have:=Hnt.out;omega);have q3:(i:Int) < s.size:=(by omega);have q4:(i:Int) < t.size:=(by omega)
   obtain ⟨c,hc⟩:∃ c,ch s i=c:=⟨_,rfl⟩;obtain ⟨d,hd⟩:∃ d,ch t i=d:=⟨_,rfl⟩;have x1:((s[i]'q1).toNat:Int)=c:=(ch_at q1).trans hc;have x2:((t[i]'q2).toNat:Int)=d:=(ch_at q2).trans hd
   have cb:=ch_bd s i;rw [hc] at cb;obtain ⟨cb0,cb1⟩:=cb
   have hcp:=Hc.out;simp only [cp] at hcp;rw [hc,hd] at hcp
   have e1:IntKind.i64.wrap ((i:Int) + 1)=(i:Int) + 1:=IntWalk.i64_in _ (by have:=Hs.out;omega)
   obtain ⟨x,hx⟩:∃ x,fold c=x:=⟨_,rfl⟩;rw [hx] at hcp;unfold fold at hx;have Hcp:=asd_ hcp;clear hcp hc hd hin
   by_cases h65:65≤c
   case neg=>
    have f1:decide (65≤c)=false:=decide_eq_false h65;rw [if_neg (fun h=>h65 h.1)] at hx;subst hx;clear h65
    by_cases hxd:c=d
    case pos=>
     have hcp:=Hcp.out;rw [if_pos hxd] at hcp;clear Hcp;have Hcp:=asd_ hcp;clear hcp;have f9:(c != d)=false:=bne_eq_false_iff_eq.2 hxd;clear hxd
     go_wp2_with fail
     go_roundg q
     case measure=>exact Nat.lt_succ_self _
     case rel=>exact ⟨i + 1,by go_num,⟨by have:=Hi.out;omega⟩,Hcp,⟨at_⟩⟩
    case neg=>
     have hcp:=Hcp.out;rw [if_neg hxd] at hcp;clear Hcp;have Hcp:=asd_ hcp;clear hcp;have f9:(c != d)=true:=bne_iff_ne.2 hxd;clear hxd
     go_wp2_with fail
     go_ret
     exact ⟨ri_ (by rw [Hcp.out]),be_⟩
   case pos=>
    have f1:decide (65≤c)=true:=decide_eq_true h65;by_cases h90:c≤90
    case neg=>
     have f2:decide (c≤90)=false:=decide_eq_false h90;rw [if_neg (fun h=>h90 h.2)] at hx;subst hx;clear h65 h90
     by_cases hxd:c=d
     case pos=>
      have hcp:=Hcp.out;rw [if_pos hxd] at hcp;clear Hcp;have Hcp:=asd_ hcp;clear hcp;have f9:(c != d)=false:=bne_eq_false_iff_eq.2 hxd;clear hxd
      go_wp2_with fail
      go_roundg q
      case measure=>exact Nat.lt_succ_self _
      case rel=>exact ⟨i + 1,by go_num,⟨by have:=Hi.out;omega⟩,Hcp,⟨at_⟩⟩
     case neg=>
      have hcp:=Hcp.out;rw [if_neg hxd] at hcp;clear Hcp;have Hcp:=asd_ hcp;clear hcp;have f9:(c != d)=true:=bne_iff_ne.2 hxd;clear hxd
      go_wp2_with fail
      go_ret
      exact ⟨ri_ (by rw [Hcp.out]),be_⟩
    case pos=>
     have f2:decide (c≤90)=true:=decide_eq_true h90;rw [if_pos ⟨h65,h90⟩] at hx;have e2:IntKind.u8.wrap (c + 32)=x:=(by rw [IntKind.wrap_u8];omega);have e3:(c + 32) % 256=x:=(by omega);have e4:c + 32=x:=hx;clear h65 h90
     by_cases hxd:x=d
     case pos=>
      have hcp:=Hcp.out;rw [if_pos hxd] at hcp;clear Hcp;have Hcp:=asd_ hcp;clear hcp;have f9:(x != d)=false:=bne_eq_false_iff_eq.2 hxd;clear hxd
      go_wp2_with fail
      go_roundg q
      case measure=>exact Nat.lt_succ_self _
      case rel=>exact ⟨i + 1,by go_num,⟨by have:=Hi.out;omega⟩,Hcp,⟨at_⟩⟩
     case neg=>
      have hcp:=Hcp.out;rw [if_neg hxd] at hcp;clear Hcp;have Hcp:=asd_ hcp;clear hcp;have f9:(x != d)=true:=bne_iff_ne.2 hxd;clear hxd
      go_wp2_with fail
      go_ret
      exact ⟨ri_ (by rw [Hcp.out]),be_⟩
abbrev infS:ByteArray:=⟨#[105,110,102,105,110,105,116,121]⟩
abbrev nanS:ByteArray:=⟨#[110,97,110]⟩
def spI (t:ByteArray) (ns:Nat) (neg:Bool):Nat×Nat×Bool:=
 let n:=if 3 < cpl t infS∧cpl t infS < 8 then 3 else cpl t infS
 if n=3∨n=8 then (if neg then 18442240474082181120 else 9218868437227405312,ns + n,true) else (0,0,false)
def spF (s:ByteArray):Nat×Nat×Bool:=
 if s.size=0 then (0,0,false) else
 if ch s 0=43 then spI (s.extract 1 s.size) 1 false else if ch s 0=45 then spI (s.extract 1 s.size) 1 true else
 if ch s 0=105∨ch s 0=73 then spI s 0 false else
 if ch s 0=110∨ch s 0=78 then (if cpl s nanS=3 then (9221120237041090561,3,true) else (0,0,false)) else (0,0,false)
theorem inf_pos_ok (w:World):Calls Tryz.prog 130 #[.int .i64 1] w fun e w'=>e= .returned (.float .f64 9218868437227405312)∧Below w.heap.size w w':=by
 have HK:=st0_ w
 go_enter Tryz.func130,Tryz.ntmps130
 go_wp2_with ((with_reducible refine gd_ 7 ?_);refine from_at 9218868437227405312 9218868437227405312 rfl rfl rfl ar_ ?_)
 go_ret
 exact ⟨rfl,be_⟩
theorem inf_neg_ok (w:World):Calls Tryz.prog 130 #[.int .i64 (-1)] w fun e w'=>e= .returned (.float .f64 18442240474082181120)∧Below w.heap.size w w':=by
 have HK:=st0_ w
 go_enter Tryz.func130,Tryz.ntmps130
 go_wp2_with ((with_reducible refine gd_ 7 ?_);refine from_at 18442240474082181120 18442240474082181120 rfl rfl rfl ar_ ?_)
 go_ret
 exact ⟨rfl,be_⟩
theorem nan_ok (w:World):Calls Tryz.prog 131 #[] w fun e w'=>e= .returned (.float .f64 9221120237041090561)∧Below w.heap.size w w':=by
 have HK:=st0_ w
 go_enter Tryz.func131,Tryz.ntmps131
 go_wp2_with ((with_reducible refine gd_ 1 ?_);refine from_at 9221120237041090561 9221120237041090561 rfl rfl rfl ar_ ?_)
 go_ret
 exact ⟨rfl,be_⟩
theorem special_ok (s:ByteArray) (w:World) (hs:s.size≤1048576):
  Calls Tryz.prog 109 #[.string s] w fun e w'=>e= .returned (.tuple #[.float .f64 (spF s).1,.int .i64 (spF s).2.1,.bool (spF s).2.2])∧Below w.heap.size w w':=by
 obtain ⟨r,hr⟩:∃ r,spF s=r:=⟨_,rfl⟩;rw [hr];unfold spF at hr;have Hs:=asd_ hs;clear hs
 have HK:=st0_ w
 by_cases h0:s.size=0
 case pos=>
  rw [if_pos h0] at hr;have f0:((s.size:Int) == 0)=true:=beq_iff_eq.2 (by omega);clear h0
  have Hr:=asd_ hr;clear hr
  go_enter Tryz.func109,Tryz.ntmps109
  go_wp2_with fail
  go_ret3
  exact ⟨by rw [← Hr.out];rfl,be_⟩
 case neg=>
  rw [if_neg h0] at hr;have f0:((s.size:Int) == 0)=false:=beq_eq_false_iff_ne.2 (by omega);have q1:0 < s.size:=(by omega);have q2:(0:Int) < s.size:=(by omega);have q3:(1:Int)≤s.size:=(by omega);have q4:1≤s.size:=(by omega);clear h0
  obtain ⟨c,hc⟩:∃ c,ch s 0=c:=⟨_,rfl⟩;have x1:((s[0]'q1).toNat:Int)=c:=(ch_at q1).trans hc;rw [hc] at hr;have Hc:=asd_ hc;clear hc
  by_cases h43:c=43
  case pos=>
   rw [if_pos h43] at hr
   have g43:(c == 43)=true:=beq_iff_eq.2 h43
   have g45:(c == 45)=false:=beq_eq_false_iff_ne.2 (by omega)
   have g105:(c == 105)=false:=beq_eq_false_iff_ne.2 (by omega)
   have g73:(c == 73)=false:=beq_eq_false_iff_ne.2 (by omega)
   have g110:(c == 110)=false:=beq_eq_false_iff_ne.2 (by omega)
   have g78:(c == 78)=false:=beq_eq_false_iff_ne.2 (by omega)
   clear h43
   obtain ⟨n,hn⟩:∃ n,cpl (s.extract 1 s.size) infS=n:=⟨_,rfl⟩;unfold spI at hr;rw [hn] at hr;dsimp only at hr;have Hn:=asd_ hn;clear hn
   by_cases h3:3 < n∧n < 8
   case pos=>
    rw [if_pos h3,if_pos (.inl rfl)] at hr;have f1:decide ((3:Int) < (n:Int))=true:=decide_eq_true (by omega);have f1n:decide (3 < n)=true:=decide_eq_true (by omega);have f2:decide ((n:Int) < 8)=true:=decide_eq_true (by omega);have f2n:decide (n < 8)=true:=decide_eq_true (by omega);clear h3
    have Hr:=asd_ hr;clear hr
    go_enter Tryz.func109,Tryz.ntmps109
    go_wp2_with (first|((first|((with_reducible refine gd_ 28 ?_);refine cl_ #[.string (s.extract 1 s.size),.string infS] (.int .i64 (n:Nat)) Tryz.func129 (by rw [← Hn.out];exact cpl_ok _ _ _ (by have:=Hs.out;rw [ByteArray.size_extract];omega)) ?_)|((with_reducible refine gd_ 42 ?_);refine cl_ #[.int .i64 1] (.float .f64 9218868437227405312) Tryz.func130 (inf_pos_ok _) ?_));intro wc28 HK1;replace HK:=asd_ HK1;clear HK1;skip))
    go_ret3
    exact ⟨by rw [← Hr.out];rfl,be_⟩
   case neg=>
    rw [if_neg h3] at hr
    by_cases h38:n=3∨n=8
    case pos=>
     rw [if_pos h38] at hr;have e9:IntKind.i64.wrap (1 + (n:Int))=1 + (n:Int):=IntWalk.i64_in _ (by omega);have e9b:IntKind.i64.wrap (n:Int)=(n:Int):=IntWalk.i64_in _ (by omega);have Hr:=asd_ hr;clear hr h3
     rcases h38 with h3|h8
     ·have f3:((n:Int) == 3)=true:=beq_iff_eq.2 (by omega);have f1:decide ((3:Int) < (n:Int))=false:=decide_eq_false (by omega);have f1n:decide (3 < n)=false:=decide_eq_false (by omega);clear h3
      go_enter Tryz.func109,Tryz.ntmps109
      go_wp2_with (first|((first|((with_reducible refine gd_ 28 ?_);refine cl_ #[.string (s.extract 1 s.size),.string infS] (.int .i64 (n:Nat)) Tryz.func129 (by rw [← Hn.out];exact cpl_ok _ _ _ (by have:=Hs.out;rw [ByteArray.size_extract];omega)) ?_)|((with_reducible refine gd_ 42 ?_);refine cl_ #[.int .i64 1] (.float .f64 9218868437227405312) Tryz.func130 (inf_pos_ok _) ?_));intro wc28 HK1;replace HK:=asd_ HK1;clear HK1;skip))
      go_ret3
      exact ⟨by rw [← Hr.out];first|rfl|(simp only [Nat.zero_add];rfl),be_⟩
     ·have f3:((n:Int) == 3)=false:=beq_eq_false_iff_ne.2 (by omega);have f8:((n:Int) == 8)=true:=beq_iff_eq.2 (by omega);have f1:decide ((3:Int) < (n:Int))=true:=decide_eq_true (by omega);have f1n:decide (3 < n)=true:=decide_eq_true (by omega);have f2:decide ((n:Int) < 8)=false:=decide_eq_false (by omega);have f2n:decide (n < 8)=false:=decide_eq_false (by omega);clear h8
      go_enter Tryz.func109,Tryz.ntmps109
      go_wp2_with (first|((first|((with_reducible refine gd_ 28 ?_);refine cl_ #[.string (s.extract 1 s.size),.string infS] (.int .i64 (n:Nat)) Tryz.func129 (by rw [← Hn.out];exact cpl_ok _ _ _ (by have:=Hs.out;rw [ByteArray.size_extract];omega)) ?_)|((with_reducible refine gd_ 42 ?_);refine cl_ #[.int .i64 1] (.float .f64 9218868437227405312) Tryz.func130 (inf_pos_ok _) ?_));intro wc28 HK1;replace HK:=asd_ HK1;clear HK1;skip))
      go_ret3
      exact ⟨by rw [← Hr.out];first|rfl|(simp only [Nat.zero_add];rfl),be_⟩
    case neg=>
     rw [if_neg h38] at hr;have f3:((n:Int) == 3)=false:=beq_eq_false_iff_ne.2 (by omega);have f8:((n:Int) == 8)=false:=beq_eq_false_iff_ne.2 (by omega);have Hr:=asd_ hr;clear hr
     by_cases h4:3 < n
     case pos=>
      have f1:decide ((3:Int) < (n:Int))=true:=decide_eq_true (by omega);have f1n:decide (3 < n)=true:=decide_eq_true (by omega);have f2:decide ((n:Int) < 8)=false:=decide_eq_false (by omega);have f2n:decide (n < 8)=false:=decide_eq_false (by omega)
      clear h3 h38 h4
      go_enter Tryz.func109,Tryz.ntmps109
      go_wp2_with (first|((first|((with_reducible refine gd_ 28 ?_);refine cl_ #[.string (s.extract 1 s.size),.string infS] (.int .i64 (n:Nat)) Tryz.func129 (by rw [← Hn.out];exact cpl_ok _ _ _ (by have:=Hs.out;rw [ByteArray.size_extract];omega)) ?_)|((with_reducible refine gd_ 42 ?_);refine cl_ #[.int .i64 1] (.float .f64 9218868437227405312) Tryz.func130 (inf_pos_ok _) ?_));intro wc28 HK1;replace HK:=asd_ HK1;clear HK1;skip))
      go_ret3
      exact ⟨by rw [← Hr.out];rfl,be_⟩
     case neg=>
      have f1:decide ((3:Int) < (n:Int))=false:=decide_eq_false (by omega);have f1n:decide (3 < n)=false:=decide_eq_false (by omega)
      clear h3 h38 h4
      go_enter Tryz.func109,Tryz.ntmps109
      go_wp2_with (first|((first|((with_reducible refine gd_ 28 ?_);refine cl_ #[.string (s.extract 1 s.size),.string infS] (.int .i64 (n:Nat)) Tryz.func129 (by rw [← Hn.out];exact cpl_ok _ _ _ (by have:=Hs.out;rw [ByteArray.size_extract];omega)) ?_)|((with_reducible refine gd_ 42 ?_);refine cl_ #[.int .i64 1] (.float .f64 9218868437227405312) Tryz.func130 (inf_pos_ok _) ?_));intro wc28 HK1;replace HK:=asd_ HK1;clear HK1;skip))
      go_ret3
      exact ⟨by rw [← Hr.out];rfl,be_⟩
  case neg=>
   by_cases h45:c=45
   case pos=>
    rw [if_neg h43,if_pos h45] at hr
    have g43:(c == 43)=false:=beq_eq_false_iff_ne.2 h43
    have g45:(c == 45)=true:=beq_iff_eq.2 h45
    have g105:(c == 105)=false:=beq_eq_false_iff_ne.2 (by omega)
    have g73:(c == 73)=false:=beq_eq_false_iff_ne.2 (by omega)
    have g110:(c == 110)=false:=beq_eq_false_iff_ne.2 (by omega)
    have g78:(c == 78)=false:=beq_eq_false_iff_ne.2 (by omega)
    clear h43 h45
    obtain ⟨n,hn⟩:∃ n,cpl (s.extract 1 s.size) infS=n:=⟨_,rfl⟩;unfold spI at hr;rw [hn] at hr;dsimp only at hr;have Hn:=asd_ hn;clear hn
    by_cases h3:3 < n∧n < 8
    case pos=>
     rw [if_pos h3,if_pos (.inl rfl)] at hr;have f1:decide ((3:Int) < (n:Int))=true:=decide_eq_true (by omega);have f1n:decide (3 < n)=true:=decide_eq_true (by omega);have f2:decide ((n:Int) < 8)=true:=decide_eq_true (by omega);have f2n:decide (n < 8)=true:=decide_eq_true (by omega);clear h3
     have Hr:=asd_ hr;clear hr
     go_enter Tryz.func109,Tryz.ntmps109
     go_wp2_with (first|((first|((with_reducible refine gd_ 28 ?_);refine cl_ #[.string (s.extract 1 s.size),.string infS] (.int .i64 (n:Nat)) Tryz.func129 (by rw [← Hn.out];exact cpl_ok _ _ _ (by have:=Hs.out;rw [ByteArray.size_extract];omega)) ?_)|((with_reducible refine gd_ 42 ?_);refine cl_ #[.int .i64 (-1)] (.float .f64 18442240474082181120) Tryz.func130 (inf_neg_ok _) ?_));intro wc28 HK1;replace HK:=asd_ HK1;clear HK1;skip))
     go_ret3
     exact ⟨by rw [← Hr.out];rfl,be_⟩
    case neg=>
     rw [if_neg h3] at hr
     by_cases h38:n=3∨n=8
     case pos=>
      rw [if_pos h38] at hr;have e9:IntKind.i64.wrap (1 + (n:Int))=1 + (n:Int):=IntWalk.i64_in _ (by omega);have e9b:IntKind.i64.wrap (n:Int)=(n:Int):=IntWalk.i64_in _ (by omega);have Hr:=asd_ hr;clear hr h3
      rcases h38 with h3|h8
      ·have f3:((n:Int) == 3)=true:=beq_iff_eq.2 (by omega);have f1:decide ((3:Int) < (n:Int))=false:=decide_eq_false (by omega);have f1n:decide (3 < n)=false:=decide_eq_false (by omega);clear h3
       go_enter Tryz.func109,Tryz.ntmps109
       go_wp2_with (first|((first|((with_reducible refine gd_ 28 ?_);refine cl_ #[.string (s.extract 1 s.size),.string infS] (.int .i64 (n:Nat)) Tryz.func129 (by rw [← Hn.out];exact cpl_ok _ _ _ (by have:=Hs.out;rw [ByteArray.size_extract];omega)) ?_)|((with_reducible refine gd_ 42 ?_);refine cl_ #[.int .i64 (-1)] (.float .f64 18442240474082181120) Tryz.func130 (inf_neg_ok _) ?_));intro wc28 HK1;replace HK:=asd_ HK1;clear HK1;skip))
       go_ret3
       exact ⟨by rw [← Hr.out];first|rfl|(simp only [Nat.zero_add];rfl),be_⟩
      ·have f3:((n:Int) == 3)=false:=beq_eq_false_iff_ne.2 (by omega);have f8:((n:Int) == 8)=true:=beq_iff_eq.2 (by omega);have f1:decide ((3:Int) < (n:Int))=true:=decide_eq_true (by omega);have f1n:decide (3 < n)=true:=decide_eq_true (by omega);have f2:decide ((n:Int) < 8)=false:=decide_eq_false (by omega);have f2n:decide (n < 8)=false:=decide_eq_false (by omega);clear h8
       go_enter Tryz.func109,Tryz.ntmps109
       go_wp2_with (first|((first|((with_reducible refine gd_ 28 ?_);refine cl_ #[.string (s.extract 1 s.size),.string infS] (.int .i64 (n:Nat)) Tryz.func129 (by rw [← Hn.out];exact cpl_ok _ _ _ (by have:=Hs.out;rw [ByteArray.size_extract];omega)) ?_)|((with_reducible refine gd_ 42 ?_);refine cl_ #[.int .i64 (-1)] (.float .f64 18442240474082181120) Tryz.func130 (inf_neg_ok _) ?_));intro wc28 HK1;replace HK:=asd_ HK1;clear HK1;skip))
       go_ret3
       exact ⟨by rw [← Hr.out];first|rfl|(simp only [Nat.zero_add];rfl),be_⟩
     case neg=>
      rw [if_neg h38] at hr;have f3:((n:Int) == 3)=false:=beq_eq_false_iff_ne.2 (by omega);have f8:((n:Int) == 8)=false:=beq_eq_false_iff_ne.2 (by omega);have Hr:=asd_ hr;clear hr
      by_cases h4:3 < n
      case pos=>
       have f1:decide ((3:Int) < (n:Int))=true:=decide_eq_true (by omega);have f1n:decide (3 < n)=true:=decide_eq_true (by omega);have f2:decide ((n:Int) < 8)=false:=decide_eq_false (by omega);have f2n:decide (n < 8)=false:=decide_eq_false (by omega)
       clear h3 h38 h4
       go_enter Tryz.func109,Tryz.ntmps109
       go_wp2_with (first|((first|((with_reducible refine gd_ 28 ?_);refine cl_ #[.string (s.extract 1 s.size),.string infS] (.int .i64 (n:Nat)) Tryz.func129 (by rw [← Hn.out];exact cpl_ok _ _ _ (by have:=Hs.out;rw [ByteArray.size_extract];omega)) ?_)|((with_reducible refine gd_ 42 ?_);refine cl_ #[.int .i64 (-1)] (.float .f64 18442240474082181120) Tryz.func130 (inf_neg_ok _) ?_));intro wc28 HK1;replace HK:=asd_ HK1;clear HK1;skip))
       go_ret3
       exact ⟨by rw [← Hr.out];rfl,be_⟩
      case neg=>
       have f1:decide ((3:Int) < (n:Int))=false:=decide_eq_false (by omega);have f1n:decide (3 < n)=false:=decide_eq_false (by omega)
       clear h3 h38 h4
       go_enter Tryz.func109,Tryz.ntmps109
       go_wp2_with (first|((first|((with_reducible refine gd_ 28 ?_);refine cl_ #[.string (s.extract 1 s.size),.string infS] (.int .i64 (n:Nat)) Tryz.func129 (by rw [← Hn.out];exact cpl_ok _ _ _ (by have:=Hs.out;rw [ByteArray.size_extract];omega)) ?_)|((with_reducible refine gd_ 42 ?_);refine cl_ #[.int .i64 (-1)] (.float .f64 18442240474082181120) Tryz.func130 (inf_neg_ok _) ?_));intro wc28 HK1;replace HK:=asd_ HK1;clear HK1;skip))
       go_ret3
       exact ⟨by rw [← Hr.out];rfl,be_⟩
   case neg=>
    by_cases h105:c=105
    case pos=>
     rw [if_neg h43,if_neg h45,if_pos (.inl h105)] at hr
     have g43:(c == 43)=false:=beq_eq_false_iff_ne.2 h43
     have g45:(c == 45)=false:=beq_eq_false_iff_ne.2 h45
     have g105:(c == 105)=true:=beq_iff_eq.2 h105
     have g73:(c == 73)=false:=beq_eq_false_iff_ne.2 (by omega)
     have g110:(c == 110)=false:=beq_eq_false_iff_ne.2 (by omega)
     have g78:(c == 78)=false:=beq_eq_false_iff_ne.2 (by omega)
     clear h43 h45 h105
     obtain ⟨n,hn⟩:∃ n,cpl (s) infS=n:=⟨_,rfl⟩;unfold spI at hr;rw [hn] at hr;dsimp only at hr;have Hn:=asd_ hn;clear hn
     by_cases h3:3 < n∧n < 8
     case pos=>
      rw [if_pos h3,if_pos (.inl rfl)] at hr;have f1:decide ((3:Int) < (n:Int))=true:=decide_eq_true (by omega);have f1n:decide (3 < n)=true:=decide_eq_true (by omega);have f2:decide ((n:Int) < 8)=true:=decide_eq_true (by omega);have f2n:decide (n < 8)=true:=decide_eq_true (by omega);clear h3
      have Hr:=asd_ hr;clear hr
      go_enter Tryz.func109,Tryz.ntmps109
      go_wp2_with (first|((first|((with_reducible refine gd_ 28 ?_);refine cl_ #[.string (s),.string infS] (.int .i64 (n:Nat)) Tryz.func129 (by rw [← Hn.out];exact cpl_ok _ _ _ (by have:=Hs.out;exact this)) ?_)|((with_reducible refine gd_ 42 ?_);refine cl_ #[.int .i64 1] (.float .f64 9218868437227405312) Tryz.func130 (inf_pos_ok _) ?_));intro wc28 HK1;replace HK:=asd_ HK1;clear HK1;skip))
      go_ret3
      exact ⟨by rw [← Hr.out];rfl,be_⟩
     case neg=>
      rw [if_neg h3] at hr
      by_cases h38:n=3∨n=8
      case pos=>
       rw [if_pos h38] at hr;have e9:IntKind.i64.wrap (1 + (n:Int))=1 + (n:Int):=IntWalk.i64_in _ (by omega);have e9b:IntKind.i64.wrap (n:Int)=(n:Int):=IntWalk.i64_in _ (by omega);have Hr:=asd_ hr;clear hr h3
       rcases h38 with h3|h8
       ·have f3:((n:Int) == 3)=true:=beq_iff_eq.2 (by omega);have f1:decide ((3:Int) < (n:Int))=false:=decide_eq_false (by omega);have f1n:decide (3 < n)=false:=decide_eq_false (by omega);clear h3
        go_enter Tryz.func109,Tryz.ntmps109
        go_wp2_with (first|((first|((with_reducible refine gd_ 28 ?_);refine cl_ #[.string (s),.string infS] (.int .i64 (n:Nat)) Tryz.func129 (by rw [← Hn.out];exact cpl_ok _ _ _ (by have:=Hs.out;exact this)) ?_)|((with_reducible refine gd_ 42 ?_);refine cl_ #[.int .i64 1] (.float .f64 9218868437227405312) Tryz.func130 (inf_pos_ok _) ?_));intro wc28 HK1;replace HK:=asd_ HK1;clear HK1;skip))
        go_ret3
        exact ⟨by rw [← Hr.out];first|rfl|(simp only [Nat.zero_add];rfl),be_⟩
       ·have f3:((n:Int) == 3)=false:=beq_eq_false_iff_ne.2 (by omega);have f8:((n:Int) == 8)=true:=beq_iff_eq.2 (by omega);have f1:decide ((3:Int) < (n:Int))=true:=decide_eq_true (by omega);have f1n:decide (3 < n)=true:=decide_eq_true (by omega);have f2:decide ((n:Int) < 8)=false:=decide_eq_false (by omega);have f2n:decide (n < 8)=false:=decide_eq_false (by omega);clear h8
        go_enter Tryz.func109,Tryz.ntmps109
        go_wp2_with (first|((first|((with_reducible refine gd_ 28 ?_);refine cl_ #[.string (s),.string infS] (.int .i64 (n:Nat)) Tryz.func129 (by rw [← Hn.out];exact cpl_ok _ _ _ (by have:=Hs.out;exact this)) ?_)|((with_reducible refine gd_ 42 ?_);refine cl_ #[.int .i64 1] (.float .f64 9218868437227405312) Tryz.func130 (inf_pos_ok _) ?_));intro wc28 HK1;replace HK:=asd_ HK1;clear HK1;skip))
        go_ret3
        exact ⟨by rw [← Hr.out];first|rfl|(simp only [Nat.zero_add];rfl),be_⟩
      case neg=>
       rw [if_neg h38] at hr;have f3:((n:Int) == 3)=false:=beq_eq_false_iff_ne.2 (by omega);have f8:((n:Int) == 8)=false:=beq_eq_false_iff_ne.2 (by omega);have Hr:=asd_ hr;clear hr
       by_cases h4:3 < n
       case pos=>
        have f1:decide ((3:Int) < (n:Int))=true:=decide_eq_true (by omega);have f1n:decide (3 < n)=true:=decide_eq_true (by omega);have f2:decide ((n:Int) < 8)=false:=decide_eq_false (by omega);have f2n:decide (n < 8)=false:=decide_eq_false (by omega)
        clear h3 h38 h4
        go_enter Tryz.func109,Tryz.ntmps109
        go_wp2_with (first|((first|((with_reducible refine gd_ 28 ?_);refine cl_ #[.string (s),.string infS] (.int .i64 (n:Nat)) Tryz.func129 (by rw [← Hn.out];exact cpl_ok _ _ _ (by have:=Hs.out;exact this)) ?_)|((with_reducible refine gd_ 42 ?_);refine cl_ #[.int .i64 1] (.float .f64 9218868437227405312) Tryz.func130 (inf_pos_ok _) ?_));intro wc28 HK1;replace HK:=asd_ HK1;clear HK1;skip))
        go_ret3
        exact ⟨by rw [← Hr.out];rfl,be_⟩
       case neg=>
        have f1:decide ((3:Int) < (n:Int))=false:=decide_eq_false (by omega);have f1n:decide (3 < n)=false:=decide_eq_false (by omega)
        clear h3 h38 h4
        go_enter Tryz.func109,Tryz.ntmps109
        go_wp2_with (first|((first|((with_reducible refine gd_ 28 ?_);refine cl_ #[.string (s),.string infS] (.int .i64 (n:Nat)) Tryz.func129 (by rw [← Hn.out];exact cpl_ok _ _ _ (by have:=Hs.out;exact this)) ?_)|((with_reducible refine gd_ 42 ?_);refine cl_ #[.int .i64 1] (.float .f64 9218868437227405312) Tryz.func130 (inf_pos_ok _) ?_));intro wc28 HK1;replace HK:=asd_ HK1;clear HK1;skip))
        go_ret3
        exact ⟨by rw [← Hr.out];rfl,be_⟩
    case neg=>
     by_cases h73:c=73
     case pos=>
      rw [if_neg h43,if_neg h45,if_pos (.inr h73)] at hr
      have g43:(c == 43)=false:=beq_eq_false_iff_ne.2 h43
      have g45:(c == 45)=false:=beq_eq_false_iff_ne.2 h45
      have g105:(c == 105)=false:=beq_eq_false_iff_ne.2 h105
      have g73:(c == 73)=true:=beq_iff_eq.2 h73
      have g110:(c == 110)=false:=beq_eq_false_iff_ne.2 (by omega)
      have g78:(c == 78)=false:=beq_eq_false_iff_ne.2 (by omega)
      clear h43 h45 h105 h73
      obtain ⟨n,hn⟩:∃ n,cpl (s) infS=n:=⟨_,rfl⟩;unfold spI at hr;rw [hn] at hr;dsimp only at hr;have Hn:=asd_ hn;clear hn
      by_cases h3:3 < n∧n < 8
      case pos=>
       rw [if_pos h3,if_pos (.inl rfl)] at hr;have f1:decide ((3:Int) < (n:Int))=true:=decide_eq_true (by omega);have f1n:decide (3 < n)=true:=decide_eq_true (by omega);have f2:decide ((n:Int) < 8)=true:=decide_eq_true (by omega);have f2n:decide (n < 8)=true:=decide_eq_true (by omega);clear h3
       have Hr:=asd_ hr;clear hr
       go_enter Tryz.func109,Tryz.ntmps109
       go_wp2_with (first|((first|((with_reducible refine gd_ 28 ?_);refine cl_ #[.string (s),.string infS] (.int .i64 (n:Nat)) Tryz.func129 (by rw [← Hn.out];exact cpl_ok _ _ _ (by have:=Hs.out;exact this)) ?_)|((with_reducible refine gd_ 42 ?_);refine cl_ #[.int .i64 1] (.float .f64 9218868437227405312) Tryz.func130 (inf_pos_ok _) ?_));intro wc28 HK1;replace HK:=asd_ HK1;clear HK1;skip))
       go_ret3
       exact ⟨by rw [← Hr.out];rfl,be_⟩
      case neg=>
       rw [if_neg h3] at hr
       by_cases h38:n=3∨n=8
       case pos=>
        rw [if_pos h38] at hr;have e9:IntKind.i64.wrap (1 + (n:Int))=1 + (n:Int):=IntWalk.i64_in _ (by omega);have e9b:IntKind.i64.wrap (n:Int)=(n:Int):=IntWalk.i64_in _ (by omega);have Hr:=asd_ hr;clear hr h3
        rcases h38 with h3|h8
        ·have f3:((n:Int) == 3)=true:=beq_iff_eq.2 (by omega);have f1:decide ((3:Int) < (n:Int))=false:=decide_eq_false (by omega);have f1n:decide (3 < n)=false:=decide_eq_false (by omega);clear h3
         go_enter Tryz.func109,Tryz.ntmps109
         go_wp2_with (first|((first|((with_reducible refine gd_ 28 ?_);refine cl_ #[.string (s),.string infS] (.int .i64 (n:Nat)) Tryz.func129 (by rw [← Hn.out];exact cpl_ok _ _ _ (by have:=Hs.out;exact this)) ?_)|((with_reducible refine gd_ 42 ?_);refine cl_ #[.int .i64 1] (.float .f64 9218868437227405312) Tryz.func130 (inf_pos_ok _) ?_));intro wc28 HK1;replace HK:=asd_ HK1;clear HK1;skip))
         go_ret3
         exact ⟨by rw [← Hr.out];first|rfl|(simp only [Nat.zero_add];rfl),be_⟩
        ·have f3:((n:Int) == 3)=false:=beq_eq_false_iff_ne.2 (by omega);have f8:((n:Int) == 8)=true:=beq_iff_eq.2 (by omega);have f1:decide ((3:Int) < (n:Int))=true:=decide_eq_true (by omega);have f1n:decide (3 < n)=true:=decide_eq_true (by omega);have f2:decide ((n:Int) < 8)=false:=decide_eq_false (by omega);have f2n:decide (n < 8)=false:=decide_eq_false (by omega);clear h8
         go_enter Tryz.func109,Tryz.ntmps109
         go_wp2_with (first|((first|((with_reducible refine gd_ 28 ?_);refine cl_ #[.string (s),.string infS] (.int .i64 (n:Nat)) Tryz.func129 (by rw [← Hn.out];exact cpl_ok _ _ _ (by have:=Hs.out;exact this)) ?_)|((with_reducible refine gd_ 42 ?_);refine cl_ #[.int .i64 1] (.float .f64 9218868437227405312) Tryz.func130 (inf_pos_ok _) ?_));intro wc28 HK1;replace HK:=asd_ HK1;clear HK1;skip))
         go_ret3
         exact ⟨by rw [← Hr.out];first|rfl|(simp only [Nat.zero_add];rfl),be_⟩
       case neg=>
        rw [if_neg h38] at hr;have f3:((n:Int) == 3)=false:=beq_eq_false_iff_ne.2 (by omega);have f8:((n:Int) == 8)=false:=beq_eq_false_iff_ne.2 (by omega);have Hr:=asd_ hr;clear hr
        by_cases h4:3 < n
        case pos=>
         have f1:decide ((3:Int) < (n:Int))=true:=decide_eq_true (by omega);have f1n:decide (3 < n)=true:=decide_eq_true (by omega);have f2:decide ((n:Int) < 8)=false:=decide_eq_false (by omega);have f2n:decide (n < 8)=false:=decide_eq_false (by omega)
         clear h3 h38 h4
         go_enter Tryz.func109,Tryz.ntmps109
         go_wp2_with (first|((first|((with_reducible refine gd_ 28 ?_);refine cl_ #[.string (s),.string infS] (.int .i64 (n:Nat)) Tryz.func129 (by rw [← Hn.out];exact cpl_ok _ _ _ (by have:=Hs.out;exact this)) ?_)|((with_reducible refine gd_ 42 ?_);refine cl_ #[.int .i64 1] (.float .f64 9218868437227405312) Tryz.func130 (inf_pos_ok _) ?_));intro wc28 HK1;replace HK:=asd_ HK1;clear HK1;skip))
         go_ret3
         exact ⟨by rw [← Hr.out];rfl,be_⟩
        case neg=>
         have f1:decide ((3:Int) < (n:Int))=false:=decide_eq_false (by omega);have f1n:decide (3 < n)=false:=decide_eq_false (by omega)
         clear h3 h38 h4
         go_enter Tryz.func109,Tryz.ntmps109
         go_wp2_with (first|((first|((with_reducible refine gd_ 28 ?_);refine cl_ #[.string (s),.string infS] (.int .i64 (n:Nat)) Tryz.func129 (by rw [← Hn.out];exact cpl_ok _ _ _ (by have:=Hs.out;exact this)) ?_)|((with_reducible refine gd_ 42 ?_);refine cl_ #[.int .i64 1] (.float .f64 9218868437227405312) Tryz.func130 (inf_pos_ok _) ?_));intro wc28 HK1;replace HK:=asd_ HK1;clear HK1;skip))
         go_ret3
         exact ⟨by rw [← Hr.out];rfl,be_⟩
     case neg=>
      by_cases h110:c=110
      case pos=>
       rw [if_neg h43,if_neg h45,if_neg (by omega),if_pos (.inl h110)] at hr
       have g43:(c == 43)=false:=beq_eq_false_iff_ne.2 h43
       have g45:(c == 45)=false:=beq_eq_false_iff_ne.2 h45
       have g105:(c == 105)=false:=beq_eq_false_iff_ne.2 h105
       have g73:(c == 73)=false:=beq_eq_false_iff_ne.2 h73
       have g110:(c == 110)=true:=beq_iff_eq.2 h110
       have g78:(c == 78)=false:=beq_eq_false_iff_ne.2 (by omega)
       clear h43 h45 h105 h73 h110
       obtain ⟨n,hn⟩:∃ n,cpl s nanS=n:=⟨_,rfl⟩;rw [hn] at hr;have Hn:=asd_ hn;clear hn
       by_cases h3:n=3
       case pos=>
        rw [if_pos h3] at hr;have f3:((n:Int) == 3)=true:=beq_iff_eq.2 (by omega);have Hr:=asd_ hr;clear hr h3
        go_enter Tryz.func109,Tryz.ntmps109
        go_wp2_with (first|((first|((with_reducible refine gd_ 47 ?_);refine cl_ #[.string s,.string nanS] (.int .i64 (n:Nat)) Tryz.func129 (by rw [← Hn.out];exact cpl_ok _ _ _ Hs.out) ?_)|((with_reducible refine gd_ 49 ?_);refine cl_ #[] (.float .f64 9221120237041090561) Tryz.func131 (nan_ok _) ?_));intro wc47 HK1;replace HK:=asd_ HK1;clear HK1;skip))
        go_ret3
        exact ⟨by rw [← Hr.out];rfl,be_⟩
       case neg=>
        rw [if_neg h3] at hr;have f3:((n:Int) == 3)=false:=beq_eq_false_iff_ne.2 (by omega);have Hr:=asd_ hr;clear hr h3
        go_enter Tryz.func109,Tryz.ntmps109
        go_wp2_with (first|((first|((with_reducible refine gd_ 47 ?_);refine cl_ #[.string s,.string nanS] (.int .i64 (n:Nat)) Tryz.func129 (by rw [← Hn.out];exact cpl_ok _ _ _ Hs.out) ?_)|((with_reducible refine gd_ 49 ?_);refine cl_ #[] (.float .f64 9221120237041090561) Tryz.func131 (nan_ok _) ?_));intro wc47 HK1;replace HK:=asd_ HK1;clear HK1;skip))
        go_ret3
        exact ⟨by rw [← Hr.out];rfl,be_⟩
      case neg=>
       by_cases h78:c=78
       case pos=>
        rw [if_neg h43,if_neg h45,if_neg (by omega),if_pos (.inr h78)] at hr
        have g43:(c == 43)=false:=beq_eq_false_iff_ne.2 h43
        have g45:(c == 45)=false:=beq_eq_false_iff_ne.2 h45
        have g105:(c == 105)=false:=beq_eq_false_iff_ne.2 h105
        have g73:(c == 73)=false:=beq_eq_false_iff_ne.2 h73
        have g110:(c == 110)=false:=beq_eq_false_iff_ne.2 h110
        have g78:(c == 78)=true:=beq_iff_eq.2 h78
        clear h43 h45 h105 h73 h110 h78
        obtain ⟨n,hn⟩:∃ n,cpl s nanS=n:=⟨_,rfl⟩;rw [hn] at hr;have Hn:=asd_ hn;clear hn
        by_cases h3:n=3
        case pos=>
         rw [if_pos h3] at hr;have f3:((n:Int) == 3)=true:=beq_iff_eq.2 (by omega);have Hr:=asd_ hr;clear hr h3
         go_enter Tryz.func109,Tryz.ntmps109
         go_wp2_with (first|((first|((with_reducible refine gd_ 47 ?_);refine cl_ #[.string s,.string nanS] (.int .i64 (n:Nat)) Tryz.func129 (by rw [← Hn.out];exact cpl_ok _ _ _ Hs.out) ?_)|((with_reducible refine gd_ 49 ?_);refine cl_ #[] (.float .f64 9221120237041090561) Tryz.func131 (nan_ok _) ?_));intro wc47 HK1;replace HK:=asd_ HK1;clear HK1;skip))
         go_ret3
         exact ⟨by rw [← Hr.out];rfl,be_⟩
        case neg=>
         rw [if_neg h3] at hr;have f3:((n:Int) == 3)=false:=beq_eq_false_iff_ne.2 (by omega);have Hr:=asd_ hr;clear hr h3
         go_enter Tryz.func109,Tryz.ntmps109
         go_wp2_with (first|((first|((with_reducible refine gd_ 47 ?_);refine cl_ #[.string s,.string nanS] (.int .i64 (n:Nat)) Tryz.func129 (by rw [← Hn.out];exact cpl_ok _ _ _ Hs.out) ?_)|((with_reducible refine gd_ 49 ?_);refine cl_ #[] (.float .f64 9221120237041090561) Tryz.func131 (nan_ok _) ?_));intro wc47 HK1;replace HK:=asd_ HK1;clear HK1;skip))
         go_ret3
         exact ⟨by rw [← Hr.out];rfl,be_⟩
       case neg=>
        rw [if_neg h43,if_neg h45,if_neg (by omega),if_neg (by omega)] at hr
        have g43:(c == 43)=false:=beq_eq_false_iff_ne.2 h43
        have g45:(c == 45)=false:=beq_eq_false_iff_ne.2 h45
        have g105:(c == 105)=false:=beq_eq_false_iff_ne.2 h105
        have g73:(c == 73)=false:=beq_eq_false_iff_ne.2 h73
        have g110:(c == 110)=false:=beq_eq_false_iff_ne.2 h110
        have g78:(c == 78)=false:=beq_eq_false_iff_ne.2 h78
        clear h43 h45 h105 h73 h110 h78
        have Hr:=asd_ hr;clear hr
        go_enter Tryz.func109,Tryz.ntmps109
        go_wp2_with fail
        go_ret3
        exact ⟨by rw [← Hr.out];rfl,be_⟩
end Go.Proofs.YtlblbefbbibpaaaGreatDoor.J
namespace Go.Proofs.YtlblbefbbibpaaaGreatDoor.PAM
open Go.RowKit Zw.PrintWords Zw.PrintLast Zw.PrintMore
attribute [local go_sem] max2_int min2_int max_two min_two max_three min_three max_four min_four
def strconv_lower.f (a0:Int):Option (Int):=some (Go.bits .or .u8 a0 32)
theorem strconv_lower.calls (a0:Int) (r:Int) (w:World) (h:strconv_lower.f a0=some r):
  Calls Tryz.prog 89 #[.int .u8 a0] w fun e w'=>e= .returned (.int .u8 r)∧Drawn0 w w':=by
 have H:(some (Go.bits .or .u8 a0 32))=some r:=h
 clear h
 obtain rfl:=Option.some.inj H
 go_enter Tryz.func89,Tryz.ntmps89
 go_wp2
 go_ret
 exact ⟨r1_,dr_⟩
end Go.Proofs.YtlblbefbbibpaaaGreatDoor.PAM
