/- Part. -/
import Derived.Test.YtlblbefbbibpaaaGreatDoorQBE
import GoSem.PinnedTables
set_option linter.unusedVariables false
set_option linter.unusedSimpArgs false
set_option maxHeartbeats 8000000
set_option maxRecDepth 100000
namespace Go.Proofs.YtlblbefbbibpaaaGreatDoor.PAM
open Go.RowKit Zw.PrintWords Zw.PrintLast Zw.PrintMore
attribute [local go_sem] max2_int min2_int max_two min_two max_three min_three max_four min_four
def strconv_unmin.f (a0:Int):Option (Int):=some (IntKind.u64.wrap ((IntKind.u64.wrap (a0 * 4)) - 2))
theorem strconv_unmin.calls (a0:Int) (r:Int) (w:World) (h:strconv_unmin.f a0=some r):
  Calls Tryz.prog 136 #[.int .u64 a0] w fun e w'=>e= .returned (.int .u64 r)∧Drawn0 w w':=by
 have H:(some (IntKind.u64.wrap ((IntKind.u64.wrap (a0 * 4)) - 2)))=some r:=h
 clear h
 obtain rfl:=Option.some.inj H
 go_enter Tryz.func136,Tryz.ntmps136
 go_wp2
 go_ret
 exact ⟨r1_,dr_⟩
def strconv_unrounded_round.f (a0:Int):Option (Int):=some ((IntKind.u64.wrap ((IntKind.u64.wrap (a0 + 1)) + (Go.bits .and .u64 (a0 / 4) 1))) / 4)
theorem strconv_unrounded_round.calls (a0:Int) (r:Int) (w:World) (h:strconv_unrounded_round.f a0=some r):
  Calls Tryz.prog 138 #[.int .u64 a0] w fun e w'=>e= .returned (.int .u64 r)∧Drawn0 w w':=by
 have H:(some ((IntKind.u64.wrap ((IntKind.u64.wrap (a0 + 1)) + (Go.bits .and .u64 (a0 / 4) 1))) / 4))=some r:=h
 clear h
 obtain rfl:=Option.some.inj H
 go_enter Tryz.func138,Tryz.ntmps138
 go_wp2
 go_ret
 exact ⟨r1_,dr_⟩
def strconv_log2Pow10.f (a0:Int):Option (Int):=some ((wrap64 (a0 * 108853)) / 32768)
theorem strconv_log2Pow10.calls (a0:Int) (r:Int) (w:World) (h:strconv_log2Pow10.f a0=some r):
  Calls Tryz.prog 132 #[.int .i64 a0] w fun e w'=>e= .returned (.int .i64 r)∧Drawn0 w w':=by
 have H:(some ((wrap64 (a0 * 108853)) / 32768))=some r:=h
 clear h
 obtain rfl:=Option.some.inj H
 go_enter Tryz.func132,Tryz.ntmps132
 go_wp2
 go_ret
 exact ⟨r1_,dr_⟩
end Go.Proofs.YtlblbefbbibpaaaGreatDoor.PAM
namespace Go.Proofs.YtlblbefbbibpaaaGreatDoor.J
open Go.RowKit Zw Zw.PrintWords Zw.PrintLast Zw.PrintMore PAM
abbrev errR:Value:= .iface 163 (.int .i64 1)
def erv (b:Bool):Value:=if b then errR else .nilIface
def pk64 (m e:Int):Int×Bool:=
 if bits .and .u64 m 4503599627370496=0 then (m,false) else
 if 972≤e then (bits .or .u64 (bits .and .u64 m 9223372036854775808) 9218868437227405312,true) else
 (bits .or .u64 (bits .andNot .u64 m 4503599627370496) (IntKind.u64.wrap (IntKind.u64.wrap (wrap64 (1075 + e)) * 4503599627370496)),false)
def p10 (k:Nat):Nat×Nat:=Pinned.pow10Rows.getD k (0,0)
structure Tens (w:World):Prop where
 h:∀ k,k < 696→w.cell? ⟨9,k * 2,none⟩=some (.int .u64 (p10 k).1)
 l:∀ k,k < 696→w.cell? ⟨9,k * 2 + 1,none⟩=some (.int .u64 (p10 k).2)
theorem pk64_ok (m e:Int) (w:World):
  Calls Tryz.prog 141 #[.int .u64 m,.int .i64 e] w fun e' w'=>e'= .returned (.tuple #[.float .f64 (pk64 m e).1.toNat,erv (pk64 m e).2])∧Below w.heap.size w w':=by
 obtain ⟨r,hr⟩:∃ r,pk64 m e=r:=⟨_,rfl⟩;rw [hr];unfold pk64 at hr
 have HK:=st0_ w
 by_cases h0:bits .and .u64 m 4503599627370496=0
 case pos=>
  rw [if_pos h0] at hr;have f0:(bits .and .u64 m 4503599627370496 == 0)=true:=beq_iff_eq.2 h0;clear h0
  have Hr:=asd_ hr;clear hr
  go_enter Tryz.func141,Tryz.ntmps141
  go_wp2_with ((with_reducible refine gd_ 10 ?_);refine from_at (m) ((m).toNat) rfl rfl rfl ar_ ?_)
  go_ret2
  exact ⟨by rw [← Hr.out];rfl,be_⟩
 case neg=>
  rw [if_neg h0] at hr;have f0:(bits .and .u64 m 4503599627370496 == 0)=false:=beq_eq_false_iff_ne.2 h0;clear h0;by_cases h1:972≤e
  case pos=>
   rw [if_pos h1] at hr;have f1:decide (972≤e)=true:=decide_eq_true h1;clear h1
   have Hr:=asd_ hr;clear hr
   go_enter Tryz.func141,Tryz.ntmps141
   go_wp2_with ((with_reducible refine gd_ 16 ?_);refine from_at (bits .or .u64 (bits .and .u64 m 9223372036854775808) 9218868437227405312) ((bits .or .u64 (bits .and .u64 m 9223372036854775808) 9218868437227405312).toNat) rfl rfl rfl ar_ ?_)
   go_ret2
   exact ⟨by rw [← Hr.out];rfl,be_⟩
  case neg=>
   rw [if_neg h1] at hr;have f1:decide (972≤e)=false:=decide_eq_false h1;clear h1
   have Hr:=asd_ hr;clear hr
   go_enter Tryz.func141,Tryz.ntmps141
   go_wp2_with ((with_reducible refine gd_ 25 ?_);refine from_at (bits .or .u64 (bits .andNot .u64 m 4503599627370496) (IntKind.u64.wrap (IntKind.u64.wrap (wrap64 (1075 + e)) * 4503599627370496))) ((bits .or .u64 (bits .andNot .u64 m 4503599627370496) (IntKind.u64.wrap (IntKind.u64.wrap (wrap64 (1075 + e)) * 4503599627370496))).toNat) rfl rfl rfl ar_ ?_)
   go_ret2
   exact ⟨by rw [← Hr.out];rfl,be_⟩
theorem pre_ok {w0 w:World} {l:List Blk} {g:Nat} {a b c:Int} (e p lp:Int) (k:Nat) (hk:k < 696) (hp:p=(k:Int) - 348) (hT:Tens w0) (hg:w0.heap.size≤g) (H:At w0 (.b g (row (#[.int .u64 a,.int .u64 b,.int .i64 c]) 256)::l) w):
  Calls Tryz.prog 133 #[.pointer (some ⟨g,0,none⟩),.int .i64 e,.int .i64 p,.int .i64 lp] w fun e' w'=>e'= .returned (.tuple #[])∧At w0 (.b g (row (#[.int .u64 (p10 k).1,.int .u64 (p10 k).2,.int .i64 (wrap64 (-wrap64 (wrap64 (e + lp) + 3)))]) 256)::l) w':=by
 have Gg:=asd_ hg;have Hth:=asd_ (hT.h k hk);have Htl:=asd_ (hT.l k hk);clear hg hT
 have HK:=asd_ H;clear H
 replace Bc:=ce1_ HK 0;replace Bf:=fe1_ HK 0;have th:World.cell? w ⟨9,k * 2,none⟩=some (.int .u64 (p10 k).1):=pw_cell_add HK.out Hth.out;have tl:World.cell? w ⟨9,k * 2 + 1,none⟩=some (.int .u64 (p10 k).2):=pw_cell_add HK.out Htl.out
 have e1:IntKind.i64.wrap (p + 348)=(k:Int):=by rw [IntWalk.i64_in _ (by omega)];omega
 have q0:(0:Int)≤(k:Int):=(by omega);have q1:(k:Int) < 696:=(by omega);clear hp
 go_enter Tryz.func133,Tryz.ntmps133
 go_wp2_with (first|((with_reducible refine gate_ (.store 27 (.tmp 15) (.tmp 13)) rfl ?_);refine store_at (t:=27) (p:=15) (g:=g) (i:=0) (v:= .int .u64 (p10 k).1) 0 (#[.int .u64 (p10 k).1,.int .u64 b,.int .i64 c]) rfl at_ rfl Gg.out rfl rfl rfl rfl gs_ ?_;intro ws1 HK1;replace HK:=asd_ HK1;clear HK1;clear th tl;replace Bc:=ce1_ HK 0;replace Bf:=fe1_ HK 0;have th:World.cell? ws1 ⟨9,k * 2,none⟩=some (.int .u64 (p10 k).1):=pw_cell_add HK.out Hth.out;have tl:World.cell? ws1 ⟨9,k * 2 + 1,none⟩=some (.int .u64 (p10 k).2):=pw_cell_add HK.out Htl.out)|((with_reducible refine gate_ (.store 27 (.tmp 23) (.tmp 21)) rfl ?_);refine store_at (t:=27) (p:=23) (g:=g) (i:=1) (v:= .int .u64 (p10 k).2) 0 (#[.int .u64 (p10 k).1,.int .u64 (p10 k).2,.int .i64 c]) rfl at_ rfl Gg.out rfl rfl rfl rfl gs_ ?_;intro ws2 HK1;replace HK:=asd_ HK1;clear HK1;clear th tl;replace Bc:=ce1_ HK 0;replace Bf:=fe1_ HK 0;have th:World.cell? ws2 ⟨9,k * 2,none⟩=some (.int .u64 (p10 k).1):=pw_cell_add HK.out Hth.out;have tl:World.cell? ws2 ⟨9,k * 2 + 1,none⟩=some (.int .u64 (p10 k).2):=pw_cell_add HK.out Htl.out)|((with_reducible refine gate_ (.store 3 (.tmp 31) (.tmp 29)) rfl ?_);refine store_at (t:=3) (p:=31) (g:=g) (i:=2) (v:= .int .i64 (wrap64 (-wrap64 (wrap64 (e + lp) + 3)))) 0 (#[.int .u64 (p10 k).1,.int .u64 (p10 k).2,.int .i64 (wrap64 (-wrap64 (wrap64 (e + lp) + 3)))]) rfl at_ rfl Gg.out rfl rfl rfl rfl gs_ ?_;intro ws3 HK1;replace HK:=asd_ HK1;clear HK1;clear th tl;replace Bc:=ce1_ HK 0;replace Bf:=fe1_ HK 0;have th:World.cell? ws3 ⟨9,k * 2,none⟩=some (.int .u64 (p10 k).1):=pw_cell_add HK.out Hth.out;have tl:World.cell? ws3 ⟨9,k * 2 + 1,none⟩=some (.int .u64 (p10 k).2):=pw_cell_add HK.out Htl.out))
 go_end0
 exact ⟨rfl,at_⟩
theorem b2u (b:Bool) (w:World):Calls Tryz.prog 118 #[.bool b] w fun e w'=>e= .returned (.int .u64 (if b then 1 else 0))∧Below w.heap.size w w':=by
 cases b
 ·exact (strconv_bool2_uint64.calls false 0 w rfl).mono fun _ _ h=>⟨h.1,h.2.below⟩
 ·exact (strconv_bool2_uint64.calls true 1 w rfl).mono fun _ _ h=>⟨h.1,h.2.below⟩
theorem b2i (b:Bool) (w:World):Calls Tryz.prog 135 #[.bool b] w fun e w'=>e= .returned (.int .i64 (if b then 1 else 0))∧Below w.heap.size w w':=by
 cases b
 ·exact (strconv_bool2_int.calls false 0 w rfl).mono fun _ _ h=>⟨h.1,h.2.below⟩
 ·exact (strconv_bool2_int.calls true 1 w rfl).mono fun _ _ h=>⟨h.1,h.2.below⟩
def mulF (x y:Int):Int×Int:=(bits_Mul64.f x y).getD (0,0)
theorem mul_ok (x y:Int) (w:World):Calls Tryz.prog 149 #[.int .u64 x,.int .u64 y] w fun e w'=>e= .returned (.tuple #[.int .u64 (mulF x y).1,.int .u64 (mulF x y).2])∧Below w.heap.size w w':=
 (bits_Mul64.calls x y _ _ w rfl).mono fun _ _ h=>⟨h.1,h.2.below⟩
theorem and63 (s:Int):bits .and .i64 s 63=((s % 64).toNat:Nat):=by
 have h127:(BitVec.ofInt 64 63).toNat=2 ^ 6 - 1:=by decide
 have key:(BitVec.ofInt 64 s&&& BitVec.ofInt 64 63).toNat=(s % ((2 ^ 64:Nat):Int)).toNat % 2 ^ 6:=by
  rw [BitVec.toNat_and,BitVec.toNat_ofInt,h127,Nat.and_two_pow_sub_one_eq_mod]
 show IntKind.i64.wrap ((BitVec.ofInt 64 s&&& BitVec.ofInt 64 63).toNat:Nat)=_
 rw [key,IntKind.wrap_i64]
 omega
def usc (x hi lo s:Int):Int:=
 let k:=(s % 64).toNat
 let h:=(mulF x hi).1
 let md:=(mulF x hi).2
 if IntKind.u64.wrap (h / 2 ^ k * 2 ^ k)≠h then bits .or .u64 (h / 2 ^ k) 1 else
 let m2:=(mulF x lo).1
 let h2:=IntKind.u64.wrap (h - if md < m2 then 1 else 0)
 bits .or .u64 (h2 / 2 ^ k) (if 1 < IntKind.u64.wrap (md - m2) then 1 else 0)
theorem usc_ok {w:World} {g:Nat} (x hi lo s:Int) (H:w.heap[g]? =some (row (#[.int .u64 hi,.int .u64 lo,.int .i64 s]) 256)):
  Calls Tryz.prog 134 #[.int .u64 x,.pointer (some ⟨g,0,none⟩)] w fun e w'=>e= .returned (.int .u64 (usc x hi lo s))∧Below w.heap.size w w':=by
 obtain ⟨r,hr⟩:∃ r,usc x hi lo s=r:=⟨_,rfl⟩;rw [hr];unfold usc at hr;dsimp only at hr;obtain ⟨k,hk⟩:∃ k,(s % 64).toNat=k:=⟨_,rfl⟩;rw [hk] at hr;have ek:bits .and .i64 s 63=(k:Int):=by rw [and63,hk]
 have hk63:k≤63:=(by omega);have hk64:k≤64:=(by omega);have k0:(0:Int)≤(k:Int):=(by omega);clear hk;obtain ⟨p,hp⟩:∃ p:Int,(2:Int) ^ k=p:=⟨_,rfl⟩;rw [hp] at hr
 obtain ⟨h,hh⟩:∃ h,(mulF x hi).1=h:=⟨_,rfl⟩;obtain ⟨md,hmd⟩:∃ m,(mulF x hi).2=m:=⟨_,rfl⟩;obtain ⟨m2,hm2⟩:∃ m,(mulF x lo).1=m:=⟨_,rfl⟩;obtain ⟨m3,hm3⟩:∃ m,(mulF x lo).2=m:=⟨_,rfl⟩;rw [hh,hmd,hm2] at hr;obtain ⟨Hh,Hmd,Hm2,Hm3⟩:=as4_ hh hmd hm2 hm3;clear hh hmd hm2 hm3
 have HK:Aside0 (At w [.b g (row (#[.int .u64 hi,.int .u64 lo,.int .i64 s]) 256)] w):=asd_ ((At.start w).hold H (by simp [nums]));clear H
 replace Bc:=ce1_ HK 0
 obtain ⟨y,hy⟩:∃ y:Int,(if decide (md < m2) then 1 else 0)=y:=⟨_,rfl⟩;have Hy:=asd_ hy;have hy2:(if md < m2 then (1:Int) else 0)=y:=(by rw [← hy];simp);rw [hy2] at hr;clear hy hy2
 by_cases hq:IntKind.u64.wrap (h / p * p)=h
 case neg=>
  rw [if_pos hq] at hr;have f0:(IntKind.u64.wrap (h / p * p) != h)=true:=bne_iff_ne.2 hq;have Hr:=asd_ hr;clear hr hq
  go_enter Tryz.func134,Tryz.ntmps134
  go_wp2_with (first|((first|((with_reducible refine gd_ 16 ?_);refine cl_ #[.int .u64 x,.int .u64 hi] (.tuple #[.int .u64 h,.int .u64 md]) Tryz.func149 (by rw [← Hh.out,← Hmd.out];exact mul_ok _ _ _) ?_)|((with_reducible refine gd_ 41 ?_);refine cl_ #[.int .u64 x,.int .u64 lo] (.tuple #[.int .u64 m2,.int .u64 m3]) Tryz.func149 (by rw [← Hm2.out,← Hm3.out];exact mul_ok _ _ _) ?_)|((with_reducible refine gd_ 48 ?_);refine cl_ #[.bool (decide (md < m2))] (.int .u64 y) Tryz.func118 (by rw [← Hy.out];exact b2u _ _) ?_));intro wc16 HK1;replace HK:=asd_ HK1;clear HK1;replace Bc:=ce1_ HK 0))
  go_ret
  exact ⟨by rw [← Hr.out];rfl,be_⟩
 case pos=>
  rw [if_neg (fun h=>h hq)] at hr;have f0:(IntKind.u64.wrap (h / p * p) != h)=false:=bne_eq_false_iff_eq.2 hq;clear hq
  obtain ⟨z,hz⟩:∃ z:Int,(if decide (1 < IntKind.u64.wrap (md - m2)) then 1 else 0)=z:=⟨_,rfl⟩;have Hz:=asd_ hz;have hz2:(if 1 < IntKind.u64.wrap (md - m2) then (1:Int) else 0)=z:=(by rw [← hz];simp);rw [hz2] at hr;have Hr:=asd_ hr;clear hz hz2 hr;have Hcz:Aside0 (∀ W,Calls Tryz.prog 118 #[.bool (decide (1 < IntKind.u64.wrap (md - m2)))] W fun e w'=>e= .returned (.int .u64 z)∧Below W.heap.size W w'):=⟨fun W=>by rw [← Hz.out];exact b2u _ _⟩
  go_enter Tryz.func134,Tryz.ntmps134
  go_wp2_with (first|((first|((with_reducible refine gd_ 16 ?_);refine cl_ #[.int .u64 x,.int .u64 hi] (.tuple #[.int .u64 h,.int .u64 md]) Tryz.func149 (by rw [← Hh.out,← Hmd.out];exact mul_ok _ _ _) ?_)|((with_reducible refine gd_ 41 ?_);refine cl_ #[.int .u64 x,.int .u64 lo] (.tuple #[.int .u64 m2,.int .u64 m3]) Tryz.func149 (by rw [← Hm2.out,← Hm3.out];exact mul_ok _ _ _) ?_)|((with_reducible refine gd_ 48 ?_);refine cl_ #[.bool (decide (md < m2))] (.int .u64 y) Tryz.func118 (by rw [← Hy.out];exact b2u _ _) ?_));intro wc16 HK1;replace HK:=asd_ HK1;clear HK1;replace Bc:=ce1_ HK 0))
  refine su1_ 10 HK 0 [] (fun HS hHeld=> ?_)
  refine pu_ 0 50 1 ?_
  refine pu_ 1 51 3 ?_
  refine pu_ 2 52 7 ?_
  refine pu_ 3 53 15 ?_
  refine pu_ 4 54 31 ?_
  refine pu_ 5 55 63 ?_
  refine pu_ 6 56 127 ?_
  refine on_ 7 57 255 (fun K hK=> ?_)
  have HKc:=hHeld.1
  refine ge_ Tryz.func118 #[.bool (decide (1 < IntKind.u64.wrap (md - m2)))] ?_
  with_reducible refine (Hcz.out _).mono ?_
  rintro _ w1 ⟨rfl,hb⟩
  refine ⟨_,rfl,?_⟩
  have HKd:=At.step HKc hb
  refine hK.out _ _ (HS HKd) (fun hHeld=> ?_)
  clear hK K
  refine nq_ 57 ?_
  refine pu_ 8 58 511 ?_
  refine pu_ 9 4 1023 ?_
  refine done_ kr_ ?_
  clear HK;have HK:=asd_ hHeld.1
  clear hHeld
  replace Bc:=ce1_ HK 0
  go_wp2_with fail
  go_ret
  exact ⟨by rw [← Hr.out];rfl,be_⟩
theorem shr_okz {w0 w:World} {l:List Blk} {g:Nat} {s:Dec.D} (k:Nat) (z:Int) (hz:z= -(k:Int)) (H:At w0 (.b g (row (dc s) 235)::l) w) (hg:w0.heap.size≤g) (hs:Dec.Good s) (hp:0 < s.nd) (hk1:1≤k) (hd1: -100000000≤s.dp - 14 * (k:Int)) (hd2:s.dp≤100000000):
  Calls Tryz.prog 139 #[.pointer (some ⟨g,0,none⟩),.int .i64 z] w fun e w'=>e= .returned (.tuple #[])∧At w0 (.b g (row (dc (shr k k s)) 235)::l) w':=by
 subst hz;exact shr_ok k H hg hs hp hk1 hd1 hd2
theorem shl_okz {w0 w:World} {l:List Blk} {g:Nat} {s:Dec.D} (k:Nat) (z:Int) (hz:z=(k:Int)) {ad:Addr} {c:Nat} (H:At w0 (.b g (row (dc s) 235)::l) w) (hT:Cheats w0 ad c) (hg:w0.heap.size≤g) (hs:Dec.Good s) (hp:0 < s.nd) (hk1:1≤k) (hk2:k≤60) (hd1: -100000000≤s.dp) (hd2:s.dp≤100000000):
  Calls Tryz.prog 139 #[.pointer (some ⟨g,0,none⟩),.int .i64 z] w fun e w'=>e= .returned (.tuple #[])∧At w0 (.b g (row (dc (shl k s)) 235)::l) w':=by
 subst hz;exact shl_ok k H hT hg hs hp hk1 hk2 hd1 hd2
theorem fb_ok {w0 w:World} {l:List Blk} {g:Nat} {s:Dec.D} {ad7 ad:Addr} {c7 c:Nat} (H:At w0 (.b g (row (dc s) 235)::l) w) (hg:w0.heap.size≤g) (hs:Dec.Good s) (hT:Cheats w0 ad c) (hP:Pows w0 ad7 c7) (hI:Finfo w0):
  Calls Tryz.prog 117 #[.pointer (some ⟨g,0,none⟩),.pointer (some ⟨5,0,none⟩)] w fun e w'=>e= .returned (.tuple #[.int .u64 (fbits s).1,.bool (fbits s).2])∧At w0 l w':=by
 obtain ⟨Hg,Hgd,HL⟩:=as3_ hg hs hs.len;obtain ⟨HP,HI,HT⟩:=as3_ hP hI hT;clear hg hs hP hI hT
 obtain ⟨ng,hng⟩:∃ ng,s.neg=ng:=⟨_,rfl⟩;obtain ⟨r,hr⟩:∃ r,fbits s=r:=⟨_,rfl⟩;rw [hr];unfold fbits at hr;rw [hng] at hr;obtain ⟨Hng,Hr⟩:=as2_ hng hr;clear hng hr
 have HK:=asd_ H;clear H
 have cnd:=At.dnd (W:=w) HK.out HL.out;have cdp:=At.ddp (W:=w) HK.out HL.out;have cneg:=At.dneg (W:=w) HK.out HL.out;have ctr:=At.dtr (W:=w) HK.out HL.out;have cfr:=At.dfro (W:=w) HK.out;have hm:World.cell? w ⟨5,0,none⟩=some (.int .u64 52):=pw_cell_add HK.out HI.out.m;have he:World.cell? w ⟨5,1,none⟩=some (.int .u64 11):=pw_cell_add HK.out HI.out.e;have hb:World.cell? w ⟨5,2,none⟩=some (.int .i64 (-1023)):=pw_cell_add HK.out HI.out.b;have hpv:World.cell? w ⟨7,0,none⟩=some (.slice (some ad7) 9 c7):=pw_cell_add HK.out HP.out.v
 go_enter Tryz.func117,Tryz.ntmps117
 go_wp2_with fail
 refine wp_scope_fwd (fun lb a w'=>∃ (T:Nat→Value) (m e:Int) (ov:Bool) (D:Dec.D),a={tmps:=FB g T m e ov,defers:=[]}∧((lb=0∧(fout ng m e,ov)=r)∨(lb=1∧(fout ng 0 1024,true)=r))∧D.neg=ng∧D.d.length=800∧At w0 (.b g (row (dc D) 235)::l) w') ?_ ?_
 case refine_2=>
  clear HK Hr cnd cdp cneg ctr cfr hm he hb hpv
  rintro lb a w' ⟨T,m,e,ov,D,rfl,hR,hn,hl,hK⟩
  obtain ⟨HK,HLD⟩:=as2_ hK hl;clear hK hl HL;have HL:=HLD;clear HLD
  rcases hR with ⟨rfl,hr⟩|⟨rfl,hr⟩
  ·refine ⟨_,rfl,?_⟩
   have Hrr:=asd_ hr;clear hr
   have cnd:=At.dnd (W:=w') HK.out HL.out;have cdp:=At.ddp (W:=w') HK.out HL.out;have cneg:=At.dneg (W:=w') HK.out HL.out;have ctr:=At.dtr (W:=w') HK.out HL.out;have cfr:=At.dfro (W:=w') HK.out;have hm:World.cell? w' ⟨5,0,none⟩=some (.int .u64 52):=pw_cell_add HK.out HI.out.m;have he:World.cell? w' ⟨5,1,none⟩=some (.int .u64 11):=pw_cell_add HK.out HI.out.e;have hb:World.cell? w' ⟨5,2,none⟩=some (.int .i64 (-1023)):=pw_cell_add HK.out HI.out.b;have hpv:World.cell? w' ⟨7,0,none⟩=some (.slice (some ad7) 9 c7):=pw_cell_add HK.out HP.out.v
   rw [hn] at cneg;clear hn
   unfold FB
   cases ng
   case false=>
    go_wp2_with fail
    repeat (go_quiet (fail);try go_wp2_with fail)
    rw [Exit.noGoto_ret]
    go_ret2
    exact ⟨by rw [← Hrr.out];rfl,(show At w0 _ _ from at_).drop⟩
   case true=>
    go_wp2_with fail
    repeat (go_quiet (fail);try go_wp2_with fail)
    rw [Exit.noGoto_ret]
    go_ret2
    exact ⟨by rw [← Hrr.out];rfl,(show At w0 _ _ from at_).drop⟩
  ·refine ⟨_,rfl,?_⟩
   have Hrr:=asd_ hr;clear hr
   have cnd:=At.dnd (W:=w') HK.out HL.out;have cdp:=At.ddp (W:=w') HK.out HL.out;have cneg:=At.dneg (W:=w') HK.out HL.out;have ctr:=At.dtr (W:=w') HK.out HL.out;have cfr:=At.dfro (W:=w') HK.out;have hm:World.cell? w' ⟨5,0,none⟩=some (.int .u64 52):=pw_cell_add HK.out HI.out.m;have he:World.cell? w' ⟨5,1,none⟩=some (.int .u64 11):=pw_cell_add HK.out HI.out.e;have hb:World.cell? w' ⟨5,2,none⟩=some (.int .i64 (-1023)):=pw_cell_add HK.out HI.out.b;have hpv:World.cell? w' ⟨7,0,none⟩=some (.slice (some ad7) 9 c7):=pw_cell_add HK.out HP.out.v
   rw [hn] at cneg;clear hn
   unfold FB
   cases ng
   case false=>
    go_wp2_with fail
    go_quiet (fail)
    go_wp2_with fail
    go_step3
    go_wp2_with fail
    repeat (go_quiet (fail);try go_wp2_with fail)
    rw [Exit.noGoto_ret]
    go_ret2
    exact ⟨by rw [← Hrr.out];kernel_rfl,(show At w0 _ _ from at_).drop⟩
   case true=>
    go_wp2_with fail
    go_quiet (fail)
    go_wp2_with fail
    go_step3
    go_wp2_with fail
    repeat (go_quiet (fail);try go_wp2_with fail)
    rw [Exit.noGoto_ret]
    go_ret2
    exact ⟨by rw [← Hrr.out];kernel_rfl,(show At w0 _ _ from at_).drop⟩
 case refine_1=>
  by_cases h0:s.nd=0
  case pos=>
   have f0:((s.nd:Int) == 0)=true:=beq_iff_eq.2 (by omega);have hr:=Hr.out;rw [if_pos h0] at hr;have Hr1:=asd_ hr;clear hr h0
   go_wp2_with fail
   go_step3
   exact jump_fb (D:=s) (R:=fun m e ov=>((0:Nat)=0∧(fout ng m e,ov)=r)∨((0:Nat)=1∧(fout ng 0 1024,true)=r)) (0) (-1023) false kr_ (.inl ⟨rfl,Hr1.out⟩) Hng.out HL.out at_
  case neg=>
   have f0:((s.nd:Int) == 0)=false:=beq_eq_false_iff_ne.2 (by omega);have hr:=Hr.out;rw [if_neg h0] at hr;clear Hr;have Hp:Aside0 (0 < s.nd):=⟨by omega⟩;clear h0
   by_cases h1:310 < s.dp
   case pos=>
    have f1:decide (310 < s.dp)=true:=decide_eq_true h1;rw [if_pos h1] at hr;have Hr1:=asd_ hr;clear hr h1
    go_wp2_with fail
    go_step3
    exact jump_fb (D:=s) (R:=fun m e ov=>((1:Nat)=0∧(fout ng m e,ov)=r)∨((1:Nat)=1∧(fout ng 0 1024,true)=r)) (0) (0) false kr_ (.inr ⟨rfl,Hr1.out⟩) Hng.out HL.out at_
   case neg=>
    have f1:decide (310 < s.dp)=false:=decide_eq_false h1;rw [if_neg h1] at hr;have H1:=asd_ h1;clear h1
    by_cases h2:s.dp < -330
    case pos=>
     have f2:decide (s.dp < -330)=true:=decide_eq_true h2;rw [if_pos h2] at hr;have Hr1:=asd_ hr;clear hr h2
     go_wp2_with fail
     go_step3
     exact jump_fb (D:=s) (R:=fun m e ov=>((0:Nat)=0∧(fout ng m e,ov)=r)∨((0:Nat)=1∧(fout ng 0 1024,true)=r)) (0) (-1023) false kr_ (.inl ⟨rfl,Hr1.out⟩) Hng.out HL.out at_
    case neg=>
     have f2:decide (s.dp < -330)=false:=decide_eq_false h2;rw [if_neg h2] at hr;obtain ⟨Hr,H2⟩:=as2_ hr h2;clear h2 hr
     obtain ⟨R1,hR1⟩:∃ R,fb1 622 s 0=R:=⟨_,rfl⟩;have hr:=Hr.out;rw [hR1] at hr;have HR1:=asd_ hR1;clear Hr hR1;have Hr:=asd_ hr;clear hr
     go_upto_block 0 with fail
     go_cut [6,8] from 35 to 60 (fun v6 v8 wc=>∃ (e:Int) (s':Dec.D),v6= .int .i64 e∧Aside0 (Dec.Good s')∧Aside0 (0 < s'.nd)∧Aside0 (s'.neg=ng)∧Aside0 (-900≤s'.dp∧s'.dp≤0)∧Aside0 (0≤e∧e≤16794)∧Aside0 ((s',e)=R1)∧Aside0 (At w0 (.b g (row (dc s') 235)::l) wc))
     case first=>
      go_wp2_with fail
      go_loopg [6] 622 (fun kq v6 w'=>∃ (e:Int) (s':Dec.D),v6= .int .i64 e∧Aside0 (Dec.Good s')∧Aside0 (0 < s'.nd)∧Aside0 (s'.neg=ng)∧Aside0 (-900≤s'.dp∧s'.dp≤310)∧Aside0 (0≤e∧e≤27 * (622 - (kq:Int)))∧Aside0 (kq≤622)∧Aside0 (far1 s' < kq)∧Aside0 (fb1 kq s' e=R1)∧Aside0 (At w0 (.b g (row (dc s') 235)::l) w'))
      case atStart=>exact ⟨0,s,rfl,Hgd,Hp,Hng,⟨by have:=H1.out;have:=H2.out;omega⟩,⟨by omega⟩,⟨Nat.le_refl _⟩,⟨by have:=H1.out;unfold far1;split<;>omega⟩,HR1,⟨at_⟩⟩
      case round=>
       clear HK HL Hgd Hp cnd cdp cneg ctr cfr hm he hb hpv
       obtain ⟨e,s',rfl,Hgd,Hp,Hn,Hd,He,Hkk,Hf,Hfb,HK⟩:=hrel;have HL:Aside0 (s'.d.length=800):=⟨Hgd.out.len⟩
       have cnd:=At.dnd (W:=wr) HK.out HL.out;have cdp:=At.ddp (W:=wr) HK.out HL.out;have cneg:=At.dneg (W:=wr) HK.out HL.out;have ctr:=At.dtr (W:=wr) HK.out HL.out;have cfr:=At.dfro (W:=wr) HK.out;have hm:World.cell? wr ⟨5,0,none⟩=some (.int .u64 52):=pw_cell_add HK.out HI.out.m;have he:World.cell? wr ⟨5,1,none⟩=some (.int .u64 11):=pw_cell_add HK.out HI.out.e;have hb:World.cell? wr ⟨5,2,none⟩=some (.int .i64 (-1023)):=pw_cell_add HK.out HI.out.b;have hpv:World.cell? wr ⟨7,0,none⟩=some (.slice (some ad7) 9 c7):=pw_cell_add HK.out HP.out.v
       obtain ⟨q,hq⟩:∃ q,gk=q + 1:=⟨gk - 1,by have:=Hf.out;omega⟩;subst hq;have hfb:=Hfb.out;simp only [fb1] at hfb
       by_cases hd:0 < s'.dp
       case neg=>
        have f3:decide (0 < s'.dp)=false:=decide_eq_false hd;rw [if_neg hd] at hfb;obtain ⟨Hfb2,Hd0⟩:=as2_ hfb hd;clear hfb hd
        go_wp2_with fail
        go_meet
        case rel=>exact ⟨e,s',rfl,Hgd,Hp,Hn,⟨by have:=Hd.out;have:=Hd0.out;omega⟩,⟨by have:=He.out;have:=Hkk.out;omega⟩,Hfb2,⟨at_⟩⟩
       case pos=>
        have f3:decide (0 < s'.dp)=true:=decide_eq_true hd;rw [if_pos hd] at hfb;have Hless:=asd_ (far1_less Hgd.out Hp.out hd)
        obtain ⟨k,hk⟩:∃ k:Nat,s'.dp=(k:Int):=⟨s'.dp.toNat,by omega⟩;have hkt:s'.dp.toNat=k:=(by omega);rw [hkt] at hfb Hless;obtain ⟨v,hv⟩:∃ v,pt k=v:=⟨_,rfl⟩;have hvb:=pt_le k;rw [hv] at hfb Hless hvb;rw [hk] at cdp f3;obtain ⟨Hfb2,Hk,Hv,Hvb⟩:=as4_ hfb hk hv hvb;have Hk1:Aside0 (1≤k):=⟨by omega⟩;have f3n:decide (0 < k)=true:=decide_eq_true Hk1.out;clear hfb hk hv hvb hkt hd
        have HS:Aside0 (shr v v s'=Dec.rsh v s'):=⟨shr_one Hvb.out.1 (by have:=Hvb.out;omega) s'⟩;obtain ⟨ha,hb2,_⟩:=Dec.rsh_good Hgd.out Hp.out v;have hc:=rsh_dp Hgd.out Hp.out (k:=v) (by have:=Hvb.out;omega);rw [← HS.out] at ha hb2 hc;obtain ⟨Ha,Hb,Hc⟩:=as3_ ha hb2 hc;clear ha hb2 hc;have HL2:Aside0 ((shr v v s').d.length=800):=⟨Ha.out.len⟩
        have e1:IntKind.i64.wrap (e + (v:Int))=e + (v:Int):=IntWalk.i64_in _ (by have:=He.out;have:=Hkk.out;have:=Hvb.out;omega);have e2:IntKind.i64.wrap (-(v:Int))= -(v:Int):=IntWalk.i64_in _ (by have:=Hvb.out;omega);have e1b:IntKind.i64.wrap (e + 27)=e + 27:=IntWalk.i64_in _ (by have:=He.out;have:=Hkk.out;omega)
        by_cases h9:9≤k
        case pos=>
         have Hv27:Aside0 (v=27):=⟨by rw [← Hv.out];exact pt_ge h9⟩
         have f4:decide ((9:Int)≤(k:Int))=true:=decide_eq_true (by omega);have f4n:decide (9≤k)=true:=decide_eq_true h9;clear h9
         go_wp2_with fail
         go_quiet (fail)
         go_wp2_with (first|((with_reducible refine gd_ 57 ?_);refine call_to #[.pointer (some ⟨g,0,none⟩),.int .i64 (-27)] (.tuple #[]) _ rfl Tryz.func139 kr_ rfl rfl ar_ (shr_okz v (-27) (by rw [Hv27.out];rfl) at_ Hg.out Hgd.out Hp.out (by have:=Hvb.out;omega) (by have:=Hd.out;have:=Hvb.out;omega) (by have:=Hd.out;omega)) ?_;rintro wc57 HK1;replace HK:=asd_ HK1;clear HK1;skip;clear cnd cdp cneg ctr cfr hm he hb hpv;have cnd:=At.dnd (W:=wc57) HK.out HL2.out;have cdp:=At.ddp (W:=wc57) HK.out HL2.out;have cneg:=At.dneg (W:=wc57) HK.out HL2.out;have ctr:=At.dtr (W:=wc57) HK.out HL2.out;have cfr:=At.dfro (W:=wc57) HK.out;have hm:World.cell? wc57 ⟨5,0,none⟩=some (.int .u64 52):=pw_cell_add HK.out HI.out.m;have he:World.cell? wc57 ⟨5,1,none⟩=some (.int .u64 11):=pw_cell_add HK.out HI.out.e;have hb:World.cell? wc57 ⟨5,2,none⟩=some (.int .i64 (-1023)):=pw_cell_add HK.out HI.out.b;have hpv:World.cell? wc57 ⟨7,0,none⟩=some (.slice (some ad7) 9 c7):=pw_cell_add HK.out HP.out.v))
         go_roundg q
         case measure=>exact Nat.lt_succ_self _
         case rel=>exact ⟨e + (v:Nat),shr v v s',ivl (by have:=Hv27.out;omega),Ha,Hb,⟨by rw [shr_neg];exact Hn.out⟩,⟨by have:=Hc.out;have:=Hk.out;have:=Hk1.out;have:=Hd.out;omega⟩,⟨by have:=He.out;have:=Hvb.out;omega⟩,⟨by have:=Hkk.out;omega⟩,⟨by have:=Hless.out;have:=Hf.out;omega⟩,Hfb2,⟨at_⟩⟩
        case neg=>
         have f4:decide ((9:Int)≤(k:Int))=false:=decide_eq_false (by omega);have f4n:decide (9≤k)=false:=decide_eq_false h9;have p0:(0:Int)≤(k:Int):=(by omega);have p1:(k:Int) < 9:=(by omega);have p1n:k < 9:=(by omega)
         have ctab:World.cell? wr (ad7.add k)=some (.int .i64 (v:Nat)):=by rw [← Hv.out];exact pw_cell_add HK.out (HP.out.d k p1n)
         clear h9
         go_wp2_with fail
         go_quiet (fail)
         go_wp2_with fail
         go_quiet (fail)
         go_wp2_with (first|((with_reducible refine gd_ 57 ?_);refine call_to #[.pointer (some ⟨g,0,none⟩),.int .i64 (-(v:Int))] (.tuple #[]) _ rfl Tryz.func139 kr_ rfl rfl ar_ (shr_okz v (-(v:Int)) rfl at_ Hg.out Hgd.out Hp.out (by have:=Hvb.out;omega) (by have:=Hd.out;have:=Hvb.out;omega) (by have:=Hd.out;omega)) ?_;rintro wc57 HK1;replace HK:=asd_ HK1;clear HK1;skip;clear cnd cdp cneg ctr cfr hm he hb hpv;have cnd:=At.dnd (W:=wc57) HK.out HL2.out;have cdp:=At.ddp (W:=wc57) HK.out HL2.out;have cneg:=At.dneg (W:=wc57) HK.out HL2.out;have ctr:=At.dtr (W:=wc57) HK.out HL2.out;have cfr:=At.dfro (W:=wc57) HK.out;have hm:World.cell? wc57 ⟨5,0,none⟩=some (.int .u64 52):=pw_cell_add HK.out HI.out.m;have he:World.cell? wc57 ⟨5,1,none⟩=some (.int .u64 11):=pw_cell_add HK.out HI.out.e;have hb:World.cell? wc57 ⟨5,2,none⟩=some (.int .i64 (-1023)):=pw_cell_add HK.out HI.out.b;have hpv:World.cell? wc57 ⟨7,0,none⟩=some (.slice (some ad7) 9 c7):=pw_cell_add HK.out HP.out.v))
         go_roundg q
         case measure=>exact Nat.lt_succ_self _
         case rel=>exact ⟨e + (v:Nat),shr v v s',rfl,Ha,Hb,⟨by rw [shr_neg];exact Hn.out⟩,⟨by have:=Hc.out;have:=Hk.out;have:=Hk1.out;have:=Hd.out;omega⟩,⟨by have:=He.out;have:=Hvb.out;omega⟩,⟨by have:=Hkk.out;omega⟩,⟨by have:=Hless.out;have:=Hf.out;omega⟩,Hfb2,⟨at_⟩⟩
     case rest=>
      clear HK HL Hgd Hp cnd cdp cneg ctr cfr hm he hb hpv
      obtain ⟨e,s',rfl,Hgd,Hp,Hn,Hd,He,Hfb,HK⟩:=hcut;have HL:Aside0 (s'.d.length=800):=⟨Hgd.out.len⟩
      have hr:=Hr.out;rw [← Hfb.out] at hr;dsimp only at hr;clear Hr Hfb;have Hr:=asd_ hr;clear hr
      have cnd:=At.dnd HK.out HL.out;have cdp:=At.ddp HK.out HL.out;have cneg:=At.dneg HK.out HL.out;have ctr:=At.dtr HK.out HL.out;have cfr:=At.dfro HK.out;have hm:World.cell? wc ⟨5,0,none⟩=some (.int .u64 52):=pw_cell_add HK.out HI.out.m;have he:World.cell? wc ⟨5,1,none⟩=some (.int .u64 11):=pw_cell_add HK.out HI.out.e;have hb:World.cell? wc ⟨5,2,none⟩=some (.int .i64 (-1023)):=pw_cell_add HK.out HI.out.b;have hpv:World.cell? wc ⟨7,0,none⟩=some (.slice (some ad7) 9 c7):=pw_cell_add HK.out HP.out.v
      obtain ⟨R2,hR2⟩:∃ R,fb2 9100 s' e=R:=⟨_,rfl⟩;have hr:=Hr.out;rw [hR2] at hr;have HR2:=asd_ hR2;clear Hr hR2;have Hr:=asd_ hr;clear hr
      go_upto_block 2 with fail
      go_cut [6,9] from 61 to 102 (fun v6 v9 wc=>∃ (e:Int) (s'':Dec.D),v6= .int .i64 e∧Aside0 (Dec.Good s'')∧Aside0 (0 < s''.nd)∧Aside0 (s''.neg=ng)∧Aside0 (0≤s''.dp∧s''.dp≤19)∧Aside0 (-245700≤e∧e≤16794)∧Aside0 ((s'',e)=R2)∧Aside0 (At w0 (.b g (row (dc s'') 235)::l) wc))
      case first=>
       go_wp2_with fail
       go_loopg [6] 9100 (fun kq v6 w'=>∃ (e:Int) (s'':Dec.D),v6= .int .i64 e∧Aside0 (Dec.Good s'')∧Aside0 (0 < s''.nd)∧Aside0 (s''.neg=ng)∧Aside0 (-900≤s''.dp∧s''.dp≤19)∧Aside0 (-27 * (9100 - (kq:Int))≤e∧e≤16794)∧Aside0 (kq≤9100)∧Aside0 (far2 s'' < kq)∧Aside0 (fb2 kq s'' e=R2)∧Aside0 (At w0 (.b g (row (dc s'') 235)::l) w'))
       case atStart=>exact ⟨e,s',rfl,Hgd,Hp,Hn,⟨by have:=Hd.out;omega⟩,⟨by have:=He.out;omega⟩,⟨Nat.le_refl _⟩,⟨by have:=Hd.out;have:=Hgd.out.top Hp.out;unfold far2;split<;>omega⟩,HR2,⟨at_⟩⟩
       case round=>
        clear HK HL Hgd Hp Hn Hd He HR2 cnd cdp cneg ctr cfr hm he hb hpv
        obtain ⟨e,s'',rfl,Hgd,Hp,Hn,Hd,He,Hkk,Hf,Hfb,HK⟩:=hrel;have HL:Aside0 (s''.d.length=800):=⟨Hgd.out.len⟩
        have cnd:=At.dnd (W:=wr) HK.out HL.out;have cdp:=At.ddp (W:=wr) HK.out HL.out;have cneg:=At.dneg (W:=wr) HK.out HL.out;have ctr:=At.dtr (W:=wr) HK.out HL.out;have cd0:=At.dd (W:=wr) HK.out HL.out 0 (by omega);have cfr:=At.dfro (W:=wr) HK.out;have hm:World.cell? wr ⟨5,0,none⟩=some (.int .u64 52):=pw_cell_add HK.out HI.out.m;have he:World.cell? wr ⟨5,1,none⟩=some (.int .u64 11):=pw_cell_add HK.out HI.out.e;have hb:World.cell? wr ⟨5,2,none⟩=some (.int .i64 (-1023)):=pw_cell_add HK.out HI.out.b;have hpv:World.cell? wr ⟨7,0,none⟩=some (.slice (some ad7) 9 c7):=pw_cell_add HK.out HP.out.v
        obtain ⟨q,hq⟩:∃ q,gk=q + 1:=⟨gk - 1,by have:=Hf.out;omega⟩;subst hq;have hfb:=Hfb.out;simp only [fb2] at hfb
        obtain ⟨c0,hc0⟩:∃ c0,s''.d.getD 0 0=c0:=⟨_,rfl⟩;rw [hc0] at cd0;have Hc0:=asd_ hc0;clear hc0
        obtain ⟨z,hz⟩:∃ z,s''.dp=z:=⟨_,rfl⟩;rw [hz] at cdp;have Hz:=asd_ hz;clear hz;obtain ⟨bu,hbu⟩:∃ b,up s''=b:=⟨_,rfl⟩;rw [hbu] at hfb;have Hbu:=asd_ hbu;have hup:=hbu;unfold up at hup;rw [Hc0.out,Hz.out] at hup;clear hbu
        cases bu
        case false=>
         rw [if_neg (by decide)] at hfb;have Hfb2:=asd_ hfb;clear hfb;simp at hup
         have f3:decide (z < 0)=false:=decide_eq_false (by omega)
         by_cases hz0:z=0
         case pos=>
          have f4:(z == 0)=true:=beq_iff_eq.2 hz0;have f5:decide ((c0:Int) < 53)=false:=decide_eq_false (by omega);have Hzz:Aside0 (0≤s''.dp):=⟨by rw [Hz.out];omega⟩;clear hup hz0
          go_wp2_with fail
          go_meet
          case rel=>exact ⟨e,s'',rfl,Hgd,Hp,Hn,⟨by have:=Hd.out;have:=Hzz.out;omega⟩,⟨by have:=He.out;have:=Hkk.out;omega⟩,Hfb2,⟨at_⟩⟩
         case neg=>
          have f4:(z == 0)=false:=beq_eq_false_iff_ne.2 hz0;have Hzz:Aside0 (0≤s''.dp):=⟨by rw [Hz.out];omega⟩;clear hup hz0
          go_wp2_with fail
          go_meet
          case rel=>exact ⟨e,s'',rfl,Hgd,Hp,Hn,⟨by have:=Hd.out;have:=Hzz.out;omega⟩,⟨by have:=He.out;have:=Hkk.out;omega⟩,Hfb2,⟨at_⟩⟩
        case true=>
         rw [if_pos rfl] at hfb;have Hless:=asd_ (far2_less Hgd.out Hp.out Hbu.out)
         have hzle:z≤0:=(by simp at hup;omega);obtain ⟨k,hk⟩:∃ k:Nat,z= -(k:Int):=⟨(-z).toNat,by omega⟩;have hkt:(-s''.dp).toNat=k:=(by rw [Hz.out];omega);rw [hkt] at hfb Hless;obtain ⟨v,hv⟩:∃ v,pt k=v:=⟨_,rfl⟩;have hvb:=pt_le k;rw [hv] at hfb Hless hvb;obtain ⟨Hfb2,Hk,Hv,Hvb⟩:=as4_ hfb hk hv hvb;clear hfb hv hvb hkt
         have hS:=shl_good Hgd.out Hp.out Hvb.out.1 (by have:=Hvb.out;omega:v≤60);have Ha:=asd_ hS.1;have Hb:=asd_ hS.2.1;have Hc:=asd_ hS.2.2;clear hS;have HL2:Aside0 ((shl v s'').d.length=800):=⟨Ha.out.len⟩
         have e1:IntKind.i64.wrap (e - (v:Int))=e - (v:Int):=IntWalk.i64_in _ (by have:=He.out;have:=Hkk.out;have:=Hvb.out;omega);have e2:IntKind.i64.wrap (-z)=(k:Int):=by rw [IntWalk.i64_in _ (by have:=Hd.out;have:=Hz.out;omega)];omega
         have e1b:IntKind.i64.wrap (e - 27)=e - 27:=IntWalk.i64_in _ (by have:=He.out;have:=Hkk.out;omega)
         by_cases hk0:k=0
         case pos=>
          have f3:decide (z < 0)=false:=decide_eq_false (by omega);have f4:(z == 0)=true:=beq_iff_eq.2 (by omega);have f5:decide ((c0:Int) < 53)=true:=decide_eq_true (by simp at hup;omega);have f6:decide (9≤k)=false:=decide_eq_false (by omega);have f7:decide ((9:Int)≤(k:Int))=false:=decide_eq_false (by omega)
          have p0:(0:Int)≤(k:Int):=(by omega);have p1:(k:Int) < 9:=(by omega);have p1n:k < 9:=(by omega)
          have ctab:World.cell? wr (ad7.add k)=some (.int .i64 (v:Nat)):=by rw [← Hv.out];exact pw_cell_add HK.out (HP.out.d k p1n)
          clear hup hk0 hzle hk
          go_wp2_with fail
          go_quiet (fail)
          go_wp2_with fail
          go_quiet (fail)
          go_wp2_with (first|((with_reducible refine gd_ 99 ?_);refine call_to #[.pointer (some ⟨g,0,none⟩),.int .i64 (v:Int)] (.tuple #[]) _ rfl Tryz.func139 kr_ rfl rfl ar_ (shl_okz v (v:Int) rfl at_ HT.out Hg.out Hgd.out Hp.out Hvb.out.1 (by have:=Hvb.out;omega) (by have:=Hd.out;omega) (by have:=Hd.out;omega)) ?_;rintro wc99 HK1;replace HK:=asd_ HK1;clear HK1;skip;clear cnd cdp cneg ctr cd0 cfr hm he hb hpv;have cnd:=At.dnd (W:=wc99) HK.out HL2.out;have cdp:=At.ddp (W:=wc99) HK.out HL2.out;have cneg:=At.dneg (W:=wc99) HK.out HL2.out;have ctr:=At.dtr (W:=wc99) HK.out HL2.out;have cfr:=At.dfro (W:=wc99) HK.out;have hm:World.cell? wc99 ⟨5,0,none⟩=some (.int .u64 52):=pw_cell_add HK.out HI.out.m;have he:World.cell? wc99 ⟨5,1,none⟩=some (.int .u64 11):=pw_cell_add HK.out HI.out.e;have hb:World.cell? wc99 ⟨5,2,none⟩=some (.int .i64 (-1023)):=pw_cell_add HK.out HI.out.b;have hpv:World.cell? wc99 ⟨7,0,none⟩=some (.slice (some ad7) 9 c7):=pw_cell_add HK.out HP.out.v))
          go_roundg q
          case measure=>exact Nat.lt_succ_self _
          case rel=>exact ⟨e - (v:Nat),shl v s'',rfl,Ha,Hb,⟨Hn.out⟩,⟨by have:=Hc.out;have:=Hd.out;have:=Hz.out;have:=Hk.out;omega⟩,⟨by have:=He.out;have:=Hvb.out;omega⟩,⟨by have:=Hkk.out;omega⟩,⟨by have:=Hless.out;have:=Hf.out;omega⟩,Hfb2,⟨at_⟩⟩
         case neg=>
          have f3:decide (z < 0)=true:=decide_eq_true (by omega)
          by_cases h9:9≤k
          case pos=>
           have f6:decide (9≤k)=true:=decide_eq_true h9;have f7:decide ((9:Int)≤(k:Int))=true:=decide_eq_true (by omega);have Hv27:Aside0 (v=27):=⟨by rw [← Hv.out];exact pt_ge h9⟩;clear hup hk0 h9 hzle hk
           go_wp2_with fail
           go_quiet (fail)
           go_wp2_with (first|((with_reducible refine gd_ 99 ?_);refine call_to #[.pointer (some ⟨g,0,none⟩),.int .i64 27] (.tuple #[]) _ rfl Tryz.func139 kr_ rfl rfl ar_ (shl_okz v 27 (by rw [Hv27.out];rfl) at_ HT.out Hg.out Hgd.out Hp.out Hvb.out.1 (by have:=Hvb.out;omega) (by have:=Hd.out;omega) (by have:=Hd.out;omega)) ?_;rintro wc99 HK1;replace HK:=asd_ HK1;clear HK1;skip;clear cnd cdp cneg ctr cd0 cfr hm he hb hpv;have cnd:=At.dnd (W:=wc99) HK.out HL2.out;have cdp:=At.ddp (W:=wc99) HK.out HL2.out;have cneg:=At.dneg (W:=wc99) HK.out HL2.out;have ctr:=At.dtr (W:=wc99) HK.out HL2.out;have cfr:=At.dfro (W:=wc99) HK.out;have hm:World.cell? wc99 ⟨5,0,none⟩=some (.int .u64 52):=pw_cell_add HK.out HI.out.m;have he:World.cell? wc99 ⟨5,1,none⟩=some (.int .u64 11):=pw_cell_add HK.out HI.out.e;have hb:World.cell? wc99 ⟨5,2,none⟩=some (.int .i64 (-1023)):=pw_cell_add HK.out HI.out.b;have hpv:World.cell? wc99 ⟨7,0,none⟩=some (.slice (some ad7) 9 c7):=pw_cell_add HK.out HP.out.v))
           go_roundg q
           case measure=>exact Nat.lt_succ_self _
           case rel=>exact ⟨e - (v:Nat),shl v s'',ivl (by have:=Hv27.out;omega),Ha,Hb,⟨Hn.out⟩,⟨by have:=Hc.out;have:=Hd.out;have:=Hz.out;have:=Hk.out;omega⟩,⟨by have:=He.out;have:=Hvb.out;omega⟩,⟨by have:=Hkk.out;omega⟩,⟨by have:=Hless.out;have:=Hf.out;omega⟩,Hfb2,⟨at_⟩⟩
          case neg=>
           have f6:decide (9≤k)=false:=decide_eq_false h9;have f7:decide ((9:Int)≤(k:Int))=false:=decide_eq_false (by omega)
           have p0:(0:Int)≤(k:Int):=(by omega);have p1:(k:Int) < 9:=(by omega);have p1n:k < 9:=(by omega)
           have ctab:World.cell? wr (ad7.add k)=some (.int .i64 (v:Nat)):=by rw [← Hv.out];exact pw_cell_add HK.out (HP.out.d k p1n)
           clear hup hk0 h9 hzle hk
           go_wp2_with fail
           go_quiet (fail)
           go_wp2_with fail
           go_quiet (fail)
           go_wp2_with (first|((with_reducible refine gd_ 99 ?_);refine call_to #[.pointer (some ⟨g,0,none⟩),.int .i64 (v:Int)] (.tuple #[]) _ rfl Tryz.func139 kr_ rfl rfl ar_ (shl_okz v (v:Int) rfl at_ HT.out Hg.out Hgd.out Hp.out Hvb.out.1 (by have:=Hvb.out;omega) (by have:=Hd.out;omega) (by have:=Hd.out;omega)) ?_;rintro wc99 HK1;replace HK:=asd_ HK1;clear HK1;skip;clear cnd cdp cneg ctr cd0 cfr hm he hb hpv;have cnd:=At.dnd (W:=wc99) HK.out HL2.out;have cdp:=At.ddp (W:=wc99) HK.out HL2.out;have cneg:=At.dneg (W:=wc99) HK.out HL2.out;have ctr:=At.dtr (W:=wc99) HK.out HL2.out;have cfr:=At.dfro (W:=wc99) HK.out;have hm:World.cell? wc99 ⟨5,0,none⟩=some (.int .u64 52):=pw_cell_add HK.out HI.out.m;have he:World.cell? wc99 ⟨5,1,none⟩=some (.int .u64 11):=pw_cell_add HK.out HI.out.e;have hb:World.cell? wc99 ⟨5,2,none⟩=some (.int .i64 (-1023)):=pw_cell_add HK.out HI.out.b;have hpv:World.cell? wc99 ⟨7,0,none⟩=some (.slice (some ad7) 9 c7):=pw_cell_add HK.out HP.out.v))
           go_roundg q
           case measure=>exact Nat.lt_succ_self _
           case rel=>exact ⟨e - (v:Nat),shl v s'',rfl,Ha,Hb,⟨Hn.out⟩,⟨by have:=Hc.out;have:=Hd.out;have:=Hz.out;have:=Hk.out;omega⟩,⟨by have:=He.out;have:=Hvb.out;omega⟩,⟨by have:=Hkk.out;omega⟩,⟨by have:=Hless.out;have:=Hf.out;omega⟩,Hfb2,⟨at_⟩⟩
      case rest=>
       clear HK HL Hgd Hp Hn Hd He HR2 cnd cdp cneg ctr cfr hm he hb hpv
       obtain ⟨e,s1,rfl,Hgd,Hp,Hn,Hd,He,Hfb,HK⟩:=hcut;have HL:Aside0 (s1.d.length=800):=⟨Hgd.out.len⟩
       have hr:=Hr.out;rw [← Hfb.out] at hr;dsimp only at hr;clear Hr Hfb;have Hr:=asd_ hr;clear hr
       have cnd:=At.dnd HK.out HL.out;have cdp:=At.ddp HK.out HL.out;have cneg:=At.dneg HK.out HL.out;have ctr:=At.dtr HK.out HL.out;have cfr:=At.dfro HK.out;have hm:World.cell? wc ⟨5,0,none⟩=some (.int .u64 52):=pw_cell_add HK.out HI.out.m;have he:World.cell? wc ⟨5,1,none⟩=some (.int .u64 11):=pw_cell_add HK.out HI.out.e;have hb:World.cell? wc ⟨5,2,none⟩=some (.int .i64 (-1023)):=pw_cell_add HK.out HI.out.b;have hpv:World.cell? wc ⟨7,0,none⟩=some (.slice (some ad7) 9 c7):=pw_cell_add HK.out HP.out.v
       obtain ⟨x,hx⟩:∃ x,e - 1=x:=⟨_,rfl⟩;have e1:IntKind.i64.wrap (e - 1)=x:=(IntWalk.i64_in _ (by have:=He.out;omega)).trans hx;have hr:=Hr.out;rw [hx] at hr;have Hx:Aside0 (-245701≤x∧x≤16793):=⟨by have:=He.out;omega⟩;clear Hr hx;have Hr:=asd_ hr;clear hr
       go_upto_if 111 with fail
       go_cut [6,10] from 111 to 125 (fun v6 v10 wc=>∃ (e:Int) (s2:Dec.D),v6= .int .i64 e∧Aside0 (Dec.Good s2)∧Aside0 (0 < s2.nd)∧Aside0 (s2.neg=ng)∧Aside0 (-4000000≤s2.dp∧s2.dp≤19)∧Aside0 (-1022≤e∧e≤16793)∧Aside0 ((s2,e)=fbd s1 x)∧Aside0 (At w0 (.b g (row (dc s2) 235)::l) wc))
       case first=>
        by_cases hx:x < -1022
        case pos=>
         have f1:decide (x < -1022)=true:=decide_eq_true hx;obtain ⟨k,hk⟩:∃ k:Nat,-1022 - x=(k:Int):=⟨(-1022 - x).toNat,by omega⟩;have hkt:(-1022 - x).toNat=k:=(by omega)
         have Hfd:Aside0 ((shr k k s1,-1022)=fbd s1 x):=⟨by unfold fbd;rw [if_pos hx,hkt]⟩;have Hk1:Aside0 (1≤k):=⟨by omega⟩;have Hkb:Aside0 (k≤244679):=⟨by have:=Hx.out;omega⟩
         have e2:IntKind.i64.wrap (-1022 - x)=(k:Int):=by rw [IntWalk.i64_in _ (by have:=Hx.out;omega)];exact hk
         have e3:IntKind.i64.wrap (-(k:Int))= -(k:Int):=IntWalk.i64_in _ (by have:=Hkb.out;omega);have e4:IntKind.i64.wrap (x + (k:Int))= -1022:=by rw [IntWalk.i64_in _ (by have:=Hx.out;omega)];omega
         clear hkt hk;obtain ⟨ha,hb2⟩:=shr_good k k s1 Hgd.out Hp.out;obtain ⟨Ha,Hb⟩:=as2_ ha hb2;have Hc:=asd_ (shr_dp k k s1 Hgd.out Hp.out (Nat.le_refl _));clear ha hb2;have HL2:Aside0 ((shr k k s1).d.length=800):=⟨Ha.out.len⟩
         go_wp2_with (first|((with_reducible refine gd_ 122 ?_);refine call_to #[.pointer (some ⟨g,0,none⟩),.int .i64 (-(k:Int))] (.tuple #[]) _ rfl Tryz.func139 kr_ rfl rfl ar_ (shr_ok k at_ Hg.out Hgd.out Hp.out Hk1.out (by have:=Hd.out;have:=Hkb.out;omega) (by have:=Hd.out;omega)) ?_;rintro wc122 HK1;replace HK:=asd_ HK1;clear HK1;skip;clear cnd cdp cneg ctr cfr hm he hb hpv;have cnd:=At.dnd (W:=wc122) HK.out HL2.out;have cdp:=At.ddp (W:=wc122) HK.out HL2.out;have cneg:=At.dneg (W:=wc122) HK.out HL2.out;have ctr:=At.dtr (W:=wc122) HK.out HL2.out;have cfr:=At.dfro (W:=wc122) HK.out;have hm:World.cell? wc122 ⟨5,0,none⟩=some (.int .u64 52):=pw_cell_add HK.out HI.out.m;have he:World.cell? wc122 ⟨5,1,none⟩=some (.int .u64 11):=pw_cell_add HK.out HI.out.e;have hb:World.cell? wc122 ⟨5,2,none⟩=some (.int .i64 (-1023)):=pw_cell_add HK.out HI.out.b;have hpv:World.cell? wc122 ⟨7,0,none⟩=some (.slice (some ad7) 9 c7):=pw_cell_add HK.out HP.out.v))
         go_meet
         case rel=>exact ⟨-1022,shr k k s1,rfl,Ha,Hb,⟨by rw [shr_neg];exact Hn.out⟩,⟨by have:=Hc.out;have:=Hd.out;have:=Hkb.out;omega⟩,⟨by omega⟩,Hfd,⟨at_⟩⟩
        case neg=>
         have f1:decide (x < -1022)=false:=decide_eq_false hx;have Hfd:Aside0 ((s1,x)=fbd s1 x):=⟨by unfold fbd;rw [if_neg hx]⟩;have Hx2:=asd_ hx;have hx9: -1022≤x:=(by omega);clear hx
         go_wp2_with fail
         go_meet
         case rel=>exact ⟨x,s1,rfl,Hgd,Hp,Hn,⟨by have:=Hd.out;omega⟩,⟨by have:=Hx.out;have:=Hx2.out;omega⟩,Hfd,⟨at_⟩⟩
       case rest=>
        clear HK HL Hgd Hp Hn Hd He Hx cnd cdp cneg ctr cfr hm he hb hpv
        obtain ⟨e,s2,rfl,Hgd,Hp,Hn,Hd,He,Hfd,HK⟩:=hcut;have HL:Aside0 (s2.d.length=800):=⟨Hgd.out.len⟩
        have hr:=Hr.out;rw [← Hfd.out] at hr;dsimp only at hr;clear Hr Hfd;unfold fb3 at hr;have Hr:=asd_ hr;clear hr
        have cnd:=At.dnd HK.out HL.out;have cdp:=At.ddp HK.out HL.out;have cneg:=At.dneg HK.out HL.out;have ctr:=At.dtr HK.out HL.out;have cfr:=At.dfro HK.out;have hm:World.cell? wc ⟨5,0,none⟩=some (.int .u64 52):=pw_cell_add HK.out HI.out.m;have he:World.cell? wc ⟨5,1,none⟩=some (.int .u64 11):=pw_cell_add HK.out HI.out.e;have hb:World.cell? wc ⟨5,2,none⟩=some (.int .i64 (-1023)):=pw_cell_add HK.out HI.out.b;have hpv:World.cell? wc ⟨7,0,none⟩=some (.slice (some ad7) 9 c7):=pw_cell_add HK.out HP.out.v
        have e5:IntKind.i64.wrap (e + 1023)=e + 1023:=IntWalk.i64_in _ (by have:=He.out;omega)
        by_cases h4:1024≤e
        case pos=>
         have f1:decide (2047≤e + 1023)=true:=decide_eq_true (by omega);have hr:=Hr.out;rw [if_pos h4] at hr;have Hr1:=asd_ hr;clear hr h4
         go_wp2_with fail
         go_quiet (fail)
         go_wp2_with fail
         go_step3
         exact jump_fb (D:=s2) (R:=fun m e ov=>((1:Nat)=0∧(fout ng m e,ov)=r)∨((1:Nat)=1∧(fout ng 0 1024,true)=r)) (0) (e) false kr_ (.inr ⟨rfl,Hr1.out⟩) Hn.out HL.out at_
        case neg=>
         have f1:decide (2047≤e + 1023)=false:=decide_eq_false (by omega);have hr:=Hr.out;rw [if_neg h4] at hr;clear h4 Hr
         obtain ⟨v,hv⟩:∃ v,(53:Nat)=v:=⟨_,rfl⟩;rw [hv] at hr;have Hv:=asd_ hv;clear hv
         have hS:=shl_good Hgd.out Hp.out (by have:=Hv.out;omega) (by have:=Hv.out;omega:v≤60);have Ha:=asd_ hS.1;have Hc:=asd_ hS.2.2;clear hS;have HL2:Aside0 ((shl v s2).d.length=800):=⟨Ha.out.len⟩
         obtain ⟨m,hm⟩:∃ m,ri (shl v s2)=m:=⟨_,rfl⟩;rw [hm] at hr;dsimp only at hr;obtain ⟨Hm,Hr⟩:=as2_ hm hr;clear hm hr
         by_cases hm2:m=9007199254740992
         case pos=>
          have hr:=Hr.out;rw [if_pos hm2] at hr;clear Hr;have f2:(m == 9007199254740992)=true:=beq_iff_eq.2 hm2;have e8:m / 2=4503599627370496:=(by omega);clear hm2
          have e6:IntKind.i64.wrap (e + 1)=e + 1:=IntWalk.i64_in _ (by have:=He.out;omega);have e7:IntKind.i64.wrap (e + 1 + 1023)=e + 1 + 1023:=IntWalk.i64_in _ (by have:=He.out;omega)
          by_cases h5:1024≤e + 1
          case pos=>
           have f3:decide (2047≤e + 1 + 1023)=true:=decide_eq_true (by omega);rw [if_pos h5] at hr;have Hr1:=asd_ hr;clear hr h5
           go_wp2_with fail
           go_quiet (fail)
           go_wp2_with (first|((with_reducible refine gd_ 146 ?_);refine call_to #[.pointer (some ⟨g,0,none⟩),.int .i64 53] (.tuple #[]) _ rfl Tryz.func139 kr_ rfl rfl ar_ (shl_okz v 53 (by rw [← Hv.out];rfl) at_ HT.out Hg.out Hgd.out Hp.out (by have:=Hv.out;omega) (by have:=Hv.out;omega) (by have:=Hd.out;omega) (by have:=Hd.out;omega)) ?_;rintro wc146 HK1;replace HK:=asd_ HK1;clear HK1;skip;clear cnd cdp cneg ctr cfr hm he hb hpv;have cnd:=At.dnd (W:=wc146) HK.out HL2.out;have cdp:=At.ddp (W:=wc146) HK.out HL2.out;have cneg:=At.dneg (W:=wc146) HK.out HL2.out;have ctr:=At.dtr (W:=wc146) HK.out HL2.out;have cfr:=At.dfro (W:=wc146) HK.out;have hm:World.cell? wc146 ⟨5,0,none⟩=some (.int .u64 52):=pw_cell_add HK.out HI.out.m;have he:World.cell? wc146 ⟨5,1,none⟩=some (.int .u64 11):=pw_cell_add HK.out HI.out.e;have hb:World.cell? wc146 ⟨5,2,none⟩=some (.int .i64 (-1023)):=pw_cell_add HK.out HI.out.b;have hpv:World.cell? wc146 ⟨7,0,none⟩=some (.slice (some ad7) 9 c7):=pw_cell_add HK.out HP.out.v)|((with_reducible refine gd_ 148 ?_);refine cl_ #[.pointer (some ⟨g,0,none⟩)] (.int .u64 m) Tryz.func140 (by rw [← Hm.out];exact rint_ok (show At w0 (.b g (row (dc (shl v s2)) 235)::l) _ from at_).k.1 HL2.out Ha.out.nd) ?_;intro wc148 HK1;replace HK:=asd_ HK1;clear HK1;clear cnd cdp cneg ctr cfr hm he hb hpv;have cnd:=At.dnd (W:=wc148) HK.out HL2.out;have cdp:=At.ddp (W:=wc148) HK.out HL2.out;have cneg:=At.dneg (W:=wc148) HK.out HL2.out;have ctr:=At.dtr (W:=wc148) HK.out HL2.out;have cfr:=At.dfro (W:=wc148) HK.out;have hm:World.cell? wc148 ⟨5,0,none⟩=some (.int .u64 52):=pw_cell_add HK.out HI.out.m;have he:World.cell? wc148 ⟨5,1,none⟩=some (.int .u64 11):=pw_cell_add HK.out HI.out.e;have hb:World.cell? wc148 ⟨5,2,none⟩=some (.int .i64 (-1023)):=pw_cell_add HK.out HI.out.b;have hpv:World.cell? wc148 ⟨7,0,none⟩=some (.slice (some ad7) 9 c7):=pw_cell_add HK.out HP.out.v))
           go_quiet (fail)
           go_wp2_with fail
           go_step3
           exact jump_fb (D:=shl v s2) (R:=fun m e ov=>((1:Nat)=0∧(fout ng m e,ov)=r)∨((1:Nat)=1∧(fout ng 0 1024,true)=r)) (4503599627370496) (e + 1) false kr_ (.inr ⟨rfl,Hr1.out⟩) Hn.out HL2.out at_
          case neg=>
           have f3:decide (2047≤e + 1 + 1023)=false:=decide_eq_false (by omega);rw [if_neg h5] at hr;have Hr1:Aside0 ((fout ng 4503599627370496 (e + 1),false)=r):=⟨by rw [← hr];unfold fb4;rw [if_neg (by decide)]⟩;clear hr h5
           go_wp2_with fail
           go_quiet (fail)
           go_wp2_with (first|((with_reducible refine gd_ 146 ?_);refine call_to #[.pointer (some ⟨g,0,none⟩),.int .i64 53] (.tuple #[]) _ rfl Tryz.func139 kr_ rfl rfl ar_ (shl_okz v 53 (by rw [← Hv.out];rfl) at_ HT.out Hg.out Hgd.out Hp.out (by have:=Hv.out;omega) (by have:=Hv.out;omega) (by have:=Hd.out;omega) (by have:=Hd.out;omega)) ?_;rintro wc146 HK1;replace HK:=asd_ HK1;clear HK1;skip;clear cnd cdp cneg ctr cfr hm he hb hpv;have cnd:=At.dnd (W:=wc146) HK.out HL2.out;have cdp:=At.ddp (W:=wc146) HK.out HL2.out;have cneg:=At.dneg (W:=wc146) HK.out HL2.out;have ctr:=At.dtr (W:=wc146) HK.out HL2.out;have cfr:=At.dfro (W:=wc146) HK.out;have hm:World.cell? wc146 ⟨5,0,none⟩=some (.int .u64 52):=pw_cell_add HK.out HI.out.m;have he:World.cell? wc146 ⟨5,1,none⟩=some (.int .u64 11):=pw_cell_add HK.out HI.out.e;have hb:World.cell? wc146 ⟨5,2,none⟩=some (.int .i64 (-1023)):=pw_cell_add HK.out HI.out.b;have hpv:World.cell? wc146 ⟨7,0,none⟩=some (.slice (some ad7) 9 c7):=pw_cell_add HK.out HP.out.v)|((with_reducible refine gd_ 148 ?_);refine cl_ #[.pointer (some ⟨g,0,none⟩)] (.int .u64 m) Tryz.func140 (by rw [← Hm.out];exact rint_ok (show At w0 (.b g (row (dc (shl v s2)) 235)::l) _ from at_).k.1 HL2.out Ha.out.nd) ?_;intro wc148 HK1;replace HK:=asd_ HK1;clear HK1;clear cnd cdp cneg ctr cfr hm he hb hpv;have cnd:=At.dnd (W:=wc148) HK.out HL2.out;have cdp:=At.ddp (W:=wc148) HK.out HL2.out;have cneg:=At.dneg (W:=wc148) HK.out HL2.out;have ctr:=At.dtr (W:=wc148) HK.out HL2.out;have cfr:=At.dfro (W:=wc148) HK.out;have hm:World.cell? wc148 ⟨5,0,none⟩=some (.int .u64 52):=pw_cell_add HK.out HI.out.m;have he:World.cell? wc148 ⟨5,1,none⟩=some (.int .u64 11):=pw_cell_add HK.out HI.out.e;have hb:World.cell? wc148 ⟨5,2,none⟩=some (.int .i64 (-1023)):=pw_cell_add HK.out HI.out.b;have hpv:World.cell? wc148 ⟨7,0,none⟩=some (.slice (some ad7) 9 c7):=pw_cell_add HK.out HP.out.v))
           go_quiet (fail)
           go_wp2_with fail
           go_step3
           exact jump_fb (D:=shl v s2) (R:=fun m e ov=>((0:Nat)=0∧(fout ng m e,ov)=r)∨((0:Nat)=1∧(fout ng 0 1024,true)=r)) (4503599627370496) (e + 1) false kr_ (.inl ⟨rfl,Hr1.out⟩) Hn.out HL2.out at_
         case neg=>
          have hr:=Hr.out;rw [if_neg hm2] at hr;clear Hr;have f2:(m == 9007199254740992)=false:=beq_eq_false_iff_ne.2 hm2;clear hm2;unfold fb4 at hr
          by_cases h5:bits .and .u64 m 4503599627370496=0
          case pos=>
           have f3:(bits .and .u64 m 4503599627370496 == 0)=true:=beq_iff_eq.2 h5;rw [if_pos h5] at hr;have Hr1:=asd_ hr;clear hr h5
           go_wp2_with fail
           go_quiet (fail)
           go_wp2_with (first|((with_reducible refine gd_ 146 ?_);refine call_to #[.pointer (some ⟨g,0,none⟩),.int .i64 53] (.tuple #[]) _ rfl Tryz.func139 kr_ rfl rfl ar_ (shl_okz v 53 (by rw [← Hv.out];rfl) at_ HT.out Hg.out Hgd.out Hp.out (by have:=Hv.out;omega) (by have:=Hv.out;omega) (by have:=Hd.out;omega) (by have:=Hd.out;omega)) ?_;rintro wc146 HK1;replace HK:=asd_ HK1;clear HK1;skip;clear cnd cdp cneg ctr cfr hm he hb hpv;have cnd:=At.dnd (W:=wc146) HK.out HL2.out;have cdp:=At.ddp (W:=wc146) HK.out HL2.out;have cneg:=At.dneg (W:=wc146) HK.out HL2.out;have ctr:=At.dtr (W:=wc146) HK.out HL2.out;have cfr:=At.dfro (W:=wc146) HK.out;have hm:World.cell? wc146 ⟨5,0,none⟩=some (.int .u64 52):=pw_cell_add HK.out HI.out.m;have he:World.cell? wc146 ⟨5,1,none⟩=some (.int .u64 11):=pw_cell_add HK.out HI.out.e;have hb:World.cell? wc146 ⟨5,2,none⟩=some (.int .i64 (-1023)):=pw_cell_add HK.out HI.out.b;have hpv:World.cell? wc146 ⟨7,0,none⟩=some (.slice (some ad7) 9 c7):=pw_cell_add HK.out HP.out.v)|((with_reducible refine gd_ 148 ?_);refine cl_ #[.pointer (some ⟨g,0,none⟩)] (.int .u64 m) Tryz.func140 (by rw [← Hm.out];exact rint_ok (show At w0 (.b g (row (dc (shl v s2)) 235)::l) _ from at_).k.1 HL2.out Ha.out.nd) ?_;intro wc148 HK1;replace HK:=asd_ HK1;clear HK1;clear cnd cdp cneg ctr cfr hm he hb hpv;have cnd:=At.dnd (W:=wc148) HK.out HL2.out;have cdp:=At.ddp (W:=wc148) HK.out HL2.out;have cneg:=At.dneg (W:=wc148) HK.out HL2.out;have ctr:=At.dtr (W:=wc148) HK.out HL2.out;have cfr:=At.dfro (W:=wc148) HK.out;have hm:World.cell? wc148 ⟨5,0,none⟩=some (.int .u64 52):=pw_cell_add HK.out HI.out.m;have he:World.cell? wc148 ⟨5,1,none⟩=some (.int .u64 11):=pw_cell_add HK.out HI.out.e;have hb:World.cell? wc148 ⟨5,2,none⟩=some (.int .i64 (-1023)):=pw_cell_add HK.out HI.out.b;have hpv:World.cell? wc148 ⟨7,0,none⟩=some (.slice (some ad7) 9 c7):=pw_cell_add HK.out HP.out.v))
           go_step3
           exact jump_fb (D:=shl v s2) (R:=fun m e ov=>((0:Nat)=0∧(fout ng m e,ov)=r)∨((0:Nat)=1∧(fout ng 0 1024,true)=r)) (m) (-1023) false kr_ (.inl ⟨rfl,Hr1.out⟩) Hn.out HL2.out at_
          case neg=>
           have f3:(bits .and .u64 m 4503599627370496 == 0)=false:=beq_eq_false_iff_ne.2 h5;rw [if_neg h5] at hr;have Hr1:=asd_ hr;clear hr h5
           go_wp2_with fail
           go_quiet (fail)
           go_wp2_with (first|((with_reducible refine gd_ 146 ?_);refine call_to #[.pointer (some ⟨g,0,none⟩),.int .i64 53] (.tuple #[]) _ rfl Tryz.func139 kr_ rfl rfl ar_ (shl_okz v 53 (by rw [← Hv.out];rfl) at_ HT.out Hg.out Hgd.out Hp.out (by have:=Hv.out;omega) (by have:=Hv.out;omega) (by have:=Hd.out;omega) (by have:=Hd.out;omega)) ?_;rintro wc146 HK1;replace HK:=asd_ HK1;clear HK1;skip;clear cnd cdp cneg ctr cfr hm he hb hpv;have cnd:=At.dnd (W:=wc146) HK.out HL2.out;have cdp:=At.ddp (W:=wc146) HK.out HL2.out;have cneg:=At.dneg (W:=wc146) HK.out HL2.out;have ctr:=At.dtr (W:=wc146) HK.out HL2.out;have cfr:=At.dfro (W:=wc146) HK.out;have hm:World.cell? wc146 ⟨5,0,none⟩=some (.int .u64 52):=pw_cell_add HK.out HI.out.m;have he:World.cell? wc146 ⟨5,1,none⟩=some (.int .u64 11):=pw_cell_add HK.out HI.out.e;have hb:World.cell? wc146 ⟨5,2,none⟩=some (.int .i64 (-1023)):=pw_cell_add HK.out HI.out.b;have hpv:World.cell? wc146 ⟨7,0,none⟩=some (.slice (some ad7) 9 c7):=pw_cell_add HK.out HP.out.v)|((with_reducible refine gd_ 148 ?_);refine cl_ #[.pointer (some ⟨g,0,none⟩)] (.int .u64 m) Tryz.func140 (by rw [← Hm.out];exact rint_ok (show At w0 (.b g (row (dc (shl v s2)) 235)::l) _ from at_).k.1 HL2.out Ha.out.nd) ?_;intro wc148 HK1;replace HK:=asd_ HK1;clear HK1;clear cnd cdp cneg ctr cfr hm he hb hpv;have cnd:=At.dnd (W:=wc148) HK.out HL2.out;have cdp:=At.ddp (W:=wc148) HK.out HL2.out;have cneg:=At.dneg (W:=wc148) HK.out HL2.out;have ctr:=At.dtr (W:=wc148) HK.out HL2.out;have cfr:=At.dfro (W:=wc148) HK.out;have hm:World.cell? wc148 ⟨5,0,none⟩=some (.int .u64 52):=pw_cell_add HK.out HI.out.m;have he:World.cell? wc148 ⟨5,1,none⟩=some (.int .u64 11):=pw_cell_add HK.out HI.out.e;have hb:World.cell? wc148 ⟨5,2,none⟩=some (.int .i64 (-1023)):=pw_cell_add HK.out HI.out.b;have hpv:World.cell? wc148 ⟨7,0,none⟩=some (.slice (some ad7) 9 c7):=pw_cell_add HK.out HP.out.v))
           go_step3
           exact jump_fb (D:=shl v s2) (R:=fun m e ov=>((0:Nat)=0∧(fout ng m e,ov)=r)∨((0:Nat)=1∧(fout ng 0 1024,true)=r)) (m) (e) false kr_ (.inl ⟨rfl,Hr1.out⟩) Hn.out HL2.out at_
end Go.Proofs.YtlblbefbbibpaaaGreatDoor.J
