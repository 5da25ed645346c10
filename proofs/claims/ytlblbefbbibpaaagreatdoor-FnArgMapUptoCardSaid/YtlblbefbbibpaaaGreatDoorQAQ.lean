/- Part. -/
import Derived.Test.YtlblbefbbibpaaaGreatDoorQAP
import Derived.Test.YtlblbefbbibpaaaGreatDoorQAO
import Derived.Laws.Externs
set_option linter.unusedVariables false
set_option linter.unusedSimpArgs false
set_option maxHeartbeats 8000000
set_option maxRecDepth 100000
namespace Go.Proofs.YtlblbefbbibpaaaGreatDoor.J
open Go.RowKit Zw Zw.PrintWords PAM
theorem w64 {x:Int} (h: -1000≤x) (h':x≤8796093022208):wrap64 x=x:=by
 unfold wrap64;omega
theorem start_some (x:Int):∃ b,spec_IsStart.f x=some b:=by unfold spec_IsStart.f;(repeat' split)<;>exact ⟨_,rfl⟩
theorem digit_some (x:Int):∃ b,spec_IsDigit.f x=some b:=by unfold spec_IsDigit.f;split<;>exact ⟨_,rfl⟩
theorem isName_l0 (s:ByteArray) (hs:s.size≤1099511627776):∀ (m:Nat) (x:Int),0≤x→x≤s.size→(s.size:Int) - x≤m→∃ r,spec_IsName.l0 (m + 1) s x=some r∧(r=true→s.toList≠[])
 |0,x,h0,h1,hm=>by
  refine ⟨_,by unfold spec_IsName.l0;rw [if_neg (by omega)],fun h=>by simpa using h⟩
 |m + 1,x,h0,h1,hm=>by
  unfold spec_IsName.l0
  by_cases hx:x < (s.size:Int)
  ·rw [if_pos hx,if_pos h0]
   obtain ⟨b,hb⟩:=start_some (wrap32 (bt s x))
   rw [hb,Option.bind_some]
   have hw:wrap64 (x + 1)=x + 1:=w64 (by omega) (by omega)
   obtain ⟨r,hr,hq⟩:=isName_l0 s hs m (x + 1) (by omega) (by omega) (by omega)
   cases b
   ·rw [if_neg (by simp)]
    by_cases h3:x=0
    ·rw [if_pos h3];exact ⟨false,rfl,by simp⟩
    ·rw [if_neg h3]
     obtain ⟨d,hd⟩:=digit_some (wrap32 (bt s x))
     rw [hd,Option.bind_some]
     cases d
     ·exact ⟨false,by simp,by simp⟩
     ·rw [if_pos rfl,hw];exact ⟨r,hr,hq⟩
   ·rw [if_pos rfl,hw];exact ⟨r,hr,hq⟩
  ·rw [if_neg hx];exact ⟨_,rfl,fun h=>by simpa using h⟩
theorem isName_some (s:ByteArray) (hs:s.size≤1099511627776):∃ k r,spec_IsName.f k s=some r∧(r=true→s.toList≠[]):=
 ⟨s.size + 1,isName_l0 s hs s.size 0 (by omega) (by omega) (by omega)⟩
theorem easy_l0 (s:ByteArray) (hs:s.size≤1099511627776):∀ (m:Nat) (x:Int),0≤x→x≤s.size→(s.size:Int) - x≤m→∃ r,spec_Easy.l0 (m + 1) s x=some r
 |0,x,h0,h1,hm=>by
  refine ⟨_,by unfold spec_Easy.l0;rw [if_neg (by omega)]⟩
 |m + 1,x,h0,h1,hm=>by
  unfold spec_Easy.l0
  by_cases hx:x < (s.size:Int)
  ·rw [if_pos hx,if_pos h0]
   have hw:wrap64 (x + 1)=x + 1:=w64 (by omega) (by omega)
   obtain ⟨r,hr⟩:=easy_l0 s hs m (x + 1) (by omega) (by omega) (by omega)
   rw [hw]
   (repeat' split)<;>first|exact ⟨_,rfl⟩|exact ⟨r,hr⟩
  ·rw [if_neg hx];exact ⟨_,rfl⟩
theorem easy_some (s:ByteArray) (hs:s.size≤1099511627776):∃ k r,spec_Easy.f k s=some r:=
 ⟨s.size + 1,easy_l0 s hs s.size 0 (by omega) (by omega) (by omega)⟩
theorem size_nil {s:ByteArray} (h:s.toList≠[]):0 < s.size:=by
 rcases Nat.eq_zero_or_pos s.size with h0|h0
 ·exfalso
  have:s=⟨#[]⟩:=by
   cases s with
   |mk d=>
    have:d.size=0:=h0
    rw [Array.eq_empty_of_size_eq_zero this]
  subst this
  exact h (by unfold ByteArray.toList;unfold ByteArray.toList.loop;rfl)
 ·exact h0
theorem straight_l0 (s:ByteArray) (hs:s.size≤1099511627776):∀ (m:Nat) (x:Int),0≤x→x≤s.size→(s.size:Int) - x≤m→∃ r,spec_Straight.l0 (m + 1) s x=some r:=by
 intro m
 have last:∀ x:Int,¬ x < (s.size:Int)→∀ m,∃ r,spec_Straight.l0 (m + 1) s x=some r:=by
  intro x hx m
  unfold spec_Straight.l0
  rw [if_neg hx]
  by_cases h0:s.toList=[]
  ·rw [if_pos h0];exact ⟨_,rfl⟩
  ·have h1:=size_nil h0
   have hw:wrap64 ((s.size:Int) - 1)=(s.size:Int) - 1:=w64 (by omega) (by omega)
   rw [if_neg h0,if_pos (by omega),hw]
   (repeat' split)<;>first|exact ⟨_,rfl⟩|omega
 induction m with
 |zero=>intro x h0 h1 hm;exact last x (by omega) 0
 |succ m ih=>
  intro x h0 h1 hm
  by_cases hx:x < (s.size:Int)
  ·unfold spec_Straight.l0
   rw [if_pos hx,if_pos h0]
   have hw:wrap64 (x + 1)=x + 1:=w64 (by omega) (by omega)
   obtain ⟨r,hr⟩:=ih (x + 1) (by omega) (by omega) (by omega)
   rw [hw]
   (repeat' split)<;>first|exact ⟨_,rfl⟩|exact ⟨r,hr⟩
  ·exact last x hx (m + 1)
theorem straight_some (s:ByteArray) (hs:s.size≤1099511627776):∃ k r,spec_Straight.f k s=some r:=
 ⟨s.size + 1,straight_l0 s hs s.size 0 (by omega) (by omega) (by omega)⟩
theorem fitsDoc_some (s:ByteArray) (hs:s.size≤1099511627776):∃ k r,spec_fitsDoc.f k s=some r:=by
 obtain ⟨k,r,h⟩:=straight_some s hs
 refine ⟨k,?_⟩
 unfold spec_fitsDoc.f
 split
 ·exact ⟨_,rfl⟩
 ·rw [h];exact ⟨r,rfl⟩
abbrev truB:List UInt8:=[116,114,117,101]
abbrev flsB:List UInt8:=[102,97,108,115,101]
theorem nameKind_some (s:ByteArray):∃ r,spec_nameKind.f 1 s=some r∧(r=5→s.toList=truB∨s.toList=flsB):=by
 unfold spec_nameKind.f spec_nameKind.j0
 dsimp only
 by_cases h1:s.toList=truB
 ·rw [if_pos h1]
  have:(s.toList == truB)=true:=by simpa using h1
  exact ⟨5,by rw [if_pos this],fun _=> .inl h1⟩
 ·rw [if_neg h1]
  by_cases h2:s.toList=flsB
  ·have:(s.toList == flsB)=true:=by simpa using h2
   exact ⟨5,by rw [if_pos this],fun _=> .inr h2⟩
  ·have:¬ (s.toList == flsB)=true:=by simpa using h2
   rw [if_neg this]
   split
   ·exact ⟨6,rfl,by omega⟩
   ·exact ⟨7,rfl,by omega⟩
inductive TSm:S41→Prop where
 |mk {x:S41}:x.f0.size≤1048576→x.f1.length≤1048576→(∀ y∈x.f1,TSm y)→TSm x
inductive TFit:S41→Prop where
 |nm {x:S41}:x.f1=[]→x.f0.toList≠[]→TFit x
 |el {x y:S41}:x.f1=[y]→x.f0.toList=[]→TFit y→TFit x
theorem fitsTyp_some:∀ (d:Nat) (x:S41),TSm x→∀ a:Int,0≤a→a≤1000→a.toNat≤d→∃ k r,spec_FitsTyp.f k x.f0 x.f1 x.f2 a=some r∧(r=true→TFit x):=by
 intro d
 induction d with
 |zero=>
  intro x hx a h0 h1 hd
  obtain ⟨h2,h3,h4⟩:=hx
  obtain ⟨k,r,hk,hr⟩:=isName_some x.f0 (by omega)
  refine ⟨k + 1,?_⟩
  unfold spec_FitsTyp.f
  by_cases hl:(x.f1.length:Int)=0
  ·rw [if_pos hl,hk]
   exact ⟨r,rfl,fun e=> .nm (List.eq_nil_of_length_eq_zero (by omega)) (hr e)⟩
  ·rw [if_neg hl,if_neg (by omega)]
   exact ⟨false,rfl,by simp⟩
 |succ d ih=>
  intro x hx a h0 h1 hd
  obtain ⟨h2,h3,h4⟩:=hx
  obtain ⟨k,r,hk,hr⟩:=isName_some x.f0 (by omega)
  by_cases hl:(x.f1.length:Int)=0
  ·refine ⟨k + 1,?_⟩
   unfold spec_FitsTyp.f
   rw [if_pos hl,hk]
   exact ⟨r,rfl,fun e=> .nm (List.eq_nil_of_length_eq_zero (by omega)) (hr e)⟩
  ·by_cases ha:a > 0
   ·by_cases hl1:(x.f1.length:Int)=1
    ·obtain ⟨y,hy⟩:=List.length_eq_one_iff.1 (by omega:x.f1.length=1)
     obtain ⟨k2,r2,hk2,hr2⟩:=ih y (h4 y (by rw [hy];exact List.mem_singleton.2 rfl)) (a - 1) (by omega) (by omega) (by omega)
     refine ⟨k2 + 1,?_⟩
     unfold spec_FitsTyp.f
     rw [if_neg hl,if_pos ha,if_pos hl1]
     have e0:rd_T41 x.f1 0=y:=by rw [hy];rfl
     by_cases hn:x.f0.toList=[]
     ·rw [if_pos hn,if_pos (by omega),e0,w64 (by omega) (by omega),hk2]
      exact ⟨r2,rfl,fun e=> .el hy hn (hr2 e)⟩
     ·rw [if_neg hn]
      exact ⟨false,rfl,by simp⟩
    ·refine ⟨1,false,?_,by simp⟩
     unfold spec_FitsTyp.f
     rw [if_neg hl,if_pos ha,if_neg hl1]
   ·refine ⟨1,false,?_,by simp⟩
    unfold spec_FitsTyp.f
    rw [if_neg hl,if_neg ha]
theorem in_l0 (s:ByteArray) (l:List ByteArray) (hl:l.length≤1099511627776):∀ (m:Nat) (x:Int),0≤x→x≤l.length→(l.length:Int) - x≤m→∃ r,(∀ K,m + 1≤K→spec_in.l0 K s l l.length x=some r)∧(r=false→∀ t∈l.drop x.toNat,t≠s)
 |0,x,h0,h1,hm=>by
  refine ⟨false,fun K hK=> ?_,fun _ t ht=> ?_⟩
  ·obtain ⟨K,rfl⟩:∃ j,K=j + 1:=⟨K - 1,by omega⟩
   unfold spec_in.l0
   rw [if_neg (by omega)]
  ·rw [List.drop_eq_nil_of_le (by omega)] at ht
   cases ht
 |m + 1,x,h0,h1,hm=>by
  by_cases hx:x < (l.length:Int)
  ·obtain ⟨r,hr,hq⟩:=in_l0 s l hl m (x + 1) (by omega) (by omega) (by omega)
   have hw:wrap64 (x + 1)=x + 1:=w64 (by omega) (by omega)
   have hg:rdOf ByteArray.empty l x=l[x.toNat]'(by omega):=by
    unfold rdOf;rw [List.getD_eq_getElem?_getD,List.getElem?_eq_getElem (by omega)];rfl
   have hd:l.drop x.toNat=l[x.toNat]'(by omega)::l.drop (x + 1).toNat:=by
    rw [List.drop_eq_getElem_cons (by omega)]
    congr 2
    omega
   by_cases he:(rdOf ByteArray.empty l x).toList=s.toList
   ·refine ⟨true,fun K hK=> ?_,by simp⟩
    obtain ⟨K,rfl⟩:∃ j,K=j + 1:=⟨K - 1,by omega⟩
    unfold spec_in.l0
    rw [if_pos hx,if_pos h0,if_pos (by omega),if_pos he]
   ·refine ⟨r,fun K hK=> ?_,fun e t ht=> ?_⟩
    ·obtain ⟨K,rfl⟩:∃ j,K=j + 1:=⟨K - 1,by omega⟩
     unfold spec_in.l0
     rw [if_pos hx,if_pos h0,if_pos (by omega),if_neg he,hw]
     exact hr K (by omega)
    ·rw [hd] at ht
     rcases List.mem_cons.1 ht with rfl|ht
     ·rintro e2
      exact he (by rw [hg,e2])
     ·exact hq e t ht
  ·refine ⟨false,fun K hK=> ?_,fun _ t ht=> ?_⟩
   ·obtain ⟨K,rfl⟩:∃ j,K=j + 1:=⟨K - 1,by omega⟩
    unfold spec_in.l0
    rw [if_neg hx]
   ·rw [List.drop_eq_nil_of_le (by omega)] at ht
    cases ht
theorem apart_l0 (l:List ByteArray) (hl:l.length≤1099511627776):∀ (m:Nat) (x:Int),0≤x→x≤l.length→(l.length:Int) - x≤m→(l.take x.toNat).Nodup→∃ r,(∀ K,m + l.length + 2≤K→spec_apart.l0 K l l l.length x=some r)∧(r=true→l.Nodup)
 |0,x,h0,h1,hm,hn=>by
  refine ⟨true,fun K hK=> ?_,fun _=> ?_⟩
  ·obtain ⟨K,rfl⟩:∃ j,K=j + 1:=⟨K - 1,by omega⟩
   unfold spec_apart.l0
   rw [if_neg (by omega)]
  ·rw [List.take_of_length_le (by omega)] at hn
   exact hn
 |m + 1,x,h0,h1,hm,hn=>by
  by_cases hx:x < (l.length:Int)
  ·have hw:wrap64 (x + 1)=x + 1:=w64 (by omega) (by omega)
   have hg:rdOf ByteArray.empty l x=l[x.toNat]'(by omega):=by
    unfold rdOf;rw [List.getD_eq_getElem?_getD,List.getElem?_eq_getElem (by omega)];rfl
   have ht:l.take (x + 1).toNat=l.take x.toNat ++ [l[x.toNat]'(by omega)]:=by
    have:(x + 1).toNat=x.toNat + 1:=by omega
    rw [this,List.take_succ_eq_append_getElem (by omega)]
   obtain ⟨r1,hr1,hq1⟩:=in_l0 (rdOf ByteArray.empty l x) (l.take x.toNat) (by simp;omega) (l.take x.toNat).length 0 (by omega) (by omega) (by omega)
   cases r1
   ·have hn2:(l.take (x + 1).toNat).Nodup:=by
     rw [ht,List.nodup_append]
     refine ⟨hn,by simp,fun a ha b hb=> ?_⟩
     rw [List.mem_singleton] at hb
     subst hb
     have:=hq1 rfl a (by simpa using ha)
     rwa [hg] at this
    obtain ⟨r,hr,hq⟩:=apart_l0 l hl m (x + 1) (by omega) (by omega) (by omega) hn2
    refine ⟨r,fun K hK=> ?_,hq⟩
    obtain ⟨K,rfl⟩:∃ j,K=j + 1:=⟨K - 1,by omega⟩
    unfold spec_apart.l0
    rw [if_pos hx,if_pos h0,if_pos (by omega),if_pos (by omega)]
    unfold spec_in.f
    rw [hr1 K (by simp;omega),Option.bind_some,if_neg (by simp),hw]
    exact hr K (by omega)
   ·refine ⟨false,fun K hK=> ?_,by simp⟩
    obtain ⟨K,rfl⟩:∃ j,K=j + 1:=⟨K - 1,by omega⟩
    unfold spec_apart.l0
    rw [if_pos hx,if_pos h0,if_pos (by omega),if_pos (by omega)]
    unfold spec_in.f
    rw [hr1 K (by simp;omega),Option.bind_some,if_pos rfl]
  ·refine ⟨true,fun K hK=> ?_,fun _=> ?_⟩
   ·obtain ⟨K,rfl⟩:∃ j,K=j + 1:=⟨K - 1,by omega⟩
    unfold spec_apart.l0
    rw [if_neg hx]
   ·rw [List.take_of_length_le (by omega)] at hn
    exact hn
theorem apart_some (l:List ByteArray) (hl:l.length≤1099511627776):∃ k r,spec_apart.f k l=some r∧(r=true→l.Nodup):=by
 obtain ⟨r,hr,hq⟩:=apart_l0 l hl l.length 0 (by omega) (by omega) (by omega) (by simp)
 exact ⟨_,r,hr _ (Nat.le_refl _),hq⟩
end Go.Proofs.YtlblbefbbibpaaaGreatDoor.J
namespace Go.Proofs.YtlblbefbbibpaaaGreatDoor.J
open Go.RowKit Zw Zw.PrintWords Zw.PrintLast Zw.PrintMore PAM
theorem at_Kid {w:World} {A:Option Addr} {n:Nat} {xs:List Kid} (h:kKid.C w A n xs) (k:Nat) (hk:k < n):∃ (ad:Addr) (nm:ByteArray) (v:Vl) (A2:Option Addr) (c2:Nat),A=some ad∧xs[k]? =some (nm,v)∧w.cell? (ad.add (k * 4))=some (.string nm)∧w.cell? ⟨(ad.add (k * 4)).block,(ad.add (k * 4)).off + 1,none⟩=some (.int .i64 v.kind)∧w.cell? ⟨(ad.add (k * 4)).block,(ad.add (k * 4)).off + 2,none⟩=some (.string v.raw)∧w.cell? ⟨(ad.add (k * 4)).block,(ad.add (k * 4)).off + 3,none⟩=some (.slice A2 v.kids.length c2)∧v.kids.length≤c2∧kKid.C w A2 v.kids.length v.kids:=by
 have hl:k < xs.length:=by have:=h.1;omega
 obtain ⟨ad,c,e,_,hK,hc0⟩:=Kd.C_get h xs[k] k (by omega) (by omega)
 have hc:∀ j u,c[j]? =some u→w.cell? (ad.add (k * 4 + j))=some u:=hc0
 have hx:xs.getD (k:Int).toNat xs[k]=xs[k]:=by simp [List.getD_eq_getElem?_getD,List.getElem?_eq_getElem hl]
 rw [hx] at hK
 obtain ⟨c1,rfl,hV⟩:=kKid_open hK
 obtain ⟨A2,c2,rfl,l2,g2⟩:=kVl_open hV
 exact ⟨ad,xs[k].1,xs[k].2,A2,c2,e,List.getElem?_eq_getElem hl,hc 0 _ rfl,by rw [← add_field _ _ 1 (by omega)];exact hc 1 _ rfl,by rw [← add_field _ _ 2 (by omega)];exact hc 2 _ rfl,by rw [← add_field _ _ 3 (by omega)];exact hc 3 _ rfl,l2,g2⟩
inductive Sm:Vl→Prop where
 |mk {v:Vl}:v.raw.size≤1048576→v.kids.length≤1048576→(∀ k∈v.kids,k.1.size≤1048576)→(∀ k∈v.kids,Sm k.2)→Sm v
inductive Fit:Vl→Prop where
 |mk {v:Vl}:1≤v.kind→v.kind≤9→(v.kind=5→v.raw.toList=truB∨v.raw.toList=flsB)→(∀ k∈v.kids,Fit k.2)→Fit v
def Yes (P:Prop) (w:World) (e:Ending) (w':World):Prop:=∃ b:Bool,e= .returned (.bool b)∧(b=true→P)∧Below w.heap.size w w'
theorem Yes.no {P:Prop} {w w':World} (h:Below w.heap.size w w'):Yes P w (.returned (.bool false)) w':=⟨false,rfl,(fun hh=>by cases hh),h⟩
theorem Yes.is {P:Prop} {w w':World} {b:Bool} (h:Below w.heap.size w w') (hp:P):Yes P w (.returned (.bool b)) w':=⟨b,rfl,fun _=>hp,h⟩
theorem isNumber_with (s:ByteArray) (hs:s.size≤1048576) (fl:Bool) (w:World):Calls Tryz.prog 45 #[.string s,.bool fl] w fun e w'=>∃ v,e= .returned v∧(∃ b:Bool,v= .bool b)∧Below w.heap.size w w':=
 (isNumber_ok s (by omega) fl w).mono fun _ _ ⟨b,h1,h3⟩=>⟨_,h1,⟨b,rfl⟩,h3⟩
theorem Sm.len {v:Vl} (h:Sm v):v.kids.length≤1048576:=by cases h;assumption
theorem Sm.size {v:Vl} (h:Sm v):v.raw.size≤1048576:=by cases h;assumption
theorem Sm.kid {v:Vl} {k:Kid} (h:Sm v) (hk:k∈v.kids):k.1.size≤1048576∧Sm k.2:=by cases h with|mk _ _ h h'=>exact ⟨h k hk,h' k hk⟩
def dNull:Dt:=⟨0,false,0,0,⟨#[]⟩,[]⟩
def dBool (b:Bool):Dt:=⟨1,b,0,0,⟨#[]⟩,[]⟩
def dInt (n:Int):Dt:=⟨2,false,n,0,⟨#[]⟩,[]⟩
def dFloat (f:Int):Dt:=⟨3,false,0,f,⟨#[]⟩,[]⟩
def dStr (s:ByteArray):Dt:=⟨4,false,0,0,s,[]⟩
def dList (l:List (ByteArray×Dt)):Dt:=⟨5,false,0,0,⟨#[]⟩,l⟩
def dObj (l:List (ByteArray×Dt)):Dt:=⟨6,false,0,0,⟨#[]⟩,l⟩
abbrev bl (a b:ByteArray):Bool:=Op.bytesLess a.toList b.toList
def ins {α:Type}:List (ByteArray×α)→ByteArray×α→List (ByteArray×α)
 |[],k=>[k]
 |h::t,k=>if bl h.1 k.1=true then h::ins t k else if h.1.toList=k.1.toList then k::t else k::h::t
def IOk (w0:World) (s:ByteArray) (n:Int):Prop:=∀ W,Below w0.heap.size w0 W→Calls Tryz.prog 31 #[.string s,.int .i64 10,.int .i64 64] W fun e w'=>e= .returned (.tuple #[.int .i64 n,.nilIface])∧Below W.heap.size W w'
def IBad (w0:World) (s:ByteArray):Prop:=∀ W,Below w0.heap.size w0 W→Calls Tryz.prog 31 #[.string s,.int .i64 10,.int .i64 64] W fun e w'=>∃ v,e= .returned v∧(∃ n te pe,v= .tuple #[.int .i64 n,.iface te pe])∧Below W.heap.size W w'
def FOk (w0:World) (s:ByteArray) (f:Nat):Prop:=∀ W,Below w0.heap.size w0 W→Calls Tryz.prog 32 #[.string s,.int .i64 64] W fun e w'=>e= .returned (.tuple #[.float .f64 f,.nilIface])∧Below W.heap.size W w'
def FBad (w0:World) (s:ByteArray):Prop:=∀ W,Below w0.heap.size w0 W→Calls Tryz.prog 32 #[.string s,.int .i64 64] W fun e w'=>∃ v,e= .returned v∧(∃ f te pe,v= .tuple #[.float .f64 f,.iface te pe])∧Below W.heap.size W w'
def Nums (w0:World):Prop:=(∀ s:ByteArray,s.size≤1048576→(∃ n,IOk w0 s n)∨IBad w0 s)∧∀ s:ByteArray,s.size≤1048576→(∃ f,FOk w0 s f)∨FBad w0 s
inductive VD (w0:World):Vl→Dt→Prop where
 |int {v:Vl} {n:Int}:v.kind=1→IOk w0 v.raw n→VD w0 v (dInt n)
 |float {v:Vl} {f:Nat}:v.kind=2→FOk w0 v.raw f→VD w0 v (dFloat f)
 |bool {v:Vl}:v.kind=5→VD w0 v (dBool (v.raw.toList == truB))
 |null {v:Vl}:v.kind=6→VD w0 v dNull
 |str {v:Vl}:v.kind=3∨v.kind=4∨v.kind=7→VD w0 v (dStr v.raw)
 |list {v:Vl} {ds:List (ByteArray×Dt)}:v.kind=8→ds.length=v.kids.length→(∀ (i:Nat) (k:Kid) (d:ByteArray×Dt),v.kids[i]? =some k→ds[i]? =some d→VD w0 k.2 d.2)→(∀ d∈ds,d.1=⟨#[]⟩)→VD w0 v (dList ds)
 |obj {v:Vl} {ds:List (ByteArray×Dt)}:v.kind=9→ds.length=v.kids.length→(∀ (i:Nat) (k:Kid) (d:ByteArray×Dt),v.kids[i]? =some k→ds[i]? =some d→VD w0 k.2 d.2)→(∀ (i:Nat) (k:Kid) (d:ByteArray×Dt),v.kids[i]? =some k→ds[i]? =some d→d.1=k.1)→VD w0 v (dObj (ds.foldl ins []))
theorem DB.empty {x:Dt} (h:x.kids=[]) (sn:List Blk):DB sn nilS x:= .mk (b:=0) (pr:=[]) (us:=[]) (by rw [h];exact .inl ⟨rfl,rfl,rfl,by simp [rowOf]⟩) (fun _ h=>by cases h) (by rw [h];rfl) (fun i k t h1=>by rw [h] at h1;simp at h1)
def VDone (w0:World) (v:Vl) (w:World) (e:Ending) (w':World):Prop:=
 ∃ (x:Dt) (u:Value) (ok:Bool) (sn:List Blk),e= .returned (.tuple #[.agg #[.int .i64 x.kind,.bool x.b,.int .i64 x.n,.int .u64 x.f,.string x.s,u],.bool ok])∧(ok=true→VD w0 v x)∧DB sn u x∧Keeps sn w'∧(nums sn).Nodup∧(∀ g∈nums sn,w.heap.size≤g)∧(∀ e,offG e sn)∧Below w.heap.size w w'
structure DsB (w0:World) (sn:List Blk) (ds:List (ByteArray×Dt)) (us:List Value) (kids:List Kid) (k:Nat):Prop where
 ld:ds.length=k
 lu:us.length=k
 vd:∀ (i:Nat) (x:Kid) (d:ByteArray×Dt),kids[i]? =some x→ds[i]? =some d→VD w0 x.2 d.2
 db:∀ (i:Nat) (d:ByteArray×Dt) (t:Value),ds[i]? =some d→us[i]? =some t→DB sn t d.2
 nm:∀ d∈ds,d.1=⟨#[]⟩
theorem snoc_get {α:Type} {l:List α} {y z:α} {i k:Nat} (hl:l.length=k) (h:(l ++ [y])[i]? =some z):(i < k∧l[i]? =some z)∨(i=k∧y=z):=by
 rcases Nat.lt_or_ge i k with h1|h1
 ·rw [List.getElem?_append_left (by omega)] at h;exact .inl ⟨h1,h⟩
 ·rw [List.getElem?_append_right (by omega)] at h
  have:i - l.length=0:=by
   rcases Nat.eq_zero_or_pos (i - l.length) with h2|h2
   ·exact h2
   ·rw [List.getElem?_eq_none (by simp;omega)] at h;cases h
  rw [this] at h
  exact .inr ⟨by omega,by simpa using h⟩
theorem DsB.next {w0:World} {sn sn':List Blk} {ds:List (ByteArray×Dt)} {us:List Value} {kids:List Kid} {k:Nat} {x:Kid} {d:Dt} {t:Value} (h:DsB w0 sn ds us kids k) (hs:∀ b∈sn,b∈sn') (hx:kids[k]? =some x) (hv:VD w0 x.2 d) (hd:DB sn' t d):DsB w0 sn' (ds ++ [(⟨#[]⟩,d)]) (us ++ [t]) kids (k + 1):=by
 obtain ⟨ld,lu,vd,db,nm⟩:=h
 refine ⟨by simp [ld],by simp [lu],fun i y e h1 h2=> ?_,fun i e u h1 h2=> ?_,fun e he=> ?_⟩
 ·rcases snoc_get ld h2 with ⟨_,h3⟩|⟨rfl,rfl⟩
  ·exact vd i y e h1 h3
  ·rw [hx] at h1;cases h1;exact hv
 ·rcases snoc_get ld h1 with ⟨h4,h3⟩|⟨rfl,rfl⟩
  ·rcases snoc_get lu h2 with ⟨_,h5⟩|⟨h5,_⟩
   ·exact (db i e u h3 h5).mono hs
   ·omega
  ·rcases snoc_get lu h2 with ⟨h5,_⟩|⟨_,rfl⟩
   ·omega
   ·exact hd
 ·rcases List.mem_append.1 he with he|he
  ·exact nm e he
  ·rw [List.mem_singleton.1 he]
theorem rowOf_snoc {ds:List (ByteArray×Dt)} {us:List Value} (h:us.length=ds.length) (d:ByteArray×Dt) (t:Value):rowOf (ds ++ [d]) (us ++ [t])=rowOf ds us ++ kcells d t:=by
 unfold rowOf
 rw [List.zipWith_append (by omega),List.flatten_append]
 simp
theorem At.behind {w W:World} {sn X:List Blk} (L:List Blk) (H:At w (sn ++ (L ++ X)) W):At w (L ++ (sn ++ X)) W:=H.perm (List.perm_append_comm_assoc sn L X)
theorem At.under {w W:World} {sn pr X:List Blk} (L:List Blk) (H:At w (L ++ (sn ++ (pr ++ X))) W):At w (L ++ (pr ++ (sn ++ X))) W:=H.perm ((List.perm_append_comm_assoc sn pr X).append_left L)
theorem PR.ge {b:Nat} {pr:List Blk} {e:TypeId} {sz:Nat} {v:Value} {n:Nat} {cells:List Value} (h:PR b pr e sz v n cells):∀ g∈nums pr,b≤g:=by
 rcases h with ⟨rfl,_⟩|⟨g,cap,cur,rfl,_,hb,_⟩
 ·intro g hg;cases hg
 ·intro k hk
  obtain rfl:k=g:=by simpa [nums] using hk
  exact hb
theorem PR.offG {b:Nat} {pr:List Blk} {e:TypeId} {sz:Nat} {v:Value} {n:Nat} {cells:List Value} (h:PR b pr e sz v n cells) (t:TypeId):offG t pr:=by
 rcases h with ⟨rfl,_⟩|⟨g,cap,cur,rfl,_,hb,_⟩<;>trivial
theorem info85:(Tryz.prog.info? 85).map (fun i=>(i.zero,i.size,i.bytes))=some (some (.agg #[.string ⟨#[]⟩,.int .i64 0,.bool false,.int .i64 0,.int .u64 0,.string ⟨#[]⟩,.slice none 0 0]),7,88):=by kernel_rfl
theorem VDone.plain {w0 w w':World} {v:Vl} {x:Dt} {ok:Bool} (hk:x.kids=[]) (h:ok=true→VD w0 v x) (hb:Below w.heap.size w w') {e:Ending} (he:e= .returned (.tuple #[.agg #[.int .i64 x.kind,.bool x.b,.int .i64 x.n,.int .u64 x.f,.string x.s,nilS],.bool ok])):VDone w0 v w e w':=
 ⟨x,nilS,ok,[],he,h,DB.empty hk _,trivial,List.nodup_nil,fun _ h=>(by cases h),fun _=>trivial,hb⟩
theorem vd_null {w0 w:World} (hW:Below w0.heap.size w0 w) {raw:ByteArray} {kids:List Kid} {A:Option Addr} {n c:Nat}:
  Calls Tryz.prog 15 #[.agg #[.int .i64 6,.string raw,.slice A n c]] w (VDone w0 ⟨6,raw,kids⟩ w):=by
 have HW_:=asd_ hW;clear hW;have HK:=st0_ w
 go_enter Tryz.func15,Tryz.ntmps15
 go_wp2_with (first|((with_reducible refine gd_ 1 ?_);refine bx_ #[.int .i64 6,.string raw,.slice A n c] 48 ?_;clear HK;intro gv wb1 HK Ggv;replace Bc:=ce1_ HK 0)|((with_reducible refine gd_ 2 ?_);refine bx_ #[i0,bF,i0,.int .u64 0,eS,nilS] 30 ?_;clear HK;intro g2 wb2 HK Gg2;replace Bc:=ce2_ HK 1 0;replace Bf:=fe1_ HK 0)|((with_reducible refine gate_ (.store 30 (.tmp 2) (.tmp 48)) rfl ?_);refine storerow_at (cs:=#[i0,bF,i0,.int .u64 0,eS,nilS]) (g:=g2) 0 (#[i0,bF,i0,.int .u64 0,eS,nilS]) at_ rfl Gg2.out rfl rfl rfl rfl rfl rfl kr_ rfl (by simp [Value.oneCell']) ?_;intro wr1 HK1;replace HK:=asd_ HK1;clear HK1;replace Bc:=ce2_ HK 1 0;replace Bf:=fe1_ HK 0))
 exact bodyPost_ret (v:= .tuple #[.agg #[i0,bF,i0,.int .u64 0,eS,nilS],.bool true]) (by simp [results,Tryz.results15,go_sem,Bc]) rfl (VDone.plain (x:=dNull) rfl (fun _=> .null rfl) be_ rfl)
theorem vd_str {w0 w:World} (hW:Below w0.heap.size w0 w) {raw:ByteArray} {kids:List Kid} {A:Option Addr} {n c:Nat}:
  Calls Tryz.prog 15 #[.agg #[.int .i64 3,.string raw,.slice A n c]] w (VDone w0 ⟨3,raw,kids⟩ w):=by
 have HW_:=asd_ hW;clear hW;have HK:=st0_ w
 go_enter Tryz.func15,Tryz.ntmps15
 go_wp2_with (first|((with_reducible refine gd_ 1 ?_);refine bx_ #[.int .i64 3,.string raw,.slice A n c] 48 ?_;clear HK;intro gv wb1 HK Ggv;replace Bc:=ce1_ HK 0)|((with_reducible refine gd_ 2 ?_);refine bx_ #[i0,bF,i0,.int .u64 0,eS,nilS] 30 ?_;clear HK;intro g2 wb2 HK Gg2;replace Bc:=ce2_ HK 1 0;replace Bf:=fe1_ HK 0)|((with_reducible refine gate_ (.store 30 (.tmp 2) (.tmp 85)) rfl ?_);refine storerow_at (cs:=#[i0,bF,i0,.int .u64 0,eS,nilS]) (g:=g2) 0 (#[.int .i64 4,bF,i0,.int .u64 0,.string raw,nilS]) at_ rfl Gg2.out rfl rfl rfl rfl rfl rfl kr_ rfl (by simp [Value.oneCell']) ?_;intro wr1 HK1;replace HK:=asd_ HK1;clear HK1;replace Bc:=ce2_ HK 1 0;replace Bf:=fe1_ HK 0))
 exact bodyPost_ret (v:= .tuple #[.agg #[.int .i64 4,bF,i0,.int .u64 0,.string raw,nilS],.bool true]) (by simp [results,Tryz.results15,go_sem,Bc]) rfl (VDone.plain (x:=dStr raw) rfl (fun _=> .str (.inl rfl)) be_ rfl)
theorem vd_blk {w0 w:World} (hW:Below w0.heap.size w0 w) {raw:ByteArray} {kids:List Kid} {A:Option Addr} {n c:Nat}:
  Calls Tryz.prog 15 #[.agg #[.int .i64 4,.string raw,.slice A n c]] w (VDone w0 ⟨4,raw,kids⟩ w):=by
 have HW_:=asd_ hW;clear hW;have HK:=st0_ w
 go_enter Tryz.func15,Tryz.ntmps15
 go_wp2_with (first|((with_reducible refine gd_ 1 ?_);refine bx_ #[.int .i64 4,.string raw,.slice A n c] 48 ?_;clear HK;intro gv wb1 HK Ggv;replace Bc:=ce1_ HK 0)|((with_reducible refine gd_ 2 ?_);refine bx_ #[i0,bF,i0,.int .u64 0,eS,nilS] 30 ?_;clear HK;intro g2 wb2 HK Gg2;replace Bc:=ce2_ HK 1 0;replace Bf:=fe1_ HK 0)|((with_reducible refine gate_ (.store 30 (.tmp 2) (.tmp 85)) rfl ?_);refine storerow_at (cs:=#[i0,bF,i0,.int .u64 0,eS,nilS]) (g:=g2) 0 (#[.int .i64 4,bF,i0,.int .u64 0,.string raw,nilS]) at_ rfl Gg2.out rfl rfl rfl rfl rfl rfl kr_ rfl (by simp [Value.oneCell']) ?_;intro wr1 HK1;replace HK:=asd_ HK1;clear HK1;replace Bc:=ce2_ HK 1 0;replace Bf:=fe1_ HK 0))
 exact bodyPost_ret (v:= .tuple #[.agg #[.int .i64 4,bF,i0,.int .u64 0,.string raw,nilS],.bool true]) (by simp [results,Tryz.results15,go_sem,Bc]) rfl (VDone.plain (x:=dStr raw) rfl (fun _=> .str (.inr (.inl rfl))) be_ rfl)
theorem vd_enum {w0 w:World} (hW:Below w0.heap.size w0 w) {raw:ByteArray} {kids:List Kid} {A:Option Addr} {n c:Nat}:
  Calls Tryz.prog 15 #[.agg #[.int .i64 7,.string raw,.slice A n c]] w (VDone w0 ⟨7,raw,kids⟩ w):=by
 have HW_:=asd_ hW;clear hW;have HK:=st0_ w
 go_enter Tryz.func15,Tryz.ntmps15
 go_wp2_with (first|((with_reducible refine gd_ 1 ?_);refine bx_ #[.int .i64 7,.string raw,.slice A n c] 48 ?_;clear HK;intro gv wb1 HK Ggv;replace Bc:=ce1_ HK 0)|((with_reducible refine gd_ 2 ?_);refine bx_ #[i0,bF,i0,.int .u64 0,eS,nilS] 30 ?_;clear HK;intro g2 wb2 HK Gg2;replace Bc:=ce2_ HK 1 0;replace Bf:=fe1_ HK 0)|((with_reducible refine gate_ (.store 30 (.tmp 2) (.tmp 85)) rfl ?_);refine storerow_at (cs:=#[i0,bF,i0,.int .u64 0,eS,nilS]) (g:=g2) 0 (#[.int .i64 4,bF,i0,.int .u64 0,.string raw,nilS]) at_ rfl Gg2.out rfl rfl rfl rfl rfl rfl kr_ rfl (by simp [Value.oneCell']) ?_;intro wr1 HK1;replace HK:=asd_ HK1;clear HK1;replace Bc:=ce2_ HK 1 0;replace Bf:=fe1_ HK 0))
 exact bodyPost_ret (v:= .tuple #[.agg #[.int .i64 4,bF,i0,.int .u64 0,.string raw,nilS],.bool true]) (by simp [results,Tryz.results15,go_sem,Bc]) rfl (VDone.plain (x:=dStr raw) rfl (fun _=> .str (.inr (.inr rfl))) be_ rfl)
theorem vd_bool {w0 w:World} (hW:Below w0.heap.size w0 w) {raw:ByteArray} {kids:List Kid} {A:Option Addr} {n c:Nat}:
  Calls Tryz.prog 15 #[.agg #[.int .i64 5,.string raw,.slice A n c]] w (VDone w0 ⟨5,raw,kids⟩ w):=by
 obtain ⟨bb,hbb⟩:∃ b:Bool,(raw.toList == truB)=b:=⟨_,rfl⟩
 have HW_:=asd_ hW;clear hW;have HK:=st0_ w
 go_enter Tryz.func15,Tryz.ntmps15
 go_wp2_with (first|((with_reducible refine gd_ 1 ?_);refine bx_ #[.int .i64 5,.string raw,.slice A n c] 48 ?_;clear HK;intro gv wb1 HK Ggv;replace Bc:=ce1_ HK 0)|((with_reducible refine gd_ 2 ?_);refine bx_ #[i0,bF,i0,.int .u64 0,eS,nilS] 30 ?_;clear HK;intro g2 wb2 HK Gg2;replace Bc:=ce2_ HK 1 0;replace Bf:=fe1_ HK 0)|((with_reducible refine gate_ (.store 30 (.tmp 2) (.tmp 45)) rfl ?_);refine storerow_at (cs:=#[i0,bF,i0,.int .u64 0,eS,nilS]) (g:=g2) 0 (#[.int .i64 1,.bool bb,i0,.int .u64 0,eS,nilS]) at_ rfl Gg2.out rfl rfl rfl rfl rfl rfl kr_ rfl (by simp [Value.oneCell']) ?_;intro wr1 HK1;replace HK:=asd_ HK1;clear HK1;replace Bc:=ce2_ HK 1 0;replace Bf:=fe1_ HK 0))
 exact bodyPost_ret (v:= .tuple #[.agg #[.int .i64 1,.bool bb,i0,.int .u64 0,eS,nilS],.bool true]) (by simp [results,Tryz.results15,go_sem,Bc]) rfl (VDone.plain (x:=dBool bb) rfl (fun _=>by rw [← hbb];exact .bool rfl) be_ rfl)
theorem vd_int {w0 w:World} (hW:Below w0.heap.size w0 w) {raw:ByteArray} {kids:List Kid} {A:Option Addr} {n c:Nat} {m:Int} (hi:IOk w0 raw m):
  Calls Tryz.prog 15 #[.agg #[.int .i64 1,.string raw,.slice A n c]] w (VDone w0 ⟨1,raw,kids⟩ w):=by
 have Hi:=asd_ hi;clear hi
 have HW_:=asd_ hW;clear hW;have HK:=st0_ w
 go_enter Tryz.func15,Tryz.ntmps15
 go_wp2_with (first|((with_reducible refine gd_ 1 ?_);refine bx_ #[.int .i64 1,.string raw,.slice A n c] 48 ?_;clear HK;intro gv wb1 HK Ggv;replace Bc:=ce1_ HK 0)|((with_reducible refine gd_ 2 ?_);refine bx_ #[i0,bF,i0,.int .u64 0,eS,nilS] 30 ?_;clear HK;intro g2 wb2 HK Gg2;replace Bc:=ce2_ HK 1 0;replace Bf:=fe1_ HK 0)|((with_reducible refine gd_ 20 ?_);refine cl_ #[.string raw,.int .i64 10,.int .i64 64] (.tuple #[.int .i64 m,.nilIface]) Tryz.func31 (Hi.out _ (below_step HW_.out be_)) ?_;intro wc20 HK1;replace HK:=asd_ HK1;clear HK1;replace Bc:=ce2_ HK 1 0;replace Bf:=fe1_ HK 0))
 refine su2_ 6 HK 1 0 [4] (fun HS hHeld=> ?_)
 refine pu_ 0 23 1 ?_
 refine pu_ 1 24 3 ?_
 refine pu_ 2 25 7 ?_
 refine pu_ 3 26 15 ?_
 refine lz_ 4 31 (fun K hK=> ?_)
 have HE:=asd_ (hHeld.1)
 refine storerow_ (cs:=#[i0,bF,i0,.int .u64 0,eS,nilS]) (g:=g2) 0 (#[.int .i64 2,bF,.int .i64 m,.int .u64 0,eS,nilS]) HE.out rfl Gg2.out rfl (by rfl) rfl rfl rfl rfl kr_ rfl (by simp [Value.oneCell']) ?_
 intro w3 HE0
 replace HE:=asd_ HE0;clear HE0
 refine hK.out _ _ ?_
 clear hK K
 refine pu_ 5 3 63 ?_
 refine done_ kr_ ?_
 clear HK;have HK:=HE;clear HE
 clear hHeld
 replace Bc:=ce2_ HK 1 0
 replace Bf:=fe1_ HK 0
 go_wp2_with fail
 exact bodyPost_ret (v:= .tuple #[.agg #[.int .i64 2,bF,.int .i64 m,.int .u64 0,eS,nilS],.bool true]) (by simp [results,Tryz.results15,go_sem,Bc]) rfl (VDone.plain (x:=dInt m) (ok:=true) rfl (fun _=>VD.int (v:=⟨1,raw,kids⟩) rfl Hi.out) HK.out.b rfl)
theorem vd_intbad {w0 w:World} (hW:Below w0.heap.size w0 w) {raw:ByteArray} {kids:List Kid} {A:Option Addr} {n c:Nat} (hi:IBad w0 raw):
  Calls Tryz.prog 15 #[.agg #[.int .i64 1,.string raw,.slice A n c]] w (VDone w0 ⟨1,raw,kids⟩ w):=by
 have Hi:=asd_ hi;clear hi
 have HW_:=asd_ hW;clear hW;have HK:=st0_ w
 go_enter Tryz.func15,Tryz.ntmps15
 go_wp2_with (first|((with_reducible refine gd_ 1 ?_);refine bx_ #[.int .i64 1,.string raw,.slice A n c] 48 ?_;clear HK;intro gv wb1 HK Ggv;replace Bc:=ce1_ HK 0)|((with_reducible refine gd_ 2 ?_);refine bx_ #[i0,bF,i0,.int .u64 0,eS,nilS] 30 ?_;clear HK;intro g2 wb2 HK Gg2;replace Bc:=ce2_ HK 1 0;replace Bf:=fe1_ HK 0)|((with_reducible refine gd_ 20 ?_);refine cw_ #[.string raw,.int .i64 10,.int .i64 64] Tryz.func31 (Hi.out _ (below_step HW_.out be_)) ?_;intro v20 wc20 HK1 hF hB;obtain ⟨m,te,pe,rfl⟩:=hF;replace HK:=asd_ HK1;clear HK1;replace Bc:=ce2_ HK 1 0;replace Bf:=fe1_ HK 0;skip))
 refine su2_ 6 HK 1 0 [4] (fun HS hHeld=> ?_)
 refine pu_ 0 23 1 ?_
 refine pu_ 1 24 3 ?_
 refine pu_ 2 25 7 ?_
 refine pu_ 3 26 15 ?_
 refine lz_ 4 31 (fun K hK=> ?_)
 have HE:=asd_ (hHeld.1)
 refine storerow_ (cs:=#[i0,bF,i0,.int .u64 0,eS,nilS]) (g:=g2) 0 (#[.int .i64 2,bF,.int .i64 m,.int .u64 0,eS,nilS]) HE.out rfl Gg2.out rfl (by rfl) rfl rfl rfl rfl kr_ rfl (by simp [Value.oneCell']) ?_
 intro w3 HE0
 replace HE:=asd_ HE0;clear HE0
 refine hK.out _ _ ?_
 clear hK K
 refine pu_ 5 3 63 ?_
 refine done_ kr_ ?_
 clear HK;have HK:=HE;clear HE
 clear hHeld
 replace Bc:=ce2_ HK 1 0
 replace Bf:=fe1_ HK 0
 go_wp2_with fail
 exact bodyPost_ret (v:= .tuple #[.agg #[.int .i64 2,bF,.int .i64 m,.int .u64 0,eS,nilS],.bool false]) (by simp [results,Tryz.results15,go_sem,Bc]) rfl (VDone.plain (x:=dInt m) (ok:=false) rfl (fun h=>by cases h) HK.out.b rfl)
theorem f64bits (f:Nat) (w:World):(callFunc 33 #[.float .f64 f]).run Tryz.prog w= .ok (.value (.int .u64 f)) w:=by
 rw [run_callFunc_extern (e:=Extern.MathFloatBits.float64bits) Tryz.func33 kr_ rfl kr_ (by rfl)]
 rfl
theorem call33_run {a:Act} {o:Oper} {xs:Array Operand} {ts:Array TypeId} {w:World} {f:Nat} (ho:o.op= .call {callee:= .value (.func 33),args:=xs,argTypes:=ts}) (hargs:xs.map a.eval=#[.float .f64 f]):(execOp a.eval o).run Tryz.prog w= .ok (.value (.int .u64 f)) w:=by
 have he:=f64bits f w
 unfold execOp
 simp [ho,resolve,Deferred.ofValue,invoke,Act.eval,hargs,he]
theorem vd_float {w0 w:World} (hW:Below w0.heap.size w0 w) {raw:ByteArray} {kids:List Kid} {A:Option Addr} {n c:Nat} {m:Nat} (hi:FOk w0 raw m):
  Calls Tryz.prog 15 #[.agg #[.int .i64 2,.string raw,.slice A n c]] w (VDone w0 ⟨2,raw,kids⟩ w):=by
 have Hi:=asd_ hi;clear hi
 have HW_:=asd_ hW;clear hW;have HK:=st0_ w
 go_enter Tryz.func15,Tryz.ntmps15
 go_wp2_with (first|((with_reducible refine gd_ 1 ?_);refine bx_ #[.int .i64 2,.string raw,.slice A n c] 48 ?_;clear HK;intro gv wb1 HK Ggv;replace Bc:=ce1_ HK 0)|((with_reducible refine gd_ 2 ?_);refine bx_ #[i0,bF,i0,.int .u64 0,eS,nilS] 30 ?_;clear HK;intro g2 wb2 HK Gg2;replace Bc:=ce2_ HK 1 0;replace Bf:=fe1_ HK 0)|((with_reducible refine gd_ 32 ?_);refine cl_ #[.string raw,.int .i64 64] (.tuple #[.float .f64 m,.nilIface]) Tryz.func32 (Hi.out _ (below_step HW_.out be_)) ?_;intro wc32 HK1;replace HK:=asd_ HK1;clear HK1;replace Bc:=ce2_ HK 1 0;replace Bf:=fe1_ HK 0))
 refine su2_ 7 HK 1 0 [5] (fun HS hHeld=> ?_)
 refine pu_ 0 35 1 ?_
 refine pu_ 3 38 9 ?_
 refine pu_ 4 39 25 ?_
 refine on_ 1 36 27 (fun K hK=> ?_)
 have HE:=asd_ (hHeld.1)
 refine value_ (w1:=_) (v:= .int .u64 (m:Int)) (by rfl) rfl (call33_run (by rfl) (by simp only [List.map_toArray,List.map_cons,List.map_nil];rfl)) ?_
 replace HE:=asd_ HE.out
 refine hK.out _ _ (HS (At.sub HE.out (List.Sublist.cons_cons _ (List.Sublist.cons_cons _ (List.Sublist.refl _))))) (fun hHeld=> ?_)
 clear hK K
 refine nq_ 36 ?_
 refine pu_ 2 37 31 ?_
 refine lz_ 5 63 (fun K hK=> ?_)
 refine storerow_ (cs:=#[i0,bF,i0,.int .u64 0,eS,nilS]) (g:=g2) 0 (#[.int .i64 3,bF,i0,.int .u64 (m:Int),eS,nilS]) HE.out rfl Gg2.out rfl (by rfl) rfl rfl rfl rfl kr_ rfl (by simp [Value.oneCell']) ?_
 intro w3 HE0
 replace HE:=asd_ HE0;clear HE0
 refine hK.out _ _ ?_
 clear hK K
 refine pu_ 6 3 127 ?_
 refine done_ kr_ ?_
 clear HK;have HK:=HE;clear HE
 clear hHeld
 replace Bc:=ce2_ HK 1 0
 replace Bf:=fe1_ HK 0
 go_wp2_with fail
 exact bodyPost_ret (v:= .tuple #[.agg #[.int .i64 3,bF,i0,.int .u64 (m:Int),eS,nilS],.bool true]) (by simp [results,Tryz.results15,go_sem,Bc]) rfl (VDone.plain (x:=dFloat m) (ok:=true) rfl (fun _=>VD.float (v:=⟨2,raw,kids⟩) rfl Hi.out) HK.out.b rfl)
theorem vd_floatbad {w0 w:World} (hW:Below w0.heap.size w0 w) {raw:ByteArray} {kids:List Kid} {A:Option Addr} {n c:Nat} (hi:FBad w0 raw):
  Calls Tryz.prog 15 #[.agg #[.int .i64 2,.string raw,.slice A n c]] w (VDone w0 ⟨2,raw,kids⟩ w):=by
 have Hi:=asd_ hi;clear hi
 have HW_:=asd_ hW;clear hW;have HK:=st0_ w
 go_enter Tryz.func15,Tryz.ntmps15
 go_wp2_with (first|((with_reducible refine gd_ 1 ?_);refine bx_ #[.int .i64 2,.string raw,.slice A n c] 48 ?_;clear HK;intro gv wb1 HK Ggv;replace Bc:=ce1_ HK 0)|((with_reducible refine gd_ 2 ?_);refine bx_ #[i0,bF,i0,.int .u64 0,eS,nilS] 30 ?_;clear HK;intro g2 wb2 HK Gg2;replace Bc:=ce2_ HK 1 0;replace Bf:=fe1_ HK 0)|((with_reducible refine gd_ 32 ?_);refine cw_ #[.string raw,.int .i64 64] Tryz.func32 (Hi.out _ (below_step HW_.out be_)) ?_;intro v32 wc32 HK1 hF hB;obtain ⟨m,te,pe,rfl⟩:=hF;replace HK:=asd_ HK1;clear HK1;replace Bc:=ce2_ HK 1 0;replace Bf:=fe1_ HK 0;skip))
 refine su2_ 7 HK 1 0 [5] (fun HS hHeld=> ?_)
 refine pu_ 0 35 1 ?_
 refine pu_ 3 38 9 ?_
 refine pu_ 4 39 25 ?_
 refine on_ 1 36 27 (fun K hK=> ?_)
 have HE:=asd_ (hHeld.1)
 refine value_ (w1:=_) (v:= .int .u64 (m:Int)) (by rfl) rfl (call33_run (by rfl) (by simp only [List.map_toArray,List.map_cons,List.map_nil];rfl)) ?_
 replace HE:=asd_ HE.out
 refine hK.out _ _ (HS (At.sub HE.out (List.Sublist.cons_cons _ (List.Sublist.cons_cons _ (List.Sublist.refl _))))) (fun hHeld=> ?_)
 clear hK K
 refine nq_ 36 ?_
 refine pu_ 2 37 31 ?_
 refine lz_ 5 63 (fun K hK=> ?_)
 refine storerow_ (cs:=#[i0,bF,i0,.int .u64 0,eS,nilS]) (g:=g2) 0 (#[.int .i64 3,bF,i0,.int .u64 (m:Int),eS,nilS]) HE.out rfl Gg2.out rfl (by rfl) rfl rfl rfl rfl kr_ rfl (by simp [Value.oneCell']) ?_
 intro w3 HE0
 replace HE:=asd_ HE0;clear HE0
 refine hK.out _ _ ?_
 clear hK K
 refine pu_ 6 3 127 ?_
 refine done_ kr_ ?_
 clear HK;have HK:=HE;clear HE
 clear hHeld
 replace Bc:=ce2_ HK 1 0
 replace Bf:=fe1_ HK 0
 go_wp2_with fail
 exact bodyPost_ret (v:= .tuple #[.agg #[.int .i64 3,bF,i0,.int .u64 (m:Int),eS,nilS],.bool false]) (by simp [results,Tryz.results15,go_sem,Bc]) rfl (VDone.plain (x:=dFloat m) (ok:=false) rfl (fun h=>by cases h) HK.out.b rfl)
theorem fitsVal_8 (raw:ByteArray) (kids:List Kid) (ih:∀ k∈kids,∀ (w:World) (A:Option Addr) (c:Nat),kKid.C w A k.2.kids.length k.2.kids→k.2.kids.length≤c→∀ deep:Int,-1≤deep→deep≤100→Sm k.2→Calls Tryz.prog 25 #[.agg #[.int .i64 k.2.kind,.string k.2.raw,.slice A k.2.kids.length c],.bool true,.int .i64 deep] w (Yes (Fit k.2) w))
  (w:World) (A:Option Addr) (n c:Nat) (hk1:n=kids.length) (hC:kKid.C w A n kids) (deep:Int) (hd1: -1≤deep) (hd0:¬ deep < 0) (hd2:deep≤100) (hsz:Sm ⟨8,raw,kids⟩) (hr1:raw.size≤1048576):
  Calls Tryz.prog 25 #[.agg #[.int .i64 8,.string raw,.slice A n c],.bool true,.int .i64 deep] w (Yes (Fit ⟨8,raw,kids⟩) w):=by
 obtain ⟨Hsz_,HC_,Hd1_,Hd2_,Hr1_,Hk1_,Ih_⟩:=as7_ hsz hC hd1 hd2 hr1 hk1 ih;clear hsz hC hd1 hd2 hr1 hk1 ih
 have HK:=st0_ w
 have hsd:IntKind.i64.wrap (deep - 1)=deep - 1:=IntWalk.i64_in _ (by have:=Hd1_.out;have:=Hd2_.out;omega)
 have fd0:decide (deep < 0)=false:=decide_eq_false hd0;have HD0:=asd_ hd0;clear hd0
 go_enter Tryz.func25,Tryz.ntmps25
 go_wp2_with (first|((with_reducible refine gd_ 3 ?_);refine bx_ #[.int .i64 8,.string raw,.slice A n c] 48 ?_;clear HK;intro gv wb3 HK Ggv;replace Bc:=ce1_ HK 0))
 go_loopg [73] n (fun kq i w'=>∃ k:Nat,Aside0 (k≤n)∧i= .int .i64 k∧Aside0 (kq=n - k)∧Aside0 (∀ j x,j < k→kids[j]? =some x→Fit x.2)∧Aside0 (At w [.b gv (row (#[.int .i64 8,.string raw,.slice A n c]) 48)] w'))
 case atStart=>exact ⟨0,⟨Nat.zero_le _⟩,rfl,⟨rfl⟩,⟨fun j x hj=>absurd hj (Nat.not_lt_zero _)⟩,⟨at_⟩⟩
 case round=>
  clear HK
  obtain ⟨k,Hk,rfl,Hkq,Hfit,HK⟩:=hrel
  replace Bc:=ce1_ HK 0
  by_cases hlt:k < n
  case neg=>
   have hd:decide (k < n)=false:=decide_eq_false hlt;have Hlt:=asd_ hlt;clear hlt
   go_wp2_with fail
   all_goals go_ret
   all_goals first|exact Yes.no be_|exact Yes.is be_ (Fit.mk (v:=⟨8,raw,kids⟩) (by show (1:Int)≤8;decide) (by show (8:Int)≤9;decide) (fun h=>by cases h) (fun x hx=>by obtain ⟨j,hj,e⟩:=List.getElem_of_mem hx;have hj:j < kids.length:=hj;exact Hfit.out j x (by have:=Hlt.out;have:=Hk.out;have:=Hk1_.out;omega) (by rw [List.getElem?_eq_getElem hj,e])))
  case pos=>
   have hd:decide (k < n)=true:=decide_eq_true hlt;have Hlt:=asd_ hlt;clear hlt
   have hi0:(0:Int)≤(k:Int):=(by omega);have hi1:(k:Int) < (n:Int):=(by have:=Hlt.out;omega);have hs1:IntKind.i64.wrap ((k:Int) + 1)=(k:Int) + 1:=IntWalk.i64_in _ (by have:=Hlt.out;have h9:kids.length≤1048576:=Hsz_.out.len;have:=Hk1_.out;omega)
   obtain ⟨ad,nm,v,A2,c2,rfl,hx,h0,h1,h2,h3,hl2,hC2⟩:=at_Kid HC_.out k Hlt.out
   have hmem:=List.mem_of_getElem? hx;obtain ⟨Hx,Hl2,HC2,Hmem⟩:=as4_ hx hl2 hC2 hmem;clear hmem hx hl2 hC2
   obtain ⟨C0,C1,C2,C3⟩:=as4_ h0 h1 h2 h3;clear h0 h1 h2 h3
   obtain ⟨kk,rk,hrk,_⟩:=isName_some nm (by have h9:nm.size≤1048576:=(Hsz_.out.kid Hmem.out).1;omega);have Hrk:=asd_ hrk;clear hrk
   replace Bc:=ce1_ HK 0;replace Bx:=xc4_ HK.out.b C0 C1 C2 C3
   go_wp2_with (first|((with_reducible refine gd_ 8 ?_);refine bx_ #[eS,i0,eS,nilS] 52 ?_;clear HK;intro g8 wb8 HK Gg8;replace Bc:=ce2_ HK 1 0;replace Bf:=fe1_ HK 0;replace Bx:=xc4_ HK.out.b C0 C1 C2 C3)|((with_reducible refine gate_ (.store 52 (.tmp 8) (.tmp 76)) rfl ?_);refine storerow_at (cs:=#[eS,i0,eS,nilS]) (g:=g8) 0 (#[.string nm,.int .i64 v.kind,.string v.raw,.slice A2 v.kids.length c2]) at_ rfl Gg8.out rfl rfl rfl rfl rfl rfl kr_ rfl (by simp [Value.oneCell']) ?_;intro wr1 HK1;replace HK:=asd_ HK1;clear HK1;replace Bc:=ce2_ HK 1 0;replace Bf:=fe1_ HK 0;replace Bx:=xc4_ HK.out.b C0 C1 C2 C3))
   have Hv:Aside0 (∀ W,Below w.heap.size w W→Calls Tryz.prog 25 #[.agg #[.int .i64 v.kind,.string v.raw,.slice A2 v.kids.length c2],.bool true,.int .i64 (deep - 1)] W (Yes (Fit v) W)):=⟨fun W hW=>Ih_.out (nm,v) Hmem.out W _ _ (Kd.C_below HC2.out hW) Hl2.out _ (by have:=HD0.out;omega) (by have:=Hd2_.out;omega) (Hsz_.out.kid Hmem.out).2⟩
   cases rk
   case true=>
    refine su2_ 26 HK 1 0 [] (fun HS hHeld=> ?_)
    refine pu_ 0 77 1 ?_
    refine pu_ 3 80 9 ?_
    refine ta3_ 1 78 11 hHeld ?_
    refine pu_ 2 79 15 ?_
    refine ta3_ 4 81 31 hHeld ?_
    refine on_ 5 82 63 (fun K hK=> ?_)
    have HE:=asd_ (hHeld.1)
    refine ge_ Tryz.func24 #[.string nm] ?_
    with_reducible refine ((spec_IsName.calls kk nm true _ Hrk.out).mono (fun _ _ h=>(⟨h.1,h.2.below⟩:_∧Below _ _ _))).mono ?_
    rintro e w3 ⟨rfl,hb⟩
    refine ⟨_,rfl,?_⟩
    replace HE:=asd_ (At.step HE.out hb)
    refine hK.out _ _ ⟨HE.out,(cE_ HE 1),(cE_ HE 0)⟩ (fun hHeld=> ?_)
    clear hK K
    refine nq_ 82 ?_
    refine pu_ 6 83 127 ?_
    refine pu_ 7 84 255 ?_
    refine pn_ 8 85 511 ?_
    refine pn_ 9 86 1023 ?_
    refine pn_ 10 87 2047 ?_
    refine pn_ 11 88 4095 ?_
    refine pn_ 12 89 8191 ?_
    refine pn_ 13 90 16383 ?_
    refine pn_ 14 91 32767 ?_
    refine pn_ 15 92 65535 ?_
    refine pu_ 16 93 131071 ?_
    refine pu_ 17 94 262143 ?_
    refine pn_ 18 95 524287 ?_
    refine pn_ 19 96 1048575 ?_
    refine pn_ 20 97 2097151 ?_
    refine pn_ 21 98 4194303 ?_
    refine pn_ 22 99 8388607 ?_
    refine pn_ 23 100 16777215 ?_
    refine pn_ 24 101 33554431 ?_
    refine pu_ 25 102 67108863 ?_
    refine done_ kr_ ?_
    clear HK;have HK:=HE;clear HE
    clear hHeld
    replace Bc:=ce2_ HK 1 0
    replace Bf:=fe1_ HK 0
    go_wp2_with fail
    go_ret
    exact Yes.no be_
   case false=>
    by_cases hne:nm.toList=[]
    case pos=>
     have fne:(!nm.toList.isEmpty)=false:=by rw [hne];rfl
     refine su2_ 26 HK 1 0 [] (fun HS hHeld=> ?_)
     refine pu_ 0 77 1 ?_
     refine pu_ 3 80 9 ?_
     refine ta3_ 1 78 11 hHeld ?_
     refine pu_ 2 79 15 ?_
     refine ta3_ 4 81 31 hHeld ?_
     refine on_ 5 82 63 (fun K hK=> ?_)
     have HE:=asd_ (hHeld.1)
     refine ge_ Tryz.func24 #[.string nm] ?_
     with_reducible refine ((spec_IsName.calls kk nm false _ Hrk.out).mono (fun _ _ h=>(⟨h.1,h.2.below⟩:_∧Below _ _ _))).mono ?_
     rintro e w3 ⟨rfl,hb⟩
     refine ⟨_,rfl,?_⟩
     replace HE:=asd_ (At.step HE.out hb)
     refine hK.out _ _ ⟨HE.out,(cE_ HE 1),(cE_ HE 0)⟩ (fun hHeld=> ?_)
     clear hK K
     refine nq_ 82 ?_
     refine pu_ 6 83 127 ?_
     refine pu_ 7 84 255 ?_
     refine pu_ 8 85 511 ?_
     refine ta3_ 9 86 1023 hHeld ?_
     refine pu_ 10 87 2047 ?_
     refine pu_ 11 88 4095 ?_
     refine pu_ 12 89 8191 ?_
     refine ta3_ 13 90 16383 hHeld ?_
     refine pu_ 14 91 32767 ?_
     refine pu_ 15 92 65535 ?_
     refine pu_ 16 93 131071 ?_
     refine pu_ 17 94 262143 ?_
     refine pu_ 18 95 524287 ?_
     refine pu_ 20 97 1572863 ?_
     refine pu_ 21 98 3670015 ?_
     refine pu_ 22 99 7864319 ?_
     refine ta3_ 19 96 8388607 hHeld ?_
     refine on_ 23 100 16777215 (fun K hK=> ?_)
     refine ge_ Tryz.func25 #[.agg #[.int .i64 v.kind,.string v.raw,.slice A2 v.kids.length c2],.bool true,.int .i64 (deep - 1)] ?_
     with_reducible refine (Hv.out _ HE.out.b).mono ?_
     rintro e w3 ⟨b,rfl,hp,hb⟩
     refine ⟨_,rfl,?_⟩
     have HE0:=At.step HE.out hb
     have Hp:=asd_ hp;clear hp
     replace HE:=asd_ HE0;clear HE0
     refine hK.out _ _ ⟨HE.out,(cE_ HE 1),(cE_ HE 0)⟩ (fun hHeld=> ?_)
     clear hK K
     refine nq_ 100 ?_
     refine pu_ 24 101 33554431 ?_
     refine pu_ 25 102 67108863 ?_
     refine done_ kr_ ?_
     clear HK;have HK:=HE;clear HE
     clear hHeld
     replace Bc:=ce2_ HK 1 0
     replace Bf:=fe1_ HK 0
     cases b
     case false=>
      go_wp2_with fail
      go_ret
      exact Yes.no be_
     case true=>
      go_wp2_with fail
      go_roundg (n - (k + 1))
      case measure=>have:=Hkq.out;have:=Hlt.out;omega
      case rel=>exact ⟨k + 1,⟨Hlt.out⟩,by go_num,⟨rfl⟩,⟨fun j x hj hx=>(Nat.lt_or_ge j k).elim (fun h=>Hfit.out j x h hx) (fun h=>by have e:j=k:=(by omega);subst e;rw [Hx.out] at hx;cases hx;exact Hp.out (by first|trivial|rfl))⟩,⟨At.sub at_ (by simp)⟩⟩
    case neg=>
     have fne:nm.toList.isEmpty=false:=by cases h:nm.toList with|nil=>exact absurd h hne|cons a l=>rfl
     refine su2_ 26 HK 1 0 [] (fun HS hHeld=> ?_)
     refine pu_ 0 77 1 ?_
     refine pu_ 3 80 9 ?_
     refine ta3_ 1 78 11 hHeld ?_
     refine pu_ 2 79 15 ?_
     refine ta3_ 4 81 31 hHeld ?_
     refine on_ 5 82 63 (fun K hK=> ?_)
     have HE:=asd_ (hHeld.1)
     refine ge_ Tryz.func24 #[.string nm] ?_
     with_reducible refine ((spec_IsName.calls kk nm false _ Hrk.out).mono (fun _ _ h=>(⟨h.1,h.2.below⟩:_∧Below _ _ _))).mono ?_
     rintro e w3 ⟨rfl,hb⟩
     refine ⟨_,rfl,?_⟩
     replace HE:=asd_ (At.step HE.out hb)
     refine hK.out _ _ ⟨HE.out,(cE_ HE 1),(cE_ HE 0)⟩ (fun hHeld=> ?_)
     clear hK K
     refine nq_ 82 ?_
     refine pu_ 6 83 127 ?_
     refine pu_ 7 84 255 ?_
     refine pu_ 8 85 511 ?_
     refine ta3_ 9 86 1023 hHeld ?_
     refine pu_ 10 87 2047 ?_
     refine pu_ 11 88 4095 ?_
     refine pu_ 12 89 8191 ?_
     refine ta3_ 13 90 16383 hHeld ?_
     refine pu_ 14 91 32767 ?_
     refine pu_ 15 92 65535 ?_
     refine pu_ 16 93 131071 ?_
     refine pu_ 17 94 262143 ?_
     refine pn_ 18 95 524287 ?_
     refine pn_ 19 96 1048575 ?_
     refine pn_ 20 97 2097151 ?_
     refine pn_ 21 98 4194303 ?_
     refine pn_ 22 99 8388607 ?_
     refine pn_ 23 100 16777215 ?_
     refine pn_ 24 101 33554431 ?_
     refine pu_ 25 102 67108863 ?_
     refine done_ kr_ ?_
     clear HK;have HK:=HE;clear HE
     clear hHeld
     replace Bc:=ce2_ HK 1 0
     replace Bf:=fe1_ HK 0
     go_wp2_with fail
     go_ret
     exact Yes.no be_
theorem fitsVal_9 (raw:ByteArray) (kids:List Kid) (ih:∀ k∈kids,∀ (w:World) (A:Option Addr) (c:Nat),kKid.C w A k.2.kids.length k.2.kids→k.2.kids.length≤c→∀ deep:Int,-1≤deep→deep≤100→Sm k.2→Calls Tryz.prog 25 #[.agg #[.int .i64 k.2.kind,.string k.2.raw,.slice A k.2.kids.length c],.bool true,.int .i64 deep] w (Yes (Fit k.2) w))
  (w:World) (A:Option Addr) (n c:Nat) (hk1:n=kids.length) (hC:kKid.C w A n kids) (deep:Int) (hd1: -1≤deep) (hd0:¬ deep < 0) (hd2:deep≤100) (hsz:Sm ⟨9,raw,kids⟩) (hr1:raw.size≤1048576):
  Calls Tryz.prog 25 #[.agg #[.int .i64 9,.string raw,.slice A n c],.bool true,.int .i64 deep] w (Yes (Fit ⟨9,raw,kids⟩) w):=by
 obtain ⟨Hsz_,HC_,Hd1_,Hd2_,Hr1_,Hk1_,Ih_⟩:=as7_ hsz hC hd1 hd2 hr1 hk1 ih;clear hsz hC hd1 hd2 hr1 hk1 ih
 have HK:=st0_ w
 have hsd:IntKind.i64.wrap (deep - 1)=deep - 1:=IntWalk.i64_in _ (by have:=Hd1_.out;have:=Hd2_.out;omega)
 have fd0:decide (deep < 0)=false:=decide_eq_false hd0;have HD0:=asd_ hd0;clear hd0
 go_enter Tryz.func25,Tryz.ntmps25
 go_wp2_with (first|((with_reducible refine gd_ 3 ?_);refine bx_ #[.int .i64 9,.string raw,.slice A n c] 48 ?_;clear HK;intro gv wb3 HK Ggv;replace Bc:=ce1_ HK 0))
 go_loopg [73] n (fun kq i w'=>∃ k:Nat,Aside0 (k≤n)∧i= .int .i64 k∧Aside0 (kq=n - k)∧Aside0 (∀ j x,j < k→kids[j]? =some x→Fit x.2)∧Aside0 (At w [.b gv (row (#[.int .i64 9,.string raw,.slice A n c]) 48)] w'))
 case atStart=>exact ⟨0,⟨Nat.zero_le _⟩,rfl,⟨rfl⟩,⟨fun j x hj=>absurd hj (Nat.not_lt_zero _)⟩,⟨at_⟩⟩
 case round=>
  clear HK
  obtain ⟨k,Hk,rfl,Hkq,Hfit,HK⟩:=hrel
  replace Bc:=ce1_ HK 0
  by_cases hlt:k < n
  case neg=>
   have hd:decide (k < n)=false:=decide_eq_false hlt;have Hlt:=asd_ hlt;clear hlt
   go_wp2_with fail
   all_goals go_ret
   all_goals first|exact Yes.no be_|exact Yes.is be_ (Fit.mk (v:=⟨9,raw,kids⟩) (by show (1:Int)≤9;decide) (by show (9:Int)≤9;decide) (fun h=>by cases h) (fun x hx=>by obtain ⟨j,hj,e⟩:=List.getElem_of_mem hx;have hj:j < kids.length:=hj;exact Hfit.out j x (by have:=Hlt.out;have:=Hk.out;have:=Hk1_.out;omega) (by rw [List.getElem?_eq_getElem hj,e])))
  case pos=>
   have hd:decide (k < n)=true:=decide_eq_true hlt;have Hlt:=asd_ hlt;clear hlt
   have hi0:(0:Int)≤(k:Int):=(by omega);have hi1:(k:Int) < (n:Int):=(by have:=Hlt.out;omega);have hs1:IntKind.i64.wrap ((k:Int) + 1)=(k:Int) + 1:=IntWalk.i64_in _ (by have:=Hlt.out;have h9:kids.length≤1048576:=Hsz_.out.len;have:=Hk1_.out;omega)
   obtain ⟨ad,nm,v,A2,c2,rfl,hx,h0,h1,h2,h3,hl2,hC2⟩:=at_Kid HC_.out k Hlt.out
   have hmem:=List.mem_of_getElem? hx;obtain ⟨Hx,Hl2,HC2,Hmem⟩:=as4_ hx hl2 hC2 hmem;clear hmem hx hl2 hC2
   obtain ⟨C0,C1,C2,C3⟩:=as4_ h0 h1 h2 h3;clear h0 h1 h2 h3
   obtain ⟨kk,rk,hrk,_⟩:=isName_some nm (by have h9:nm.size≤1048576:=(Hsz_.out.kid Hmem.out).1;omega);have Hrk:=asd_ hrk;clear hrk
   replace Bc:=ce1_ HK 0;replace Bx:=xc4_ HK.out.b C0 C1 C2 C3
   go_wp2_with (first|((with_reducible refine gd_ 8 ?_);refine bx_ #[eS,i0,eS,nilS] 52 ?_;clear HK;intro g8 wb8 HK Gg8;replace Bc:=ce2_ HK 1 0;replace Bf:=fe1_ HK 0;replace Bx:=xc4_ HK.out.b C0 C1 C2 C3)|((with_reducible refine gate_ (.store 52 (.tmp 8) (.tmp 76)) rfl ?_);refine storerow_at (cs:=#[eS,i0,eS,nilS]) (g:=g8) 0 (#[.string nm,.int .i64 v.kind,.string v.raw,.slice A2 v.kids.length c2]) at_ rfl Gg8.out rfl rfl rfl rfl rfl rfl kr_ rfl (by simp [Value.oneCell']) ?_;intro wr1 HK1;replace HK:=asd_ HK1;clear HK1;replace Bc:=ce2_ HK 1 0;replace Bf:=fe1_ HK 0;replace Bx:=xc4_ HK.out.b C0 C1 C2 C3))
   have Hv:Aside0 (∀ W,Below w.heap.size w W→Calls Tryz.prog 25 #[.agg #[.int .i64 v.kind,.string v.raw,.slice A2 v.kids.length c2],.bool true,.int .i64 (deep - 1)] W (Yes (Fit v) W)):=⟨fun W hW=>Ih_.out (nm,v) Hmem.out W _ _ (Kd.C_below HC2.out hW) Hl2.out _ (by have:=HD0.out;omega) (by have:=Hd2_.out;omega) (Hsz_.out.kid Hmem.out).2⟩
   cases rk
   case false=>
    refine su2_ 26 HK 1 0 [] (fun HS hHeld=> ?_)
    refine pu_ 0 77 1 ?_
    refine pu_ 3 80 9 ?_
    refine ta3_ 1 78 11 hHeld ?_
    refine pu_ 2 79 15 ?_
    refine ta3_ 4 81 31 hHeld ?_
    refine on_ 5 82 63 (fun K hK=> ?_)
    have HE:=asd_ (hHeld.1)
    refine ge_ Tryz.func24 #[.string nm] ?_
    with_reducible refine ((spec_IsName.calls kk nm false _ Hrk.out).mono (fun _ _ h=>(⟨h.1,h.2.below⟩:_∧Below _ _ _))).mono ?_
    rintro e w3 ⟨rfl,hb⟩
    refine ⟨_,rfl,?_⟩
    replace HE:=asd_ (At.step HE.out hb)
    refine hK.out _ _ ⟨HE.out,(cE_ HE 1),(cE_ HE 0)⟩ (fun hHeld=> ?_)
    clear hK K
    refine nq_ 82 ?_
    refine pu_ 6 83 127 ?_
    refine pu_ 7 84 255 ?_
    refine pn_ 8 85 511 ?_
    refine pn_ 9 86 1023 ?_
    refine pn_ 10 87 2047 ?_
    refine pn_ 11 88 4095 ?_
    refine pn_ 12 89 8191 ?_
    refine pn_ 13 90 16383 ?_
    refine pn_ 14 91 32767 ?_
    refine pn_ 15 92 65535 ?_
    refine pu_ 16 93 131071 ?_
    refine pu_ 17 94 262143 ?_
    refine pn_ 18 95 524287 ?_
    refine pn_ 19 96 1048575 ?_
    refine pn_ 20 97 2097151 ?_
    refine pn_ 21 98 4194303 ?_
    refine pn_ 22 99 8388607 ?_
    refine pn_ 23 100 16777215 ?_
    refine pn_ 24 101 33554431 ?_
    refine pu_ 25 102 67108863 ?_
    refine done_ kr_ ?_
    clear HK;have HK:=HE;clear HE
    clear hHeld
    replace Bc:=ce2_ HK 1 0
    replace Bf:=fe1_ HK 0
    go_wp2_with fail
    go_ret
    exact Yes.no be_
   case true=>
    refine su2_ 26 HK 1 0 [] (fun HS hHeld=> ?_)
    refine pu_ 0 77 1 ?_
    refine pu_ 3 80 9 ?_
    refine ta3_ 1 78 11 hHeld ?_
    refine pu_ 2 79 15 ?_
    refine ta3_ 4 81 31 hHeld ?_
    refine on_ 5 82 63 (fun K hK=> ?_)
    have HE:=asd_ (hHeld.1)
    refine ge_ Tryz.func24 #[.string nm] ?_
    with_reducible refine ((spec_IsName.calls kk nm true _ Hrk.out).mono (fun _ _ h=>(⟨h.1,h.2.below⟩:_∧Below _ _ _))).mono ?_
    rintro e w3 ⟨rfl,hb⟩
    refine ⟨_,rfl,?_⟩
    replace HE:=asd_ (At.step HE.out hb)
    refine hK.out _ _ ⟨HE.out,(cE_ HE 1),(cE_ HE 0)⟩ (fun hHeld=> ?_)
    clear hK K
    refine nq_ 82 ?_
    refine pu_ 6 83 127 ?_
    refine pu_ 7 84 255 ?_
    refine pu_ 8 85 511 ?_
    refine ta3_ 9 86 1023 hHeld ?_
    refine pu_ 10 87 2047 ?_
    refine pu_ 11 88 4095 ?_
    refine pn_ 12 89 8191 ?_
    refine pn_ 13 90 16383 ?_
    refine pn_ 14 91 32767 ?_
    refine pu_ 15 92 65535 ?_
    refine pu_ 16 93 131071 ?_
    refine pu_ 17 94 262143 ?_
    refine pu_ 18 95 524287 ?_
    refine pu_ 20 97 1572863 ?_
    refine pu_ 21 98 3670015 ?_
    refine pu_ 22 99 7864319 ?_
    refine ta3_ 19 96 8388607 hHeld ?_
    refine on_ 23 100 16777215 (fun K hK=> ?_)
    refine ge_ Tryz.func25 #[.agg #[.int .i64 v.kind,.string v.raw,.slice A2 v.kids.length c2],.bool true,.int .i64 (deep - 1)] ?_
    with_reducible refine (Hv.out _ HE.out.b).mono ?_
    rintro e w3 ⟨b,rfl,hp,hb⟩
    refine ⟨_,rfl,?_⟩
    have HE0:=At.step HE.out hb
    have Hp:=asd_ hp;clear hp
    replace HE:=asd_ HE0;clear HE0
    refine hK.out _ _ ⟨HE.out,(cE_ HE 1),(cE_ HE 0)⟩ (fun hHeld=> ?_)
    clear hK K
    refine nq_ 100 ?_
    refine pu_ 24 101 33554431 ?_
    refine pu_ 25 102 67108863 ?_
    refine done_ kr_ ?_
    clear HK;have HK:=HE;clear HE
    clear hHeld
    replace Bc:=ce2_ HK 1 0
    replace Bf:=fe1_ HK 0
    cases b
    case false=>
     go_wp2_with fail
     go_ret
     exact Yes.no be_
    case true=>
     go_wp2_with fail
     go_roundg (n - (k + 1))
     case measure=>have:=Hkq.out;have:=Hlt.out;omega
     case rel=>exact ⟨k + 1,⟨Hlt.out⟩,by go_num,⟨rfl⟩,⟨fun j x hj hx=>(Nat.lt_or_ge j k).elim (fun h=>Hfit.out j x h hx) (fun h=>by have e:j=k:=(by omega);subst e;rw [Hx.out] at hx;cases hx;exact Hp.out (by first|trivial|rfl))⟩,⟨At.sub at_ (by simp)⟩⟩
end Go.Proofs.YtlblbefbbibpaaaGreatDoor.J
