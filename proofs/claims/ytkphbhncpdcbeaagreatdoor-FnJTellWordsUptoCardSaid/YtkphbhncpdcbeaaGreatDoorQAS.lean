/- Part. -/
import Derived.Test.YtkphbhncpdcbeaaGreatDoorQAP
import Derived.Test.YtkphbhncpdcbeaaGreatDoorQAR
import Derived.Test.YtkphbhncpdcbeaaGreatDoorQAJ
import Derived.Test.YtkphbhncpdcbeaaGreatDoorRows
import Derived.SliceStrings
import Derived.Deep.Slices
set_option linter.unusedVariables false
set_option linter.unusedSimpArgs false
namespace Go.Proofs.YtkphbhncpdcbeaaGreatDoor.J
open Go.RowKit YtkphbhncpdcbeaaGreatDoorW.PrintWords YtkphbhncpdcbeaaGreatDoorW.PrintLast YtkphbhncpdcbeaaGreatDoorW.PrintMore PJT
abbrev LM:Nat:=1099511627776
theorem wup {i:Int} {n:Nat} (h0:0≤i) (h:i < (n:Int)) (hn:n≤LM):wrap64 (i + 1)=i + 1:=by unfold wrap64;simp only [LM] at hn;omega
theorem wdn {i:Int} {n:Nat} (h0:0≤i) (h:i≤(n:Int)) (hn:n≤LM):wrap64 (i - 1)=i - 1:=by unfold wrap64;simp only [LM] at hn;omega
theorem getD_lt {α:Type} {xs:List α} {i:Nat} (h:i < xs.length) (d:α):xs.getD i d=xs[i]:=by simp [List.getD,List.getElem?_eq_getElem h]
def mem (xs:List ByteArray) (s:ByteArray):Prop:=∃ y∈xs,y.toList=s.toList
theorem mem_get {xs:List ByteArray} {i:Nat} (h:i < xs.length) {s:ByteArray} (e:(xs.getD i ByteArray.empty).toList=s.toList):mem xs s:=
 ⟨xs.getD i ByteArray.empty,by rw [getD_lt h];exact List.getElem_mem h,e⟩
theorem mem_at {xs:List ByteArray} {s:ByteArray} (h:mem xs s):∃ i,i < xs.length∧(xs.getD i ByteArray.empty).toList=s.toList:=by
 obtain ⟨y,hy,e⟩:=h
 obtain ⟨i,hi,rfl⟩:=List.mem_iff_getElem.1 hy
 exact ⟨i,hi,by rw [getD_lt hi];exact e⟩
noncomputable instance (xs:List ByteArray) (s:ByteArray):Decidable (mem xs s):=Classical.propDecidable _
section
variable (q0:Int) (q1:Bool) (q2:Int) (q3:ByteArray) (xs:List ByteArray) (q5:List S25)
theorem member_tells (s:ByteArray) (hn:xs.length≤LM) (d:Nat):∀ (i:Int),i=(d:Int) - 1→d≤xs.length→
  ∃ r,(∀ k,d < k→spec_JMember.l0 k s i q0 q1 q2 q3 xs q5=some r)∧ -1≤r∧r < d∧(0≤r→(xs.getD r.toNat ByteArray.empty).toList=s.toList)∧(r < 0→∀ j,j < d→(xs.getD j ByteArray.empty).toList≠s.toList):=by
 induction d with
 |zero=>
  intro i hi hd
  refine ⟨-1,fun k hk=> ?_,by omega,by omega,fun h=>by omega,fun _ j hj=>by omega⟩
  obtain ⟨k,rfl⟩:∃ m,k=m + 1:=⟨k - 1,by omega⟩
  simp only [spec_JMember.l0];rw [if_neg (by omega)]
 |succ d ih=>
  intro i hi hd
  have h0:i ≥ 0:=by omega
  by_cases e:(rdOf ByteArray.empty xs i).toList=s.toList
  ·refine ⟨i,fun k hk=> ?_,by omega,by omega,fun _=>e,fun h=>by omega⟩
   obtain ⟨k,rfl⟩:∃ m,k=m + 1:=⟨k - 1,by omega⟩
   simp only [spec_JMember.l0];rw [if_pos h0,if_pos h0,if_pos (by omega),if_pos e]
  ·obtain ⟨r,hr,h1,h2,h3,h4⟩:=ih (i - 1) (by omega) (by omega)
   refine ⟨r,fun k hk=> ?_,h1,by omega,h3,fun hr j hj=> ?_⟩
   ·obtain ⟨k,rfl⟩:∃ m,k=m + 1:=⟨k - 1,by omega⟩
    simp only [spec_JMember.l0]
    rw [if_pos h0,if_pos h0,if_pos (by omega),if_neg e,wdn (n:=xs.length) h0 (by omega) hn]
    exact hr k (by omega)
   ·by_cases hjd:j=d
    ·subst hjd
     have:i.toNat=j:=by omega
     rw [rdOf,this] at e
     exact e
    ·exact h4 hr j (by omega)
theorem member_is (s:ByteArray) (hn:xs.length≤LM):∃ r,(∀ k,xs.length < k→spec_JMember.f k q0 q1 q2 q3 xs q5 s=some r)∧ -1≤r∧r < xs.length∧(0≤r↔mem xs s):=by
 obtain ⟨r,hr,h1,h2,h3,h4⟩:=member_tells q0 q1 q2 q3 xs q5 s hn xs.length _ rfl (Nat.le_refl _)
 refine ⟨r,fun k hk=> ?_,h1,h2,fun h=>mem_get (by omega) (h3 h),fun h=> ?_⟩
 ·have hw:wrap64 ((xs.length:Int) - 1)=(xs.length:Int) - 1:=by unfold wrap64;simp only [LM] at hn;omega
  unfold spec_JMember.f
  rw [hw]
  exact hr k hk
 ·obtain ⟨j,hj,e⟩:=mem_at h
  by_cases hr0:0≤r
  ·exact hr0
  ·exact absurd e (h4 (by omega) j hj)
noncomputable def there (names:List ByteArray):Bool:=decide (∀ s∈names,mem xs s)
theorem there_tells (names:List ByteArray) (hx:xs.length≤LM) (hn:names.length≤LM) (d:Nat):∀ (i:Int),0≤i→i≤names.length→(names.length:Int) - i=d→
  ∃ b,(∀ k,d + xs.length < k→spec_jThere.l0 k names i q0 q1 q2 q3 xs q5=some b)∧(b=true↔∀ j:Nat,i≤j→j < names.length→mem xs (names.getD j ByteArray.empty)):=by
 induction d with
 |zero=>
  intro i h0 h1 hd
  refine ⟨true,fun k hk=> ?_,by simp;intro j h h';omega⟩
  obtain ⟨k,rfl⟩:∃ m,k=m + 1:=⟨k - 1,by omega⟩
  simp only [spec_jThere.l0];rw [if_neg (by omega)]
 |succ d ih=>
  intro i h0 h1 hd
  have hlt:i < (names.length:Int):=by omega
  obtain ⟨r,hr,hr1,hr2,hr3⟩:=member_is q0 q1 q2 q3 xs q5 (rdOf ByteArray.empty names i) hx
  by_cases e:r < 0
  ·refine ⟨false,fun k hk=> ?_,by
    simp only [Bool.false_eq_true,false_iff]
    intro h
    have:=hr3.2 (h i.toNat (by omega) (by omega))
    omega⟩
   obtain ⟨k,rfl⟩:∃ m,k=m + 1:=⟨k - 1,by omega⟩
   simp only [spec_jThere.l0];rw [if_pos hlt,if_pos h0,hr k (by omega)];simp only [Option.bind_some];rw [if_pos e]
  ·obtain ⟨b,hb,hb'⟩:=ih (i + 1) (by omega) (by omega) (by omega)
   refine ⟨b,fun k hk=> ?_,hb'.trans ⟨fun h j hj hj'=> ?_,fun h j hj hj'=>h j (by omega) hj'⟩⟩
   ·obtain ⟨k,rfl⟩:∃ m,k=m + 1:=⟨k - 1,by omega⟩
    simp only [spec_jThere.l0];rw [if_pos hlt,if_pos h0,hr k (by omega)];simp only [Option.bind_some];rw [if_neg e,wup h0 hlt hn];exact hb k (by omega)
   ·by_cases hji:(j:Int)=i
    ·have:j=i.toNat:=by omega
     subst this
     exact hr3.1 (by omega)
    ·exact h j (by omega) hj'
theorem there_is (names:List ByteArray) (hx:xs.length≤LM) (hn:names.length≤LM):∃ k,spec_jThere.f k q0 q1 q2 q3 xs q5 names=some (there xs names):=by
 obtain ⟨b,hb,hb'⟩:=there_tells q0 q1 q2 q3 xs q5 names hx hn names.length 0 (by omega) (by omega) (by omega)
 refine ⟨names.length + xs.length + 1,?_⟩
 unfold spec_jThere.f
 rw [hb _ (by omega)]
 congr 1
 rw [Bool.eq_iff_iff,hb',there,decide_eq_true_iff]
 constructor
 ·intro h s hs
  obtain ⟨j,hj,rfl⟩:=List.mem_iff_getElem.1 hs
  have:=h j (by omega) hj
  rwa [getD_lt hj] at this
 ·intro h j _ hj
  rw [getD_lt hj]
  exact h _ (List.getElem_mem hj)
theorem members_tells (hx:xs.length≤LM) (d:Nat):∀ (i:Int) (out:List Int),0≤i→i≤xs.length→(xs.length:Int) - i=d→(out.length:Int)≤i→(∀ j∈out,0≤j∧j < xs.length)→
  ∃ l,(∀ k,d + xs.length < k→spec_JMembers.l0 k out i q0 q1 q2 q3 xs q5=some l)∧(∀ j∈l,0≤j∧j < xs.length)∧l.length≤xs.length:=by
 induction d with
 |zero=>
  intro i out h0 h1 hd ho hj
  refine ⟨out,fun k hk=> ?_,hj,by omega⟩
  obtain ⟨k,rfl⟩:∃ m,k=m + 1:=⟨k - 1,by omega⟩
  simp only [spec_JMembers.l0];rw [if_neg (by omega)]
 |succ d ih=>
  intro i out h0 h1 hd ho hj
  have hlt:i < (xs.length:Int):=by omega
  obtain ⟨r,hr,hr1,hr2,hr3⟩:=member_is q0 q1 q2 q3 xs q5 (rdOf ByteArray.empty xs i) hx
  by_cases e:r=i
  ·obtain ⟨l,hl,h⟩:=ih (i + 1) (out ++ [i]) (by omega) (by omega) (by omega) (by simp;omega) (by
    intro j hm
    rcases List.mem_append.1 hm with hm|hm
    ·exact hj j hm
    ·obtain rfl:j=i:=by simpa using hm
     exact ⟨h0,hlt⟩)
   refine ⟨l,fun k hk=> ?_,h⟩
   obtain ⟨k,rfl⟩:∃ m,k=m + 1:=⟨k - 1,by omega⟩
   simp only [spec_JMembers.l0];rw [if_pos hlt,if_pos h0,hr k (by omega)];simp only [Option.bind_some]
   rw [if_pos e,if_pos (by simp only [LM] at hx;omega),wup h0 hlt hx];exact hl k (by omega)
  ·obtain ⟨l,hl,h⟩:=ih (i + 1) out (by omega) (by omega) (by omega) (by omega) hj
   refine ⟨l,fun k hk=> ?_,h⟩
   obtain ⟨k,rfl⟩:∃ m,k=m + 1:=⟨k - 1,by omega⟩
   simp only [spec_JMembers.l0];rw [if_pos hlt,if_pos h0,hr k (by omega)];simp only [Option.bind_some]
   rw [if_neg e,wup h0 hlt hx];exact hl k (by omega)
theorem members_is (hx:xs.length≤LM):∃ l k,spec_JMembers.f k q0 q1 q2 q3 xs q5=some l∧(∀ j∈l,0≤j∧j < xs.length)∧l.length≤xs.length:=by
 obtain ⟨l,hl,h⟩:=members_tells q0 q1 q2 q3 xs q5 hx xs.length 0 [] (by omega) (by omega) (by omega) (by simp) (by simp)
 exact ⟨l,_,hl _ (Nat.lt_succ_self _),h⟩
end
theorem among_tells (s:ByteArray) (l:List ByteArray) (hn:l.length≤LM) (d:Nat):∀ (i:Int),0≤i→i≤l.length→(l.length:Int) - i=d→
  ∃ b,(∀ k,d < k→spec_JAmong.l0 k s l i=some b)∧(b=true↔∃ j:Nat,i≤j∧j < l.length∧(l.getD j ByteArray.empty).toList=s.toList):=by
 induction d with
 |zero=>
  intro i h0 h1 hd
  refine ⟨false,fun k hk=> ?_,by simp;intro j h h';omega⟩
  obtain ⟨k,rfl⟩:∃ m,k=m + 1:=⟨k - 1,by omega⟩
  simp only [spec_JAmong.l0];rw [if_neg (by omega)]
 |succ d ih=>
  intro i h0 h1 hd
  have hlt:i < (l.length:Int):=by omega
  by_cases e:(rdOf ByteArray.empty l i).toList=s.toList
  ·refine ⟨true,fun k hk=> ?_,by simp only [true_iff];exact ⟨i.toNat,by omega,by omega,e⟩⟩
   obtain ⟨k,rfl⟩:∃ m,k=m + 1:=⟨k - 1,by omega⟩
   simp only [spec_JAmong.l0];rw [if_pos hlt,if_pos h0,if_pos e]
  ·obtain ⟨b,hb,hb'⟩:=ih (i + 1) (by omega) (by omega) (by omega)
   refine ⟨b,fun k hk=> ?_,hb'.trans ⟨fun ⟨j,h,h'⟩=>⟨j,by omega,h'⟩,fun ⟨j,h,h',h''⟩=>⟨j,?_,h',h''⟩⟩⟩
   ·obtain ⟨k,rfl⟩:∃ m,k=m + 1:=⟨k - 1,by omega⟩
    simp only [spec_JAmong.l0];rw [if_pos hlt,if_pos h0,if_neg e,wup h0 hlt hn];exact hb k (by omega)
   ·by_cases hji:(j:Int)=i
    ·have:j=i.toNat:=by omega
     subst this
     exact absurd h'' e
    ·omega
theorem among_is (s:ByteArray) (l:List ByteArray) (hn:l.length≤LM):∃ b,(∀ k,l.length < k→spec_JAmong.f k s l=some b)∧(b=true↔mem l s):=by
 obtain ⟨b,hb,hb'⟩:=among_tells s l hn l.length 0 (by omega) (by omega) (by omega)
 refine ⟨b,hb,hb'.trans ⟨fun ⟨j,_,h,e⟩=>mem_get h e,fun h=> ?_⟩⟩
 obtain ⟨j,hj,e⟩:=mem_at h
 exact ⟨j,by omega,hj,e⟩
theorem begins_is (l:List ByteArray):spec_jBegins.f 1 l []=some true:=by
 unfold spec_jBegins.f
 simp only [spec_jBegins.l0]
 rw [if_neg (by simp)]
end Go.Proofs.YtkphbhncpdcbeaaGreatDoor.J
namespace Go.Proofs.YtkphbhncpdcbeaaGreatDoor.J
open Go.RowKit YtkphbhncpdcbeaaGreatDoorW.PrintWords YtkphbhncpdcbeaaGreatDoorW.PrintLast YtkphbhncpdcbeaaGreatDoorW.PrintMore PJT
structure Rep (W:World) (x:S25) (A4:Option Addr) (c4:Nat) (A5:Option Addr) (c5:Nat):Prop where
 h4:Kd.C Kd.string W A4 x.f4.length x.f4
 l4:x.f4.length≤c4
 h5:Kd.C k25 W A5 x.f5.length x.f5
 l5:x.f5.length≤c5
theorem Rep.below {W W1:World} {x:S25} {A4 A5:Option Addr} {c4 c5:Nat} (h:Rep W x A4 c4 A5 c5) (hb:Below W.heap.size W W1):Rep W1 x A4 c4 A5 c5:=
 ⟨Kd.C_below h.h4 hb,h.l4,Kd.C_below h.h5 hb,h.l5⟩
theorem there_ok (w:World) (x:S25) (A4 A5 A:Option Addr) (c4 c5 c:Nat) (names:List ByteArray) (hx:Rep w x A4 c4 A5 c5) (hr:Kd.C Kd.string w A names.length names) (hc:names.length≤c) (hn4:x.f4.length≤LM) (hn:names.length≤LM):
  Calls Tryz.prog 116 #[.agg (jvc x A4 A5 c4 c5),.slice A names.length c] w fun e w'=>e= .returned (.bool (there x.f4 names))∧Below w.heap.size w w':=by
 obtain ⟨k,hk⟩:=there_is x.f0 x.f1 x.f2 x.f3 x.f4 x.f5 names hn4 hn
 exact spec_jThere.calls k x.f0 x.f1 x.f2 x.f3 A4 c4 x.f4 A5 c5 x.f5 A c names _ w hx.h4 hx.l4 hx.h5 hx.l5 hr hc hk
theorem member_ok (w:World) (x:S25) (A4 A5:Option Addr) (c4 c5:Nat) (s:ByteArray) (r:Int) (hx:Rep w x A4 c4 A5 c5) (hr:∀ k,x.f4.length < k→spec_JMember.f k x.f0 x.f1 x.f2 x.f3 x.f4 x.f5 s=some r):
  Calls Tryz.prog 65 #[.agg (jvc x A4 A5 c4 c5),.string s] w fun e w'=>e= .returned (.int .i64 r)∧Below w.heap.size w w':=
 spec_JMember.calls (x.f4.length + 1) x.f0 x.f1 x.f2 x.f3 A4 c4 x.f4 A5 c5 x.f5 s r w hx.h4 hx.l4 hx.h5 hx.l5 (hr _ (Nat.lt_succ_self _))
theorem bounded_ok (w:World) (n:Int):Calls Tryz.prog 35 #[.int .i64 n,.agg #[bF,i0],.agg #[bF,i0]] w fun e w'=>e= .returned (.bool true)∧Below w.heap.size w w':=
 spec_jBounded.calls n false 0 false 0 true w (by simp [spec_jBounded.f])
end Go.Proofs.YtkphbhncpdcbeaaGreatDoor.J
namespace Go.Proofs.YtkphbhncpdcbeaaGreatDoor.J
open Go.RowKit YtkphbhncpdcbeaaGreatDoorW.PrintWords YtkphbhncpdcbeaaGreatDoorW.PrintLast YtkphbhncpdcbeaaGreatDoorW.PrintMore PJT
inductive Sz:S25→Prop
 |mk {x:S25} (n3:x.f3.size≤LM) (n4:x.f4.length≤LM) (n5:x.f5.length≤LM) (t4:∀ s∈x.f4,s.size≤LM) (sub:∀ y∈x.f5,Sz y):Sz x
inductive V:S25→Prop
 |mk {x:S25} (k0:0≤x.f0) (k5:x.f0≤5) (k2:x.f0≠2) (n3:x.f3.size≤LM) (n4:x.f4.length≤LM) (n5:x.f5.length≤LM) (t4:∀ s∈x.f4,s.size≤LM) (ee:x.f0=5→x.f4.length=x.f5.length) (sub:∀ y∈x.f5,V y):V x
theorem rd_T25_mem {l:List S25} {y:S25} (h:y∈l):∃ i:Int,0≤i∧i < l.length∧rd_T25 l i=y:=by
 obtain ⟨i,hi,rfl⟩:=List.mem_iff_getElem.1 h
 exact ⟨i,by omega,by omega,by unfold rd_T25;rw [Int.toNat_natCast,getD_lt hi]⟩
theorem rd_T25_in {l:List S25} {i:Int} (h0:0≤i) (h1:i < (l.length:Int)):rd_T25 l i∈l:=by
 unfold rd_T25
 rw [getD_lt (by omega:i.toNat < l.length)]
 exact List.getElem_mem _
theorem proper_all:∀ (k:Nat) (a i f0:Int) (f1:Bool) (f2:Int) (f3:ByteArray) (f4:List ByteArray) (f5:List S25),0≤i→f5.length≤LM→spec_jProperIn.l1 k a i f0 f1 f2 f3 f4 f5=some true→
  ∀ j,i≤j→j < (f5.length:Int)→∃ k' a',spec_jProperIn.f k' (rd_T25 f5 j).f0 (rd_T25 f5 j).f1 (rd_T25 f5 j).f2 (rd_T25 f5 j).f3 (rd_T25 f5 j).f4 (rd_T25 f5 j).f5 a'=some true
 |0,_,_,_,_,_,_,_,_,_,_,h,_,_,_=>by simp [spec_jProperIn.l1] at h
 |k + 1,a,i,f0,f1,f2,f3,f4,f5,hi,hn,h,j,hij,hj=>by
  simp only [spec_jProperIn.l1] at h
  rw [if_pos (by omega),if_pos hi] at h
  obtain ⟨t,ht,h⟩:=Option.bind_eq_some_iff.1 h
  cases t with
  |false=>simp at h
  |true=>
   by_cases e:j=i
   ·subst e
    exact ⟨_,_,ht⟩
   ·simp only [if_true] at h
    rw [wup hi (n:=f5.length) (by omega) hn] at h
    exact proper_all k a (i + 1) f0 f1 f2 f3 f4 f5 (by omega) hn h j (by omega) hj
theorem proper_l0:∀ (k:Nat) (a i f0:Int) (f1:Bool) (f2:Int) (f3:ByteArray) (f4:List ByteArray) (f5:List S25),spec_jProperIn.l0 k a i f0 f1 f2 f3 f4 f5=some true→∃ k',spec_jProperIn.l1 k' a 0 f0 f1 f2 f3 f4 f5=some true
 |0,_,_,_,_,_,_,_,_,h=>by simp [spec_jProperIn.l0] at h
 |k + 1,a,i,f0,f1,f2,f3,f4,f5,h=>by
  simp only [spec_jProperIn.l0] at h
  split at h
  ·split at h
   ·obtain ⟨t,ht,h⟩:=Option.bind_eq_some_iff.1 h
    split at h
    ·exact proper_l0 k a _ f0 f1 f2 f3 f4 f5 h
    ·simp at h
   ·simp at h
  ·exact ⟨k,h⟩
theorem proper_j0 {k:Nat} {a f0:Int} {b f1:Bool} {f2:Int} {f3:ByteArray} {f4:List ByteArray} {f5:List S25} (h:spec_jProperIn.j0 k a b f0 f1 f2 f3 f4 f5=some true):b=false∧∃ k',spec_jProperIn.l1 k' a 0 f0 f1 f2 f3 f4 f5=some true:=by
 cases k with
 |zero=>simp [spec_jProperIn.j0] at h
 |succ k=>
  simp only [spec_jProperIn.j0] at h
  cases b with
  |true=>simp at h
  |false=>exact ⟨rfl,proper_l0 k _ _ _ _ _ _ _ _ (by simpa using h)⟩
theorem counts_all:∀ (k:Nat) (i f0:Int) (f1:Bool) (f2:Int) (f3:ByteArray) (f4:List ByteArray) (f5:List S25),0≤i→f5.length≤LM→spec_JCounts.l0 k i f0 f1 f2 f3 f4 f5=some true→
  ∀ j,i≤j→j < (f5.length:Int)→∃ k',spec_JCounts.f k' (rd_T25 f5 j).f0 (rd_T25 f5 j).f1 (rd_T25 f5 j).f2 (rd_T25 f5 j).f3 (rd_T25 f5 j).f4 (rd_T25 f5 j).f5=some true
 |0,_,_,_,_,_,_,_,_,_,h,_,_,_=>by simp [spec_JCounts.l0] at h
 |k + 1,i,f0,f1,f2,f3,f4,f5,hi,hn,h,j,hij,hj=>by
  simp only [spec_JCounts.l0] at h
  rw [if_pos (by omega),if_pos hi] at h
  obtain ⟨t,ht,h⟩:=Option.bind_eq_some_iff.1 h
  cases t with
  |false=>simp at h
  |true=>
   by_cases e:j=i
   ·subst e
    exact ⟨_,ht⟩
   ·simp only [if_true] at h
    rw [wup hi (n:=f5.length) (by omega) hn] at h
    exact counts_all k (i + 1) f0 f1 f2 f3 f4 f5 (by omega) hn h j (by omega) hj
theorem v_of {x:S25} (hs:Sz x):∀ {k k':Nat} {a:Int},spec_jProperIn.f k x.f0 x.f1 x.f2 x.f3 x.f4 x.f5 a=some true→spec_JCounts.f k' x.f0 x.f1 x.f2 x.f3 x.f4 x.f5=some true→V x:=by
 induction hs with
 | @mk x n3 n4 n5 t4 sub ih=>
  intro k k' a hp hc
  cases k with
  |zero=>simp [spec_jProperIn.f] at hp
  |succ k=>
   cases k' with
   |zero=>simp [spec_JCounts.f] at hc
   |succ k'=>
    simp only [spec_JCounts.f] at hc
    by_cases h2:x.f0=2
    ·rw [if_pos h2] at hc;simp at hc
    rw [if_neg h2] at hc
    simp only [spec_jProperIn.f] at hp
    by_cases ha:a=0
    ·rw [if_pos ha] at hp;simp at hp
    rw [if_neg ha] at hp
    by_cases h0:x.f0 < 0
    ·rw [if_pos h0] at hp;have:=(proper_j0 hp).1;cases this
    rw [if_neg h0] at hp
    by_cases h5:x.f0 > 5
    ·rw [if_pos h5] at hp;have:=(proper_j0 hp).1;cases this
    rw [if_neg h5] at hp
    obtain ⟨t,_,hp⟩:=Option.bind_eq_some_iff.1 hp
    cases t with
    |false=>rw [if_neg (by simp)] at hp;have:=(proper_j0 hp).1;cases this
    |true=>
     rw [if_pos rfl,if_neg h2] at hp
     have hq:∃ b,(x.f0=5→x.f4.length=x.f5.length∨b=true)∧spec_jProperIn.j0 k a b x.f0 x.f1 x.f2 x.f3 x.f4 x.f5=some true:=by
      by_cases e5:x.f0=5
      ·rw [if_pos e5] at hp
       refine ⟨_,fun _=> ?_,hp⟩
       by_cases el:x.f4.length=x.f5.length
       ·exact Or.inl el
       ·right;simp only [bne_iff_ne,ne_eq];omega
      ·rw [if_neg e5] at hp
       exact ⟨_,fun h=>absurd h e5,hp⟩
     obtain ⟨b,hb,hp⟩:=hq
     obtain ⟨rfl,k1,hl⟩:=proper_j0 hp
     refine .mk (by omega) (by omega) h2 n3 n4 n5 t4 (fun h=>by simpa using hb h) (fun y hy=> ?_)
     obtain ⟨j,hj0,hj1,rfl⟩:=rd_T25_mem hy
     obtain ⟨k2,a2,h2'⟩:=proper_all k1 a 0 _ _ _ _ _ _ (Int.le_refl _) n5 hl j hj0 hj1
     obtain ⟨k3,h3'⟩:=counts_all k' 0 _ _ _ _ _ _ (Int.le_refl _) n5 hc j hj0 hj1
     exact ih _ hy h2' h3'
end Go.Proofs.YtkphbhncpdcbeaaGreatDoor.J
namespace Go.Proofs.YtkphbhncpdcbeaaGreatDoor.J
open Go.RowKit YtkphbhncpdcbeaaGreatDoorW.PrintWords YtkphbhncpdcbeaaGreatDoorW.PrintLast YtkphbhncpdcbeaaGreatDoorW.PrintMore PJT
instance:Inhabited S25:=⟨z25⟩
section
variable {H:Type} {enc:TypeId×Value→H} {w:World}
theorem one_bulk (d:DataW H):1≤Rows.uptoBulk d:=by
 cases d with
 |lit l=>cases l<;>simp [Rows.uptoBulk]
 |nil=>simp [Rows.uptoBulk]
 |ptr d=>simp [Rows.uptoBulk]
 |slice elems spare=>simp [Rows.uptoBulk]
 |agg parts=>simp [Rows.uptoBulk]
 |iface t d=>simp [Rows.uptoBulk]
 |map entries=>simp [Rows.uptoBulk]
 |held h=>simp [Rows.uptoBulk]
theorem part_bulk {d:DataW H} {l:List (DataW H)} (h:d∈l):Rows.uptoBulk d≤Rows.uptoBulkAll l:=by
 induction l with
 |nil=>cases h
 |cons x r ih=>
  simp only [Rows.uptoBulkAll]
  cases List.mem_cons.1 h with
  |inl e=>subst e;omega
  |inr e=>have:=ih e;omega
theorem length_bulk (l:List (DataW H)):l.length≤Rows.uptoBulkAll l:=by
 induction l with
 |nil=>simp [Rows.uptoBulkAll]
 |cons x r ih=>have:=one_bulk x;simp only [Rows.uptoBulkAll,List.length_cons];omega
theorem open_names {fuel:Nat} {cs:List Value} {x:DataW H×List MemPlace} (h:DataW.trod enc Tryz.prog w 0 (fun _=>true) true fuel 22 cs=some x):
  ∃ (A:Option Addr) (c:Nat) (l:List ByteArray),cs=[.slice A l.length c]∧l.length≤c∧Kd.C Kd.string w A l.length l∧∀ B,Rows.uptoBulk x.1≤B→l.length≤B∧∀ s∈l,s.size≤B:=by
 rcases ChangeShapes.open_strings Tryz.underlying22 Tryz.underlying9 (by kernel_rfl) h with ⟨rfl,rfl⟩|⟨a,len,cap,ss,rfl,_,hl,hm,hz,rfl,hcell,hsz⟩
 ·exact ⟨none,0,[],rfl,Nat.le_refl _,⟨rfl,by decide,fun h=>absurd h (by decide)⟩,fun B _=>⟨Nat.zero_le _,fun s hs=>by cases hs⟩⟩
 ·simp only [if_true] at hz
  have hlen:(ss.take len).length=len:=by rw [List.length_take];omega
  refine ⟨some a,cap,ss.take len,by rw [hlen],by rw [hlen];exact hl,⟨rfl,?_,fun _=>⟨a,rfl,fun j p hj=> ?_⟩⟩,fun B hB=> ?_⟩
  ·rw [hlen]
   exact Nat.le_trans hl hm
  ·have hj':j < len:=by have:=(List.getElem?_eq_some_iff.1 hj).1;omega
   rw [List.getElem?_take_of_lt hj'] at hj
   refine ⟨[.string p],rfl,rfl,fun i u hu=> ?_⟩
   have hc:=hcell j (by omega)
   rw [List.getD_eq_getElem?_getD,hj] at hc
   cases i with
   |zero=>
    simp only [List.getElem?_cons_zero,Option.some.injEq] at hu
    subst hu
    rw [show Kd.string.sz=1 from rfl,Nat.mul_one,Nat.add_zero]
    exact hc
   |succ i=>simp at hu
  ·simp only [Rows.uptoBulk] at hB
   have h1:=length_bulk (ChangeShapes.strs (H:=H) (ss.take len))
   have h2:(ChangeShapes.strs (H:=H) (ss.take len)).length=len:=by simp only [ChangeShapes.strs,List.length_map];exact hlen
   refine ⟨by rw [hlen];omega,fun s hs=> ?_⟩
   have h3:=part_bulk (H:=H) (d:= .lit (.string s.data.toList)) (l:=ChangeShapes.strs (ss.take len)) (List.mem_map.2 ⟨s,hs,rfl⟩)
   simp only [Rows.uptoBulk,Array.length_toList] at h3
   have h4:s.data.size=s.size:=rfl
   omega
theorem six_one {t:TypeId} (h:Tryz.prog.cellsOf t=1) (c0 c1 c2 c3 c4 c5:Value) (i:Nat) (v:Value) (hv:[c0,c1,c2,c3,c4,c5][i]? =some v):([c0,c1,c2,c3,c4,c5].drop i).take (Tryz.prog.cellsOf t)=[v]:=by
 rw [h]
 match i,hv with
 |0,hv=>simp at hv;simp [hv]
 |1,hv=>simp at hv;simp [hv]
 |2,hv=>simp at hv;simp [hv]
 |3,hv=>simp at hv;simp [hv]
 |4,hv=>simp at hv;simp [hv]
 |5,hv=>simp at hv;simp [hv]
theorem cof3:Tryz.prog.cellsOf 3=1:=by kernel_rfl
theorem cof4:Tryz.prog.cellsOf 4=1:=by kernel_rfl
theorem cof9:Tryz.prog.cellsOf 9=1:=by kernel_rfl
theorem cof22:Tryz.prog.cellsOf 22=1:=by kernel_rfl
theorem cof23:Tryz.prog.cellsOf 23=1:=by kernel_rfl
theorem cof25:Tryz.prog.cellsOf 25=6:=by kernel_rfl
theorem len6 {cs:List Value} (h:cs.length=6):∃ a b c d e f,cs=[a,b,c,d,e,f]:=by
 match cs,h with
 |[a,b,c,d,e,f],_=>exact ⟨a,b,c,d,e,f,rfl⟩
theorem len6' {α:Type} {cs:List α} (h:cs.length=6):∃ a b c d e f,cs=[a,b,c,d,e,f]:=by
 match cs,h with
 |[a,b,c,d,e,f],_=>exact ⟨a,b,c,d,e,f,rfl⟩
theorem open_value (fuel:Nat):∀ (cs:List Value) (x:DataW H×List MemPlace),DataW.trod enc Tryz.prog w 0 (fun _=>true) true fuel 25 cs=some x→
  ∃ (s:S25) (A4 A5:Option Addr) (k4 k5:Nat),cs=[.int .i64 s.f0,.bool s.f1,.int .i64 s.f2,.string s.f3,.slice A4 s.f4.length k4,.slice A5 s.f5.length k5]∧Rep w s A4 k4 A5 k5∧(Rows.uptoBulk x.1≤LM→Sz s):=by
 induction fuel using Nat.strongRecOn with
 |ind fuel ih=>
  intro cs x h
  obtain ⟨xs,n,rfl,rfl,hlen,hxs,hf⟩:=DataW.trod_struct Tryz.underlying25 h
  rw [cof25] at hlen
  obtain ⟨v0,v1,v2,v3,v4,v5,rfl⟩:=len6 hlen
  obtain ⟨y0,y1,y2,y3,y4,y5,rfl⟩:=len6' (show xs.length=6 from hxs)
  have h0:DataW.trod enc Tryz.prog w 0 (fun _=>true) true n 3 (([v0,v1,v2,v3,v4,v5].drop 0).take (Tryz.prog.cellsOf 3))=some y0:=hf 0 _ rfl
  rw [six_one cof3 v0 v1 v2 v3 v4 v5 0 v0 rfl] at h0
  have h1:DataW.trod enc Tryz.prog w 0 (fun _=>true) true n 4 (([v0,v1,v2,v3,v4,v5].drop 1).take (Tryz.prog.cellsOf 4))=some y1:=hf 1 _ rfl
  rw [six_one cof4 v0 v1 v2 v3 v4 v5 1 v1 rfl] at h1
  have h2:DataW.trod enc Tryz.prog w 0 (fun _=>true) true n 3 (([v0,v1,v2,v3,v4,v5].drop 2).take (Tryz.prog.cellsOf 3))=some y2:=hf 2 _ rfl
  rw [six_one cof3 v0 v1 v2 v3 v4 v5 2 v2 rfl] at h2
  have h3:DataW.trod enc Tryz.prog w 0 (fun _=>true) true n 9 (([v0,v1,v2,v3,v4,v5].drop 3).take (Tryz.prog.cellsOf 9))=some y3:=hf 3 _ rfl
  rw [six_one cof9 v0 v1 v2 v3 v4 v5 3 v3 rfl] at h3
  have h4:DataW.trod enc Tryz.prog w 0 (fun _=>true) true n 22 (([v0,v1,v2,v3,v4,v5].drop 4).take (Tryz.prog.cellsOf 22))=some y4:=hf 4 _ rfl
  rw [six_one cof22 v0 v1 v2 v3 v4 v5 4 v4 rfl] at h4
  have h5:DataW.trod enc Tryz.prog w 0 (fun _=>true) true n 23 (([v0,v1,v2,v3,v4,v5].drop 5).take (Tryz.prog.cellsOf 23))=some y5:=hf 5 _ rfl
  rw [six_one cof23 v0 v1 v2 v3 v4 v5 5 v5 rfl] at h5
  obtain ⟨n0,e0,_,_⟩:=DataW.trod_int Tryz.underlying3 h0
  obtain ⟨b1,e1,_⟩:=DataW.trod_bool Tryz.underlying4 h1
  obtain ⟨n2,e2,_,_⟩:=DataW.trod_int Tryz.underlying3 h2
  obtain ⟨t3,e3,d3,_⟩:=DataW.trod_string Tryz.underlying9 h3
  obtain ⟨A4,k4,l4,e4,hl4,hC4,hB4⟩:=open_names h4
  have hitems:∃ (A5:Option Addr) (k5:Nat) (l5:List S25),[v5]=[Value.slice A5 l5.length k5]∧l5.length≤k5∧Kd.C k25 w A5 l5.length l5∧(Rows.uptoBulk y5.1≤LM→l5.length≤LM∧∀ y∈l5,Sz y):=by
   rcases DataW.trod_slice Tryz.underlying23 h5 with ⟨e,he⟩|⟨a,len,cap,elems,rest,m,hm,e,hy,_,hl,hmx,hel,hall,_⟩
   ·refine ⟨none,0,[],e,Nat.le_refl _,⟨rfl,by decide,fun h=>absurd h (by decide)⟩,fun _=>⟨by decide,fun y hy=>by cases hy⟩⟩
   ·rw [cof25] at hall
    have hone:∀ i,i < len→∃ s:S25,∃ y:DataW H×List MemPlace,elems[i]? =some y∧(∃ c,c.length=6∧k25.K w s c∧∀ j u,c[j]? =some u→w.cell? (a.add (i * 6 + j))=some u)∧(Rows.uptoBulk y.1≤LM→Sz s):=by
     intro i hi
     have hi':=hall i hi
     rw [List.getElem?_eq_getElem (by omega)] at hi'
     obtain ⟨cs',hc1,hc2⟩:=Option.bind_eq_some_iff.1 hi'
     obtain ⟨s,B4,B5,q4,q5,rfl,hR,hS⟩:=ih m (by omega) cs' _ hc2
     obtain ⟨_,hcl,hcc⟩:=World.cells?_some hc1
     refine ⟨s,_,List.getElem?_eq_getElem (by omega),⟨_,rfl,k25_mk w s hR.l4 hR.h4 hR.l5 hR.h5,fun j u hu=> ?_⟩,hS⟩
     have hj:j < 6:=by have:=(List.getElem?_eq_some_iff.1 hu).1;simpa using this
     rw [← Deep.add_add,hcc j hj,hu]
    obtain ⟨X,hX⟩:=Deep.choose_lt hone
    have hlX:((List.range len).map X).length=len:=by rw [List.length_map,List.length_range]
    refine ⟨some a,cap,(List.range len).map X,by rw [hlX];exact e,by rw [hlX];exact hl,⟨rfl,by rw [hlX];exact Nat.le_trans hl hmx,fun _=>⟨a,rfl,fun j p hj=> ?_⟩⟩,fun hB=> ?_⟩
    ·have hj':j < len:=by have:=(List.getElem?_eq_some_iff.1 hj).1;omega
     rw [List.getElem?_map,List.getElem?_range hj'] at hj
     simp only [Option.map_some,Option.some.injEq] at hj
     subst hj
     obtain ⟨y,_,⟨c,hc6,hcK,hcc⟩,_⟩:=hX j hj'
     exact ⟨c,hc6,hcK,hcc⟩
    ·rw [hy] at hB
     simp only [Rows.uptoBulk] at hB
     have hlb:=length_bulk (elems.map (·.1))
     rw [List.length_map] at hlb
     refine ⟨by rw [hlX];omega,fun y hy=> ?_⟩
     obtain ⟨i,hi,rfl⟩:=List.mem_map.1 hy
     obtain ⟨z,hz,_,hS⟩:=hX i (List.mem_range.1 hi)
     refine hS ?_
     have:=part_bulk (H:=H) (List.mem_map.2 ⟨z,List.mem_of_getElem? hz,rfl⟩:z.1∈elems.map (·.1))
     omega
  obtain ⟨A5,k5,l5,e5,hl5,hC5,hB5⟩:=hitems
  simp only [List.cons.injEq,and_true] at e0 e1 e2 e3 e4 e5
  subst e0 e1 e2 e3 e4 e5
  refine ⟨⟨n0,b1,n2,t3,l4,l5⟩,A4,A5,k4,k5,rfl,⟨hC4,hl4,hC5,hl5⟩,fun hB=> ?_⟩
  simp only [Rows.uptoBulk,List.map_cons,List.map_nil,Rows.uptoBulkAll] at hB
  have b3:Rows.uptoBulk y3.1=t3.size + 1:=by
   rw [d3];simp only [Rows.uptoBulk,Array.length_toList];rfl
  obtain ⟨s1,s2⟩:=hB4 LM (by omega)
  obtain ⟨s3,s4⟩:=hB5 (by omega)
  exact Sz.mk (by show t3.size≤LM;omega) s1 s3 s2 s4
end
section
variable {H:Type} {enc:TypeId×Value→H} {w:World}
theorem open_values {fuel:Nat} {v:Value} {x:DataW H×List MemPlace} (h:DataW.trod enc Tryz.prog w 0 (fun _=>true) true fuel 23 [v]=some x):
  ∃ (A:Option Addr) (k:Nat) (l:List S25),v=Value.slice A l.length k∧l.length≤k∧Kd.C k25 w A l.length l∧(Rows.uptoBulk x.1≤LM→l.length≤LM∧∀ y∈l,Sz y):=by
 rcases DataW.trod_slice Tryz.underlying23 h with ⟨e,he⟩|⟨a,len,cap,elems,rest,m,hm,e,hy,_,hl,hmx,hel,hall,_⟩
 ·exact ⟨none,0,[],(List.cons.inj e).1,Nat.le_refl _,⟨rfl,by decide,fun h=>absurd h (by decide)⟩,fun _=>⟨by decide,fun y hy=>by cases hy⟩⟩
 ·rw [cof25] at hall
  have hone:∀ i,i < len→∃ s:S25,∃ y:DataW H×List MemPlace,elems[i]? =some y∧(∃ c,c.length=6∧k25.K w s c∧∀ j u,c[j]? =some u→w.cell? (a.add (i * 6 + j))=some u)∧(Rows.uptoBulk y.1≤LM→Sz s):=by
   intro i hi
   have hi':=hall i hi
   rw [List.getElem?_eq_getElem (by omega)] at hi'
   obtain ⟨cs',hc1,hc2⟩:=Option.bind_eq_some_iff.1 hi'
   obtain ⟨s,B4,B5,q4,q5,rfl,hR,hS⟩:=open_value m cs' _ hc2
   obtain ⟨_,hcl,hcc⟩:=World.cells?_some hc1
   refine ⟨s,_,List.getElem?_eq_getElem (by omega),⟨_,rfl,k25_mk w s hR.l4 hR.h4 hR.l5 hR.h5,fun j u hu=> ?_⟩,hS⟩
   have hj:j < 6:=by have:=(List.getElem?_eq_some_iff.1 hu).1;simpa using this
   rw [← Deep.add_add,hcc j hj,hu]
  obtain ⟨X,hX⟩:=Deep.choose_lt hone
  have hlX:((List.range len).map X).length=len:=by rw [List.length_map,List.length_range]
  refine ⟨some a,cap,(List.range len).map X,by rw [hlX];exact (List.cons.inj e).1,by rw [hlX];exact hl,⟨rfl,by rw [hlX];exact Nat.le_trans hl hmx,fun _=>⟨a,rfl,fun j p hj=> ?_⟩⟩,fun hB=> ?_⟩
  ·have hj':j < len:=by have:=(List.getElem?_eq_some_iff.1 hj).1;omega
   rw [List.getElem?_map,List.getElem?_range hj'] at hj
   simp only [Option.map_some,Option.some.injEq] at hj
   subst hj
   obtain ⟨y,_,⟨c,hc6,hcK,hcc⟩,_⟩:=hX j hj'
   exact ⟨c,hc6,hcK,hcc⟩
  ·rw [hy] at hB
   simp only [Rows.uptoBulk] at hB
   have hlb:=length_bulk (elems.map (·.1))
   rw [List.length_map] at hlb
   refine ⟨by rw [hlX];omega,fun y hy=> ?_⟩
   obtain ⟨i,hi,rfl⟩:=List.mem_map.1 hy
   obtain ⟨z,hz,_,hS⟩:=hX i (List.mem_range.1 hi)
   refine hS ?_
   have:=part_bulk (H:=H) (List.mem_map.2 ⟨z,List.mem_of_getElem? hz,rfl⟩:z.1∈elems.map (·.1))
   omega
theorem len2 {α:Type} {cs:List α} (h:cs.length=2):∃ a b,cs=[a,b]:=by
 match cs,h with
 |[a,b],_=>exact ⟨a,b,rfl⟩
theorem cof37:Tryz.prog.cellsOf 37=2:=by kernel_rfl
theorem open_taken {fuel:Nat} {cs:List Value} {x:DataW H×List MemPlace} (h:DataW.trod enc Tryz.prog w 0 (fun _=>true) true fuel 37 cs=some x):
  ∃ (b:Bool) (A:Option Addr) (k:Nat) (l:List ByteArray),cs=[.bool b,.slice A l.length k]∧l.length≤k∧Kd.C Kd.string w A l.length l∧(Rows.uptoBulk x.1≤LM→l.length≤LM):=by
 obtain ⟨xs,n,rfl,rfl,hlen,hxs,hf⟩:=DataW.trod_struct Tryz.underlying37 h
 rw [cof37] at hlen
 obtain ⟨v0,v1,rfl⟩:=len2 hlen
 obtain ⟨y0,y1,rfl⟩:=len2 (show xs.length=2 from hxs)
 have h0:DataW.trod enc Tryz.prog w 0 (fun _=>true) true n 4 (([v0,v1].drop 0).take (Tryz.prog.cellsOf 4))=some y0:=hf 0 _ rfl
 rw [cof4] at h0
 have h1:DataW.trod enc Tryz.prog w 0 (fun _=>true) true n 22 (([v0,v1].drop 1).take (Tryz.prog.cellsOf 22))=some y1:=hf 1 _ rfl
 rw [cof22] at h1
 obtain ⟨b,e0,_⟩:=DataW.trod_bool Tryz.underlying4 h0
 obtain ⟨A,k,l,e1,hl,hC,hB⟩:=open_names h1
 have e0':v0= .bool b:=(List.cons.inj (show [v0]=[.bool b] from e0)).1
 have e1':v1= .slice A l.length k:=(List.cons.inj (show [v1]=[.slice A l.length k] from e1)).1
 subst e0' e1'
 refine ⟨b,A,k,l,rfl,hl,hC,fun h=>(hB LM ?_).1⟩
 simp only [Rows.uptoBulk,List.map_cons,List.map_nil,Rows.uptoBulkAll] at h
 omega
end
end Go.Proofs.YtkphbhncpdcbeaaGreatDoor.J
namespace Go.Proofs.YtkphbhncpdcbeaaGreatDoor.J
open Go.RowKit YtkphbhncpdcbeaaGreatDoorW.PrintWords YtkphbhncpdcbeaaGreatDoorW.PrintLast YtkphbhncpdcbeaaGreatDoorW.PrintMore PJT
def EvP {α:Type} (P:α→Prop) (f:Nat→Option α):Prop:=∃ K r,P r∧∀ k,K≤k→f k=some r
section
variable {α β:Type} {P:α→Prop} {Q:β→Prop}
theorem EvP.ret {r:α} (h:P r):EvP P (fun _=>some r):=⟨0,r,h,fun _ _=>rfl⟩
theorem EvP.bind {f:Nat→Option β} {g:Nat→β→Option α} (hf:EvP Q f) (hg:∀ r,Q r→EvP P (fun k=>g k r)):EvP P (fun k=>(f k).bind (g k)):=by
 obtain ⟨K,r,hr,h⟩:=hf
 obtain ⟨K',r',hr',h'⟩:=hg r hr
 refine ⟨max K K',r',hr',fun k hk=> ?_⟩
 show (f k).bind (g k)=_
 rw [h k (by omega)]
 exact h' k (by omega)
theorem EvP.up {F:Nat→Option α} (h:EvP P (fun k=>F (k + 1))):EvP P F:=by
 obtain ⟨K,r,hr,h⟩:=h
 refine ⟨K + 1,r,hr,fun k hk=> ?_⟩
 obtain ⟨m,rfl⟩:∃ m,k=m + 1:=⟨k - 1,by omega⟩
 exact h m (by omega)
theorem EvP.ite {c:Prop} [Decidable c] {f g:Nat→Option α} (h1:c→EvP P f) (h2:¬ c→EvP P g):EvP P (fun k=>if c then f k else g k):=by
 by_cases h:c
 ·simp only [if_pos h];exact h1 h
 ·simp only [if_neg h];exact h2 h
theorem EvP.imp {P':α→Prop} {f:Nat→Option α} (h:EvP P f) (hi:∀ r,P r→P' r):EvP P' f:=by
 obtain ⟨K,r,hr,h⟩:=h
 exact ⟨K,r,hi r hr,h⟩
theorem EvP.of {f:Nat→Option α} (h:EvP P f):∃ k r,f k=some r:=by
 obtain ⟨K,r,_,h⟩:=h
 exact ⟨K,r,h K (Nat.le_refl _)⟩
end
theorem wid {i:Int} (h: -4611686018427387904≤i) (h':i≤4611686018427387904):wrap64 i=i:=by unfold wrap64;omega
theorem digit_ev (v:Int):EvP (fun _=>True) (fun _=>spec_jDigit.f v):=by
 unfold spec_jDigit.f
 exact EvP.ite (fun _=>EvP.ret trivial) (fun _=>EvP.ret trivial)
theorem run_ev (x0:ByteArray) (hs:x0.size≤LM) (d:Nat):∀ x1:Int,0≤x1→x1≤x0.size→(x0.size:Int) - x1=d→EvP (fun r:Int=>x1≤r∧r≤x0.size) (fun k=>spec_jRun.l0 k x0 x1):=by
 simp only [LM] at hs
 induction d with
 |zero=>
  intro x1 h0 h1 hd;refine EvP.up ?_;simp only [spec_jRun.l0]
  exact EvP.ite (fun h=>absurd h (by omega)) (fun _=>EvP.ret (by omega))
 |succ d ih=>
  intro x1 h0 h1 hd;refine EvP.up ?_;simp only [spec_jRun.l0]
  refine EvP.ite (fun h=>EvP.ite (fun _=>EvP.bind (digit_ev _) (fun t _=>EvP.ite (fun _=> ?_) (fun _=>EvP.ret (by omega)))) (fun h'=>absurd h0 h')) (fun _=>EvP.ret (by omega))
  rw [wid (i:=x1 + 1) (by omega) (by omega)]
  exact (ih (x1 + 1) (by omega) (by omega) (by omega)).imp (fun r h=>⟨by omega,h.2⟩)
theorem digits_ev (x0:ByteArray) (hs:x0.size≤LM) (d:Nat):∀ x1:Int,0≤x1→x1≤x0.size→(x0.size:Int) - x1=d→EvP (fun r:Bool=>r=true→0 < x0.size) (fun k=>spec_jDigits.l0 k x0 x1):=by
 simp only [LM] at hs
 have hlast:((decide ((x0.size:Int) > 0))=true→0 < x0.size):=fun h=>by have:=of_decide_eq_true h;omega
 induction d with
 |zero=>
  intro x1 h0 h1 hd;refine EvP.up ?_;simp only [spec_jDigits.l0]
  exact EvP.ite (fun h=>absurd h (by omega)) (fun _=>EvP.ret hlast)
 |succ d ih=>
  intro x1 h0 h1 hd;refine EvP.up ?_;simp only [spec_jDigits.l0]
  refine EvP.ite (fun h=>EvP.ite (fun _=>EvP.bind (digit_ev _) (fun t _=>EvP.ite (fun _=> ?_) (fun _=>EvP.ret (fun h=>by cases h)))) (fun h'=>absurd h0 h')) (fun _=>EvP.ret hlast)
  rw [wid (i:=x1 + 1) (by omega) (by omega)]
  exact ih (x1 + 1) (by omega) (by omega) (by omega)
theorem plain_ev (x0:ByteArray) (hs:x0.size≤LM):EvP (fun _=>True) (fun k=>spec_jPlain.f k x0):=by
 unfold spec_jPlain.f spec_jDigits.f
 refine EvP.bind (digits_ev x0 hs x0.size 0 (by omega) (by omega) (by omega)) (fun t ht=>EvP.ite (fun h=>EvP.ite (fun _=>EvP.ret trivial) (fun _=>EvP.ite (fun _=>EvP.ret trivial) (fun h'=> ?_))) (fun _=>EvP.ret trivial))
 have:=ht h;omega
theorem number_ev (x0:ByteArray) (hs:x0.size≤LM) (d:Nat):∀ x3 x4:Int,0≤x4→x4≤x0.size→(x0.size:Int) - x4=d→EvP (fun _=>True) (fun k=>spec_jNumber.l0 k x0 x3 x4):=by
 simp only [LM] at hs
 induction d with
 |zero=>
  intro x3 x4 h0 h1 hd;refine EvP.up ?_;simp only [spec_jNumber.l0]
  exact EvP.ite (fun h=>absurd h (by omega)) (fun _=>EvP.ret trivial)
 |succ d ih=>
  intro x3 x4 h0 h1 hd;refine EvP.up ?_;simp only [spec_jNumber.l0]
  refine EvP.ite (fun h=>EvP.ite (fun _=> ?_) (fun h'=>absurd h0 h')) (fun _=>EvP.ret trivial)
  rw [wid (i:=x4 + 1) (by omega) (by omega)]
  exact ih _ (x4 + 1) (by omega) (by omega) (by omega)
theorem size_nil {x:ByteArray} (h:¬ x.toList=([]:List UInt8)):0 < x.size:=by
 rcases Nat.eq_zero_or_pos x.size with h0|h0
 ·refine absurd ?_ h
  have:x=⟨#[]⟩:=by
   cases x with|mk a=>simp only [ByteArray.size] at h0;rw [Array.size_eq_zero_iff.1 h0]
  rw [this];first|exact ByteArray.toList_empty|simp|decide|(unfold ByteArray.toList;unfold ByteArray.toList.loop;simp [ByteArray.size])
 ·exact h0
theorem ext_size (x:ByteArray) (a b:Nat):(x.extract a b).size≤x.size:=by
 rw [ByteArray.size_extract];omega
theorem exp4_ev (x0:ByteArray) (hs:x0.size≤LM) (x4 x43:Bool):EvP (fun _=>True) (fun k=>spec_jExponent.j4 k x0 x4 x43):=by
 refine EvP.up ?_;simp only [spec_jExponent.j4]
 exact EvP.ite (fun _=>EvP.ret trivial) (fun _=>EvP.ite (fun _=>EvP.bind (number_ev x0 hs x0.size 0 0 (by omega) (by omega) (by omega)) (fun _ _=>EvP.ret trivial)) (fun _=>EvP.bind (number_ev x0 hs x0.size 0 0 (by omega) (by omega) (by omega)) (fun _ _=>EvP.ret trivial)))
theorem exp3_ev (x0:ByteArray) (hs:x0.size≤LM) (x4:Bool):EvP (fun _=>True) (fun k=>spec_jExponent.j3 k x0 x4):=by
 refine EvP.up ?_;simp only [spec_jExponent.j3]
 exact EvP.bind (digits_ev x0 hs x0.size 0 (by omega) (by omega) (by omega)) (fun _ _=>EvP.ite (fun _=>exp4_ev x0 hs _ _) (fun _=>exp4_ev x0 hs _ _))
theorem exp2_ev (x0:ByteArray) (hs:x0.size≤LM) (x4 x33:Bool) (h:x33=true→1≤x0.size):EvP (fun _=>True) (fun k=>spec_jExponent.j2 k x0 x4 x33):=by
 refine EvP.up ?_;simp only [spec_jExponent.j2]
 exact EvP.ite (fun e=>EvP.ite (fun _=>exp3_ev _ (Nat.le_trans (ext_size _ _ _) hs) _) (fun h'=>absurd (h e) (by omega))) (fun _=>exp3_ev _ hs _)
theorem exp1_ev (x0:ByteArray) (hs:x0.size≤LM) (x4:Bool) (h:x4=true→1≤x0.size):EvP (fun _=>True) (fun k=>spec_jExponent.j1 k x0 x4):=by
 refine EvP.up ?_;simp only [spec_jExponent.j1]
 exact EvP.ite (fun e=>exp2_ev _ hs _ _ (fun _=>h e)) (fun _=>EvP.ite (fun _=>exp2_ev _ hs _ _ (fun h=>by cases h)) (fun hn=>EvP.ite (fun hp=>exp2_ev _ hs _ _ (fun _=>by omega)) (fun h'=>absurd (size_nil hn) (by omega))))
theorem exp0_ev (x0:ByteArray) (hs:x0.size≤LM) (x14:Bool) (h:1≤x0.size):EvP (fun _=>True) (fun k=>spec_jExponent.j0 k x0 x14):=by
 refine EvP.up ?_;simp only [spec_jExponent.j0]
 have hs':(x0.extract 1 x0.size).size≤LM:=Nat.le_trans (ext_size _ _ _) hs
 exact EvP.ite (fun e=>EvP.ret trivial) (fun _=>EvP.ite (fun _=>EvP.ite (fun _=>exp1_ev _ hs' _ (fun h=>by cases h)) (fun hn=>EvP.ite (fun hp=>exp1_ev _ hs' _ (fun _=>by omega)) (fun h'=>absurd (size_nil hn) (by omega)))) (fun h'=>absurd h (by omega)))
theorem exp_ev (x0:ByteArray) (hs:x0.size≤LM):EvP (fun _=>True) (fun k=>spec_jExponent.f k x0):=by
 unfold spec_jExponent.f
 exact EvP.ite (fun e=>EvP.ret trivial) (fun hn=>EvP.ite (fun _=>EvP.ite (fun _=>exp0_ev x0 hs _ (size_nil hn)) (fun _=>exp0_ev x0 hs _ (size_nil hn))) (fun h'=>absurd (size_nil hn) (by omega)))
theorem bare_ev (d:Nat):∀ x0:ByteArray,x0.size≤LM→x0.size=d→EvP (fun r:ByteArray=>r.size≤d) (fun k=>spec_jBare.l0 k x0):=by
 induction d with
 |zero=>
  intro x0 hs hd;refine EvP.up ?_;simp only [spec_jBare.l0]
  exact EvP.ite (fun _=>EvP.ret (by omega)) (fun h=>absurd (size_nil h) (by omega))
 |succ d ih=>
  intro x0 hs hd;refine EvP.up ?_;simp only [spec_jBare.l0]
  refine EvP.ite (fun _=>EvP.ret (by omega)) (fun h=>EvP.ite (fun _=>EvP.ite (fun _=>EvP.ite (fun _=> ?_) (fun h'=>absurd h' (by omega))) (fun _=>EvP.ret (by omega))) (fun h'=>absurd h' (by omega)))
  have e:(x0.extract 1 x0.size).size=d:=by rw [ByteArray.size_extract];omega
  exact (ih _ (by omega) e).imp (fun r h=>by omega)
theorem lean_ev (d:Nat):∀ (b:Bool) (x0:ByteArray) (i:Int),x0.size≤LM→x0.size=d→EvP (fun _=>True) (fun k=>spec_jLean.l0 k b x0 i):=by
 induction d with
 |zero=>
  intro b x0 i hs hd;refine EvP.up ?_;simp only [spec_jLean.l0]
  exact EvP.ite (fun _=>EvP.ret trivial) (fun h=>absurd (size_nil h) (by omega))
 |succ d ih=>
  intro b x0 i hs hd;refine EvP.up ?_;simp only [spec_jLean.l0]
  have hs':=hs
  simp only [LM] at hs'
  rw [wid (i:=(x0.size:Int) - 1) (by omega) (by omega)]
  refine EvP.ite (fun _=>EvP.ret trivial) (fun h=>EvP.ite (fun _=>EvP.ite (fun _=>EvP.ite (fun _=>EvP.ite (fun _=> ?_) (fun h'=>absurd h' (by omega))) (fun _=>EvP.ret trivial)) (fun h'=>absurd h' (by omega))) (fun h'=>absurd h' (by omega)))
  have e:(x0.extract 0 ((x0.size:Int) - 1).toNat).size=d:=by rw [ByteArray.size_extract];omega
  exact ih b _ _ (by omega) e
theorem leans_ev (b:Bool) (x0:ByteArray) (i:Int) (hs:x0.size≤LM):EvP (fun _=>True) (fun k=>spec_jLean.f k b x0 i):=by
 unfold spec_jLean.f spec_jBare.f
 exact EvP.bind (bare_ev x0.size x0 hs rfl) (fun r hr=>lean_ev r.size b r i (Nat.le_trans hr hs) rfl)
theorem dec3_ev (x0:ByteArray) (hs:x0.size≤40) (x4 x5 x6:Int) (h4:0≤x4) (h5:x4≤x5) (h6:x5≤x6) (h7:x6≤x0.size):EvP (fun _=>True) (fun k=>spec_jDecimalOf.j3 k x0 x4 x5 x6):=by
 refine EvP.up ?_;simp only [spec_jDecimalOf.j3]
 have hl:∀ a b,(x0.extract a b).size≤LM:=fun a b=>Nat.le_trans (ext_size _ _ _) (by simp only [LM];omega)
 have hl':∀ a b,(x0.extract a b).size≤40:=fun a b=>Nat.le_trans (ext_size _ _ _) hs
 rw [wid (i:=x5 + 1) (by omega) (by omega)]
 refine EvP.ite (fun _=>EvP.ite (fun _=>EvP.bind (exp_ev _ (hl _ _)) (fun r _=>EvP.ite (fun _=>EvP.ite (fun _=>EvP.ite (fun _=>EvP.ite (fun _=>EvP.ite (fun _=>EvP.ite (fun _=>EvP.ite (fun _=>EvP.ite (fun _=> ?_) (fun h'=> ?_)) (fun h'=>absurd h' (by omega))) (fun h'=>absurd h' (by omega))) (fun _=> ?_)) (fun h'=>absurd h' (by omega))) (fun h'=>absurd h' (by omega))) (fun h'=>absurd h' (by omega))) (fun _=>EvP.ret trivial))) (fun h'=>absurd h' (by omega))) (fun h'=>absurd h' (by omega))
 ·refine EvP.bind (leans_ev _ _ _ ?_) (fun _ _=>EvP.ret trivial)
  rw [ByteArray.size_append]
  have:=hl' x4.toNat x5.toNat
  have:=hl' (x5 + 1).toNat x6.toNat
  simp only [LM];omega
 ·have:=hl' x4.toNat x5.toNat
  have:=hl' (x5 + 1).toNat x6.toNat
  omega
 ·exact EvP.bind (leans_ev _ _ _ (hl _ _)) (fun _ _=>EvP.ret trivial)
theorem dec2_ev (x0:ByteArray) (hs:x0.size≤40) (x4 x5:Int) (x41:Bool) (h4:0≤x4) (h5:x4≤x5) (h7:x5≤x0.size) (h8:x41=true→x5 < x0.size):EvP (fun _=>True) (fun k=>spec_jDecimalOf.j2 k x0 x4 x5 x5 x41):=by
 refine EvP.up ?_;simp only [spec_jDecimalOf.j2,spec_jRun.f]
 rw [wid (i:=x5 + 1) (by omega) (by omega)]
 refine EvP.ite (fun e=> ?_) (fun _=>dec3_ev x0 hs x4 x5 x5 h4 h5 (Int.le_refl _) h7)
 have:=h8 e
 exact EvP.bind (run_ev x0 (by simp only [LM];omega) ((x0.size:Int) - (x5 + 1)).toNat (x5 + 1) (by omega) (by omega) (by omega)) (fun r hr=>EvP.ite (fun _=>EvP.ret trivial) (fun _=>dec3_ev x0 hs x4 x5 r h4 h5 (by omega) hr.2))
theorem dec1_ev (x0:ByteArray) (hs:x0.size≤40) (x4:Int) (h4:0≤x4) (h5:x4≤x0.size):EvP (fun _=>True) (fun k=>spec_jDecimalOf.j1 k x0 x4):=by
 refine EvP.up ?_;simp only [spec_jDecimalOf.j1,spec_jRun.f]
 refine EvP.bind (run_ev x0 (by simp only [LM];omega) ((x0.size:Int) - x4).toNat x4 (by omega) (by omega) (by omega)) (fun r hr=>EvP.ite (fun _=>EvP.ite (fun _=>EvP.ite (fun _=>EvP.bind (plain_ev _ (Nat.le_trans (ext_size _ _ _) (by simp only [LM];omega))) (fun t _=>EvP.ite (fun _=>EvP.ite (fun hr'=>EvP.ite (fun _=> ?_) (fun h'=>absurd h' (by omega))) (fun _=> ?_)) (fun _=>EvP.ret trivial))) (fun h'=>absurd h' (by omega))) (fun h'=>absurd h' (by omega))) (fun h'=>absurd h' (by omega)))
 ·exact dec2_ev x0 hs x4 r _ h4 hr.1 hr.2 (fun _=>hr')
 ·exact dec2_ev x0 hs x4 r _ h4 hr.1 hr.2 (fun h=>by cases h)
theorem dec0_ev (x0:ByteArray) (hs:x0.size≤40) (b:Bool) (hb:b=true→1≤x0.size):EvP (fun _=>True) (fun k=>spec_jDecimalOf.j0 k x0 0 b):=by
 refine EvP.up ?_;simp only [spec_jDecimalOf.j0]
 exact EvP.ite (fun e=>dec1_ev x0 hs 1 (by omega) (by have:=hb e;omega)) (fun _=>dec1_ev x0 hs 0 (by omega) (by omega))
theorem decimal_ev (x0:ByteArray):EvP (fun _=>True) (fun k=>spec_JIsDecimal.f k x0):=by
 unfold spec_JIsDecimal.f spec_jDecimalOf.f
 exact EvP.bind (Q:=fun _=>True) (EvP.ite (fun _=>EvP.ret trivial) (fun h=>EvP.ite (fun _=>dec0_ev x0 (by omega) _ (fun h=>by cases h)) (fun hn=>EvP.ite (fun _=>dec0_ev x0 (by omega) _ (fun _=>size_nil hn)) (fun h'=>absurd (size_nil hn) (by omega))))) (fun _ _=>EvP.ret trivial)
abbrev WP (x0:ByteArray) (x1:Int) (r:Int):Prop:=r=0∨(1≤r∧x1 + r≤x0.size)
theorem wl_ev (x0:ByteArray) (hs:x0.size≤LM) (x1 x6:Int) (h0:0≤x1) (h6:2≤x6) (h7:x1 + x6≤x0.size) (d:Nat):∀ x9:Int,2≤x9→x9≤x6→x6 - x9=d→EvP (WP x0 x1) (fun k=>spec_jWidth.l0 k x0 x1 x6 x9):=by
 simp only [LM] at hs
 induction d with
 |zero=>
  intro x9 h9 h9' hd;refine EvP.up ?_;simp only [spec_jWidth.l0]
  exact EvP.ite (fun h=>absurd h (by omega)) (fun _=>EvP.ret (Or.inr (by omega)))
 |succ d ih=>
  intro x9 h9 h9' hd;refine EvP.up ?_;simp only [spec_jWidth.l0]
  rw [wid (i:=x1 + x9) (by omega) (by omega),wid (i:=x9 + 1) (by omega) (by omega)]
  exact EvP.ite (fun h=>EvP.ite (fun _=>EvP.ite (fun _=>EvP.ite (fun _=>EvP.ret (Or.inl rfl)) (fun _=>EvP.ite (fun _=>EvP.ret (Or.inl rfl)) (fun _=>ih (x9 + 1) (by omega) (by omega) (by omega)))) (fun h'=>absurd h' (by omega))) (fun h'=>absurd h' (by omega))) (fun _=>EvP.ret (Or.inr (by omega)))
theorem w4_ev (x0:ByteArray) (hs:x0.size≤LM) (x1 x6:Int) (b:Bool) (h0:0≤x1) (h6:2≤x6) (h7:b=false→x1 + x6≤x0.size):EvP (WP x0 x1) (fun k=>spec_jWidth.j4 k x0 x1 x6 b):=by
 refine EvP.up ?_;simp only [spec_jWidth.j4]
 exact EvP.ite (fun _=>EvP.ret (Or.inl rfl)) (fun h=>wl_ev x0 hs x1 x6 h0 h6 (h7 (by simpa using h)) (x6 - 2).toNat 2 (by omega) h6 (by omega))
theorem w3_ev (x0:ByteArray) (hs:x0.size≤LM) (x1 x6 x7 x8:Int) (h0:0≤x1) (h1:x1 < x0.size) (h6:2≤x6) (h6':x6≤4):EvP (WP x0 x1) (fun k=>spec_jWidth.j3 k x0 x1 x6 x7 x8):=by
 refine EvP.up ?_;simp only [spec_jWidth.j3]
 have hs':=hs
 simp only [LM] at hs'
 rw [wid (i:=x1 + x6) (by omega) (by omega),wid (i:=x1 + 1) (by omega) (by omega)]
 exact EvP.ite (fun _=>w4_ev x0 hs x1 x6 _ h0 h6 (fun h=>by cases h)) (fun h=>EvP.ite (fun _=>EvP.ite (fun _=>EvP.ite (fun _=>w4_ev x0 hs x1 x6 _ h0 h6 (fun h=>by cases h)) (fun _=>w4_ev x0 hs x1 x6 _ h0 h6 (fun _=>by omega))) (fun h'=>absurd h' (by omega))) (fun h'=>absurd h' (by omega)))
theorem w2_ev (x0:ByteArray) (hs:x0.size≤LM) (x1 x5 x7 x8:Int) (b:Bool) (h0:0≤x1) (h1:x1 < x0.size):EvP (WP x0 x1) (fun k=>spec_jWidth.j2 k x0 x1 x5 x7 x8 b):=by
 refine EvP.up ?_;simp only [spec_jWidth.j2]
 have w:=fun p q=>w3_ev x0 hs x1 4 p q h0 h1 (by omega) (by omega)
 exact EvP.ite (fun _=>EvP.ite (fun _=>EvP.ite (fun _=>w _ _) (fun _=>w _ _)) (fun _=>EvP.ite (fun _=>w _ _) (fun _=>w _ _))) (fun _=>EvP.ret (Or.inl rfl))
theorem w1_ev (x0:ByteArray) (hs:x0.size≤LM) (x1 x5 x7 x8:Int) (b:Bool) (h0:0≤x1) (h1:x1 < x0.size):EvP (WP x0 x1) (fun k=>spec_jWidth.j1 k x0 x1 x5 x7 x8 b):=by
 refine EvP.up ?_;simp only [spec_jWidth.j1]
 have w:=fun p q=>w3_ev x0 hs x1 3 p q h0 h1 (by omega) (by omega)
 have w2:=fun p=>w2_ev x0 hs x1 x5 x7 x8 p h0 h1
 exact EvP.ite (fun _=>EvP.ite (fun _=>EvP.ite (fun _=>w _ _) (fun _=>w _ _)) (fun _=>EvP.ite (fun _=>w _ _) (fun _=>w _ _))) (fun _=>EvP.ite (fun _=>w2 _) (fun _=>w2 _))
theorem w0_ev (x0:ByteArray) (hs:x0.size≤LM) (x1 x5 x7 x8:Int) (b:Bool) (h0:0≤x1) (h1:x1 < x0.size):EvP (WP x0 x1) (fun k=>spec_jWidth.j0 k x0 x1 x5 x7 x8 b):=by
 refine EvP.up ?_;simp only [spec_jWidth.j0]
 have w1:=fun p=>w1_ev x0 hs x1 x5 x7 x8 p h0 h1
 exact EvP.ite (fun _=>w3_ev x0 hs x1 2 x7 x8 h0 h1 (by omega) (by omega)) (fun _=>EvP.ite (fun _=>w1 _) (fun _=>w1 _))
theorem width_ev (x0:ByteArray) (hs:x0.size≤LM) (x1:Int) (h0:0≤x1) (h1:x1 < x0.size):EvP (WP x0 x1) (fun k=>spec_jWidth.f k x0 x1):=by
 unfold spec_jWidth.f
 exact EvP.ite (fun _=>EvP.ite (fun _=>EvP.ite (fun _=>EvP.ret (Or.inr (by omega))) (fun _=>EvP.ite (fun _=>w0_ev x0 hs x1 _ _ _ _ h0 h1) (fun _=>w0_ev x0 hs x1 _ _ _ _ h0 h1))) (fun h'=>absurd h1 h')) (fun h'=>absurd h0 h')
theorem utf8_ev (x0:ByteArray) (hs:x0.size≤LM) (d:Nat):∀ x3:Int,0≤x3→x3≤x0.size→(x0.size:Int) - x3≤d→EvP (fun _=>True) (fun k=>spec_JUtf8.l0 k x0 x3):=by
 have hs':=hs
 simp only [LM] at hs'
 induction d with
 |zero=>
  intro x3 h0 h1 hd;refine EvP.up ?_;simp only [spec_JUtf8.l0]
  exact EvP.ite (fun h=>absurd h (by omega)) (fun _=>EvP.ret trivial)
 |succ d ih=>
  intro x3 h0 h1 hd;refine EvP.up ?_;simp only [spec_JUtf8.l0]
  refine EvP.ite (fun h=>EvP.bind (width_ev x0 hs x3 h0 h) (fun r hr=>EvP.ite (fun _=>EvP.ret trivial) (fun hn=> ?_))) (fun _=>EvP.ret trivial)
  have hr':1≤r∧x3 + r≤x0.size:=hr.resolve_left hn
  rw [wid (i:=x3 + r) (by omega) (by omega)]
  exact ih _ (by omega) hr'.2 (by omega)
theorem utf8s_ev (x0:ByteArray) (hs:x0.size≤LM):EvP (fun _=>True) (fun k=>spec_JUtf8.f k x0):=by
 unfold spec_JUtf8.f
 exact utf8_ev x0 hs x0.size 0 (by omega) (by omega) (by omega)
section
variable (q0:Int) (q1:Bool) (q2:Int) (q3:ByteArray) (q4:List ByteArray) (q5:List S25) (n4:q4.length≤LM) (n5:q5.length≤LM) (t4:∀ s∈q4,s.size≤LM)
include n5
theorem pl1_ev (sub:∀ y∈q5,∀ a:Int,EvP (fun _=>True) (fun k=>spec_jProperIn.f k y.f0 y.f1 y.f2 y.f3 y.f4 y.f5 a)) (a:Int) (d:Nat):∀ i:Int,0≤i→i≤q5.length→(q5.length:Int) - i=d→EvP (fun _=>True) (fun k=>spec_jProperIn.l1 k a i q0 q1 q2 q3 q4 q5):=by
 simp only [LM] at n5
 induction d with
 |zero=>
  intro i h0 h1 hd;refine EvP.up ?_;simp only [spec_jProperIn.l1]
  exact EvP.ite (fun h=>absurd h (by omega)) (fun _=>EvP.ret trivial)
 |succ d ih=>
  intro i h0 h1 hd;refine EvP.up ?_;simp only [spec_jProperIn.l1]
  refine EvP.ite (fun h=>EvP.ite (fun _=>EvP.bind (sub _ (rd_T25_in h0 h) _) (fun t _=>EvP.ite (fun _=> ?_) (fun _=>EvP.ret trivial))) (fun h'=>absurd h0 h')) (fun _=>EvP.ret trivial)
  rw [wid (i:=i + 1) (by omega) (by omega)]
  exact ih _ (by omega) (by omega) (by omega)
theorem cl_ev (sub:∀ y∈q5,EvP (fun _=>True) (fun k=>spec_JCounts.f k y.f0 y.f1 y.f2 y.f3 y.f4 y.f5)) (d:Nat):∀ i:Int,0≤i→i≤q5.length→(q5.length:Int) - i=d→EvP (fun _=>True) (fun k=>spec_JCounts.l0 k i q0 q1 q2 q3 q4 q5):=by
 simp only [LM] at n5
 induction d with
 |zero=>
  intro i h0 h1 hd;refine EvP.up ?_;simp only [spec_JCounts.l0]
  exact EvP.ite (fun h=>absurd h (by omega)) (fun _=>EvP.ret trivial)
 |succ d ih=>
  intro i h0 h1 hd;refine EvP.up ?_;simp only [spec_JCounts.l0]
  refine EvP.ite (fun h=>EvP.ite (fun _=>EvP.bind (sub _ (rd_T25_in h0 h)) (fun t _=>EvP.ite (fun _=> ?_) (fun _=>EvP.ret trivial))) (fun h'=>absurd h0 h')) (fun _=>EvP.ret trivial)
  rw [wid (i:=i + 1) (by omega) (by omega)]
  exact ih _ (by omega) (by omega) (by omega)
include n4 t4
theorem pl0_ev (sub:∀ y∈q5,∀ a:Int,EvP (fun _=>True) (fun k=>spec_jProperIn.f k y.f0 y.f1 y.f2 y.f3 y.f4 y.f5 a)) (a:Int) (d:Nat):∀ i:Int,0≤i→i≤q4.length→(q4.length:Int) - i=d→EvP (fun _=>True) (fun k=>spec_jProperIn.l0 k a i q0 q1 q2 q3 q4 q5):=by
 have n4':=n4
 simp only [LM] at n4'
 have last:=pl1_ev q0 q1 q2 q3 q4 q5 n5 sub a q5.length 0 (by omega) (by omega) (by omega)
 induction d with
 |zero=>
  intro i h0 h1 hd;refine EvP.up ?_;simp only [spec_jProperIn.l0]
  exact EvP.ite (fun h=>absurd h (by omega)) (fun _=>last)
 |succ d ih=>
  intro i h0 h1 hd;refine EvP.up ?_;simp only [spec_jProperIn.l0]
  refine EvP.ite (fun h=>EvP.ite (fun _=>EvP.bind (utf8s_ev _ (t4 _ ?_)) (fun t _=>EvP.ite (fun _=> ?_) (fun _=>EvP.ret trivial))) (fun h'=>absurd h0 h')) (fun _=>last)
  ·unfold rdOf
   rw [getD_lt (by omega:i.toNat < q4.length)]
   exact List.getElem_mem _
  rw [wid (i:=i + 1) (by omega) (by omega)]
  exact ih _ (by omega) (by omega) (by omega)
theorem pj_ev (sub:∀ y∈q5,∀ a:Int,EvP (fun _=>True) (fun k=>spec_jProperIn.f k y.f0 y.f1 y.f2 y.f3 y.f4 y.f5 a)) (a:Int) (b:Bool):EvP (fun _=>True) (fun k=>spec_jProperIn.j0 k a b q0 q1 q2 q3 q4 q5):=by
 refine EvP.up ?_;simp only [spec_jProperIn.j0]
 exact EvP.ite (fun _=>EvP.ret trivial) (fun _=>pl0_ev q0 q1 q2 q3 q4 q5 n4 n5 t4 sub a q4.length 0 (by omega) (by omega) (by omega))
end
theorem proper_ev {x:S25} (h:Sz x):∀ a:Int,EvP (fun _=>True) (fun k=>spec_jProperIn.f k x.f0 x.f1 x.f2 x.f3 x.f4 x.f5 a):=by
 induction h with
 | @mk x n3 n4 n5 t4 sub ih=>
  intro a;refine EvP.up ?_;simp only [spec_jProperIn.f]
  have j:=fun b=>pj_ev x.f0 x.f1 x.f2 x.f3 x.f4 x.f5 n4 n5 t4 ih a b
  exact EvP.ite (fun _=>EvP.ret trivial) (fun _=>EvP.ite (fun _=>j _) (fun _=>EvP.ite (fun _=>j _) (fun _=>EvP.bind (utf8s_ev _ n3) (fun t _=>EvP.ite (fun _=>EvP.ite (fun _=>EvP.ite (fun _=>EvP.ite (fun _=>j _) (fun _=>j _)) (fun _=>EvP.bind (decimal_ev _) (fun t _=>EvP.ite (fun _=>EvP.ite (fun _=>j _) (fun _=>j _)) (fun _=>j _)))) (fun _=>EvP.ite (fun _=>j _) (fun _=>j _))) (fun _=>j _)))))
theorem counts_ev {x:S25} (h:Sz x):EvP (fun _=>True) (fun k=>spec_JCounts.f k x.f0 x.f1 x.f2 x.f3 x.f4 x.f5):=by
 induction h with
 | @mk x n3 n4 n5 t4 sub ih=>
  refine EvP.up ?_;simp only [spec_JCounts.f]
  exact EvP.ite (fun _=>EvP.ret trivial) (fun _=>cl_ev x.f0 x.f1 x.f2 x.f3 x.f4 x.f5 n5 ih x.f5.length 0 (by omega) (by omega) (by omega))
theorem fits_ev (l:List ByteArray) (hn:l.length≤LM) (d:Nat):∀ i:Int,0≤i→i≤l.length→(l.length:Int) - i=d→EvP (fun _=>True) (fun k=>laws_zzFits4.l0 k l (l.length:Int) i):=by
 simp only [LM] at hn
 induction d with
 |zero=>
  intro i h0 h1 hd;refine EvP.up ?_;simp only [laws_zzFits4.l0]
  exact EvP.ite (fun h=>absurd h (by omega)) (fun _=>EvP.ret trivial)
 |succ d ih=>
  intro i h0 h1 hd;refine EvP.up ?_;simp only [laws_zzFits4.l0]
  refine EvP.ite (fun h=>EvP.ite (fun _=>EvP.ite (fun _=>EvP.ite (fun _=>EvP.ret trivial) (fun _=> ?_)) (fun h'=>absurd h' (by omega))) (fun h'=>absurd h0 h')) (fun _=>EvP.ret trivial)
  rw [wid (i:=i + 1) (by omega) (by omega)]
  exact ih _ (by omega) (by omega) (by omega)
theorem fits4_ev (l:List ByteArray) (hn:l.length≤LM):EvP (fun _=>True) (fun k=>laws_zzFits4.f k l):=by
 unfold laws_zzFits4.f
 exact EvP.ite (fun _=>EvP.ret trivial) (fun _=>fits_ev l hn l.length 0 (by omega) (by omega) (by omega))
theorem fits5_ev {x:S25} (h:Sz x):EvP (fun _=>True) (fun k=>laws_zzFits5.f k x.f0 x.f1 x.f2 x.f3 x.f4 x.f5):=by
 obtain ⟨n3,n4,n5,t4,sub⟩:=h
 unfold laws_zzFits5.f
 exact EvP.ite (fun _=>EvP.ret trivial) (fun _=>EvP.bind (fits4_ev x.f4 n4) (fun t _=>EvP.ite (fun _=>EvP.ite (fun _=>EvP.ret trivial) (fun _=>EvP.ret trivial)) (fun _=>EvP.ret trivial)))
end Go.Proofs.YtkphbhncpdcbeaaGreatDoor.J
namespace Go.Proofs.YtkphbhncpdcbeaaGreatDoor.J
open Go.RowKit YtkphbhncpdcbeaaGreatDoorW.PrintWords YtkphbhncpdcbeaaGreatDoorW.PrintLast YtkphbhncpdcbeaaGreatDoorW.PrintMore PJT
theorem proper_ok {x:S25} (h:Sz x):∃ p:Bool,(∃ k,spec_jProperIn.f k x.f0 x.f1 x.f2 x.f3 x.f4 x.f5 1000=some p)∧∀ (W:World) (A4 A5:Option Addr) (c4 c5:Nat),Rep W x A4 c4 A5 c5→Calls Tryz.prog 12 #[.agg (jvc x A4 A5 c4 c5)] W (rb (.bool p) W):=by
 obtain ⟨k,p,hk⟩:=(proper_ev h 1000).of
 refine ⟨p,⟨k,hk⟩,fun W A4 A5 c4 c5 hx=> ?_⟩
 exact (spec_JProper.calls k x.f0 x.f1 x.f2 x.f3 A4 c4 x.f4 A5 c5 x.f5 p W hx.h4 hx.l4 hx.h5 hx.l5 (by unfold spec_JProper.f;rw [hk];rfl)).mono (fun e w' h=>⟨h.1,by first|exact h.2|exact h.2.below⟩)
theorem counts_ok {x:S25} (h:Sz x):∃ p:Bool,(∃ k,spec_JCounts.f k x.f0 x.f1 x.f2 x.f3 x.f4 x.f5=some p)∧∀ (W:World) (A4 A5:Option Addr) (c4 c5:Nat),Rep W x A4 c4 A5 c5→Calls Tryz.prog 13 #[.agg (jvc x A4 A5 c4 c5)] W (rb (.bool p) W):=by
 obtain ⟨k,p,hk⟩:=(counts_ev h).of
 refine ⟨p,⟨k,hk⟩,fun W A4 A5 c4 c5 hx=> ?_⟩
 exact (spec_JCounts.calls k x.f0 x.f1 x.f2 x.f3 A4 c4 x.f4 A5 c5 x.f5 p W hx.h4 hx.l4 hx.h5 hx.l5 hk).mono (fun e w' h=>⟨h.1,by first|exact h.2|exact h.2.below⟩)
theorem fits5_ok {x:S25} (h:Sz x):∃ p:Bool,∀ (W:World) (A4 A5:Option Addr) (c4 c5:Nat),Rep W x A4 c4 A5 c5→Calls Tryz.prog 6 #[.agg (jvc x A4 A5 c4 c5)] W (rb (.bool p) W):=by
 obtain ⟨k,p,hk⟩:=(fits5_ev h).of
 refine ⟨p,fun W A4 A5 c4 c5 hx=> ?_⟩
 exact (laws_zzFits5.calls k x.f0 x.f1 x.f2 x.f3 A4 c4 x.f4 A5 c5 x.f5 p W hx.h4 hx.l4 hx.h5 hx.l5 hk).mono (fun e w' h=>⟨h.1,by first|exact h.2|exact h.2.below⟩)
theorem fits4_ok (l:List ByteArray) (hn:l.length≤LM):∃ p:Bool,∀ (W:World) (A:Option Addr) (c:Nat),Kd.C Kd.string W A l.length l→l.length≤c→Calls Tryz.prog 5 #[.slice A l.length c] W (rb (.bool p) W):=by
 obtain ⟨k,p,hk⟩:=(fits4_ev l hn).of
 refine ⟨p,fun W A c h hc=> ?_⟩
 exact (laws_zzFits4.calls k A c l p W h hc hk).mono (fun e w' h=>⟨h.1,by first|exact h.2|exact h.2.below⟩)
end Go.Proofs.YtkphbhncpdcbeaaGreatDoor.J
