/- Part. -/
import Derived.Test.YtlblbefbbibpaaaGreatDoorQAS
import Derived.Maps.Keyed
import Derived.Maps.RangeRun
import Derived.Ground.GgsProg
import Derived.Shelf.GgSortFunc.Tiny
import Derived.Shelf.SlSortFuncK.WholeK
import Derived.Test.YtlblbefbbibpaaaGreatDoorProg
set_option linter.unusedVariables false
set_option linter.unusedSimpArgs false
set_option maxHeartbeats 8000000
set_option maxRecDepth 100000
namespace Go.Proofs.YtlblbefbbibpaaaGreatDoor.J
open Go.RowKit Zw Zw.PrintWords Zw.PrintLast Zw.PrintMore PAM
theorem bl_lt (a b:ByteArray):bl a b=decide (a.toList < b.toList):=by
 have key:∀ (x y:List UInt8),Op.bytesLess x y=decide (x < y):=by
  intro x
  induction x with
  |nil=>intro y;cases y<;>simp [Op.bytesLess]
  |cons a x ih=>
   intro y
   cases y with
   |nil=>simp [Op.bytesLess]
   |cons b y=>
    rw [Op.bytesLess,ih y]
    simp only [List.cons_lt_cons_iff]
    by_cases h1:a < b<;>by_cases h2:a=b<;>by_cases h3:x < y<;>simp [h1,h2,h3]
 exact key _ _
theorem bl_irr (a:ByteArray):bl a a=false:=by rw [bl_lt];simp
theorem bl_trans {a b c:ByteArray} (h:bl a b=true) (h':bl b c=true):bl a c=true:=by
 rw [bl_lt,decide_eq_true_eq] at *
 exact List.lt_trans h h'
theorem bl_ntrans {a b c:ByteArray} (h:bl a b=false) (h':bl b c=false):bl a c=false:=by
 rw [bl_lt,decide_eq_false_iff_not,List.not_lt] at *
 exact List.le_trans h' h
theorem bl_tot {a b:ByteArray} (h:bl a b=false) (hn:a.toList≠b.toList):bl b a=true:=by
 rw [bl_lt,decide_eq_false_iff_not,List.not_lt] at h
 rw [bl_lt,decide_eq_true_eq]
 rcases List.le_iff_lt_or_eq.1 h with h1|h1
 ·exact h1
 ·exact absurd h1.symm hn
theorem toList_eq {a b:ByteArray} (h:a.toList=b.toList):a=b:=by
 have h1:a.data.toList=b.data.toList:=by rw [← ByteArray.toList_eq,← ByteArray.toList_eq,h]
 cases a;cases b
 congr
 exact Array.toList_inj.1 h1
theorem bl_ne {a b:ByteArray} (h:bl a b=true):a≠b:=fun e=>by subst e;rw [bl_irr] at h;cases h
def Rising {α:Type} (L:List (ByteArray×α)):Prop:=L.Pairwise (fun a b=>bl a.1 b.1=true)
theorem ins_mem {α:Type} {L:List (ByteArray×α)} (h:Rising L) (k x:ByteArray×α):x∈ins L k↔x=k∨(x∈L∧x.1≠k.1):=by
 induction L with
 |nil=>simp [ins]
 |cons g t ih=>
  have ht:Rising t:=(List.pairwise_cons.1 h).2
  have hg:∀ y∈t,bl g.1 y.1=true:=(List.pairwise_cons.1 h).1
  unfold ins
  by_cases hb:bl g.1 k.1=true
  ·rw [if_pos hb,List.mem_cons,ih ht,List.mem_cons]
   have hne:=bl_ne hb
   constructor
   ·rintro (rfl|h1|h1)
    ·exact .inr ⟨.inl rfl,hne⟩
    ·exact .inl h1
    ·exact .inr ⟨.inr h1.1,h1.2⟩
   ·rintro (h1|⟨h1|h1,h2⟩)
    ·exact .inr (.inl h1)
    ·exact .inl h1
    ·exact .inr (.inr ⟨h1,h2⟩)
  ·rw [if_neg hb]
   have hb':bl g.1 k.1=false:=by simpa using hb
   by_cases he:g.1.toList=k.1.toList
   ·rw [if_pos he]
    have e1:g.1=k.1:=toList_eq he
    simp only [List.mem_cons]
    constructor
    ·rintro (rfl|h1)
     ·exact .inl rfl
     ·exact .inr ⟨.inr h1,fun e=>bl_ne (hg x h1) (e1.trans e.symm)⟩
    ·rintro (h1|⟨rfl|h1,h2⟩)
     ·exact .inl h1
     ·exact absurd e1 h2
     ·exact .inr h1
   ·rw [if_neg he]
    have hk:bl k.1 g.1=true:=bl_tot hb' he
    simp only [List.mem_cons]
    constructor
    ·rintro (h1|rfl|h1)
     ·exact .inl h1
     ·exact .inr ⟨.inl rfl,fun e=>he (by rw [e])⟩
     ·exact .inr ⟨.inr h1,fun e=>bl_ne (bl_trans hk (hg x h1)) e.symm⟩
    ·rintro (h1|⟨h1|h1,h2⟩)
     ·exact .inl h1
     ·exact .inr (.inl h1)
     ·exact .inr (.inr h1)
theorem ins_rising {α:Type} {L:List (ByteArray×α)} (h:Rising L) (k:ByteArray×α):Rising (ins L k):=by
 induction L with
 |nil=>exact List.pairwise_singleton _ _
 |cons g t ih=>
  have ht:Rising t:=(List.pairwise_cons.1 h).2
  have hg:∀ y∈t,bl g.1 y.1=true:=(List.pairwise_cons.1 h).1
  unfold ins
  by_cases hb:bl g.1 k.1=true
  ·rw [if_pos hb]
   refine List.pairwise_cons.2 ⟨fun y hy=> ?_,ih ht⟩
   rcases (ins_mem ht k y).1 hy with rfl|⟨h1,_⟩
   ·exact hb
   ·exact hg y h1
  ·rw [if_neg hb]
   have hb':bl g.1 k.1=false:=by simpa using hb
   by_cases he:g.1.toList=k.1.toList
   ·rw [if_pos he]
    refine List.pairwise_cons.2 ⟨fun y hy=> ?_,ht⟩
    rw [← toList_eq he]
    exact hg y hy
   ·rw [if_neg he]
    have hk:bl k.1 g.1=true:=bl_tot hb' he
    refine List.pairwise_cons.2 ⟨fun y hy=> ?_,h⟩
    rcases List.mem_cons.1 hy with rfl|hy
    ·exact hk
    ·exact bl_trans hk (hg y hy)
theorem foldl_ins_rising {α:Type} (ds:List (ByteArray×α)):∀ {L:List (ByteArray×α)},Rising L→Rising (ds.foldl ins L):=by
 induction ds with
 |nil=>exact fun h=>h
 |cons d ds ih=>exact fun h=>ih (ins_rising h d)
theorem rising_one {α:Type} {L M:List (ByteArray×α)} (hL:Rising L) (hM:Rising M) (h:∀ x,x∈L↔x∈M):L=M:=by
 induction L generalizing M with
 |nil=>
  cases M with
  |nil=>rfl
  |cons y M=>exact absurd ((h y).2 List.mem_cons_self) List.not_mem_nil
 |cons x L ih=>
  cases M with
  |nil=>exact absurd ((h x).1 List.mem_cons_self) List.not_mem_nil
  |cons y M=>
   have hx:∀ z∈L,bl x.1 z.1=true:=(List.pairwise_cons.1 hL).1
   have hy:∀ z∈M,bl y.1 z.1=true:=(List.pairwise_cons.1 hM).1
   have e:x=y:=by
    rcases List.mem_cons.1 ((h x).1 List.mem_cons_self) with e|h1
    ·exact e
    ·rcases List.mem_cons.1 ((h y).2 List.mem_cons_self) with e|h2
     ·exact e.symm
     ·have:=bl_trans (hx y h2) (hy x h1)
      rw [bl_irr] at this
      cases this
   subst e
   congr 1
   refine ih (List.pairwise_cons.1 hL).2 (List.pairwise_cons.1 hM).2 fun z=>⟨fun hz=> ?_,fun hz=> ?_⟩
   ·rcases List.mem_cons.1 ((h z).1 (List.mem_cons_of_mem _ hz)) with rfl|h1
    ·have:=hx z hz;rw [bl_irr] at this;cases this
    ·exact h1
   ·rcases List.mem_cons.1 ((h z).2 (List.mem_cons_of_mem _ hz)) with rfl|h1
    ·have:=hy z hz;rw [bl_irr] at this;cases this
    ·exact h1
def Upd {α:Type} (m:List (ByteArray×α)) (k:ByteArray×α) (m':List (ByteArray×α)):Prop:=
 ((∀ x∈m,x.1≠k.1)∧m'=m ++ [k])∨∃ (j:Nat) (x:ByteArray×α),m[j]? =some x∧x.1=k.1∧m'=m.set j k
theorem Upd.len {α:Type} {m m':List (ByteArray×α)} {k:ByteArray×α} (h:Upd m k m'):m'.length≤m.length + 1:=by
 rcases h with ⟨_,rfl⟩|⟨j,x,_,_,rfl⟩<;>simp
theorem Upd.mem {α:Type} {m m':List (ByteArray×α)} {k:ByteArray×α} (h:Upd m k m') (hm:(m.map Prod.fst).Nodup) (x:ByteArray×α):x∈m'↔x=k∨(x∈m∧x.1≠k.1):=by
 rcases h with ⟨hn,rfl⟩|⟨j,y,hj,hy,rfl⟩
 ·simp only [List.mem_append,List.mem_singleton]
  exact ⟨fun h=>h.elim (fun h=> .inr ⟨h,hn x h⟩) .inl,fun h=>h.elim .inr (fun h=> .inl h.1)⟩
 ·have hjl:=(List.getElem?_eq_some_iff.1 hj).1
  constructor
  ·intro hx
   obtain ⟨i,hi,e⟩:=List.getElem_of_mem hx
   by_cases hij:i=j
   ·subst hij
    left
    rw [← e]
    simp
   ·right
    rw [List.getElem_set_ne (by omega)] at e
    have hi':i < m.length:=by simpa using hi
    have hxm:x∈m:=by rw [← e];exact List.getElem_mem _
    refine ⟨hxm,fun e1=>hij ?_⟩
    have h1:(m.map Prod.fst)[i]? =some x.1:=by simp [List.getElem?_eq_getElem hi',e]
    have h2:(m.map Prod.fst)[j]? =some x.1:=by simp [hj,hy,e1]
    exact (List.getElem?_inj (by simpa using hi') hm).1 (h1.trans h2.symm)
  ·rintro (rfl|⟨hx,hne⟩)
   ·exact List.mem_iff_getElem.2 ⟨j,by simpa using hjl,by simp⟩
   ·obtain ⟨i,hi,e⟩:=List.getElem_of_mem hx
    have hij:i≠j:=fun e1=>by
     subst e1
     rw [List.getElem?_eq_getElem hi,e] at hj
     cases hj
     exact hne hy
    exact List.mem_iff_getElem.2 ⟨i,by simpa using hi,by rw [List.getElem_set_ne (by omega)];exact e⟩
end Go.Proofs.YtlblbefbbibpaaaGreatDoor.J
namespace Go.Proofs.YtlblbefbbibpaaaGreatDoor.J
open Go.RowKit Zw Zw.PrintWords Zw.PrintLast Zw.PrintMore PAM
open Go.MapKept Go.WideShapes
open Go.ChangeMaps (setBlock)
structure ME (es:Array MapEntry) (clock:Nat) (m:List (ByteArray×Value)):Prop where
 st:Stamped es clock
 eq:es.toList.map (fun x=>(x.key,x.val))=m.map (fun p=>(Value.string p.1,p.2))
 sz:∀ p∈m,p.1.size≤1048576
theorem ME.made:ME #[] 0 []:=⟨stamped_empty 0,rfl,fun _ h=>by cases h⟩
theorem ME.get {es:Array MapEntry} {clock:Nat} {m:List (ByteArray×Value)} (h:ME es clock m) {j:Nat} {e:MapEntry} (he:es.toList[j]? =some e):∃ p,m[j]? =some p∧e.key= .string p.1∧e.val=p.2:=by
 have h1:=congrArg (fun l=>l[j]?) h.eq
 simp only [List.getElem?_map,he,Option.map_some] at h1
 cases hm:m[j]? with
 |none=>rw [hm] at h1;cases h1
 |some p=>
  rw [hm] at h1
  simp only [Option.map_some,Option.some.injEq,Prod.mk.injEq] at h1
  exact ⟨p,rfl,h1.1,h1.2⟩
theorem ME.len {es:Array MapEntry} {clock:Nat} {m:List (ByteArray×Value)} (h:ME es clock m):m.length=es.size:=by
 have:=congrArg List.length h.eq
 simpa using this.symm
theorem ME.names {es:Array MapEntry} {clock:Nat} {m:List (ByteArray×Value)} (h:ME es clock m):(m.map Prod.fst).Nodup:=by
 have h1:es.toList.map (·.key)=m.map (fun p=>Value.string p.1):=by
  have:=congrArg (List.map Prod.fst) h.eq
  simpa [List.map_map,Function.comp_def] using this
 have h2:=h.st.2.2
 rw [h1] at h2
 have e:m.map (fun p=>Value.string p.1)=(m.map Prod.fst).map Value.string:=by simp [List.map_map,Function.comp_def]
 rw [e] at h2
 exact (List.pairwise_map.1 h2).imp (fun h e=>h (by rw [e]))
theorem key9 {s:ByteArray} (hs:s.size≤1048576):keyOf Tryz.prog 9 (.string s)=some (lit s):=by
 simp [keyOf,Tryz.underlying9,mapKey]
 unfold maxLen
 omega
theorem ME.store {es:Array MapEntry} {clock:Nat} {m:List (ByteArray×Value)} (h:ME es clock m) {W:World} {g:Nat} (hb:W.heap[g]? =some (.map es clock)) {t e:TypeId} (ht:Tryz.prog.underlying t=some (.map 9 e)) {s:ByteArray} (hss:s.size≤1048576) (v:Value):
  ∃ es' clock' m',(Instr.mapUpdate t (.map (some g)) (.string s) v).run Tryz.prog W= .ok () (setBlock W g (.map es' clock'))∧Upd m (s,v) m'∧ME es' clock' m':=by
 have K:Go.Maps.Keyed Tryz.prog 9:=Go.Maps.string_keyed Tryz.underlying9
 have hkey:=key9 hss
 have hkeys:∀ x∈es.toList,∃ l,keyOf Tryz.prog 9 x.key=some l:=fun x hx=>by
  obtain ⟨j,hj,e⟩:=List.getElem_of_mem hx
  obtain ⟨p,hp,h1,_⟩:=h.get (j:=j) (by rw [List.getElem?_eq_getElem hj,e])
  exact ⟨_,by rw [h1];exact key9 (h.sz p (List.mem_of_getElem? hp))⟩
 rcases K.find W hkey es.toList hkeys with ⟨h1,h2⟩|⟨j,e0,h1,h2,h3⟩
 ·refine ⟨es.push ⟨.string s,v,clock⟩,clock + 1,m ++ [(s,v)],?_,.inl ⟨fun x hx=> ?_,rfl⟩,⟨stamped_push h.st h2,?_,?_⟩⟩
  ·simp [Instr.mapUpdate,run_underlying ht,MapKept.run_getObj_map hb,K.check W false hkey,h1,MapKept.run_setObj_map _ hb,Result.andThen,setBlock]
  ·obtain ⟨i,hi,e⟩:=List.getElem_of_mem hx
   have hie:i < es.toList.length:=by have:=h.len;simp;omega
   obtain ⟨p,h4,h5,_⟩:=h.get (j:=i) (List.getElem?_eq_getElem hie)
   rw [List.getElem?_eq_getElem hi,e] at h4
   cases h4
   intro e1
   exact h2 _ (List.getElem_mem hie) (by rw [h5,e1])
  ·rw [Array.toList_push,List.map_append,h.eq,List.map_append]
   rfl
  ·intro q hq
   rcases List.mem_append.1 hq with hq|hq
   ·exact h.sz q hq
   ·rw [List.mem_singleton.1 hq];exact hss
 ·have hj:es[j]? =some e0:=by simpa using h2
  obtain ⟨p,h4,h5,_⟩:=h.get h2
  have hps:p.1=s:=by
   rw [h3] at h5
   exact (Value.string.inj h5).symm
  have hlist:(es.modify j (fun e'=>{e' with key:= .string s,val:=v})).toList=es.toList.set j {e0 with key:= .string s,val:=v}:=by rw [Array.toList_modify,Go.ChangeMaps.modify_eq_set _ _ _ _ h2]
  refine ⟨es.modify j (fun e'=>{e' with key:= .string s,val:=v}),clock,m.set j (s,v),?_,.inr ⟨j,p,h4,hps,rfl⟩,⟨stamped_modify h.st _ _ (fun _ _=>rfl) (fun e' _ he'=>by rw [hj] at he';cases he';exact h3.symm),?_,?_⟩⟩
  ·simp [Instr.mapUpdate,run_underlying ht,MapKept.run_getObj_map hb,K.check W false hkey,h1,hj,h3,K.stays W hkey,MapKept.run_setObj_map _ hb,Result.andThen,setBlock]
  ·rw [hlist,List.map_set,List.map_set,h.eq]
  ·intro q hq
   rcases List.mem_or_eq_of_mem_set hq with hq|rfl
   ·exact h.sz q hq
   ·exact hss
end Go.Proofs.YtlblbefbbibpaaaGreatDoor.J
namespace Go.Proofs.YtlblbefbbibpaaaGreatDoor.J
open Go.RowKit Zw Zw.PrintWords Zw.PrintLast Zw.PrintMore PAM
abbrev mk3 (gs:Nat) (ln:Int):Array Value:=#[.pointer (some ⟨gs,0,none⟩),.int .i64 ln,.bool false]
def Fact.maker (b gm gs:Nat):Fact where
 P W:=b≤gm∧∃ ln,W.heap[gm]? =some (row (mk3 gs ln) 79)
 below:=fun ⟨h0,ln,h⟩ hb=>⟨h0,ln,blk_below h hb⟩
 far:=fun {W W1 g o} ⟨h0,ln,h⟩ hg ho ha=>⟨h0,ln,by
  by_cases e:gm=g
  ·subst e
   rw [h] at hg
   cases hg
   simp [noData,datT] at ho
  ·rw [ha gm e];exact h⟩
theorem maker_stays {b gm gs:Nat} {e:TypeId} (h:e≠79):(Fact.maker b gm gs).stays e:=by
 rintro W W1 v ⟨h0,ln,hh⟩ hk hg
 refine ⟨h0,ln,(hg.block gm (blk_lt hh) ?_).trans hh⟩
 intro e1
 obtain ⟨cells,hc⟩:=hk gm e1.symm
 rw [hh] at hc
 cases hc
 exact h rfl
def Clean (l:List Blk):Prop:=∀ b∈l,∃ g cs t,b= .b g (row cs t)∧t≠79
theorem Clean.nil:Clean []:=fun _ h=>by cases h
theorem Clean.cons {g:Nat} {cs:Array Value} {t:TypeId} {l:List Blk} (h:Clean l) (ht:t≠79):Clean (.b g (row cs t)::l):=fun b hb=>by
 rcases List.mem_cons.1 hb with rfl|hb
 ·exact ⟨_,_,_,rfl,ht⟩
 ·exact h b hb
theorem Clean.app {l l':List Blk} (h:Clean l) (h':Clean l'):Clean (l ++ l'):=fun b hb=>by
 rcases List.mem_append.1 hb with hb|hb
 ·exact h b hb
 ·exact h' b hb
theorem Clean.offF {l:List Blk} (h:Clean l):offF 79 l:=by
 induction l with
 |nil=>trivial
 |cons b l ih=>
  obtain ⟨g,cs,t,rfl,ht⟩:=h b List.mem_cons_self
  exact ⟨ht,ih (fun x hx=>h x (List.mem_cons_of_mem _ hx))⟩
theorem Clean.offG {l:List Blk} (h:Clean l) (e:TypeId):offG e l:=by
 induction l with
 |nil=>trivial
 |cons b l ih=>
  obtain ⟨g,cs,t,rfl,ht⟩:=h b List.mem_cons_self
  exact ih (fun x hx=>h x (List.mem_cons_of_mem _ hx))
theorem PR.clean {b:Nat} {pr:List Blk} {e:TypeId} {sz:Nat} {v:Value} {n:Nat} {cells:List Value} (h:PR b pr e sz v n cells) (he:e≠79):Clean pr:=by
 rcases h with ⟨rfl,_⟩|⟨g,cap,cur,rfl,_⟩
 ·exact Clean.nil
 ·exact Clean.nil.cons he
theorem nums_off {l:List Blk} {W:World} {gm:Nat} {cs:Array Value} {e:TypeId} (h:Keeps l W) (hf:offF e l) (hg:W.heap[gm]? =some (row cs e)):gm∉nums l:=by
 induction l with
 |nil=>intro h;cases h
 |cons b l ih=>
  cases b with
  |f F=>exact ih h.2 hf.2
  |b k o=>
   intro hm
   rcases List.mem_cons.1 hm with e1|hm2
   ·subst e1
    have e2:=h.1.symm.trans hg
    cases e2
    exact hf.1 rfl
   ·clear hm;cases o<;>first|exact ih h.2 hf.2 hm2|exact ih h.2 hf hm2
theorem At.see {w W:World} {l:List Blk} {gm gs:Nat} (H:At w (.f (Fact.maker w.heap.size gm gs)::l) W) (hf:offF 79 l):w.heap.size≤gm∧∃ ln,At w (.b gm (row (mk3 gs ln) 79)::l) W:=by
 obtain ⟨h0,ln,h⟩:=H.k.1
 exact ⟨h0,ln,H.drop.hold h (nums_off H.k.2 hf h)⟩
theorem At.unsee {w W:World} {l:List Blk} {gm gs:Nat} {ln:Int} (H:At w (.b gm (row (mk3 gs ln) 79)::l) W) (h0:w.heap.size≤gm):At w (.f (Fact.maker w.heap.size gm gs)::l) W:=H.drop.fact _ ⟨h0,ln,H.k.1⟩
theorem grown_set {W:World} {g i:Nat} {v:Value}:W.grownBy (W.setCell ⟨g,i,none⟩ v) (some g):=⟨rfl,rfl,rfl,by simp [World.setCell],fun j hj hne=>Below.heap_setCell W ⟨g,i,none⟩ v j (fun e=>hne (by rw [e]))⟩
theorem At.set79 {w W:World} {l:List Blk} {gm i:Nat} {cs new:Array Value} {v:Value} (H:At w (.b gm (row cs 79)::l) W) (hf:offF 79 l) (h0:w.heap.size≤gm) (e:cs.setIfInBounds i v=new):At w (.b gm (row new 79)::l) (W.setCell ⟨gm,i,none⟩ v):=by
 subst e
 have H1:=At.grownF (v:= .slice (some ⟨gm,0,none⟩) 1 1) (e:=79) H.drop hf (fun k hk=>by
  obtain rfl:gm=k:=by simpa [Value.ownBlock] using hk
  exact ⟨h0,cs,H.k.1⟩) (grown_set (W:=W) (g:=gm) (i:=i) (v:=v))
 exact H1.hold (blk_set H.k.1 i v) (List.nodup_cons.1 H.d).1
theorem set79_at {P:Program} {ops:Array Oper} {rest:List Oper} {o:Oper} {a:Act} {Q:Exit→Act→World→Prop} {w W:World} {l:List Blk} {t:TypeId} {p:Tmp} {y:Operand} {gm i:Nat} {cs:Array Value} {v:Value} (new:Array Value) (e:cs.setIfInBounds i v=new) (H:At w (.b gm (row cs 79)::l) W) (hf:offF 79 l) (h0:w.heap.size≤gm) (hgd:o.guard=none) (_ho:o.op= .store t (.tmp p) y) (hN:o.dst=none)
  (hrun:(execOp a.eval o).run P W= .ok .skip (W.setCell ⟨gm,i,none⟩ v))
  (h:∀ w1,At w (.b gm (row new 79)::l) w1→wpList P ops Q rest a w1):wpList P ops Q (o::rest) a W:=
 store_event hgd _ho hN hrun (fun w' e'=>h w' (by rw [e'];exact H.set79 hf h0 e))
def Made (w0:World) (l:List Blk) (gm gs:Nat) (Q:Nat→List Blk→Prop) (e:Ending) (w':World):Prop:=
 ∃ (gx:Nat) (sn:List Blk),e= .returned (.pointer (some ⟨gx,0,none⟩))∧Q gx sn∧Clean sn∧At w0 (.f (Fact.maker w0.heap.size gm gs)::(sn ++ l)) w'
theorem pos_ok {w0 w:World} {l:List Blk} {gm gs:Nat} (H:At w0 (.f (Fact.maker w0.heap.size gm gs)::l) w) (hl:Clean l):
  Calls Tryz.prog 36 #[.pointer (some ⟨gm,0,none⟩)] w (Made w0 l gm gs (fun _ _=>True)):=by
 obtain ⟨h0,ln,H1⟩:=H.see hl.offF;obtain ⟨H0_,Hl_⟩:=as2_ h0 hl;clear H h0 hl
 have HK:=asd_ H1
 clear H1
 replace Bc:=ce1_ HK 0;replace Bf:=fe1_ HK 0
 go_enter Tryz.func36,Tryz.ntmps36
 go_wp2_with (first|((with_reducible refine gate_ (.store 3 (.tmp 9) (.tmp 7)) rfl ?_);refine set79_at (t:=3) (p:=9) (i:=1) (v:= .int .i64 (wrap64 (ln + 1))) (mk3 gs (wrap64 (ln + 1))) rfl HK.out Hl_.out.offF H0_.out rfl rfl rfl gs_ ?_;intro ws HK1;replace HK:=asd_ HK1;clear HK1;replace Bc:=ce1_ HK 0;replace Bf:=fe1_ HK 0))
 refine su1_ 11 HK 0 [] (fun HS hHeld=> ?_)
 refine pu_ 0 10 1 ?_
 refine pu_ 1 11 3 ?_
 refine pu_ 2 12 7 ?_
 refine pu_ 4 14 23 ?_
 refine pu_ 5 15 55 ?_
 refine pu_ 6 16 119 ?_
 refine ta2_ 3 13 127 hHeld ?_
 refine ta2_ 7 17 255 hHeld ?_
 refine pu_ 8 18 511 ?_
 refine on_ 9 19 1023 (fun K hK=> ?_)
 have HE:=asd_ (hHeld.1)
 refine ne_ 19 (row #[i0,i0,.int .i64 (wrap64 (ln + 1)),.int .i64 1,.pointer (some ⟨gs,0,none⟩)] 133) (fun g=> .pointer (some ⟨g,0,none⟩)) ?_
 intro gp w3 HE0 hggp
 have Ggp:=asd_ hggp
 clear hggp
 replace HE:=asd_ HE0;clear HE0
 refine hK.out _ _ (HS (At.sub HE.out (List.Sublist.cons _ (List.Sublist.cons_cons _ (List.Sublist.refl _))))) (fun hHeld=> ?_)
 clear hK K
 refine nq_ 19 ?_
 refine pu_ 10 2 2047 ?_
 refine done_ kr_ ?_
 clear HK;have HK:=HE;clear HE
 clear hHeld
 replace Bc:=ce1_ HK 1
 replace Bf:=fe1_ HK 1
 go_wp2_with fail
 go_ret
 exact ⟨gp,[],rfl,trivial,Clean.nil,At.unsee (At.sub (show At w0 (.b gp (row #[i0,i0,.int .i64 (wrap64 (ln + 1)),.int .i64 1,.pointer (some ⟨gs,0,none⟩)] 133):: .b gm (row (mk3 gs (wrap64 (ln + 1))) 79)::l) _ from at_) (List.Sublist.cons _ (List.Sublist.refl _))) H0_.out⟩
abbrev ptr (g:Nat):Value:= .pointer (some ⟨g,0,none⟩)
def KidB (sn:List Blk) (t:TypeId) (g:Nat) (nm:ByteArray) (c:Nat):Prop:=∃ q,Blk.b g (row #[.string nm,ptr c,ptr q,nP] t)∈sn
abbrev vc (v:Vl) (cv:Value) (gp:Nat):Array Value:=#[.string v.raw,cv,.int .i64 v.kind,ptr gp,nP,nP,nP,nP,bF]
inductive VB (sn:List Blk):Nat→Vl→Prop where
 |mk {gx gp b:Nat} {v:Vl} {cv:Value} {pr:List Blk} {ps cs:List Nat}:Blk.b gx (row (vc v cv gp) 129)∈sn→PR b pr 130 1 cv v.kids.length (ps.map ptr)→(∀ x∈pr,x∈sn)→ps.length=v.kids.length→cs.length=v.kids.length→
  (∀ (i g c:Nat) (x:Kid),ps[i]? =some g→cs[i]? =some c→v.kids[i]? =some x→KidB sn 131 g x.1 c)→(∀ (i c:Nat) (x:Kid),cs[i]? =some c→v.kids[i]? =some x→VB sn c x.2)→VB sn gx v
theorem KidB.mono {sn sn':List Blk} (h:∀ x∈sn,x∈sn') {t:TypeId} {g c:Nat} {nm:ByteArray} (hb:KidB sn t g nm c):KidB sn' t g nm c:=let ⟨q,hq⟩:=hb;⟨q,h _ hq⟩
theorem VB.mono {sn sn':List Blk} (h:∀ x∈sn,x∈sn') {g:Nat} {v:Vl} (hb:VB sn g v):VB sn' g v:=by
 induction hb with
 |mk h1 h2 h3 h4 h5 h6 h7 ih=>exact .mk (h _ h1) h2 (fun x hx=>h _ (h3 x hx)) h4 h5 (fun i g c x a b d=>(h6 i g c x a b d).mono h) ih
structure KidsB (sn:List Blk) (t:TypeId) (ps cs:List Nat) (kids:List Kid) (k:Nat):Prop where
 lp:ps.length=k
 lc:cs.length=k
 kb:∀ (i g c:Nat) (x:Kid),ps[i]? =some g→cs[i]? =some c→kids[i]? =some x→KidB sn t g x.1 c
 vb:∀ (i c:Nat) (x:Kid),cs[i]? =some c→kids[i]? =some x→VB sn c x.2
theorem KidsB.zero (t:TypeId) (kids:List Kid):KidsB [] t [] [] kids 0:=⟨rfl,rfl,fun _ _ _ _ h=>by simp at h,fun _ _ _ h=>by simp at h⟩
theorem KidsB.next {sn sn':List Blk} {t:TypeId} {ps cs:List Nat} {kids:List Kid} {k g c:Nat} {x:Kid} (h:KidsB sn t ps cs kids k) (hs:∀ b∈sn,b∈sn') (hx:kids[k]? =some x) (hk:KidB sn' t g x.1 c) (hv:VB sn' c x.2):KidsB sn' t (ps ++ [g]) (cs ++ [c]) kids (k + 1):=by
 obtain ⟨lp,lc,kb,vb⟩:=h
 have hi:∀ {l:List Nat} {y z i:Nat},l.length=k→(l ++ [y])[i]? =some z→(i < k∧l[i]? =some z)∨(i=k∧y=z):=by
  intro l y z i hl h
  rcases Nat.lt_or_ge i k with h1|h1
  ·rw [List.getElem?_append_left (by omega)] at h;exact .inl ⟨h1,h⟩
  ·rw [List.getElem?_append_right (by omega)] at h
   have:i - l.length=0:=by
    rcases Nat.eq_zero_or_pos (i - l.length) with h2|h2
    ·exact h2
    ·rw [List.getElem?_eq_none (by simp;omega)] at h;cases h
   rw [this] at h
   exact .inr ⟨by omega,by simpa using h⟩
 refine ⟨by simp [lp],by simp [lc],fun i g' c' y h1 h2 h3=> ?_,fun i c' y h2 h3=> ?_⟩
 ·rcases hi lp h1 with ⟨h4,h5⟩|⟨rfl,rfl⟩
  ·rcases hi lc h2 with ⟨_,h6⟩|⟨h6,_⟩
   ·exact (kb i g' c' y h5 h6 h3).mono hs
   ·omega
  ·rcases hi lc h2 with ⟨h6,_⟩|⟨_,rfl⟩
   ·omega
   ·rw [hx] at h3;cases h3;exact hk
 ·rcases hi lc h2 with ⟨_,h6⟩|⟨rfl,rfl⟩
  ·exact (vb i c' y h6 h3).mono hs
  ·rw [hx] at h3;cases h3;exact hv
theorem At.back {w W:World} {m:Blk} {sn X:List Blk} (L:List Blk) (H:At w (m::(sn ++ (L ++ X))) W):At w (L ++ (m::(sn ++ X))) W:=by
 refine H.perm (List.Perm.trans ?_ List.perm_middle.symm)
 exact (List.perm_append_comm_assoc sn L X).cons m
theorem At.back0 {w W:World} {m:Blk} {sn X:List Blk} (L:List Blk) (H:At w (m::(sn ++ (L ++ X))) W):At w (L ++ (m::X)) W:=by
 have h1:At w (m::(L ++ X)) W:=At.off (L:=[m]) sn H
 exact h1.perm List.perm_middle.symm
theorem At.pack {w W:World} {bk:Blk} {sn1 pr sn l:List Blk} (L:List Blk) (H:At w (bk::(L ++ (sn1 ++ (pr ++ (sn ++ l))))) W):At w (L ++ (pr ++ ((bk::(sn1 ++ sn)) ++ l))) W:=by
 refine H.perm ?_
 have h1:(sn1 ++ (pr ++ (sn ++ l))).Perm (pr ++ (sn1 ++ (sn ++ l))):=List.perm_append_comm_assoc _ _ _
 have h2:(bk::(L ++ (sn1 ++ (pr ++ (sn ++ l))))).Perm (L ++ (pr ++ (bk::(sn1 ++ (sn ++ l))))):=by
  refine ((h1.append_left L).cons bk).trans ?_
  refine List.perm_middle.symm.trans ?_
  exact List.perm_middle.symm.append_left L
 simpa [List.append_assoc] using h2
theorem info130:(Tryz.prog.info? 130).map (fun i=>(i.zero,i.size,i.bytes))=some (some nP,1,8):=by kernel_rfl
end Go.Proofs.YtlblbefbbibpaaaGreatDoor.J
namespace Go.Proofs.YtlblbefbbibpaaaGreatDoor.J
open Go.RowKit Zw Zw.PrintWords Zw.PrintLast Zw.PrintMore PAM
open Go.MapKept Go.WideShapes
open Go.ChangeMaps (setBlock heap_setBlock_same)
inductive AB (sn:List Blk):Value→Dt→Prop where
 |null:AB sn .nilIface dNull
 |bool {b:Bool}:AB sn (.iface 4 (.bool b)) (dBool b)
 |int {n:Int}:AB sn (.iface 2 (.int .i64 n)) (dInt n)
 |float {f:Nat}:AB sn (.iface 97 (.float .f64 f)) (dFloat f)
 |str {s:ByteArray}:AB sn (.iface 9 (.string s)) (dStr s)
 |list {v:Value} {b:Nat} {pr:List Blk} {us:List Value} {ds:List (ByteArray×Dt)}:PR b pr 20 1 v ds.length us→(∀ y∈pr,y∈sn)→us.length=ds.length→(∀ (i:Nat) (d:ByteArray×Dt) (t:Value),ds[i]? =some d→us[i]? =some t→AB sn t d.2)→(∀ d∈ds,d.1=⟨#[]⟩)→ds.length≤1073741824→AB sn (.iface 114 v) (dList ds)
 |obj {g clock:Nat} {es:Array MapEntry} {m:List (ByteArray×Value)} {ds L:List (ByteArray×Dt)}:Blk.b g (.map es clock)∈sn→ME es clock m→m.map Prod.fst=ds.map Prod.fst→(∀ (i:Nat) (d:ByteArray×Dt) (p:ByteArray×Value),ds[i]? =some d→m[i]? =some p→AB sn p.2 d.2)→Rising L→(∀ x,x∈L↔x∈ds)→m.length≤1073741824→AB sn (.iface 81 (.map (some g))) (dObj L)
theorem AB.mono {sn sn':List Blk} (h:∀ x∈sn,x∈sn') {u:Value} {x:Dt} (hb:AB sn u x):AB sn' u x:=by
 induction hb with
 |null=>exact .null
 |bool=>exact .bool
 |int=>exact .int
 |float=>exact .float
 |str=>exact .str
 |list h1 h2 h3 h4 h5 h6 ih=>exact .list h1 (fun y hy=>h _ (h2 y hy)) h3 ih h5 h6
 |obj h1 h2 h3 h4 h5 h6 h7 ih=>exact .obj (h _ h1) h2 h3 ih h5 h6 h7
theorem AB.one {sn:List Blk} {u:Value} {x:Dt} (h:AB sn u x):u.oneCell'=true:=by cases h<;>rfl
def VA (x:Dt) (w:World) (e:Ending) (w':World):Prop:=
 ∃ (a:Value) (sn:List Blk),e= .returned (.tuple #[a,.nilIface])∧AB sn a x∧Keeps sn w'∧(nums sn).Nodup∧(∀ g∈nums sn,w.heap.size≤g)∧(∀ e,offG e sn)∧Below w.heap.size w w'
theorem VA.plain {a:Value} {x:Dt} {w w':World} (ha:AB [] a x) (hb:Below w.heap.size w w'):VA x w (.returned (.tuple #[a,.nilIface])) w':=
 ⟨a,[],rfl,ha,trivial,List.nodup_nil,fun _ h=>(by cases h),fun _=>trivial,hb⟩
structure MB (sn:List Blk) (m:List (ByteArray×Value)) (ds:List (ByteArray×Dt)):Prop where
 nm:m.map Prod.fst=ds.map Prod.fst
 ab:∀ (i:Nat) (d:ByteArray×Dt) (p:ByteArray×Value),ds[i]? =some d→m[i]? =some p→AB sn p.2 d.2
theorem MB.nil (sn:List Blk):MB sn [] []:=⟨rfl,fun _ _ _ h=>by simp at h⟩
theorem map_fst_get {α β:Type} {m:List (ByteArray×α)} {ds:List (ByteArray×β)} (h:m.map Prod.fst=ds.map Prod.fst) {i:Nat} {p:ByteArray×α} (hp:m[i]? =some p):∃ d,ds[i]? =some d∧d.1=p.1:=by
 have h1:=congrArg (fun l=>l[i]?) h
 simp only [List.getElem?_map,hp,Option.map_some] at h1
 cases hd:ds[i]? with
 |none=>rw [hd] at h1;cases h1
 |some d=>
  rw [hd] at h1
  simp only [Option.map_some,Option.some.injEq] at h1
  exact ⟨d,rfl,h1.symm⟩
theorem MB.upd {sn sn':List Blk} {m m':List (ByteArray×Value)} {ds:List (ByteArray×Dt)} {s:ByteArray} {u:Value} {d:Dt} (h:MB sn m ds) (hs:∀ b∈sn,b∈sn') (hu:Upd m (s,u) m') (ha:AB sn' u d):∃ ds',Upd ds (s,d) ds'∧MB sn' m' ds':=by
 have hl:m.length=ds.length:=by have:=congrArg List.length h.nm;simpa using this
 rcases hu with ⟨hn,rfl⟩|⟨j,x,hj,hx,rfl⟩
 ·refine ⟨ds ++ [(s,d)],.inl ⟨fun y hy=> ?_,rfl⟩,by simp [h.nm],fun i e p h1 h2=> ?_⟩
  ·obtain ⟨i,hi,e⟩:=List.getElem_of_mem hy
   obtain ⟨p,hp,hp1⟩:=map_fst_get h.nm.symm (List.getElem?_eq_getElem hi)
   have:=hn p (List.mem_of_getElem? hp)
   rw [← e,← hp1]
   exact this
  ·rcases snoc_get rfl h1 with ⟨h3,h4⟩|⟨rfl,rfl⟩
   ·rcases snoc_get hl h2 with ⟨_,h5⟩|⟨h5,_⟩
    ·exact (h.ab i e p h4 h5).mono hs
    ·omega
   ·rcases snoc_get hl h2 with ⟨h5,_⟩|⟨_,rfl⟩
    ·omega
    ·exact ha
 ·obtain ⟨y,hy,hy1⟩:=map_fst_get h.nm hj
  refine ⟨ds.set j (s,d),.inr ⟨j,y,hy,hy1.trans hx,rfl⟩,by simp [List.map_set,h.nm],fun i e p h1 h2=> ?_⟩
  by_cases hi:i=j
  ·subst hi
   rw [List.getElem?_set_self (List.getElem?_eq_some_iff.1 hy).1] at h1
   rw [List.getElem?_set_self (List.getElem?_eq_some_iff.1 hj).1] at h2
   cases h1;cases h2
   exact ha
  ·rw [List.getElem?_set_ne (by omega)] at h1 h2
   exact (h.ab i e p h1 h2).mono hs
theorem upd_ins {ds ds' L:List (ByteArray×Dt)} {k:ByteArray×Dt} (hr:Rising L) (hm:∀ x,x∈L↔x∈ds) (hd:(ds.map Prod.fst).Nodup) (hu:Upd ds k ds'):Rising (ins L k)∧∀ x,x∈ins L k↔x∈ds':=
 ⟨ins_rising hr k,fun x=>by rw [ins_mem hr,hu.mem hd,hm]⟩
section
variable {ops:Array Oper} {rest:List Oper} {o:Oper} {a:Act} {Q:Exit→Act→World→Prop} {Kc:Act→World→Prop} {w W:World} {l:List Blk} {g clock r:Nat} {es:Array MapEntry} {m:List (ByteArray×Value)} {seen:Array Nat}
theorem meput_at (k:Nat) (H:At w l W) (hk:l[k]? =some (.b g (.map es clock))) (hg:w.heap.size≤g) (M:ME es clock m) (hgd:o.guard=none) {mo x v:Operand} {t e:TypeId} (ho:o.op= .mapUpdate t mo x v) (hN:o.dst=none)
  (ht:Tryz.prog.underlying t=some (.map 9 e)) (hm:a.eval mo= .map (some g)) {s:ByteArray} (hss:s.size≤1048576) {u:Value} (hx:a.eval x= .string s) (hv:a.eval v=u)
  (h:∀ es' clock' m' w1,Upd m (s,u) m'→ME es' clock' m'→At w (l.set k (.b g (.map es' clock'))) w1→wpList Tryz.prog ops Q rest a w1):wpList Tryz.prog ops Q (o::rest) a W:=by
 obtain ⟨es',c',m',hrun,hu,M'⟩:=M.store (H.k.get hk).1 ht hss u
 refine wpList_plain hgd fun K hK=> ?_
 unfold Oper.wp execOp
 simp only [ho,hm,hx,hv,Sem.run_bind,Sem.run_pure,hrun,Result.andThen_ok]
 show K (a.put o.dst undef) _
 rw [hN]
 exact hK a _ (h es' c' m' _ hu M' (H.turned k hk hg))
theorem menext_at (H:At w l W) (hg:W.heap[g]? =some (.map es clock)) (j:Nat) (hj:l[j]? =some (.b r (.mapIter (some g) clock seen clock))) (hr:w.heap.size≤r) (M:ME es clock m) (hgd:o.guard=none) {it:Operand} (ho:o.op= .next it false) (hit:a.eval it= .pointer (some ⟨r,0,none⟩))
  (hDone:(leftOf es seen).size=0→wpList Tryz.prog ops Q rest (a.put o.dst (.tuple #[.bool false])) W)
  (hMore:∀ (e:MapEntry) (w1:World),e∈(leftOf es seen).toList→At w (l.set j (.b r (.mapIter (some g) clock (seen.push e.born) clock))) w1→(Instr.entry (.pointer (some ⟨r,0,none⟩))).run Tryz.prog w1= .ok (.tuple #[e.key,e.val]) w1→wpList Tryz.prog ops Q rest (a.put o.dst (.tuple #[.bool true,e.key,e.val])) w1):wpList Tryz.prog ops Q (o::rest) a W:=by
 refine wpList_plain hgd fun K hK=> ?_
 unfold Oper.wp
 have hi:=(H.k.get hj).1
 have hne:g≠r:=by
  rintro rfl
  rw [hi] at hg
  cases hg
 rcases run_next_at (P:=Tryz.prog) W o.type r g clock clock seen es clock hi hg M.st.1 (Nat.le_refl _) with ⟨h0,hrun⟩|⟨e,he,w1,hw1,hrun⟩
 ·simp [execOp,ho,hit,hrun,Result.andThen]
  exact hK _ _ (hDone h0)
 ·simp [execOp,ho,hit,hrun,Result.andThen]
  have hi1:w1.heap[r]? =some (.mapIter (some g) clock seen clock):=by rcases hw1 with rfl|rfl<;>exact hi
  have hg1:w1.heap[g]? =some (.map es clock):=by rcases hw1 with rfl|rfl<;>exact hg
  have hset:=MapKept.heap_set (o':= .mapIter (some g) clock (seen.push e.born) clock) hi1
  have hem:e∈es.toList:=by
   unfold leftOf at he
   simp at he
   simpa using he.1
  refine hK _ _ (hMore e _ he (H.swept j hj rfl hr ?_ ?_ hset.1) ?_)
  ·rcases hw1 with rfl|rfl<;>exact ⟨rfl,rfl,rfl,by simp [setBlock],fun i _ hi'=>hset.2 i (fun e1=>hi' (by rw [e1]))⟩
  ·rcases hw1 with rfl|rfl<;>simp [setBlock]
  ·exact run_entry_at _ r g clock seen es clock e hset.1 ((hset.2 g hne).trans hg1) hem M.st.2.1
end
structure Came (es:Array MapEntry) (seen:Array Nat) (vs:List MapEntry):Prop where
 sub:∀ e∈vs,e∈es.toList
 all:∀ e∈es.toList,seen.contains e.born=true→e∈vs
 nd:vs.Nodup
 saw:∀ e∈vs,seen.contains e.born=true
 cnt:vs.length + (leftOf es seen).size≤es.size
theorem Came.zero (es:Array MapEntry):Came es #[] []:=⟨fun _ h=>(by cases h),fun _ _ h=>(by simp at h),List.nodup_nil,fun _ h=>(by cases h),by unfold leftOf;simp [Array.size_filter_le]⟩
theorem left_mem {es:Array MapEntry} {seen:Array Nat} {e:MapEntry}:e∈(leftOf es seen).toList↔e∈es.toList∧seen.contains e.born=false:=by
 unfold leftOf
 simp
theorem Came.next {es:Array MapEntry} {seen:Array Nat} {vs:List MapEntry} {clock:Nat} (h:Came es seen vs) (hs:Stamped es clock) {e:MapEntry} (he:e∈(leftOf es seen).toList):Came es (seen.push e.born) (vs ++ [e])∧(leftOf es (seen.push e.born)).size < (leftOf es seen).size:=by
 obtain ⟨h1,h2⟩:=left_mem.1 he
 have hinj:∀ x∈es.toList,x.born=e.born→x=e:=by
  intro x hx hb
  obtain ⟨i,hi,ex⟩:=List.getElem_of_mem hx
  obtain ⟨j,hj,ey⟩:=List.getElem_of_mem h1
  have:=hs.2.1
  have a1:(es.toList.map (·.born))[i]? =some e.born:=by rw [List.getElem?_map,List.getElem?_eq_getElem hi,ex];simp [hb]
  have a2:(es.toList.map (·.born))[j]? =some e.born:=by rw [List.getElem?_map,List.getElem?_eq_getElem hj,ey];rfl
  have hij:i=j:=(List.getElem?_inj (by simpa using hi) this).1 (a1.trans a2.symm)
  subst hij
  exact ex.symm.trans ey
 have hlt:(leftOf es (seen.push e.born)).size < (leftOf es seen).size:=by
  have e1:(leftOf es (seen.push e.born)).toList=(leftOf es seen).toList.filter (fun x=>x.born != e.born):=by
   unfold leftOf
   simp only [Array.toList_filter,List.filter_filter]
   refine List.filter_congr fun x _=> ?_
   by_cases hb:x.born=e.born<;>simp [Array.contains_push,bne,hb]
  have e2:(leftOf es (seen.push e.born)).size=((leftOf es seen).toList.filter (fun x=>x.born != e.born)).length:=by rw [← e1];simp
  have e3:(leftOf es seen).size=(leftOf es seen).toList.length:=by simp
  rw [e2,e3]
  exact List.length_filter_lt_length_iff_exists.2 ⟨e,he,by simp⟩
 refine ⟨⟨fun x hx=> ?_,fun x hx hc=> ?_,?_,fun x hx=> ?_,?_⟩,hlt⟩
 ·rcases List.mem_append.1 hx with hx|hx
  ·exact h.sub x hx
  ·rw [List.mem_singleton.1 hx];exact h1
 ·by_cases hb:x.born=e.born
  ·rw [hinj x hx hb];simp
  ·refine List.mem_append_left _ (h.all x hx ?_)
   simpa [Array.contains_push,hb] using hc
 ·rw [List.nodup_append]
  refine ⟨h.nd,by simp,fun x hx y hy exy=> ?_⟩
  obtain rfl:y=e:=List.mem_singleton.1 hy
  subst exy
  have:=h.saw x hx
  rw [h2] at this
  cases this
 ·rcases List.mem_append.1 hx with hx|hx
  ·have h9:=h.saw x hx
   simp at h9 ⊢
   exact .inl h9
  ·rw [List.mem_singleton.1 hx];simp [Array.contains_push]
 ·have:=h.cnt
  simp
  omega
theorem Came.done {es:Array MapEntry} {seen:Array Nat} {vs:List MapEntry} (h:Came es seen vs) (h0:(leftOf es seen).size=0):∀ e,e∈vs↔e∈es.toList:=fun e=>
 ⟨h.sub e,fun he=>h.all e he (by
  cases hc:seen.contains e.born with
  |true=>rfl
  |false=>
   have h1:=left_mem.2 ⟨he,hc⟩
   have h2:(leftOf es seen).toList.length=0:=by simpa using h0
   rw [List.eq_nil_of_length_eq_zero h2] at h1
   cases h1)⟩
end Go.Proofs.YtlblbefbbibpaaaGreatDoor.J
namespace Go.Proofs.YtlblbefbbibpaaaGreatDoor.J
open Go.RowKit Zw Zw.PrintWords Zw.PrintLast Zw.PrintMore PAM
theorem ta_n_4 (W:World):(Instr.typeAssert .nilIface 20 4 true).run Tryz.prog W= .ok (.tuple #[.bool false,.bool false]) W:=by kernel_rfl
theorem ta_n_2 (W:World):(Instr.typeAssert .nilIface 20 2 true).run Tryz.prog W= .ok (.tuple #[.int .i64 0,.bool false]) W:=by kernel_rfl
theorem ta_n_97 (W:World):(Instr.typeAssert .nilIface 20 97 true).run Tryz.prog W= .ok (.tuple #[.float .f64 0,.bool false]) W:=by kernel_rfl
theorem ta_n_9 (W:World):(Instr.typeAssert .nilIface 20 9 true).run Tryz.prog W= .ok (.tuple #[.string ⟨#[]⟩,.bool false]) W:=by kernel_rfl
theorem ta_n_114 (W:World):(Instr.typeAssert .nilIface 20 114 true).run Tryz.prog W= .ok (.tuple #[.slice none 0 0,.bool false]) W:=by kernel_rfl
theorem ta_n_81 (W:World):(Instr.typeAssert .nilIface 20 81 true).run Tryz.prog W= .ok (.tuple #[.map none,.bool false]) W:=by kernel_rfl
theorem ta_4_4 (v:Value) (W:World):(Instr.typeAssert (.iface 4 v) 20 4 true).run Tryz.prog W= .ok (.tuple #[v,.bool true]) W:=by kernel_rfl
theorem ta_2_4 (v:Value) (W:World):(Instr.typeAssert (.iface 2 v) 20 4 true).run Tryz.prog W= .ok (.tuple #[.bool false,.bool false]) W:=by kernel_rfl
theorem ta_2_2 (v:Value) (W:World):(Instr.typeAssert (.iface 2 v) 20 2 true).run Tryz.prog W= .ok (.tuple #[v,.bool true]) W:=by kernel_rfl
theorem ta_97_4 (v:Value) (W:World):(Instr.typeAssert (.iface 97 v) 20 4 true).run Tryz.prog W= .ok (.tuple #[.bool false,.bool false]) W:=by kernel_rfl
theorem ta_97_2 (v:Value) (W:World):(Instr.typeAssert (.iface 97 v) 20 2 true).run Tryz.prog W= .ok (.tuple #[.int .i64 0,.bool false]) W:=by kernel_rfl
theorem ta_97_97 (v:Value) (W:World):(Instr.typeAssert (.iface 97 v) 20 97 true).run Tryz.prog W= .ok (.tuple #[v,.bool true]) W:=by kernel_rfl
theorem ta_9_4 (v:Value) (W:World):(Instr.typeAssert (.iface 9 v) 20 4 true).run Tryz.prog W= .ok (.tuple #[.bool false,.bool false]) W:=by kernel_rfl
theorem ta_9_2 (v:Value) (W:World):(Instr.typeAssert (.iface 9 v) 20 2 true).run Tryz.prog W= .ok (.tuple #[.int .i64 0,.bool false]) W:=by kernel_rfl
theorem ta_9_97 (v:Value) (W:World):(Instr.typeAssert (.iface 9 v) 20 97 true).run Tryz.prog W= .ok (.tuple #[.float .f64 0,.bool false]) W:=by kernel_rfl
theorem ta_9_9 (v:Value) (W:World):(Instr.typeAssert (.iface 9 v) 20 9 true).run Tryz.prog W= .ok (.tuple #[v,.bool true]) W:=by kernel_rfl
theorem ta_114_4 (v:Value) (W:World):(Instr.typeAssert (.iface 114 v) 20 4 true).run Tryz.prog W= .ok (.tuple #[.bool false,.bool false]) W:=by kernel_rfl
theorem ta_114_2 (v:Value) (W:World):(Instr.typeAssert (.iface 114 v) 20 2 true).run Tryz.prog W= .ok (.tuple #[.int .i64 0,.bool false]) W:=by kernel_rfl
theorem ta_114_97 (v:Value) (W:World):(Instr.typeAssert (.iface 114 v) 20 97 true).run Tryz.prog W= .ok (.tuple #[.float .f64 0,.bool false]) W:=by kernel_rfl
theorem ta_114_9 (v:Value) (W:World):(Instr.typeAssert (.iface 114 v) 20 9 true).run Tryz.prog W= .ok (.tuple #[.string ⟨#[]⟩,.bool false]) W:=by kernel_rfl
theorem ta_114_114 (v:Value) (W:World):(Instr.typeAssert (.iface 114 v) 20 114 true).run Tryz.prog W= .ok (.tuple #[v,.bool true]) W:=by kernel_rfl
theorem ta_81_4 (v:Value) (W:World):(Instr.typeAssert (.iface 81 v) 20 4 true).run Tryz.prog W= .ok (.tuple #[.bool false,.bool false]) W:=by kernel_rfl
theorem ta_81_2 (v:Value) (W:World):(Instr.typeAssert (.iface 81 v) 20 2 true).run Tryz.prog W= .ok (.tuple #[.int .i64 0,.bool false]) W:=by kernel_rfl
theorem ta_81_97 (v:Value) (W:World):(Instr.typeAssert (.iface 81 v) 20 97 true).run Tryz.prog W= .ok (.tuple #[.float .f64 0,.bool false]) W:=by kernel_rfl
theorem ta_81_9 (v:Value) (W:World):(Instr.typeAssert (.iface 81 v) 20 9 true).run Tryz.prog W= .ok (.tuple #[.string ⟨#[]⟩,.bool false]) W:=by kernel_rfl
theorem ta_81_114 (v:Value) (W:World):(Instr.typeAssert (.iface 81 v) 20 114 true).run Tryz.prog W= .ok (.tuple #[.slice none 0 0,.bool false]) W:=by kernel_rfl
theorem ta_81_81 (v:Value) (W:World):(Instr.typeAssert (.iface 81 v) 20 81 true).run Tryz.prog W= .ok (.tuple #[v,.bool true]) W:=by kernel_rfl
attribute [local go_sem] ta_n_4 ta_n_2 ta_n_97 ta_n_9 ta_n_114 ta_n_81 ta_4_4 ta_2_4 ta_2_2 ta_97_4 ta_97_2 ta_97_97 ta_9_4 ta_9_2 ta_9_97 ta_9_9 ta_114_4 ta_114_2 ta_114_97 ta_114_9 ta_114_114 ta_81_4 ta_81_2 ta_81_97 ta_81_9 ta_81_114 ta_81_81
def DO (x:Dt) (w:World) (e:Ending) (w':World):Prop:=
 ∃ (u:Value) (sn:List Blk),e= .returned (.agg #[.int .i64 x.kind,.bool x.b,.int .i64 x.n,.int .u64 x.f,.string x.s,u])∧DB sn u x∧Keeps sn w'∧(nums sn).Nodup∧(∀ g∈nums sn,w.heap.size≤g)∧(∀ e,offG e sn)∧Below w.heap.size w w'
theorem DO.plain {x:Dt} {w w':World} {e:Ending} (hk:x.kids=[]) (he:e= .returned (.agg #[.int .i64 x.kind,.bool x.b,.int .i64 x.n,.int .u64 x.f,.string x.s,nilS])) (hb:Below w.heap.size w w'):DO x w e w':=
 ⟨nilS,[],he,DB.empty hk _,trivial,List.nodup_nil,fun _ h=>(by cases h),fun _=>trivial,hb⟩
theorem DO.made {x:Dt} {u:Value} {pr sn:List Blk} {us:List Value} {w w':World} {e:Ending} (L:List Blk) (he:e= .returned (.agg #[.int .i64 x.kind,.bool x.b,.int .i64 x.n,.int .u64 x.f,.string x.s,u])) (hp:PR w.heap.size pr 85 7 u x.kids.length (rowOf x.kids us)) (hl:us.length=x.kids.length) (hd:∀ (i:Nat) (k:ByteArray×Dt) (t:Value),x.kids[i]? =some k→us[i]? =some t→DB sn t k.2) (hg:∀ g∈nums sn,w.heap.size≤g) (ho:∀ e,offG e sn) (HK:At w (L ++ (pr ++ sn)) w'):DO x w e w':=
 have H:=HK.sub (List.sublist_append_right L (pr ++ sn))
 ⟨u,pr ++ sn,he,DB.mk hp (fun y hy=>List.mem_append_left _ hy) hl (fun i k t h1 h2=>(hd i k t h1 h2).mono (fun b hb=>List.mem_append_right _ hb)),H.k,H.d,ge_app hp.ge hg,fun e=>offG_append (hp.offG e) (ho e),H.b⟩
theorem do_null (w:World):Calls Tryz.prog 20 #[.nilIface] w (DO (dNull) w):=by
 have HK:=st0_ w
 go_enter Tryz.func20,Tryz.ntmps20
 go_wp2_with (first|((with_reducible refine gd_ 2 ?_);refine bx_ #[i0,bF,i0,.int .u64 0,eS,nilS] 30 ?_;clear HK;intro g2 wb2 HK Gg2;replace Bc:=ce1_ HK 0;replace Bf:=fe1_ HK 0)|((with_reducible refine gate_ (.store 30 (.tmp 2) (.tmp 85)) rfl ?_);refine storerow_at (cs:=#[i0,bF,i0,.int .u64 0,eS,nilS]) (g:=g2) 0 (#[i0,bF,i0,.int .u64 0,eS,nilS]) at_ rfl Gg2.out rfl rfl rfl rfl rfl rfl kr_ rfl (by simp [Value.oneCell']) ?_;intro wr1 HK1;replace HK:=asd_ HK1;clear HK1;replace Bc:=ce1_ HK 0;replace Bf:=fe1_ HK 0))
 exact bodyPost_ret (v:= .agg #[i0,bF,i0,.int .u64 0,eS,nilS]) (by simp [results,Tryz.results20,go_sem,Bc]) rfl (DO.plain (x:=dNull) rfl rfl be_)
theorem do_bool {b:Bool} (w:World):Calls Tryz.prog 20 #[.iface 4 (.bool b)] w (DO (dBool b) w):=by
 have HK:=st0_ w
 go_enter Tryz.func20,Tryz.ntmps20
 go_wp2_with (first|((with_reducible refine gd_ 2 ?_);refine bx_ #[i0,bF,i0,.int .u64 0,eS,nilS] 30 ?_;clear HK;intro g2 wb2 HK Gg2;replace Bc:=ce1_ HK 0;replace Bf:=fe1_ HK 0)|((with_reducible refine gate_ (.store 30 (.tmp 2) (.tmp 20)) rfl ?_);refine storerow_at (cs:=#[i0,bF,i0,.int .u64 0,eS,nilS]) (g:=g2) 0 (#[.int .i64 1,.bool b,i0,.int .u64 0,eS,nilS]) at_ rfl Gg2.out rfl rfl rfl rfl rfl rfl kr_ rfl (by simp [Value.oneCell']) ?_;intro wr1 HK1;replace HK:=asd_ HK1;clear HK1;replace Bc:=ce1_ HK 0;replace Bf:=fe1_ HK 0))
 exact bodyPost_ret (v:= .agg #[.int .i64 1,.bool b,i0,.int .u64 0,eS,nilS]) (by simp [results,Tryz.results20,go_sem,Bc]) rfl (DO.plain (x:=dBool b) rfl rfl be_)
theorem do_int {n:Int} (w:World):Calls Tryz.prog 20 #[.iface 2 (.int .i64 n)] w (DO (dInt n) w):=by
 have HK:=st0_ w
 go_enter Tryz.func20,Tryz.ntmps20
 go_wp2_with (first|((with_reducible refine gd_ 2 ?_);refine bx_ #[i0,bF,i0,.int .u64 0,eS,nilS] 30 ?_;clear HK;intro g2 wb2 HK Gg2;replace Bc:=ce1_ HK 0;replace Bf:=fe1_ HK 0)|((with_reducible refine gate_ (.store 30 (.tmp 2) (.tmp 25)) rfl ?_);refine storerow_at (cs:=#[i0,bF,i0,.int .u64 0,eS,nilS]) (g:=g2) 0 (#[.int .i64 2,bF,.int .i64 n,.int .u64 0,eS,nilS]) at_ rfl Gg2.out rfl rfl rfl rfl rfl rfl kr_ rfl (by simp [Value.oneCell']) ?_;intro wr1 HK1;replace HK:=asd_ HK1;clear HK1;replace Bc:=ce1_ HK 0;replace Bf:=fe1_ HK 0))
 exact bodyPost_ret (v:= .agg #[.int .i64 2,bF,.int .i64 n,.int .u64 0,eS,nilS]) (by simp [results,Tryz.results20,go_sem,Bc]) rfl (DO.plain (x:=dInt n) rfl rfl be_)
theorem do_str {s:ByteArray} (w:World):Calls Tryz.prog 20 #[.iface 9 (.string s)] w (DO (dStr s) w):=by
 have HK:=st0_ w
 go_enter Tryz.func20,Tryz.ntmps20
 go_wp2_with (first|((with_reducible refine gd_ 2 ?_);refine bx_ #[i0,bF,i0,.int .u64 0,eS,nilS] 30 ?_;clear HK;intro g2 wb2 HK Gg2;replace Bc:=ce1_ HK 0;replace Bf:=fe1_ HK 0)|((with_reducible refine gate_ (.store 30 (.tmp 2) (.tmp 36)) rfl ?_);refine storerow_at (cs:=#[i0,bF,i0,.int .u64 0,eS,nilS]) (g:=g2) 0 (#[.int .i64 4,bF,i0,.int .u64 0,.string s,nilS]) at_ rfl Gg2.out rfl rfl rfl rfl rfl rfl kr_ rfl (by simp [Value.oneCell']) ?_;intro wr1 HK1;replace HK:=asd_ HK1;clear HK1;replace Bc:=ce1_ HK 0;replace Bf:=fe1_ HK 0))
 exact bodyPost_ret (v:= .agg #[.int .i64 4,bF,i0,.int .u64 0,.string s,nilS]) (by simp [results,Tryz.results20,go_sem,Bc]) rfl (DO.plain (x:=dStr s) rfl rfl be_)
theorem do_float {f:Nat} (w:World):Calls Tryz.prog 20 #[.iface 97 (.float .f64 f)] w (DO (dFloat f) w):=by
 have HK:=st0_ w
 go_enter Tryz.func20,Tryz.ntmps20
 go_wp2_with (first|((with_reducible refine gd_ 2 ?_);refine bx_ #[i0,bF,i0,.int .u64 0,eS,nilS] 30 ?_;clear HK;intro g2 wb2 HK Gg2;replace Bc:=ce1_ HK 0;replace Bf:=fe1_ HK 0)|((with_reducible refine gd_ 30 ?_);refine Kd.event_run rfl (call33_run rfl ar_) ?_)|((with_reducible refine gate_ (.store 30 (.tmp 2) (.tmp 31)) rfl ?_);refine storerow_at (cs:=#[i0,bF,i0,.int .u64 0,eS,nilS]) (g:=g2) 0 (#[.int .i64 3,bF,i0,.int .u64 (f:Int),eS,nilS]) at_ rfl Gg2.out rfl rfl rfl rfl rfl rfl kr_ rfl (by simp [Value.oneCell']) ?_;intro wr1 HK1;replace HK:=asd_ HK1;clear HK1;replace Bc:=ce1_ HK 0;replace Bf:=fe1_ HK 0))
 exact bodyPost_ret (v:= .agg #[.int .i64 3,bF,i0,.int .u64 (f:Int),eS,nilS]) (by simp [results,Tryz.results20,go_sem,Bc]) rfl (DO.plain (x:=dFloat f) rfl rfl be_)
end Go.Proofs.YtlblbefbbibpaaaGreatDoor.J
namespace Go.Proofs
open Go.Shelf
def Tryz.sortGg6_ren:Go.Shelf.Ren:=⟨fun|6=>40|10=>52|11=>53|12=>54|13=>55|14=>56|24=>75|25=>76|26=>77|27=>78|28=>79|29=>80|30=>81|31=>82|32=>83|33=>84|34=>95|35=>96|36=>97|37=>98|38=>99|39=>122|n=>n,fun|20=>20|26=>116|35=>144|0=>0|37=>146|3=>3|41=>150|44=>153|49=>175|51=>27|4=>4|54=>179|53=>178|58=>183|5=>5|9=>9|60=>206|64=>210|66=>243|67=>244|17=>17|32=>141|33=>142|82=>302|12=>12|75=>296|76=>297|77=>298|78=>218|79=>299|80=>300|n=>n,fun|n=>n⟩
theorem Tryz.sortGg6:Go.Proofs.LaysGg.n6 Tryz.prog Tryz.sortGg6_ren:={
 mixed:=by kernel_rfl
 f6:=Tryz.func40.trans (congrArg some (by kernel_rfl))
 f10:=Tryz.func52.trans (congrArg some (by kernel_rfl))
 f11:=Tryz.func53.trans (congrArg some (by kernel_rfl))
 f12:=Tryz.func54.trans (congrArg some (by kernel_rfl))
 f13:=Tryz.func55.trans (congrArg some (by kernel_rfl))
 f14:=Tryz.func56.trans (congrArg some (by kernel_rfl))
 f24:=Tryz.func75.trans (congrArg some (by kernel_rfl))
 f25:=Tryz.func76.trans (congrArg some (by kernel_rfl))
 f26:=Tryz.func77.trans (congrArg some (by kernel_rfl))
 f27:=Tryz.func78.trans (congrArg some (by kernel_rfl))
 f28:=Tryz.func79.trans (congrArg some (by kernel_rfl))
 f29:=Tryz.func80.trans (congrArg some (by kernel_rfl))
 f30:=Tryz.func81.trans (congrArg some (by kernel_rfl))
 f31:=Tryz.func82.trans (congrArg some (by kernel_rfl))
 f32:=Tryz.func83.trans (congrArg some (by kernel_rfl))
 f33:=Tryz.func84.trans (congrArg some (by kernel_rfl))
 f34:=Tryz.func95.trans (congrArg some (by kernel_rfl))
 f35:=Tryz.func96.trans (congrArg some (by kernel_rfl))
 f36:=Tryz.func97.trans (congrArg some (by kernel_rfl))
 f37:=Tryz.func98.trans (congrArg some (by kernel_rfl))
 f38:=Tryz.func99.trans (congrArg some (by kernel_rfl))
 f39:=Tryz.func122.trans (congrArg some (by kernel_rfl))
 t0:=Tryz.underlying0
 a0:=Tryz.isAgg0
 z0:=Tryz.sizeOf0
 v0:=Tryz.zeroValue0
 i0:=by kernel_rfl
 t3:=Tryz.underlying3
 a3:=Tryz.isAgg3
 z3:=Tryz.sizeOf3
 v3:=Tryz.zeroValue3
 i3:=by kernel_rfl
 t4:=Tryz.underlying4
 a4:=Tryz.isAgg4
 z4:=Tryz.sizeOf4
 v4:=Tryz.zeroValue4
 i4:=by kernel_rfl
 t5:=Tryz.underlying5
 a5:=Tryz.isAgg5
 z5:=Tryz.sizeOf5
 v5:=Tryz.zeroValue5
 i5:=by kernel_rfl
 t9:=Tryz.underlying9
 a9:=Tryz.isAgg9
 z9:=Tryz.sizeOf9
 v9:=Tryz.zeroValue9
 i9:=by kernel_rfl
 t12:=Tryz.underlying12
 a12:=Tryz.isAgg12
 z12:=Tryz.sizeOf12
 v12:=Tryz.zeroValue12
 i12:=by kernel_rfl
 t17:=Tryz.underlying17
 a17:=Tryz.isAgg17
 z17:=Tryz.sizeOf17
 v17:=Tryz.zeroValue17
 i17:=by kernel_rfl
 t20:=Tryz.underlying20
 a20:=Tryz.isAgg20
 z20:=Tryz.sizeOf20
 v20:=Tryz.zeroValue20
 i20:=by kernel_rfl
 t26:=Tryz.underlying116
 a26:=Tryz.isAgg116
 z26:=Tryz.sizeOf116
 v26:=Tryz.zeroValue116
 i26:=by kernel_rfl
 t32:=Tryz.underlying141
 a32:=Tryz.isAgg141
 z32:=Tryz.sizeOf141
 v32:=Tryz.zeroValue141
 i32:=by kernel_rfl
 t33:=Tryz.underlying142
 a33:=Tryz.isAgg142
 z33:=Tryz.sizeOf142
 v33:=Tryz.zeroValue142
 i33:=by kernel_rfl
 t35:=Tryz.underlying144
 a35:=Tryz.isAgg144
 z35:=Tryz.sizeOf144
 v35:=Tryz.zeroValue144
 i35:=by kernel_rfl
 t37:=Tryz.underlying146
 a37:=Tryz.isAgg146
 z37:=Tryz.sizeOf146
 v37:=Tryz.zeroValue146
 i37:=by kernel_rfl
 t41:=Tryz.underlying150
 a41:=Tryz.isAgg150
 z41:=Tryz.sizeOf150
 v41:=Tryz.zeroValue150
 i41:=by kernel_rfl
 t44:=Tryz.underlying153
 a44:=Tryz.isAgg153
 z44:=Tryz.sizeOf153
 v44:=Tryz.zeroValue153
 i44:=by kernel_rfl
 t49:=Tryz.underlying175
 a49:=Tryz.isAgg175
 z49:=Tryz.sizeOf175
 v49:=Tryz.zeroValue175
 i49:=by kernel_rfl
 t51:=Tryz.underlying27
 a51:=Tryz.isAgg27
 z51:=Tryz.sizeOf27
 v51:=Tryz.zeroValue27
 i51:=by kernel_rfl
 t53:=Tryz.underlying178
 a53:=Tryz.isAgg178
 z53:=Tryz.sizeOf178
 v53:=Tryz.zeroValue178
 i53:=by kernel_rfl
 t54:=Tryz.underlying179
 a54:=Tryz.isAgg179
 z54:=Tryz.sizeOf179
 v54:=Tryz.zeroValue179
 i54:=by kernel_rfl
 t58:=Tryz.underlying183
 a58:=Tryz.isAgg183
 z58:=Tryz.sizeOf183
 v58:=Tryz.zeroValue183
 i58:=by kernel_rfl
 t60:=Tryz.underlying206
 a60:=Tryz.isAgg206
 z60:=Tryz.sizeOf206
 v60:=Tryz.zeroValue206
 i60:=by kernel_rfl
 t64:=Tryz.underlying210
 a64:=Tryz.isAgg210
 z64:=Tryz.sizeOf210
 v64:=Tryz.zeroValue210
 i64:=by kernel_rfl
 t66:=Tryz.underlying243
 a66:=Tryz.isAgg243
 z66:=Tryz.sizeOf243
 v66:=Tryz.zeroValue243
 i66:=by kernel_rfl
 t67:=Tryz.underlying244
 a67:=Tryz.isAgg244
 z67:=Tryz.sizeOf244
 v67:=Tryz.zeroValue244
 i67:=by kernel_rfl
 t75:=Tryz.underlying296
 a75:=Tryz.isAgg296
 z75:=Tryz.sizeOf296
 v75:=Tryz.zeroValue296
 i75:=by kernel_rfl
 t76:=Tryz.underlying297
 a76:=Tryz.isAgg297
 z76:=Tryz.sizeOf297
 v76:=Tryz.zeroValue297
 i76:=by kernel_rfl
 t77:=Tryz.underlying298
 a77:=Tryz.isAgg298
 z77:=Tryz.sizeOf298
 v77:=Tryz.zeroValue298
 i77:=by kernel_rfl
 t78:=Tryz.underlying218
 a78:=Tryz.isAgg218
 z78:=Tryz.sizeOf218
 v78:=Tryz.zeroValue218
 i78:=by kernel_rfl
 t79:=Tryz.underlying299
 a79:=Tryz.isAgg299
 z79:=Tryz.sizeOf299
 v79:=Tryz.zeroValue299
 i79:=by kernel_rfl
 t80:=Tryz.underlying300
 a80:=Tryz.isAgg300
 z80:=Tryz.sizeOf300
 v80:=Tryz.zeroValue300
 i80:=by kernel_rfl
 t82:=Tryz.underlying302
 a82:=Tryz.isAgg302
 z82:=Tryz.sizeOf302
 v82:=Tryz.zeroValue302
 i82:=by kernel_rfl}
open Go.RowKit Go.Lib Go.Sort in
theorem Tryz.sort_tiny (t e:TypeId) (i ie:TypeInfo) (hi:Tryz.prog.info? t=some i) (hd:i.desc= .slice e) (hpk:Tryz.prog.packed t=false) (hie:Tryz.prog.info? e=some ie) (ke:Nat) (hke:∀ w,(Extern.Rtype.kind e).run Tryz.prog w= .ok ke w)
  (p:Option Addr) (n c:Nat) (h1:n≤1) (f:Nat) (hf:Tryz.prog.funcs.findIdx? (·.name == "internal/reflectlite" ++ ".Swapper$" ++ toString (swapperK n ie ke))=some f) (lf:Fn) (la lb:Array Value) (w:World):
  Calls Tryz.prog 40 #[.iface t (.slice p n c),.func lf la lb] w fun e w'=>e= .returned (.tuple #[])∧∃ os,w'=grow w os:=
 Any.sort_Slice_tiny Tryz.sortGg6 t e i ie hi hd hpk hie ke hke p n c h1 f hf lf la lb w
open Go.RowKit Go.Lib Go.Sort in
theorem Tryz.sort_cells {α:Type} [Inhabited α] (t e:TypeId) (i ie:TypeInfo) (hi:Tryz.prog.info? t=some i) (hd:i.desc= .slice e) (hpk:Tryz.prog.packed t=false) (hie:Tryz.prog.info? e=some ie) (ke:Nat) (hke:∀ w,(Extern.Rtype.kind e).run Tryz.prog w= .ok ke w)
  (enc:α→List Value) (k:Nat) (hk:∀ x,(enc x).length=k) (hs1:ie.size=k) (hagg:∀ w,(isAgg e).run Tryz.prog w= .ok true w) (h1:∀ x,∀ v∈enc x,v.oneCell'=true) (lt:α→α→Bool) (hO:SWO lt) (g:Nat) (lb:Array Value)
  (eg:∀ args w,(callFunc g args).run Tryz.prog w= .ok (.enter g args) w) (blk off c:Nat) (d:Array α) (h2:2≤d.size) (hsz:d.size < 4611686018427387904)
  (f:Nat) (hf:Tryz.prog.funcs.findIdx? (·.name == "internal/reflectlite" ++ ".Swapper$" ++ toString (swapperK d.size ie ke))=some f)
  (gS:Bool) (hx:∀ args W,(callFunc f args).run Tryz.prog W=((Extern.ReflectliteSwapper.swap gS args).run Tryz.prog W).andThen fun v w'=> .ok (.value v) w')
  (w:World) (hless:LessReadsK Tryz.prog g lb enc k lt blk off d.size w) (hH:HoldsK enc k w blk off d) (hblk:blk < w.heap.size):
  Calls Tryz.prog 40 #[.iface t (.slice (some ⟨blk,off,none⟩) d.size c),.func (.func g) #[] lb] w fun e w'=>
   e= .returned (.tuple #[])∧∃ d' n os,PermIn 0 d.size d d'∧SortedIn lt 0 d.size d'∧w'=grow (putRowK enc k (Sort.ahead w n) blk off d') os:=
 Any.sort_Slice_cells_sorted Tryz.sortGg6 t e i ie hi hd hpk hie ke hke enc k hk hs1 hagg h1 lt hO g lb eg blk off c d h2 hsz f hf gS hx w hless hH hblk
end Go.Proofs
