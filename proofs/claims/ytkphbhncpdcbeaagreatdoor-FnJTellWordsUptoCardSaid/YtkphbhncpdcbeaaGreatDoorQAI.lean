/- Part. -/
import Derived.Test.YtkphbhncpdcbeaaGreatDoorQAH
import Derived.Maps.OwnSet
import Derived.Maps.RangeWalk
import Derived.Great.BuildSlice
import Derived.WideMake
set_option linter.unusedVariables false
set_option linter.unusedSimpArgs false
namespace Go.Proofs.YtkphbhncpdcbeaaGreatDoor.J
open Go.RowKit YtkphbhncpdcbeaaGreatDoorW.PrintWords YtkphbhncpdcbeaaGreatDoorW.PrintLast YtkphbhncpdcbeaaGreatDoorW.PrintMore PJT
def datT (t:TypeId):Bool:=t == 9||t == 20||t == 3||t == 74||t == 76
def noData:Obj→Bool
 | .cells _ t _=> !datT t
 |_=>true
theorem noData_row {cs:Array Value} {t:TypeId} {z:Nat×Nat} (h:datT t=false):noData (.cells cs t z)=true:=by simp [noData,h]
structure Fact where
 P:World→Prop
 below:∀ {W W1:World},P W→Below W.heap.size W W1→P W1
 far:∀ {W W1:World} {g:Nat} {o:Obj},P W→W.heap[g]? =some o→noData o=true→(∀ k,k≠g→W1.heap[k]? =W.heap[k]?)→P W1
inductive Blk where
 |b (g:Nat) (o:Obj)
 |f (F:Fact)
abbrev row (cs:Array Value) (t:TypeId):Obj:= .cells cs t (0,0)
def Keeps:List Blk→World→Prop
 |[],_=>True
 | .b g o::l,W=>W.heap[g]? =some o∧Keeps l W
 | .f F::l,W=>F.P W∧Keeps l W
def nums:List Blk→List Nat
 |[]=>[]
 | .b g _::l=>g::nums l
 | .f _::l=>nums l
theorem Keeps.below {l:List Blk} {W W1:World} (h:Keeps l W) (hb:Below W.heap.size W W1):Keeps l W1:=by
 induction l with
 |nil=>trivial
 |cons b l ih=>
  cases b with
  |b g o=>exact ⟨blk_below h.1 hb,ih h.2⟩
  |f F=>exact ⟨F.below h.1 hb,ih h.2⟩
theorem Keeps.lt {l:List Blk} {W:World} (h:Keeps l W):∀ g∈nums l,g < W.heap.size:=by
 induction l with
 |nil=>intro g hg;cases hg
 |cons c l ih=>
  intro g hg
  cases c with
  |b k o=>
   rcases List.mem_cons.1 hg with rfl|hg
   ·exact blk_lt h.1
   ·exact ih h.2 g hg
  |f F=>exact ih h.2 g hg
theorem Keeps.far {l:List Blk} {W W1:World} {g:Nat} {o0:Obj} (h:Keeps l W) (hn:g∉nums l) (hg:W.heap[g]? =some o0) (ht:noData o0=true) (ho:∀ k,k≠g→W1.heap[k]? =W.heap[k]?):Keeps l W1:=by
 induction l with
 |nil=>trivial
 |cons c l ih=>
  cases c with
  |b k o=>
   have hk:k≠g:=fun e=>hn (by rw [e];exact List.mem_cons_self)
   exact ⟨(ho k hk).trans h.1,ih h.2 (fun hm=>hn (List.mem_cons_of_mem _ hm))⟩
  |f F=>exact ⟨F.far h.1 hg ht ho,ih h.2 hn⟩
theorem Keeps.get {l:List Blk} {W:World} {k g:Nat} {o:Obj} (h:Keeps l W) (hk:l[k]? =some (.b g o)):W.heap[g]? =some o∧g∈nums l:=by
 induction l generalizing k with
 |nil=>cases hk
 |cons c l ih=>
  cases k with
  |zero=>
   obtain rfl:c= .b g o:=by simpa using hk
   exact ⟨h.1,List.mem_cons_self⟩
  |succ k=>
   have hk':l[k]? =some (.b g o):=by simpa using hk
   cases c with
   |b k' o'=>exact ⟨(ih h.2 hk').1,List.mem_cons_of_mem _ (ih h.2 hk').2⟩
   |f F=>exact ih h.2 hk'
theorem Keeps.turn {l:List Blk} {W W1:World} {g k:Nat} {o0 o:Obj} (h:Keeps l W) (hd:(nums l).Nodup) (hk:l[k]? =some (.b g o0)) (ht:noData o0=true) (ho:∀ k,k≠g→W1.heap[k]? =W.heap[k]?) (hw:W1.heap[g]? =some o):
  Keeps (l.set k (.b g o)) W1:=by
 induction l generalizing k with
 |nil=>cases hk
 |cons c l ih=>
  cases k with
  |zero=>
   obtain rfl:c= .b g o0:=by simpa using hk
   exact ⟨hw,h.2.far (List.nodup_cons.1 hd).1 h.1 ht ho⟩
  |succ k=>
   have hk':l[k]? =some (.b g o0):=by simpa using hk
   cases c with
   |b k' o'=>
    have hg:=h.2.get hk'
    refine ⟨(ho k' ?_).trans h.1,ih h.2 (List.nodup_cons.1 hd).2 hk'⟩
    rintro rfl
    exact (List.nodup_cons.1 hd).1 hg.2
   |f F=>exact ⟨F.far h.1 (h.2.get hk').1 ht ho,ih h.2 hd hk'⟩
theorem nums_set {l:List Blk} {k g:Nat} {o o':Obj} (hk:l[k]? =some (.b g o)):nums (l.set k (.b g o'))=nums l:=by
 induction l generalizing k with
 |nil=>rfl
 |cons c l ih=>
  cases k with
  |zero=>
   obtain rfl:c= .b g o:=by simpa using hk
   rfl
  |succ k=>
   have hk':l[k]? =some (.b g o):=by simpa using hk
   cases c with
   |b k' o''=>exact congrArg (k':: ·) (ih hk')
   |f F=>exact ih hk'
structure At (w:World) (l:List Blk) (W:World):Prop where
 b:Below w.heap.size w W
 k:Keeps l W
 d:(nums l).Nodup
section
variable {w W W1:World} {l:List Blk}
theorem At.start (w:World):At w [] w:=⟨Below.refl _ _,trivial,List.nodup_nil⟩
theorem At.hold {g:Nat} {o:Obj} (h:At w l W) (hg:W.heap[g]? =some o) (hn:g∉nums l):At w (.b g o::l) W:=
 ⟨h.b,⟨hg,h.k⟩,List.nodup_cons.2 ⟨hn,h.d⟩⟩
theorem At.fact (F:Fact) (h:At w l W) (hF:F.P W):At w (.f F::l) W:=⟨h.b,⟨hF,h.k⟩,h.d⟩
theorem At.step (h:At w l W) (hb:Below W.heap.size W W1):At w l W1:=⟨below_step h.b hb,h.k.below hb,h.d⟩
theorem At.alloc (h:At w l W) (o:Obj):At w l (W.alloc o):=h.step (below_alloc (Below.refl _ _) o)
theorem At.drew (h:At w l W):At w l W.drew:=h.step (below_drew (Below.refl _ _))
theorem At.drewN (h:At w l W) (n:Nat):At w l (W.drewN n):=h.step (pw_below_drewN (Below.refl _ _) n)
theorem At.fresh (h:At w l W):W.heap.size∉nums l:=fun hm=>Nat.lt_irrefl _ (h.k.lt _ hm)
theorem At.new (h:At w l W) (o:Obj):At w (.b W.heap.size o::l) (W.alloc o):=
 ⟨below_step h.b (below_alloc (Below.refl _ _) _),⟨blk_new W _,h.k.below (below_alloc (Below.refl _ _) _)⟩,List.nodup_cons.2 ⟨h.fresh,h.d⟩⟩
theorem At.came {g:Nat} {o:Obj} (h:At w l W) (hb:Below W.heap.size W W1) (hg:W1.heap[g]? =some o) (hn:W.heap.size≤g):At w (.b g o::l) W1:=
 (h.step hb).hold hg (fun hm=>Nat.lt_irrefl _ (Nat.lt_of_lt_of_le (h.k.lt _ hm) hn))
theorem At.store {g i:Nat} {cs:Array Value} {t:TypeId} {v:Value} (k:Nat) (h:At w l W) (hk:l[k]? =some (.b g (row cs t))) (hg:w.heap.size≤g) (ht:datT t=false):At w (l.set k (.b g (row (cs.setIfInBounds i v) t))) (W.setCell ⟨g,i,none⟩ v):=
 ⟨below_set h.b hg,h.k.turn h.d hk (noData_row ht) (fun j hj=>Below.heap_setCell W ⟨g,i,none⟩ v j hj) (blk_set (h.k.get hk).1 i v),by rw [nums_set hk];exact h.d⟩
theorem At.store_to {g i:Nat} {cs:Array Value} {t:TypeId} {v:Value} (k:Nat) (new:Array Value) (h:At w l W) (hk:l[k]? =some (.b g (row cs t))) (hg:w.heap.size≤g) (ht:datT t=false) (e:cs.setIfInBounds i v=new):At w (l.set k (.b g (row new t))) (W.setCell ⟨g,i,none⟩ v):=by
 subst e
 exact h.store k hk hg ht
theorem At.putrow {g:Nat} {cs new:Array Value} {t:TypeId} (k:Nat) (h:At w l W) (hk:l[k]? =some (.b g (row cs t))) (hg:w.heap.size≤g) (ht:datT t=false):At w (l.set k (.b g (row new t))) (W.setRow g new):=
 ⟨⟨h.b.os,h.b.tape,h.b.output,by have:=h.b.size;simpa [World.setRow] using this,fun j hj=>(setRow_other W g j new (by omega)).trans (h.b.block j hj)⟩,h.k.turn h.d hk (noData_row ht) (fun j hj=>setRow_other W g j new hj) (setRow_heap W g cs new t (0,0) (h.k.get hk).1),by rw [nums_set hk];exact h.d⟩
theorem At.turned {g:Nat} {es es':Array MapEntry} {c c':Nat} (k:Nat) (h:At w l W) (hk:l[k]? =some (.b g (.map es c))) (hg:w.heap.size≤g):At w (l.set k (.b g (.map es' c'))) (ChangeMaps.setBlock W g (.map es' c')):=
 have hb:=(h.k.get hk).1
 ⟨⟨h.b.os,h.b.tape,h.b.output,by have:=h.b.size;simpa [ChangeMaps.setBlock] using this,fun j hj=>(ChangeMaps.heap_setBlock_other hb _ (by omega)).trans (h.b.block j hj)⟩,h.k.turn h.d hk rfl (fun j hj=>ChangeMaps.heap_setBlock_other hb _ hj) (ChangeMaps.heap_setBlock_same hb _),by rw [nums_set hk];exact h.d⟩
def offT (e:TypeId):List Blk→Bool
 |[]=>true
 | .b _ (.cells _ t _)::l=>t != e&&offT e l
 | .b _ _::l=>offT e l
 | .f _::_=>false
theorem At.grown {v:Value} {e:TypeId} (h:At w l W) (hl:offT e l=true) (hk:∀ k,v.ownBlock=some k→w.heap.size≤k∧∃ cells,W.heap[k]? =some (.cells cells e (0,0))) (hg:W.grownBy W1 v.ownBlock):At w l W1:=by
 refine ⟨⟨hg.os.trans h.b.os,hg.tape.trans h.b.tape,hg.output.trans h.b.output,Nat.le_trans h.b.size hg.size,fun j hj=>(hg.block j (by have:=h.b.size;omega) (fun e=>by have:=(hk j e.symm).1;omega)).trans (h.b.block j hj)⟩,?_,h.d⟩
 have hk':=h.k
 clear h
 induction l with
 |nil=>trivial
 |cons b l ih=>
  cases b with
  |f F=>simp [offT] at hl
  |b g o=>
   have hne:some g≠v.ownBlock:=fun e1=>by
    obtain ⟨_,cells,hc⟩:=hk g e1.symm
    have e2:=hk'.1.symm.trans hc
    cases e2
    simp [offT] at hl
   refine ⟨(hg.block g (blk_lt hk'.1) hne).trans hk'.1,ih ?_ hk'.2⟩
   cases o<;>simp [offT] at hl ⊢ <;>first|exact hl.2|exact hl
theorem At.drop {b:Blk} (h:At w (b::l) W):At w l W:=by
 cases b with
 |b g o=>exact ⟨h.b,h.k.2,(List.nodup_cons.1 h.d).2⟩
 |f F=>exact ⟨h.b,h.k.2,h.d⟩
theorem Keeps.sub {l l':List Blk} {W:World} (hs:l'.Sublist l) (h:Keeps l W):Keeps l' W:=by
 induction hs with
 |slnil=>trivial
 |cons b hs ih=>cases b with
  |b g o=>exact ih h.2
  |f F=>exact ih h.2
 |cons_cons b hs ih=>cases b with
  |b g o=>exact ⟨h.1,ih h.2⟩
  |f F=>exact ⟨h.1,ih h.2⟩
theorem nums_sub {l l':List Blk} (hs:l'.Sublist l):(nums l').Sublist (nums l):=by
 induction hs with
 |slnil=>exact List.Sublist.slnil
 |cons b hs ih=>cases b with
  |b g o=>exact List.Sublist.cons _ ih
  |f F=>exact ih
 |cons_cons b hs ih=>cases b with
  |b g o=>exact List.Sublist.cons_cons _ ih
  |f F=>exact ih
theorem Keeps.perm {l l':List Blk} {W:World} (hp:l.Perm l'):Keeps l W→Keeps l' W:=by
 induction hp with
 |nil=>exact id
 |cons b hp ih=>cases b with
  |b g o=>exact fun h=>⟨h.1,ih h.2⟩
  |f F=>exact fun h=>⟨h.1,ih h.2⟩
 |swap b c l=>cases b<;>cases c<;>exact fun h=>⟨h.2.1,h.1,h.2.2⟩
 |trans _ _ i1 i2=>exact fun h=>i2 (i1 h)
theorem nums_perm {l l':List Blk} (hp:l.Perm l'):(nums l).Perm (nums l'):=by
 induction hp with
 |nil=>exact List.Perm.refl _
 |cons b hp ih=>cases b with
  |b g o=>exact ih.cons g
  |f F=>exact ih
 |swap b c l=>cases b<;>cases c<;>first|exact List.Perm.swap _ _ _|exact List.Perm.refl _
 |trans _ _ i1 i2=>exact i1.trans i2
theorem At.perm {l':List Blk} (h:At w l W) (hp:l.Perm l'):At w l' W:=⟨h.b,h.k.perm hp,(nums_perm hp).nodup_iff.1 h.d⟩
theorem front_perm {l:List Blk} {k:Nat} {b:Blk} (hk:l[k]? =some b):l.Perm (b::l.eraseIdx k):=by
 induction l generalizing k with
 |nil=>cases hk
 |cons c l ih=>
  cases k with
  |zero=>
   obtain rfl:c=b:=by simpa using hk
   exact List.Perm.refl _
  |succ k=>
   have hk':l[k]? =some b:=by simpa using hk
   exact ((ih hk').cons c).trans (List.Perm.swap _ _ _)
theorem At.front {b:Blk} (k:Nat) (h:At w l W) (hk:l[k]? =some b):At w (b::l.eraseIdx k) W:=by
 exact h.perm (front_perm hk)
theorem At.sub {l':List Blk} (h:At w l W) (hs:l'.Sublist l):At w l' W:=⟨h.b,h.k.sub hs,h.d.sublist (nums_sub hs)⟩
end
theorem R_far_of {α:Type} {d:Kd α} {e:Nat} {W W1:World} {base:Nat} {v:Value} {xs:List α} {g:Nat} {o:Obj} (h:Kd.R d e W base (fun _=>True) v xs) (hg:W.heap[g]? =some o) (ht:noData o=true) (ho:∀ k,k≠g→W1.heap[k]? =W.heap[k]?)
  (hE:∀ q,q∈e::d.E→datT q=true):Kd.R d e W1 base (fun _=>True) v xs:=by
 refine Kd.R_mono (Kd.R_move (Kd.R_bound h) (fun k hk=>ho k ?_)) (fun _ _=>trivial)
 obtain ⟨_,_,_,q,hq,cells,hc⟩:=hk
 rintro rfl
 rw [hc] at hg
 cases hg
 simp [noData,hE q hq] at ht
def Fact.rows {α:Type} (d:Kd α) (e:Nat) (base:Nat) (hE:∀ q,q∈e::d.E→datT q=true) (v:Value) (xs:List α):Fact where
 P W:=Kd.R d e W base (fun _=>True) v xs
 below h hb:=Kd.R_below h hb
 far h hg ht ho:=R_far_of h hg ht ho hE
def Fact.strs (v : Value) (xs : List ByteArray) : Fact where
  P W := Kd.R Kd.string 9 W 0 (fun _ => True) v xs
  below h hb := Kd.R_below h hb
  far h hg ht ho := R_far_of h hg ht ho (by intro q hq; have : q = 9 := by simpa [Kd.string, Kd.scalar] using hq
                                            subst this; rfl)
section
variable {P:Program} {ops:Array Oper} {rest:List Oper} {o:Oper} {a:Act} {Q:Exit→Act→World→Prop} {w W:World} {l:List Blk}
theorem new_at (H:At w l W) (hgd:o.guard=none) {N:Tmp} (_hd:o.dst=some N) {ob:Obj} {v:Nat→Value}
  (hrun:(execOp a.eval o).run P W= .ok (.value (v W.heap.size)) (W.alloc ob))
  (h:∀ g w1,At w (.b g ob::l) w1→w.heap.size≤g→wpList P ops Q rest (a.put o.dst (v g)) w1):wpList P ops Q (o::rest) a W:=
 Kd.event_run hgd hrun (h _ _ (H.new _) H.b.size)
theorem call_at {f:FuncId} {fn:Func} {xs:Array Operand} {ts:Array TypeId} (args:Array Value) (v:Value) (H:At w l W) (hg:o.guard=none) (hf:P.funcs[f]? =some fn) (hname:(fn.name == "runtime.NumGoroutine")=false) (hb:fn.body.isSome=true)
  (hop:o.op= .call {callee:= .value (.func f),args:=xs,argTypes:=ts}) (hargs:xs.map a.eval=args)
  (hc:Calls P f args W fun e w'=>e= .returned v∧Below W.heap.size W w')
  (h:∀ w1,At w l w1→wpList P ops Q rest (a.put o.dst v) w1):wpList P ops Q (o::rest) a W:=by
 refine goesL_ _ rfl hg hf hname hb args hop hargs (hc.mono ?_)
 rintro e w' ⟨rfl,hbw⟩
 exact ⟨v,rfl,h w' (H.step hbw)⟩
theorem call_to {f:FuncId} {fn:Func} {xs:Array Operand} {ts:Array TypeId} (args:Array Value) (v:Value) (F:World→Prop) (hg:o.guard=none) (hf:P.funcs[f]? =some fn) (hname:(fn.name == "runtime.NumGoroutine")=false) (hb:fn.body.isSome=true)
  (hop:o.op= .call {callee:= .value (.func f),args:=xs,argTypes:=ts}) (hargs:xs.map a.eval=args)
  (hc:Calls P f args W fun e w'=>e= .returned v∧F w')
  (h:∀ w1,F w1→wpList P ops Q rest (a.put o.dst v) w1):wpList P ops Q (o::rest) a W:=by
 refine goesL_ _ rfl hg hf hname hb args hop hargs (hc.mono ?_)
 rintro e w' ⟨rfl,hF⟩
 exact ⟨v,rfl,h w' hF⟩
theorem call_with {f:FuncId} {fn:Func} {xs:Array Operand} {ts:Array TypeId} (args:Array Value) (F:Value→World→Prop) (H:At w l W) (hg:o.guard=none) (hf:P.funcs[f]? =some fn) (hname:(fn.name == "runtime.NumGoroutine")=false) (hb:fn.body.isSome=true)
  (hop:o.op= .call {callee:= .value (.func f),args:=xs,argTypes:=ts}) (hargs:xs.map a.eval=args)
  (hc:Calls P f args W fun e w'=>∃ v,e= .returned v∧F v w'∧Below W.heap.size W w')
  (h:∀ v w1,At w l w1→F v w1→Below W.heap.size W w1→wpList P ops Q rest (a.put o.dst v) w1):wpList P ops Q (o::rest) a W:=by
 refine goesL_ _ rfl hg hf hname hb args hop hargs (hc.mono ?_)
 rintro e w' ⟨v,rfl,hF,hbw⟩
 exact ⟨v,rfl,h v w' (H.step hbw) hF hbw⟩
theorem load_at {ty:TypeId} {x:Operand} (g:Nat) (cs:Array Value) (hgd:o.guard=none) (ho:o.op= .load ty x) (hx:a.eval x= .pointer (some ⟨g,0,none⟩)) {d:TypeDesc} (hg:W.heap[g]? =some (.cells cs ty (0,0)))
  (hu:P.underlying ty=some d) (hd:(match d with| .struct _| .array _ _=>true|_=>false)=true) (hi:(P.info? ty).map (·.size)=some cs.size)
  (h:wpList P ops Q rest (a.put o.dst (.agg cs)) W):wpList P ops Q (o::rest) a W:=
 wpList_load_row hgd ty x ho g hx ty cs (0,0) d hg hu hd hi h
theorem loadr_ {oi:Oper} {N:Option Tmp} {K:Act→World→Prop} {ty:TypeId} {x:Operand} (g:Nat) (cs:Array Value) (hw:Region.wanted oi (yielded ops a.tmps)=true) (hN:oi.dst=N) (ho:oi.op= .load ty x) (hx:a.eval x= .pointer (some ⟨g,0,none⟩)) {d:TypeDesc} (hg:W.heap[g]? =some (.cells cs ty (0,0)))
  (hu:P.underlying ty=some d) (hd:(match d with| .struct _| .array _ _=>true|_=>false)=true) (hi:(P.info? ty).map (·.size)=some cs.size)
  (h:K (a.put N (.agg cs)) W):if Region.wanted oi (yielded ops a.tmps)=true then Oper.wp P oi a W K Q else K (a.put N undef) W:=by
 rw [if_pos hw]
 subst hN
 exact wp_load_row ty x ho g hx ty cs (0,0) d hg hu hd hi h
theorem storerow_at {ty:TypeId} {x y:Operand} {g:Nat} {cs:Array Value} (k:Nat) (new:Array Value) (H:At w l W) (hk:l[k]? =some (.b g (row cs ty))) (hgw:w.heap.size≤g) (ht:datT ty=false) (hgd:o.guard=none) (ho:o.op= .store ty x y) (hN:o.dst=none)
  (hx:a.eval x= .pointer (some ⟨g,0,none⟩)) (hy:a.eval y= .agg new) (hi:(P.info? ty).map (·.size)=some new.size) (hold:cs.size=new.size) (h1:new.all (·.oneCell')=true)
  (h:∀ w1,At w (l.set k (.b g (row new ty))) w1→wpList P ops Q rest a w1):wpList P ops Q (o::rest) a W:=by
 refine wpList_store_row hgd ty x y ho g new hx hy ty cs (H.k.get hk).1 hi hold h1 ?_
 rw [hN]
 exact h _ (H.putrow k hk hgw ht)
theorem store_at {t ty:TypeId} {p:Tmp} {y:Operand} {g i:Nat} {cs:Array Value} {v:Value} (k:Nat) (new:Array Value) (e:cs.setIfInBounds i v=new) (H:At w l W) (hk:l[k]? =some (.b g (row cs ty))) (hgw:w.heap.size≤g) (ht:datT ty=false) (hgd:o.guard=none) (_ho:o.op= .store t (.tmp p) y) (hN:o.dst=none)
  (hrun:(execOp a.eval o).run P W= .ok .skip (W.setCell ⟨g,i,none⟩ v))
  (h:∀ w1,At w (l.set k (.b g (row new ty))) w1→wpList P ops Q rest a w1):wpList P ops Q (o::rest) a W:=
 store_event hgd _ho hN hrun (fun w' e'=>h w' (by rw [e'];exact H.store_to k new hk hgw ht e))
end
structure Nd where
 kind:Int
 he:Bool
 en:Value
 co:Value
 pi:Bool
 pt:Value
 fi:Bool
 ft:Value
 req:Value
 nee:Value
abbrev nilS:Value:= .slice none 0 0
abbrev i0:Value:= .int .i64 0
abbrev bF:Value:= .bool false
def Nd.cells (n:Nd):Array Value:=#[.int .i64 n.kind,i0,nilS,nilS,nilS,i0,i0,i0,i0,nilS,.bool n.he,n.en,n.co,bF,i0,bF,i0,.bool n.pi,n.pt,.bool n.fi,n.ft,
 bF,i0,bF,i0,bF,i0,bF,i0,bF,nilS,i0,i0,i0,bF,i0,bF,i0,n.req,n.nee,nilS,nilS,nilS,i0,i0,i0,i0,i0,bF,nilS,i0,i0,nilS]
theorem Nd.c0 (n:Nd):n.cells[0]? =some (.int .i64 n.kind):=rfl
theorem Nd.c1 (n:Nd):n.cells[1]? =some (i0):=rfl
theorem Nd.c2 (n:Nd):n.cells[2]? =some (nilS):=rfl
theorem Nd.c3 (n:Nd):n.cells[3]? =some (nilS):=rfl
theorem Nd.c4 (n:Nd):n.cells[4]? =some (nilS):=rfl
theorem Nd.c5 (n:Nd):n.cells[5]? =some (i0):=rfl
theorem Nd.c6 (n:Nd):n.cells[6]? =some (i0):=rfl
theorem Nd.c7 (n:Nd):n.cells[7]? =some (i0):=rfl
theorem Nd.c8 (n:Nd):n.cells[8]? =some (i0):=rfl
theorem Nd.c9 (n:Nd):n.cells[9]? =some (nilS):=rfl
theorem Nd.c10 (n:Nd):n.cells[10]? =some (.bool n.he):=rfl
theorem Nd.c11 (n:Nd):n.cells[11]? =some (n.en):=rfl
theorem Nd.c12 (n:Nd):n.cells[12]? =some (n.co):=rfl
theorem Nd.c13 (n:Nd):n.cells[13]? =some (bF):=rfl
theorem Nd.c14 (n:Nd):n.cells[14]? =some (i0):=rfl
theorem Nd.c15 (n:Nd):n.cells[15]? =some (bF):=rfl
theorem Nd.c16 (n:Nd):n.cells[16]? =some (i0):=rfl
theorem Nd.c17 (n:Nd):n.cells[17]? =some (.bool n.pi):=rfl
theorem Nd.c18 (n:Nd):n.cells[18]? =some (n.pt):=rfl
theorem Nd.c19 (n:Nd):n.cells[19]? =some (.bool n.fi):=rfl
theorem Nd.c20 (n:Nd):n.cells[20]? =some (n.ft):=rfl
theorem Nd.c21 (n:Nd):n.cells[21]? =some (bF):=rfl
theorem Nd.c22 (n:Nd):n.cells[22]? =some (i0):=rfl
theorem Nd.c23 (n:Nd):n.cells[23]? =some (bF):=rfl
theorem Nd.c24 (n:Nd):n.cells[24]? =some (i0):=rfl
theorem Nd.c25 (n:Nd):n.cells[25]? =some (bF):=rfl
theorem Nd.c26 (n:Nd):n.cells[26]? =some (i0):=rfl
theorem Nd.c27 (n:Nd):n.cells[27]? =some (bF):=rfl
theorem Nd.c28 (n:Nd):n.cells[28]? =some (i0):=rfl
theorem Nd.c29 (n:Nd):n.cells[29]? =some (bF):=rfl
theorem Nd.c30 (n:Nd):n.cells[30]? =some (nilS):=rfl
theorem Nd.c31 (n:Nd):n.cells[31]? =some (i0):=rfl
theorem Nd.c32 (n:Nd):n.cells[32]? =some (i0):=rfl
theorem Nd.c33 (n:Nd):n.cells[33]? =some (i0):=rfl
theorem Nd.c34 (n:Nd):n.cells[34]? =some (bF):=rfl
theorem Nd.c35 (n:Nd):n.cells[35]? =some (i0):=rfl
theorem Nd.c36 (n:Nd):n.cells[36]? =some (bF):=rfl
theorem Nd.c37 (n:Nd):n.cells[37]? =some (i0):=rfl
theorem Nd.c38 (n:Nd):n.cells[38]? =some (n.req):=rfl
theorem Nd.c39 (n:Nd):n.cells[39]? =some (n.nee):=rfl
theorem Nd.c40 (n:Nd):n.cells[40]? =some (nilS):=rfl
theorem Nd.c41 (n:Nd):n.cells[41]? =some (nilS):=rfl
theorem Nd.c42 (n:Nd):n.cells[42]? =some (nilS):=rfl
theorem Nd.c43 (n:Nd):n.cells[43]? =some (i0):=rfl
theorem Nd.c44 (n:Nd):n.cells[44]? =some (i0):=rfl
theorem Nd.c45 (n:Nd):n.cells[45]? =some (i0):=rfl
theorem Nd.c46 (n:Nd):n.cells[46]? =some (i0):=rfl
theorem Nd.c47 (n:Nd):n.cells[47]? =some (i0):=rfl
theorem Nd.c48 (n:Nd):n.cells[48]? =some (bF):=rfl
theorem Nd.c49 (n:Nd):n.cells[49]? =some (nilS):=rfl
theorem Nd.c50 (n:Nd):n.cells[50]? =some (i0):=rfl
theorem Nd.c51 (n:Nd):n.cells[51]? =some (i0):=rfl
theorem Nd.c52 (n:Nd):n.cells[52]? =some (nilS):=rfl
theorem Nd.csize (n:Nd):n.cells.size=53:=rfl
attribute [local go_sem] Nd.csize Nd.c0 Nd.c1 Nd.c2 Nd.c3 Nd.c4 Nd.c5 Nd.c6 Nd.c7 Nd.c8 Nd.c9 Nd.c10 Nd.c11 Nd.c12 Nd.c13 Nd.c14 Nd.c15 Nd.c16 Nd.c17 Nd.c18 Nd.c19 Nd.c20 Nd.c21 Nd.c22 Nd.c23 Nd.c24 Nd.c25 Nd.c26 Nd.c27 Nd.c28 Nd.c29 Nd.c30 Nd.c31 Nd.c32 Nd.c33 Nd.c34 Nd.c35 Nd.c36 Nd.c37 Nd.c38 Nd.c39 Nd.c40 Nd.c41 Nd.c42 Nd.c43 Nd.c44 Nd.c45 Nd.c46 Nd.c47 Nd.c48 Nd.c49 Nd.c50 Nd.c51 Nd.c52
structure Sc where
 draft:Int
 loc:ByteArray
 bool:Value
 enum:Value
 const:Value
 format:Value
 req:Value
 props:Value
 pats:Value
 deps:Value
 dreq:Value
 dsch:Value
 pat:Value
abbrev nP:Value:= .pointer none
abbrev eS:Value:= .string ⟨#[]⟩
abbrev nM:Value:= .map none
def Sc.cells (s:Sc):Array Value:=#[bF,bF,i0,.int .i64 s.draft,.string s.loc,s.bool,eS,nP,eS,nP,s.enum,s.const,nP,nilS,nilS,nilS,nP,nP,nP,s.format,nP,nP,s.req,nP,s.props,s.pats,.nilIface,s.deps,s.dreq,s.dsch,nP,nP,nP,bF,nP,nP,nP,.nilIface,.nilIface,nilS,nP,nP,nP,nP,s.pat,eS,eS,nP,eS,bF,bF,nilS,bF]
theorem Sc.c0 (s:Sc):s.cells[0]? =some (bF):=rfl
theorem Sc.c1 (s:Sc):s.cells[1]? =some (bF):=rfl
theorem Sc.c2 (s:Sc):s.cells[2]? =some (i0):=rfl
theorem Sc.c3 (s:Sc):s.cells[3]? =some (.int .i64 s.draft):=rfl
theorem Sc.c4 (s:Sc):s.cells[4]? =some (.string s.loc):=rfl
theorem Sc.c5 (s:Sc):s.cells[5]? =some (s.bool):=rfl
theorem Sc.c6 (s:Sc):s.cells[6]? =some (eS):=rfl
theorem Sc.c7 (s:Sc):s.cells[7]? =some (nP):=rfl
theorem Sc.c8 (s:Sc):s.cells[8]? =some (eS):=rfl
theorem Sc.c9 (s:Sc):s.cells[9]? =some (nP):=rfl
theorem Sc.c10 (s:Sc):s.cells[10]? =some (s.enum):=rfl
theorem Sc.c11 (s:Sc):s.cells[11]? =some (s.const):=rfl
theorem Sc.c12 (s:Sc):s.cells[12]? =some (nP):=rfl
theorem Sc.c13 (s:Sc):s.cells[13]? =some (nilS):=rfl
theorem Sc.c14 (s:Sc):s.cells[14]? =some (nilS):=rfl
theorem Sc.c15 (s:Sc):s.cells[15]? =some (nilS):=rfl
theorem Sc.c16 (s:Sc):s.cells[16]? =some (nP):=rfl
theorem Sc.c17 (s:Sc):s.cells[17]? =some (nP):=rfl
theorem Sc.c18 (s:Sc):s.cells[18]? =some (nP):=rfl
theorem Sc.c19 (s:Sc):s.cells[19]? =some (s.format):=rfl
theorem Sc.c20 (s:Sc):s.cells[20]? =some (nP):=rfl
theorem Sc.c21 (s:Sc):s.cells[21]? =some (nP):=rfl
theorem Sc.c22 (s:Sc):s.cells[22]? =some (s.req):=rfl
theorem Sc.c23 (s:Sc):s.cells[23]? =some (nP):=rfl
theorem Sc.c24 (s:Sc):s.cells[24]? =some (s.props):=rfl
theorem Sc.c25 (s:Sc):s.cells[25]? =some (s.pats):=rfl
theorem Sc.c26 (s:Sc):s.cells[26]? =some (.nilIface):=rfl
theorem Sc.c27 (s:Sc):s.cells[27]? =some (s.deps):=rfl
theorem Sc.c28 (s:Sc):s.cells[28]? =some (s.dreq):=rfl
theorem Sc.c29 (s:Sc):s.cells[29]? =some (s.dsch):=rfl
theorem Sc.c30 (s:Sc):s.cells[30]? =some (nP):=rfl
theorem Sc.c31 (s:Sc):s.cells[31]? =some (nP):=rfl
theorem Sc.c32 (s:Sc):s.cells[32]? =some (nP):=rfl
theorem Sc.c33 (s:Sc):s.cells[33]? =some (bF):=rfl
theorem Sc.c34 (s:Sc):s.cells[34]? =some (nP):=rfl
theorem Sc.c35 (s:Sc):s.cells[35]? =some (nP):=rfl
theorem Sc.c36 (s:Sc):s.cells[36]? =some (nP):=rfl
theorem Sc.c37 (s:Sc):s.cells[37]? =some (.nilIface):=rfl
theorem Sc.c38 (s:Sc):s.cells[38]? =some (.nilIface):=rfl
theorem Sc.c39 (s:Sc):s.cells[39]? =some (nilS):=rfl
theorem Sc.c40 (s:Sc):s.cells[40]? =some (nP):=rfl
theorem Sc.c41 (s:Sc):s.cells[41]? =some (nP):=rfl
theorem Sc.c42 (s:Sc):s.cells[42]? =some (nP):=rfl
theorem Sc.c43 (s:Sc):s.cells[43]? =some (nP):=rfl
theorem Sc.c44 (s:Sc):s.cells[44]? =some (s.pat):=rfl
theorem Sc.c45 (s:Sc):s.cells[45]? =some (eS):=rfl
theorem Sc.c46 (s:Sc):s.cells[46]? =some (eS):=rfl
theorem Sc.c47 (s:Sc):s.cells[47]? =some (nP):=rfl
theorem Sc.c48 (s:Sc):s.cells[48]? =some (eS):=rfl
theorem Sc.c49 (s:Sc):s.cells[49]? =some (bF):=rfl
theorem Sc.c50 (s:Sc):s.cells[50]? =some (bF):=rfl
theorem Sc.c51 (s:Sc):s.cells[51]? =some (nilS):=rfl
theorem Sc.c52 (s:Sc):s.cells[52]? =some (bF):=rfl
theorem Sc.csize (s:Sc):s.cells.size=53:=rfl
abbrev jvc (x:S25) (A4 A5:Option Addr) (c4 c5:Nat):Array Value:=#[.int .i64 x.f0,.bool x.f1,.int .i64 x.f2,.string x.f3,.slice A4 x.f4.length c4,.slice A5 x.f5.length c5]
theorem more_none (w:World) (d:Int) (s0 s1:Value) (vs:Array Value):
  Calls Tryz.prog 118 #[.int .i64 d,.agg #[s0,s1],.agg #[i0,i0],.agg vs] w fun e w'=>e= .returned (.tuple #[.bool true,.bool false])∧Below w.heap.size w w':=by
 go_enter Tryz.func118,Tryz.ntmps118
 go_wp2
 go_ret2
 exact ⟨rfl,by repeat (first|exact Below.refl _ _|apply below_alloc)⟩
theorem several_none (w:World) (d:Int) (s0 s1 m:Value) (vs:Array Value):
  Calls Tryz.prog 63 #[.int .i64 d,.agg #[s0,s1],nilS,.agg vs,m] w fun e w'=>e= .returned i0∧Below w.heap.size w w':=by
 go_enter Tryz.func63,Tryz.ntmps63
 go_wp2_with (first|refine wp_loop_once ?_)
 go_ret
 exact ⟨rfl,by repeat (first|exact Below.refl _ _|apply below_alloc)⟩
theorem depends_none (w:World) (d:Int) (s0 s1 m:Value) (n:Nd) (vs:Array Value):
  Calls Tryz.prog 67 #[.int .i64 d,.agg #[s0,s1],.agg n.cells,.agg vs,m] w fun e w'=>e= .returned (.bool true)∧Below w.heap.size w w':=by
 go_enter Tryz.func67,Tryz.ntmps67
 go_wp2_with (first|refine wp_loop_once ?_)
 go_ret
 exact ⟨rfl,by repeat (first|exact Below.refl _ _|apply below_alloc|apply pw_below_drewN|apply below_drew1)⟩
theorem member_none (w:World) (d:Int) (s0 s1:Value) (n:Nd) (name:ByteArray) (x:S25) (A4 A5:Option Addr) (c4 c5:Nat):
  Calls Tryz.prog 76 #[.int .i64 d,.agg #[s0,s1],.agg n.cells,.string name,.agg (jvc x A4 A5 c4 c5)] w fun e w'=>e= .returned (.tuple #[.bool true,.bool false])∧Below w.heap.size w w':=by
 go_enter Tryz.func76,Tryz.ntmps76
 go_wp2_with (first|refine wp_loop_once ?_|(go_at_call 118;refine (more_none _ _ _ _ _).mono ?_;rintro e w1 ⟨rfl,hb⟩))
 go_ret2
 exact ⟨rfl,below_step (by repeat (first|exact Below.refl _ _|apply below_alloc|apply pw_below_drewN|apply below_drew1)) hb⟩
theorem element_none (w:World) (s0 s1:Value) (n:Nd) (i:Int) (hi:0≤i) (x:S25) (A4 A5:Option Addr) (c4 c5:Nat):
  Calls Tryz.prog 72 #[.int .i64 2020,.agg #[s0,s1],.agg n.cells,.int .i64 i,.agg (jvc x A4 A5 c4 c5)] w fun e w'=>e= .returned (.tuple #[.bool true,.bool false])∧Below w.heap.size w w':=by
 go_enter Tryz.func72,Tryz.ntmps72
 go_wp2_with fail
 go_ret2
 exact ⟨rfl,by repeat (first|exact Below.refl _ _|apply below_alloc|apply pw_below_drewN|apply below_drew1)⟩
theorem values_none (w:World) (n:Nd) (he:n.he=false) (hc:n.co=nilS) (x:S25) (A4 A5:Option Addr) (c4 c5:Nat):
  Calls Tryz.prog 31 #[.agg n.cells,.agg (jvc x A4 A5 c4 c5)] w fun e w'=>e= .returned (.bool true)∧Below w.heap.size w w':=by
 go_enter Tryz.func31,Tryz.ntmps31
 go_wp2_with fail
 go_quiet (fail)
 go_wp2_with fail
 go_ret
 exact ⟨rfl,by repeat (first|exact Below.refl _ _|apply below_alloc|apply pw_below_drewN|apply below_drew1)⟩
abbrev ndA (he:Bool) (en:Value) (Aco:Option Addr) (lco cco:Nat) (pi:Bool) (pt:Value) (fi:Bool) (ft:Value):Array Value:=Nd.cells ⟨0,he,en,.slice Aco lco cco,pi,pt,fi,ft,nilS,nilS⟩
abbrev ndE (A:Option Addr) {α:Type} (l:List α) (c:Nat):Array Value:=Nd.cells ⟨0,true,.slice A l.length c,nilS,false,nilS,false,nilS,nilS,nilS⟩
abbrev ndC (g c:Nat):Array Value:=Nd.cells ⟨0,false,nilS,.slice (some ⟨g,0,none⟩) 1 c,false,nilS,false,nilS,nilS,nilS⟩
abbrev ndP (b:Bool) (A:Option Addr) (l:List ByteArray) (c:Nat):Array Value:=Nd.cells ⟨0,false,nilS,nilS,b,.slice A l.length c,false,nilS,nilS,nilS⟩
abbrev ndF (b:Bool) (A:Option Addr) (l:List ByteArray) (c:Nat):Array Value:=Nd.cells ⟨0,false,nilS,nilS,false,nilS,b,.slice A l.length c,nilS,nilS⟩
abbrev ndZ (p f:Value):Array Value:=Nd.cells ⟨0,false,nilS,nilS,false,p,false,f,nilS,nilS⟩
attribute [go_sem] Nd.csize Sc.csize Nd.c0 Nd.c1 Nd.c2 Nd.c3 Nd.c4 Nd.c5 Nd.c6 Nd.c7 Nd.c8 Nd.c9 Nd.c10 Nd.c11 Nd.c12 Nd.c13 Nd.c14 Nd.c15 Nd.c16 Nd.c17 Nd.c18 Nd.c19 Nd.c20 Nd.c21 Nd.c22 Nd.c23 Nd.c24 Nd.c25 Nd.c26 Nd.c27 Nd.c28 Nd.c29 Nd.c30 Nd.c31 Nd.c32 Nd.c33 Nd.c34 Nd.c35 Nd.c36 Nd.c37 Nd.c38 Nd.c39 Nd.c40 Nd.c41 Nd.c42 Nd.c43 Nd.c44 Nd.c45 Nd.c46 Nd.c47 Nd.c48 Nd.c49 Nd.c50 Nd.c51 Nd.c52 Sc.c0 Sc.c1 Sc.c2 Sc.c3 Sc.c4 Sc.c5 Sc.c6 Sc.c7 Sc.c8 Sc.c9 Sc.c10 Sc.c11 Sc.c12 Sc.c13 Sc.c14 Sc.c15 Sc.c16 Sc.c17 Sc.c18 Sc.c19 Sc.c20 Sc.c21 Sc.c22 Sc.c23 Sc.c24 Sc.c25 Sc.c26 Sc.c27 Sc.c28 Sc.c29 Sc.c30 Sc.c31 Sc.c32 Sc.c33 Sc.c34 Sc.c35 Sc.c36 Sc.c37 Sc.c38 Sc.c39 Sc.c40 Sc.c41 Sc.c42 Sc.c43 Sc.c44 Sc.c45 Sc.c46 Sc.c47 Sc.c48 Sc.c49 Sc.c50 Sc.c51 Sc.c52
end Go.Proofs.YtkphbhncpdcbeaaGreatDoor.J
namespace Go.Proofs.YtkphbhncpdcbeaaGreatDoor.J
open Go.RowKit YtkphbhncpdcbeaaGreatDoorW.PrintWords YtkphbhncpdcbeaaGreatDoorW.PrintLast YtkphbhncpdcbeaaGreatDoorW.PrintMore PJT
open Go.ChangeMaps Go.MapKept Go.WideShapes
open Go.WideElems (Fit rd rg pl)
open Go.Maps (Keyed IsMap)
abbrev RD:=Value→Option (DataW Unit×List MemPlace)
def RT:RD:=fun _=>some (.lit (.bool true),[])
structure MapIs (P:Program) (kt:TypeId) (R:RD) (es:Array MapEntry) (clock n:Nat) (D:DataW Unit):Prop where
 fit:Fit P kt R es clock
 size:es.size≤n
 eq:D= .map ((es.toList.map (rg P kt R)).foldr DataW.insert [])
structure IterIs (P:Program) (kt:TypeId) (R:RD) (es:Array MapEntry) (clock since:Nat) (seen:Array Nat) (c0:Nat) (left:Lit→Bool) (cnt:Nat):Prop where
 hold:∀ x∈es.toList,x.born < since
 cnt:(leftOf es seen).size=cnt
 l1:∀ x∈es.toList,left (rg P kt R x).1= !seen.contains x.born
 l2:∀ kl,left kl=true→∃ x∈es.toList,(rg P kt R x).1=kl
 s1:since≤c0
 s2:since≤clock
theorem map_made (P:Program) (kt:TypeId) (R:RD):MapIs P kt R #[] 0 0 (.map []):=⟨⟨by simp,stamped_empty 0,by simp⟩,Nat.le_refl _,rfl⟩
section
variable {P:Program} {ops:Array Oper} {rest:List Oper} {o:Oper} {a:Act} {Q:Exit→Act→World→Prop} {w W W1:World} {l:List Blk} {kt:TypeId} {R:RD} {es:Array MapEntry} {clock n g r since c0 cnt:Nat} {seen:Array Nat} {left:Lit→Bool} {D:DataW Unit}
theorem At.owns (k:Nat) (h:At w l W) (hk:l[k]? =some (.b g (.map es clock))) (M:MapIs P kt R es clock n D):W.ownsMap P kt R g n D:=⟨es,clock,(h.k.get hk).1,M.fit,M.size,M.eq⟩
theorem At.updated {n':Nat} {D':DataW Unit} (k:Nat) (h:At w l W) (hk:l[k]? =some (.b g (.map es clock))) (hg:w.heap.size≤g) (ho:W1.ownsMap P kt R g n' D') (ht:W.mapTurned W1 g):∃ es' clock',MapIs P kt R es' clock' n' D'∧At w (l.set k (.b g (.map es' clock'))) W1:=by
 obtain ⟨es1,c1,es',c',hb,rfl⟩:=ht
 obtain ⟨es2,c2,hb2,F,hs,e⟩:=ho
 have e1:some (Obj.map es' c')=some (Obj.map es2 c2):=(heap_setBlock_same hb _).symm.trans hb2
 cases e1
 exact ⟨es',c',⟨F,hs,e⟩,h.turned k hk hg⟩
theorem At.swept {o1:Obj} (j:Nat) (h:At w l W) {o0:Obj} (hj:l[j]? =some (.b r o0)) (h0:noData o0=true) (hr:w.heap.size≤r) (hg:W.grownBy W1 (some r)) (hs:W1.heap.size=W.heap.size) (h1:W1.heap[r]? =some o1):At w (l.set j (.b r o1)) W1:=by
 have ha:∀ k,k≠r→W1.heap[k]? =W.heap[k]? :=fun k hk=>by
  by_cases hlt:k < W.heap.size
  ·exact hg.block k hlt (by simpa using hk)
  ·rw [Array.getElem?_eq_none (by omega),Array.getElem?_eq_none (by omega)]
 exact ⟨⟨hg.os.trans h.b.os,hg.tape.trans h.b.tape,hg.output.trans h.b.output,Nat.le_trans h.b.size hg.size,fun j hj=>(ha j (by omega)).trans (h.b.block j hj)⟩,h.k.turn h.d hj h0 ha h1,by rw [nums_set hj];exact h.d⟩
end
abbrev lit (s:ByteArray):Lit:= .string s.data.toList
theorem lit_inj {s t:ByteArray} (h:lit s=lit t):s=t:=by
 have h1:s.data.toList=t.data.toList:=by injection h
 cases s;cases t
 simp only [ByteArray.mk.injEq]
 exact Array.toList_inj.1 h1
def putAll (D:DataW Unit) (names:List ByteArray):DataW Unit:=names.foldl (fun D s=>D.put (lit s) (.lit (.bool true))) D
abbrev mapOf (names:List ByteArray):DataW Unit:=putAll (.map []) names
theorem putAll_snoc (D:DataW Unit) (names:List ByteArray) (s:ByteArray):putAll D (names ++ [s])=(putAll D names).put (lit s) (.lit (.bool true)):=by simp [putAll,List.foldl_append]
theorem wp_loop_two {P:Program} {c:Code} {Q:Exit→Act→World→Prop} {a:Act} {w:World} (h:c.wp P (Exit.then (fun a1 w1=>c.wp P (Exit.then (fun _ _=>False) Q) a1 w1) Q) a w):(Code.loop c).wp P Q a w:=by
 classical
 refine wp_loop (fun a' w'=>(a'=a∧w'=w)∨c.wp P (Exit.then (fun _ _=>False) Q) a' w') (fun a' w'=>if c.wp P (Exit.then (fun _ _=>False) Q) a' w' then 0 else 1) (Or.inl ⟨rfl,rfl⟩) ?_
 intro a' w' hr
 by_cases hc:c.wp P (Exit.then (fun _ _=>False) Q) a' w'
 ·exact Code.wp_mono (fun e a w q=>by cases e<;>first|exact q|exact q.elim) hc
 ·obtain ⟨rfl,rfl⟩:=hr.resolve_right hc
  refine Code.wp_mono (fun e a w q=> ?_) h
  cases e with
  |normal=>
   have q':c.wp P (Exit.then (fun _ _=>False) Q) a w:=q
   exact ⟨Or.inr q',by simp [q',hc]⟩
  |_=>exact q
section
variable {P:Program} {ops:Array Oper} {rest:List Oper} {o:Oper} {a:Act} {Q:Exit→Act→World→Prop} {w W:World} {l:List Blk} {Kc:Act→World→Prop}
theorem new_ (H:At w l W) (hw:Region.wanted o (yielded ops a.tmps)=true) {N:Tmp} (_hd:o.dst=some N) {ob:Obj} {v:Nat→Value}
  (hrun:(execOp a.eval o).run P W= .ok (.value (v W.heap.size)) (W.alloc ob))
  (h:∀ g w1,At w (.b g ob::l) w1→w.heap.size≤g→Kc (a.put o.dst (v g)) w1):if Region.wanted o (yielded ops a.tmps)=true then Oper.wp P o a W Kc Q else Kc (a.put o.dst undef) W:=
 event_step hw hrun (h _ _ (H.new _) H.b.size)
theorem cells_one {v:Value} (h:v.oneCell'=true):v.cells=#[v]:=by cases v<;>first|rfl|(simp [Value.oneCell'] at h)
theorem lit1_run {t e:TypeId} {z v:Value} {bytes:Nat} {x:Operand} (hu:P.underlying t=some (.slice e)) (hinfo:(P.info? e).map (fun i=>(i.zero,i.size,i.bytes))=some (some z,1,bytes)) (_hz:z.cells.size=1)
  (ho:o.op= .buildSlice t 1 #[(0,x)]) (hx:a.eval x=v) (h1:v.oneCell'=true):(execOp a.eval o).run P W= .ok (.value (.slice (some ⟨W.heap.size,0,none⟩) 1 1)) (W.alloc (.cells #[v] e)):=by
 obtain ⟨i0,hi,hzz⟩:=Option.map_eq_some_iff.1 hinfo
 simp only [Prod.mk.injEq] at hzz
 obtain ⟨hz0,hz1,hz2⟩:=hzz
 have hr:=run_buildSlice (P:=P) W t e 1 #[(0,v)] #[v] i0 z hu hi hz0 (by rw [hz1];decide) (by rw [hz1];decide) (by
  rw [hz1]
  have hr1:Array.range 1=#[0]:=by decide
  simp [Instr.fill,cells_one h1,hr1])
 unfold execOp
 simp [ho,hx,hr,Result.andThen]
theorem reads_one {α:Type} {enc:α→Value} {e:TypeId} {g:Nat} {p:α} (h:W.heap[g]? =some (row #[enc p] e)):ReadsRow (fun x cs=>cs=[enc x]) 1 W (some ⟨g,0,none⟩) 1 [p]:=by
 refine ⟨rfl,by omega,fun _=>⟨_,rfl,fun j q hj=> ?_⟩⟩
 cases j with
 |succ j=>simp at hj
 |zero=>
  obtain rfl:p=q:=by simpa using hj
  refine ⟨[enc p],rfl,rfl,fun i u hu=> ?_⟩
  cases i with
  |succ i=>simp at hu
  |zero=>
   obtain rfl:enc p=u:=by simpa using hu
   exact blk_cell h 0
theorem append1_at {α:Type} {enc:α→Value} {h1:∀ x,(enc x).oneCell'=true} {e:Nat} {hE:∀ q,q∈e::(Kd.scalar enc h1).E→datT q=true} {v:Value} {xs:List α} {p:α} {g:Nat} {s x:Operand} {t:TypeId} {z:Value} {bytes:Nat}
  (H:At w (.b g (row #[enc p] e):: .f (Fact.rows (Kd.scalar enc h1) e w.heap.size hE v xs)::l) W) (hl:offT e l=true) (hgd:o.guard=none)
  (ho:o.op= .call {callee:= .builtin .append,args:=#[s,x],argTypes:=#[t,t]}) (ht:P.underlying t=some (.slice e)) (hinfo:(P.info? e).map (fun i=>(i.zero,i.size,i.bytes))=some (some z,1,bytes)) (hz:z.cells.size=1) (hb0:0 < bytes) (hs:a.eval s=v) (hx:a.eval x= .slice (some ⟨g,0,none⟩) 1 1) (hlen:(xs.length + 1) * bytes≤140737488355328)
  (h:∀ v1 w1,At w (.f (Fact.rows (Kd.scalar enc h1) e w.heap.size hE v1 (xs ++ [p]))::l) w1→wpList P ops Q rest (a.put o.dst v1) w1):wpList P ops Q (o::rest) a W:=by
 have HO:Kd.R (Kd.scalar enc h1) e W w.heap.size (fun _=>True) v xs:=H.k.2.1
 refine Kd.R_append_rows (Kd.scalar enc h1) (w0:=w) w.heap.size hgd s x t e z bytes ho ht hinfo hz Nat.one_pos hb0 v xs [p] _ 1 1 (fun _=>True) (fun _=>False) hs hx HO (reads_one H.k.1) (fun x cs hc=>hc) (fun _ h=>h.elim) (fun _ _=>trivial) H.b H.b.size hlen ?_
 intro v1 w1 hR hB hg hat
 refine h v1 w1 ?_
 obtain ⟨_,inner,hown,_⟩:=HO
 exact (H.drop.drop.grown hl (fun k hk=>⟨own_base hown k hk,own_typed hown k hk⟩) hg).fact _ hR
theorem append1n_ {α:Type} {enc:α→Value} {h1:∀ x,(enc x).oneCell'=true} {e:Nat} {hE:∀ q,q∈e::(Kd.scalar enc h1).E→datT q=true} {p:α} {g:Nat} {s x:Operand} {t:TypeId} {z:Value} {bytes:Nat}
  (H:At w (.b g (row #[enc p] e)::l) W) (hw:Region.wanted o (yielded ops a.tmps)=true)
  (ho:o.op= .call {callee:= .builtin .append,args:=#[s,x],argTypes:=#[t,t]}) (ht:P.underlying t=some (.slice e)) (hinfo:(P.info? e).map (fun i=>(i.zero,i.size,i.bytes))=some (some z,1,bytes)) (hz:z.cells.size=1) (hb0:0 < bytes) (hs:a.eval s=nilS) (hx:a.eval x= .slice (some ⟨g,0,none⟩) 1 1) (hlen:bytes≤140737488355328)
  (h:∀ A c w1,At w (.f (Fact.rows (Kd.scalar enc h1) e w.heap.size hE (.slice A 1 c) [p])::l) w1→Kc (a.put o.dst (.slice A 1 c)) w1):if Region.wanted o (yielded ops a.tmps)=true then Oper.wp P o a W Kc Q else Kc (a.put o.dst undef) W:=by
 refine Kd.R_append_rows_step (Kd.scalar enc h1) (w0:=w) w.heap.size hw s x t e z bytes ho ht hinfo hz Nat.one_pos hb0 nilS [] [p] _ 1 1 (fun _=>True) (fun _=>False) hs hx (Kd.R_nil _ _ _ _ _) (reads_one H.k.1) (fun x cs hc=>hc) (fun _ h=>h.elim) (fun _ _=>trivial) H.b H.b.size (by simpa using hlen) ?_
 intro v1 w1 hR hB hg hat
 obtain ⟨A,c,e1⟩:=Kd.R_slice hR
 have e2:v1= .slice A 1 c:=e1
 subst e2
 exact h A c w1 ((H.drop.step ⟨hg.os,hg.tape,hg.output,hg.size,fun k hk=>hg.block k hk (by simp [Value.ownBlock])⟩).fact _ hR)
theorem lit0_at {α:Type} (d:Kd α) (e:Nat) {hE:∀ q,q∈e::d.E→datT q=true} (H:At w l W) (hgd:o.guard=none) {N:Tmp} (hd:o.dst=some N)
  (hrun:(execOp a.eval o).run P W= .ok (.value (.slice (some ⟨W.heap.size,0,none⟩) 0 0)) (W.alloc (.cells #[] e)))
  (h:∀ v1 w1,At w (.f (Fact.rows d e w.heap.size hE v1 [])::l) w1→wpList P ops Q rest (a.put o.dst v1) w1):wpList P ops Q (o::rest) a W:=by
 refine Kd.R_lit d (w0:=w) w.heap.size e hgd hd (xs:=[]) (inner:=[]) (ok:=fun _=>True) (okp:=fun _=>True) hrun (Reps.none _ _) (fun _ h=>h) trivial H.b H.b.size (by simp) ?_
 intro v1 w1 hR hB hg hnew
 exact h v1 w1 ((H.step ⟨hg.os,hg.tape,hg.output,hg.size,fun k hk=>hg.block k hk (by simp)⟩).fact _ hR)
theorem mapput_ {kt:TypeId} {R:RD} {es:Array MapEntry} {clock n g:Nat} {D:DataW Unit} (K:Keyed P kt) (k:Nat) (H:At w l W) (hk:l[k]? =some (.b g (.map es clock))) (hg:w.heap.size≤g) (M:MapIs P kt R es clock n D) (hn:n < maxLen) (hw:Region.wanted o (yielded ops a.tmps)=true) {m x v:Operand} {t e:TypeId} (ho:o.op= .mapUpdate t m x v) (hN:o.dst=none)
  (ht:P.underlying t=some (.map kt e)) (hm:a.eval m= .map (some g)) {key val:Value} {kl:Lit} (hx:a.eval x=key) (hv:a.eval v=val) (hkey:keyOf P kt key=some kl) {d:DataW Unit} {ps:List MemPlace} (hval:R val=some (d,ps))
  (h:∀ es' clock' w1,MapIs P kt R es' clock' (n + 1) (D.put kl d)→At w (l.set k (.b g (.map es' clock'))) w1→Kc a w1):if Region.wanted o (yielded ops a.tmps)=true then Oper.wp P o a W Kc Q else Kc (a.put none undef) W:=by
 obtain ⟨w',hrun,r1,r2⟩:=(H.owns k hk M).store K ht hn hkey hval
 obtain ⟨es',c',M',H'⟩:=H.updated k hk hg r1 r2
 refine skip_ hw hN (w1:=w') ?_ (h es' c' w' M' H')
 simp [execOp,ho,hm,hx,hv,hrun,Result.andThen]
end
abbrev kAny:Kd {v:Value // v.oneCell'=true}:=Kd.scalar (·.1) (·.2)
abbrev kPtr:Kd (Option Addr):=Kd.scalar Value.pointer (fun _=>rfl)
section
variable {P:Program} {ops:Array Oper} {rest:List Oper} {o:Oper} {a:Act} {Q:Exit→Act→World→Prop} {w W W1:World} {l:List Blk} {kt:TypeId} {R:RD} {es:Array MapEntry} {clock n g r since c0 cnt:Nat} {seen:Array Nat} {left:Lit→Bool} {D:DataW Unit}
theorem lookh_at (K:Keyed P kt) (hg:W.heap[g]? =some (.map es clock)) (M:MapIs P kt R es clock n D) (hgd:o.guard=none) {m x:Operand} {t e:TypeId} (ho:o.op= .lookup t m x true)
  (ht:P.underlying t=some (.map kt e)) {z:Value} (hz:(zeroValue e).run P W= .ok z W) {zd:DataW Unit} {zp:List MemPlace} (hzd:R z=some (zd,zp)) (hm:a.eval m= .map (some g)) {key:Value} {kl:Lit} (hx:a.eval x=key) (hkey:keyOf P kt key=some kl) (b:Bool) (hb:Maps.has D kl=b)
  (h:∀ v,wpList P ops Q rest (a.put o.dst (.tuple #[v,.bool b])) W):wpList P ops Q (o::rest) a W:=
 wpList_lookup_own_ok W hgd m x t ho kt e K ht R hz zd zp hzd g n D hm ⟨es,clock,hg,M.fit,M.size,M.eq⟩ key kl hx hkey (fun v _ _=>by rw [hb];exact h v)
theorem range_any (H:At w l W) (hg:W.heap[g]? =some (.map es clock)) (hgd:o.guard=none) {m:Operand} {t k e:TypeId} (ho:o.op= .range t m) (ht:P.underlying t=some (.map k e)) (hm:a.eval m= .map (some g))
  (h:∀ r w1,At w (.b r (.mapIter (some g) clock #[] clock)::l) w1→w.heap.size≤r→wpList P ops Q rest (a.put o.dst (.pointer (some ⟨r,0,none⟩))) w1):wpList P ops Q (o::rest) a W:=by
 refine wpList_plain hgd fun K' hK'=> ?_
 have hrun:=run_range_map (P:=P) W t k e g es clock ht hg
 unfold Oper.wp
 simp [execOp,ho,hm,hrun,Result.andThen]
 exact hK' _ _ (h _ _ (H.new _) H.b.size)
theorem next_done (H:At w l W) (hg:W.heap[g]? =some (.map es clock)) (j:Nat) (hj:l[j]? =some (.b r (.mapIter (some g) since seen c0))) (hl:(leftOf es seen).size=0) (hold:∀ x∈es.toList,x.born < since) (hsc:since≤c0) (hgd:o.guard=none) {it:Operand} (ho:o.op= .next it false) (hit:a.eval it= .pointer (some ⟨r,0,none⟩))
  (h:wpList P ops Q rest (a.put o.dst (.tuple #[.bool false])) W):wpList P ops Q (o::rest) a W:=by
 refine wpList_plain hgd fun K' hK'=> ?_
 unfold Oper.wp
 rcases run_next_at (P:=P) W o.type r g since c0 seen es clock (H.k.get hj).1 hg hold hsc with ⟨_,hrun⟩|⟨e,he,_⟩
 ·simp [execOp,ho,hit,hrun,Result.andThen]
  exact hK' _ _ h
 ·have:leftOf es seen=#[]:=Array.eq_empty_of_size_eq_zero hl
  rw [this] at he
  simp at he
theorem rangeh_at (K:Keyed P kt) (H:At w l W) (hg:W.heap[g]? =some (.map es clock)) (M:MapIs P kt R es clock n D) (hgd:o.guard=none) {m:Operand} {t e:TypeId} (ho:o.op= .range t m)
  (ht:P.underlying t=some (.map kt e)) (hm:a.eval m= .map (some g))
  (h:∀ r since seen c0 w1,IterIs P kt R es clock since seen c0 (Maps.has D) (Maps.size D)→At w (.b r (.mapIter (some g) since seen c0)::l) w1→w.heap.size≤r→wpList P ops Q rest (a.put o.dst (.pointer (some ⟨r,0,none⟩))) w1):wpList P ops Q (o::rest) a W:=by
 refine wpList_range_own W hgd m t ho kt e K ht R g n D hm ⟨es,clock,hg,M.fit,M.size,M.eq⟩ ?_
 intro w' hr hgr hsz
 have hb:Below W.heap.size W w':=⟨hgr.os,hgr.tape,hgr.output,hgr.size,fun k hk=>hgr.block k hk (by simp)⟩
 obtain ⟨es2,c2,since,seen,c0,hb2,F,hs,hD,hr2,h1,h2,h3,h4,h5,h6⟩:=hr
 have e1:=(blk_below hg hb).symm.trans hb2
 cases e1
 exact h _ since seen c0 w' ⟨h1,h2,h3,h4,h5,h6⟩ (H.came hb hr2 (Nat.le_refl _)) H.b.size
theorem nexth_more {α β:Type} (K:Keyed P kt) (mkK:α→Value) (mkV:β→Value) (invK:∀ key kl,keyOf P kt key=some kl→∃ x,key=mkK x) (invV:∀ v y,R v=some y→∃ c,v=mkV c) (H:At w l W) (hg:W.heap[g]? =some (.map es clock)) (j:Nat) (hj:l[j]? =some (.b r (.mapIter (some g) since seen c0))) (hr:w.heap.size≤r) (M:MapIs P kt R es clock n D) (I:IterIs P kt R es clock since seen c0 left (cnt + 1))
  (hgd:o.guard=none) {it:Operand} (ho:o.op= .next it false) (hit:a.eval it= .pointer (some ⟨r,0,none⟩))
  (hMore:∀ (x:α) (c:β) (kl:Lit) (since':Nat) (seen':Array Nat) (c0' cnt':Nat) (w1:World),keyOf P kt (mkK x)=some kl→left kl=true→IterIs P kt R es clock since' seen' c0' (fun z=>left z&& !z.sameKey kl) cnt'→cnt' < cnt + 1→At w (l.set j (.b r (.mapIter (some g) since' seen' c0'))) w1→
   (Instr.entry (.pointer (some ⟨r,0,none⟩))).run P w1= .ok (.tuple #[mkK x,mkV c]) w1→wpList P ops Q rest (a.put o.dst (.tuple #[.bool true,mkK x,mkV c])) w1):wpList P ops Q (o::rest) a W:=by
 have hR:W.ranges P kt R g r n D left (cnt + 1):=⟨es,clock,since,seen,c0,hg,M.fit,M.size,M.eq,(H.k.get hj).1,I.hold,I.cnt,I.l1,I.l2,I.s1,I.s2⟩
 have hne:r≠g:=hR.ne
 refine wpList_next_ranges W hgd it ho kt K R mkK mkV invK invV g r n D left (cnt + 1) hit hR (fun h0=>absurd h0 (Nat.succ_ne_zero _)) ?_
 intro x c kl y w' cnt' hkey hl hR' hat hrg hlt hgr hsz hen
 obtain ⟨es2,c2,since2,seen2,c02,hb2,F,hs,hD,hr2,h1,h2,h3,h4,h5,h6⟩:=hrg
 have e1:some (Obj.map es2 c2)=some (Obj.map es clock):=hb2.symm.trans ((hgr.block g (blk_lt hg) (by simpa using hne.symm)).trans hg)
 cases e1
 exact hMore x c kl since2 seen2 c02 cnt' w' hkey hl ⟨h1,h2,h3,h4,h5,h6⟩ hlt (H.swept j hj rfl hr hgr hsz hr2) hen
end
theorem key_inv {P:Program} {k:TypeId} (hk:P.underlying k=some .string) {key:Value} {kl:Lit} (h:keyOf P k key=some kl):∃ s:ByteArray,key= .string s∧kl=lit s:=by
 cases key<;>simp [keyOf,hk,mapKey] at h
 exact ⟨_,rfl,h.2.symm⟩
end Go.Proofs.YtkphbhncpdcbeaaGreatDoor.J
namespace Go.Proofs.YtkphbhncpdcbeaaGreatDoor.J
open Go.RowKit YtkphbhncpdcbeaaGreatDoorW.PrintWords YtkphbhncpdcbeaaGreatDoorW.PrintLast YtkphbhncpdcbeaaGreatDoorW.PrintMore PJT
def kRow (cs:List Value) (h1:∀ u∈cs,u.oneCell'=true):Kd Unit where
 sz:=cs.length
 E:=[]
 K:=fun _ _ c=>c=cs
 M:=fun _ _ _ _ c=>c=cs
 K_len:=fun h=>by rw [h]
 K_one:=fun h u hu=>h1 u (h ▸ hu)
 K_below:=fun _ h=>h
 K_of_M:=fun h=>h
 M_mono:=fun _ h=>h
 M_bound:=fun h=>h
 M_move:=fun _ h=>h
 M_lower:=fun _ h=>h
section
variable {P:Program} {ops:Array Oper} {rest:List Oper} {o:Oper} {a:Act} {Q:Exit→Act→World→Prop} {w W:World} {l:List Blk} {Kc:Act→World→Prop}
theorem storerow_ {ty:TypeId} {x y:Operand} {g:Nat} {cs:Array Value} (k:Nat) (new:Array Value) (H:At w l W) (hk:l[k]? =some (.b g (row cs ty))) (hgw:w.heap.size≤g) (ht:datT ty=false) (hw:Region.wanted o (yielded ops a.tmps)=true) (ho:o.op= .store ty x y) (hN:o.dst=none)
  (hx:a.eval x= .pointer (some ⟨g,0,none⟩)) (hy:a.eval y= .agg new) (hi:(P.info? ty).map (·.size)=some new.size) (hold:cs.size=new.size) (h1:new.all (·.oneCell')=true)
  (h:∀ w1,At w (l.set k (.b g (row new ty))) w1→Kc a w1):if Region.wanted o (yielded ops a.tmps)=true then Oper.wp P o a W Kc Q else Kc (a.put none undef) W:=by
 rw [if_pos hw]
 refine wp_store_row ty x y ho g new hx hy ty cs (H.k.get hk).1 hi hold h1 ?_
 rw [hN]
 exact h _ (H.putrow k hk hgw ht)
theorem reads_row {g:Nat} {kc:Array Value} {e:TypeId} (h:W.heap[g]? =some (row kc e)):ReadsRow (fun (_:Unit) c=>c=kc.toList) kc.toList.length W (some ⟨g,0,none⟩) 1 [()]:=by
 refine ⟨rfl,by omega,fun _=>⟨_,rfl,fun j q hj=> ?_⟩⟩
 cases j with
 |succ j=>simp at hj
 |zero=>
  refine ⟨kc.toList,rfl,rfl,fun i u hu=> ?_⟩
  have:=blk_cell h i
  simp only [Nat.zero_mul,Nat.zero_add]
  have ea:Addr.add (⟨g,0,none⟩:Addr) i=⟨g,i,none⟩:=by simp [Addr.add];exact fun h=>h.symm
  rw [ea,this,← hu,Array.getElem?_toList]
theorem appendrow_ {e:Nat} {kc:Array Value} {g:Nat} {s x:Operand} {t:TypeId} {z:Value} {bytes:Nat} (h1:∀ u∈kc.toList,u.oneCell'=true)
  (H:At w (.b g (row kc e)::l) W) (hw:Region.wanted o (yielded ops a.tmps)=true)
  (ho:o.op= .call {callee:= .builtin .append,args:=#[s,x],argTypes:=#[t,t]}) (ht:P.underlying t=some (.slice e)) (hinfo:(P.info? e).map (fun i=>(i.zero,i.size,i.bytes))=some (some z,kc.toList.length,bytes)) (hz:z.cells.size=kc.toList.length) (hs0:0 < kc.toList.length) (hb0:0 < bytes) (hs:a.eval s=nilS) (hx:a.eval x= .slice (some ⟨g,0,none⟩) 1 1) (hlen:bytes≤140737488355328)
  (h:∀ g1 c cur w1,At w (.b g1 (row cur e)::l) w1→w.heap.size≤g1→1≤c→cur.toList.take kc.toList.length=kc.toList→Kc (a.put o.dst (.slice (some ⟨g1,0,none⟩) 1 c)) w1):if Region.wanted o (yielded ops a.tmps)=true then Oper.wp P o a W Kc Q else Kc (a.put o.dst undef) W:=by
 refine Kd.R_append_rows_step (kRow kc.toList h1) (w0:=w) w.heap.size hw s x t e z bytes ho ht hinfo hz hs0 hb0 nilS [] [()] _ 1 1 (fun _=>True) (fun _=>False) hs hx (Kd.R_nil _ _ _ _ _) (reads_row H.k.1) (fun x cs hc=>hc) (fun _ h=>h.elim) (fun _ _=>trivial) H.b H.b.size (by simpa using hlen) ?_
 intro v1 w1 hR hB hg hat
 obtain ⟨_,inner,⟨hl,hcase⟩,hrep⟩:=hR
 rcases hcase with ⟨_,h0⟩|⟨g1,cap,cur,rfl,hgb,hh,hcap,_,_,htake⟩
 ·simp at h0
 ·have hl':inner.length=kc.toList.length:=by simpa [kRow] using hl
  have hi:inner=kc.toList:=by
   have h3:=hrep.2 0 () rfl
   have h4:(inner.drop (0 * (kRow kc.toList h1).sz)).take (kRow kc.toList h1).sz=kc.toList:=h3
   rw [Nat.zero_mul,List.drop_zero,List.take_of_length_le (by rw [hl'];exact Nat.le_refl _)] at h4
   exact h4
  have hgr:Below W.heap.size W w1:=⟨hg.os,hg.tape,hg.output,hg.size,fun k hk=>hg.block k hk (by simp [Value.ownBlock])⟩
  have hnew:W.heap.size≤g1:=by
   rcases hat with e1|⟨b,e1,hb⟩
   ·simp [Value.ownBlock] at e1
   ·have:g1=b:=by simpa [Value.ownBlock] using e1
    omega
  refine h g1 cap cur w1 (H.drop.came hgr hh hnew) hgb (by simpa using hcap) ?_
  rw [← hi,← htake]
  simp [kRow]
end
section
variable {P:Program} {ops:Array Oper} {rest:List Oper} {o:Oper} {a:Act} {Q:Exit→Act→World→Prop} {w W:World} {l:List Blk}
theorem append1n_at {α:Type} {enc:α→Value} {h1:∀ x,(enc x).oneCell'=true} {e:Nat} {hE:∀ q,q∈e::(Kd.scalar enc h1).E→datT q=true} {p:α} {g:Nat} {s x:Operand} {t:TypeId} {z:Value} {bytes:Nat}
  (H:At w (.b g (row #[enc p] e)::l) W) (hgd:o.guard=none)
  (ho:o.op= .call {callee:= .builtin .append,args:=#[s,x],argTypes:=#[t,t]}) (ht:P.underlying t=some (.slice e)) (hinfo:(P.info? e).map (fun i=>(i.zero,i.size,i.bytes))=some (some z,1,bytes)) (hz:z.cells.size=1) (hb0:0 < bytes) (hs:a.eval s=nilS) (hx:a.eval x= .slice (some ⟨g,0,none⟩) 1 1) (hlen:bytes≤140737488355328)
  (h:∀ A c w1,At w (.f (Fact.rows (Kd.scalar enc h1) e w.heap.size hE (.slice A 1 c) [p])::l) w1→wpList P ops Q rest (a.put o.dst (.slice A 1 c)) w1):wpList P ops Q (o::rest) a W:=by
 refine Kd.R_append_rows (Kd.scalar enc h1) (w0:=w) w.heap.size hgd s x t e z bytes ho ht hinfo hz Nat.one_pos hb0 nilS [] [p] _ 1 1 (fun _=>True) (fun _=>False) hs hx (Kd.R_nil _ _ _ _ _) (reads_one H.k.1) (fun x cs hc=>hc) (fun _ h=>h.elim) (fun _ _=>trivial) H.b H.b.size (by simpa using hlen) ?_
 intro v1 w1 hR hB hg hat
 obtain ⟨A,c,e1⟩:=Kd.R_slice hR
 have e2:v1= .slice A 1 c:=e1
 subst e2
 exact h A c w1 ((H.drop.step ⟨hg.os,hg.tape,hg.output,hg.size,fun k hk=>hg.block k hk (by simp [Value.ownBlock])⟩).fact _ hR)
end
theorem E74:∀ q,q∈74::kPtr.E→datT q=true:=by
 intro q hq
 have:q=74:=by simpa [kPtr,Kd.scalar] using hq
 rw [this];rfl
theorem info74:(Tryz.prog.info? 74).map (fun i=>(i.zero,i.size,i.bytes))=some (some (.pointer none),1,8):=by kernel_rfl
theorem ptr_of {W:World} {e b:Nat} {hE:∀ q,q∈e::kPtr.E→datT q=true} {A:Option Addr} {c:Nat} {p:Option Addr} (h:(Fact.rows kPtr e b hE (.slice A 1 c) [p]).P W):∃ ad,A=some ad∧W.cell? ad=some (.pointer p):=by
 obtain ⟨A',c',e,_,hC⟩:=Kd.R_reads (show Kd.R kPtr _ W b _ (.slice A 1 c) [p] from h)
 cases e
 obtain ⟨ad,rfl,hc⟩:=hC.2.2 (by simp)
 obtain ⟨cs,hs,hK,hcell⟩:=hc 0 p rfl
 have hK':cs=[.pointer p]:=hK
 subst hK'
 have:=hcell 0 _ rfl
 exact ⟨ad,rfl,by simpa [Addr.add] using this⟩
theorem ptr_at {W:World} {e b:Nat} {hE:∀ q,q∈e::kPtr.E→datT q=true} {ad:Addr} {c:Nat} {p:Option Addr} (h:(Fact.rows kPtr e b hE (.slice (some ad) 1 c) [p]).P W):W.cell? ad=some (.pointer p):=by
 obtain ⟨ad',e,h'⟩:=ptr_of h
 cases e
 exact h'
end Go.Proofs.YtkphbhncpdcbeaaGreatDoor.J
namespace Go.Proofs.YtkphbhncpdcbeaaGreatDoor.J
open Go.RowKit YtkphbhncpdcbeaaGreatDoorW.PrintWords YtkphbhncpdcbeaaGreatDoorW.PrintLast YtkphbhncpdcbeaaGreatDoorW.PrintMore PJT
theorem readr_ {P:Program} {a:Act} {w:World} {o:Oper} {ty:TypeId} {x:Operand} (g:Nat) (cs:Array Value) (ho:o.op= .load ty x) (hx:a.eval x= .pointer (some ⟨g,0,none⟩)) {d:TypeDesc} (hg:w.heap[g]? =some (.cells cs ty (0,0)))
  (hu:P.underlying ty=some d) (hd:(match d with| .struct _| .array _ _=>true|_=>false)=true) (hi:(P.info? ty).map (·.size)=some cs.size):(execOp a.eval o).run P w= .ok (.value (.agg cs)) w:=by
 unfold execOp
 simp only [ho,hx,Instr.loadAt,Instr.sureAddr,Sem.run_bind,Sem.run_pure,Result.andThen_ok,run_loadVar_row w g ty ty cs (0,0) d hg hu hd hi]
end Go.Proofs.YtkphbhncpdcbeaaGreatDoor.J
