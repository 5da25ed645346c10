/- Part. -/
import Derived.Test.YtlblbefbbibpaaaGreatDoorQAG
import Derived.Maps.OwnSet
import Derived.Maps.RangeWalk
import Derived.Great.BuildSlice
set_option linter.unusedVariables false
set_option linter.unusedSimpArgs false
namespace Go.Proofs.YtlblbefbbibpaaaGreatDoor.J
open Go.RowKit Zw Zw.PrintWords Zw.PrintLast Zw.PrintMore PAM
def datT (t:TypeId):Bool:=t == 9||t == 21||t == 162||t == 5||t == 79
def noData:Obj→Bool
 | .cells _ t _=> !datT t
 |_=>true
theorem noData_row {cs:Array Value} {t:TypeId} {z:Nat×Nat} (h:datT t=false):noData (.cells cs t z)=true:=by simp [noData,h]
structure Fact where
 P:World→Prop
 below:∀ {W W1:World},P W→Below W.heap.size W W1→P W1
 far:∀ {W W1:World} {g:Nat} {o:Obj},P W→W.heap[g]? =some o→noData o=true→(∀ k,k≠g→W1.heap[k]? =W.heap[k]?)→P W1
inductive Blk where
 |b (g:Nat) (o:Obj)
 |f (F:Fact)
abbrev row (cs:Array Value) (t:TypeId):Obj:= .cells cs t (0,0)
def Keeps:List Blk→World→Prop
 |[],_=>True
 | .b g o::l,W=>W.heap[g]? =some o∧Keeps l W
 | .f F::l,W=>F.P W∧Keeps l W
def nums:List Blk→List Nat
 |[]=>[]
 | .b g _::l=>g::nums l
 | .f _::l=>nums l
theorem Keeps.below {l:List Blk} {W W1:World} (h:Keeps l W) (hb:Below W.heap.size W W1):Keeps l W1:=by
 induction l with
 |nil=>trivial
 |cons b l ih=>
  cases b with
  |b g o=>exact ⟨blk_below h.1 hb,ih h.2⟩
  |f F=>exact ⟨F.below h.1 hb,ih h.2⟩
theorem Keeps.lt {l:List Blk} {W:World} (h:Keeps l W):∀ g∈nums l,g < W.heap.size:=by
 induction l with
 |nil=>intro g hg;cases hg
 |cons c l ih=>
  intro g hg
  cases c with
  |b k o=>
   rcases List.mem_cons.1 hg with rfl|hg
   ·exact blk_lt h.1
   ·exact ih h.2 g hg
  |f F=>exact ih h.2 g hg
theorem Keeps.far {l:List Blk} {W W1:World} {g:Nat} {o0:Obj} (h:Keeps l W) (hn:g∉nums l) (hg:W.heap[g]? =some o0) (ht:noData o0=true) (ho:∀ k,k≠g→W1.heap[k]? =W.heap[k]?):Keeps l W1:=by
 induction l with
 |nil=>trivial
 |cons c l ih=>
  cases c with
  |b k o=>
   have hk:k≠g:=fun e=>hn (by rw [e];exact List.mem_cons_self)
   exact ⟨(ho k hk).trans h.1,ih h.2 (fun hm=>hn (List.mem_cons_of_mem _ hm))⟩
  |f F=>exact ⟨F.far h.1 hg ht ho,ih h.2 hn⟩
theorem Keeps.get {l:List Blk} {W:World} {k g:Nat} {o:Obj} (h:Keeps l W) (hk:l[k]? =some (.b g o)):W.heap[g]? =some o∧g∈nums l:=by
 induction l generalizing k with
 |nil=>cases hk
 |cons c l ih=>
  cases k with
  |zero=>
   obtain rfl:c= .b g o:=by simpa using hk
   exact ⟨h.1,List.mem_cons_self⟩
  |succ k=>
   have hk':l[k]? =some (.b g o):=by simpa using hk
   cases c with
   |b k' o'=>exact ⟨(ih h.2 hk').1,List.mem_cons_of_mem _ (ih h.2 hk').2⟩
   |f F=>exact ih h.2 hk'
theorem Keeps.turn {l:List Blk} {W W1:World} {g k:Nat} {o0 o:Obj} (h:Keeps l W) (hd:(nums l).Nodup) (hk:l[k]? =some (.b g o0)) (ht:noData o0=true) (ho:∀ k,k≠g→W1.heap[k]? =W.heap[k]?) (hw:W1.heap[g]? =some o):
  Keeps (l.set k (.b g o)) W1:=by
 induction l generalizing k with
 |nil=>cases hk
 |cons c l ih=>
  cases k with
  |zero=>
   obtain rfl:c= .b g o0:=by simpa using hk
   exact ⟨hw,h.2.far (List.nodup_cons.1 hd).1 h.1 ht ho⟩
  |succ k=>
   have hk':l[k]? =some (.b g o0):=by simpa using hk
   cases c with
   |b k' o'=>
    have hg:=h.2.get hk'
    refine ⟨(ho k' ?_).trans h.1,ih h.2 (List.nodup_cons.1 hd).2 hk'⟩
    rintro rfl
    exact (List.nodup_cons.1 hd).1 hg.2
   |f F=>exact ⟨F.far h.1 (h.2.get hk').1 ht ho,ih h.2 hd hk'⟩
theorem nums_set {l:List Blk} {k g:Nat} {o o':Obj} (hk:l[k]? =some (.b g o)):nums (l.set k (.b g o'))=nums l:=by
 induction l generalizing k with
 |nil=>rfl
 |cons c l ih=>
  cases k with
  |zero=>
   obtain rfl:c= .b g o:=by simpa using hk
   rfl
  |succ k=>
   have hk':l[k]? =some (.b g o):=by simpa using hk
   cases c with
   |b k' o''=>exact congrArg (k':: ·) (ih hk')
   |f F=>exact ih hk'
structure At (w:World) (l:List Blk) (W:World):Prop where
 b:Below w.heap.size w W
 k:Keeps l W
 d:(nums l).Nodup
section
variable {w W W1:World} {l:List Blk}
theorem At.start (w:World):At w [] w:=⟨Below.refl _ _,trivial,List.nodup_nil⟩
theorem At.hold {g:Nat} {o:Obj} (h:At w l W) (hg:W.heap[g]? =some o) (hn:g∉nums l):At w (.b g o::l) W:=
 ⟨h.b,⟨hg,h.k⟩,List.nodup_cons.2 ⟨hn,h.d⟩⟩
theorem At.fact (F:Fact) (h:At w l W) (hF:F.P W):At w (.f F::l) W:=⟨h.b,⟨hF,h.k⟩,h.d⟩
theorem At.step (h:At w l W) (hb:Below W.heap.size W W1):At w l W1:=⟨below_step h.b hb,h.k.below hb,h.d⟩
theorem At.alloc (h:At w l W) (o:Obj):At w l (W.alloc o):=h.step (below_alloc (Below.refl _ _) o)
theorem At.drew (h:At w l W):At w l W.drew:=h.step (below_drew (Below.refl _ _))
theorem At.drewN (h:At w l W) (n:Nat):At w l (W.drewN n):=h.step (pw_below_drewN (Below.refl _ _) n)
theorem At.fresh (h:At w l W):W.heap.size∉nums l:=fun hm=>Nat.lt_irrefl _ (h.k.lt _ hm)
theorem At.new (h:At w l W) (o:Obj):At w (.b W.heap.size o::l) (W.alloc o):=
 ⟨below_step h.b (below_alloc (Below.refl _ _) _),⟨blk_new W _,h.k.below (below_alloc (Below.refl _ _) _)⟩,List.nodup_cons.2 ⟨h.fresh,h.d⟩⟩
theorem At.came {g:Nat} {o:Obj} (h:At w l W) (hb:Below W.heap.size W W1) (hg:W1.heap[g]? =some o) (hn:W.heap.size≤g):At w (.b g o::l) W1:=
 (h.step hb).hold hg (fun hm=>Nat.lt_irrefl _ (Nat.lt_of_lt_of_le (h.k.lt _ hm) hn))
theorem At.store {g i:Nat} {cs:Array Value} {t:TypeId} {v:Value} (k:Nat) (h:At w l W) (hk:l[k]? =some (.b g (row cs t))) (hg:w.heap.size≤g) (ht:datT t=false):At w (l.set k (.b g (row (cs.setIfInBounds i v) t))) (W.setCell ⟨g,i,none⟩ v):=
 ⟨below_set h.b hg,h.k.turn h.d hk (noData_row ht) (fun j hj=>Below.heap_setCell W ⟨g,i,none⟩ v j hj) (blk_set (h.k.get hk).1 i v),by rw [nums_set hk];exact h.d⟩
theorem At.store_to {g i:Nat} {cs:Array Value} {t:TypeId} {v:Value} (k:Nat) (new:Array Value) (h:At w l W) (hk:l[k]? =some (.b g (row cs t))) (hg:w.heap.size≤g) (ht:datT t=false) (e:cs.setIfInBounds i v=new):At w (l.set k (.b g (row new t))) (W.setCell ⟨g,i,none⟩ v):=by
 subst e
 exact h.store k hk hg ht
theorem At.putrow {g:Nat} {cs new:Array Value} {t:TypeId} (k:Nat) (h:At w l W) (hk:l[k]? =some (.b g (row cs t))) (hg:w.heap.size≤g) (ht:datT t=false):At w (l.set k (.b g (row new t))) (W.setRow g new):=
 ⟨⟨h.b.os,h.b.tape,h.b.output,by have:=h.b.size;simpa [World.setRow] using this,fun j hj=>(setRow_other W g j new (by omega)).trans (h.b.block j hj)⟩,h.k.turn h.d hk (noData_row ht) (fun j hj=>setRow_other W g j new hj) (setRow_heap W g cs new t (0,0) (h.k.get hk).1),by rw [nums_set hk];exact h.d⟩
theorem At.turned {g:Nat} {es es':Array MapEntry} {c c':Nat} (k:Nat) (h:At w l W) (hk:l[k]? =some (.b g (.map es c))) (hg:w.heap.size≤g):At w (l.set k (.b g (.map es' c'))) (ChangeMaps.setBlock W g (.map es' c')):=
 have hb:=(h.k.get hk).1
 ⟨⟨h.b.os,h.b.tape,h.b.output,by have:=h.b.size;simpa [ChangeMaps.setBlock] using this,fun j hj=>(ChangeMaps.heap_setBlock_other hb _ (by omega)).trans (h.b.block j hj)⟩,h.k.turn h.d hk rfl (fun j hj=>ChangeMaps.heap_setBlock_other hb _ hj) (ChangeMaps.heap_setBlock_same hb _),by rw [nums_set hk];exact h.d⟩
def offT (e:TypeId):List Blk→Bool
 |[]=>true
 | .b _ (.cells _ t _)::l=>t != e&&offT e l
 | .b _ _::l=>offT e l
 | .f _::_=>false
theorem At.grown {v:Value} {e:TypeId} (h:At w l W) (hl:offT e l=true) (hk:∀ k,v.ownBlock=some k→w.heap.size≤k∧∃ cells,W.heap[k]? =some (.cells cells e (0,0))) (hg:W.grownBy W1 v.ownBlock):At w l W1:=by
 refine ⟨⟨hg.os.trans h.b.os,hg.tape.trans h.b.tape,hg.output.trans h.b.output,Nat.le_trans h.b.size hg.size,fun j hj=>(hg.block j (by have:=h.b.size;omega) (fun e=>by have:=(hk j e.symm).1;omega)).trans (h.b.block j hj)⟩,?_,h.d⟩
 have hk':=h.k
 clear h
 induction l with
 |nil=>trivial
 |cons b l ih=>
  cases b with
  |f F=>simp [offT] at hl
  |b g o=>
   have hne:some g≠v.ownBlock:=fun e1=>by
    obtain ⟨_,cells,hc⟩:=hk g e1.symm
    have e2:=hk'.1.symm.trans hc
    cases e2
    simp [offT] at hl
   refine ⟨(hg.block g (blk_lt hk'.1) hne).trans hk'.1,ih ?_ hk'.2⟩
   cases o<;>simp [offT] at hl ⊢ <;>first|exact hl.2|exact hl
theorem At.drop {b:Blk} (h:At w (b::l) W):At w l W:=by
 cases b with
 |b g o=>exact ⟨h.b,h.k.2,(List.nodup_cons.1 h.d).2⟩
 |f F=>exact ⟨h.b,h.k.2,h.d⟩
theorem Keeps.sub {l l':List Blk} {W:World} (hs:l'.Sublist l) (h:Keeps l W):Keeps l' W:=by
 induction hs with
 |slnil=>trivial
 |cons b hs ih=>cases b with
  |b g o=>exact ih h.2
  |f F=>exact ih h.2
 |cons_cons b hs ih=>cases b with
  |b g o=>exact ⟨h.1,ih h.2⟩
  |f F=>exact ⟨h.1,ih h.2⟩
theorem nums_sub {l l':List Blk} (hs:l'.Sublist l):(nums l').Sublist (nums l):=by
 induction hs with
 |slnil=>exact List.Sublist.slnil
 |cons b hs ih=>cases b with
  |b g o=>exact List.Sublist.cons _ ih
  |f F=>exact ih
 |cons_cons b hs ih=>cases b with
  |b g o=>exact List.Sublist.cons_cons _ ih
  |f F=>exact ih
theorem Keeps.perm {l l':List Blk} {W:World} (hp:l.Perm l'):Keeps l W→Keeps l' W:=by
 induction hp with
 |nil=>exact id
 |cons b hp ih=>cases b with
  |b g o=>exact fun h=>⟨h.1,ih h.2⟩
  |f F=>exact fun h=>⟨h.1,ih h.2⟩
 |swap b c l=>cases b<;>cases c<;>exact fun h=>⟨h.2.1,h.1,h.2.2⟩
 |trans _ _ i1 i2=>exact fun h=>i2 (i1 h)
theorem nums_perm {l l':List Blk} (hp:l.Perm l'):(nums l).Perm (nums l'):=by
 induction hp with
 |nil=>exact List.Perm.refl _
 |cons b hp ih=>cases b with
  |b g o=>exact ih.cons g
  |f F=>exact ih
 |swap b c l=>cases b<;>cases c<;>first|exact List.Perm.swap _ _ _|exact List.Perm.refl _
 |trans _ _ i1 i2=>exact i1.trans i2
theorem At.perm {l':List Blk} (h:At w l W) (hp:l.Perm l'):At w l' W:=⟨h.b,h.k.perm hp,(nums_perm hp).nodup_iff.1 h.d⟩
theorem front_perm {l:List Blk} {k:Nat} {b:Blk} (hk:l[k]? =some b):l.Perm (b::l.eraseIdx k):=by
 induction l generalizing k with
 |nil=>cases hk
 |cons c l ih=>
  cases k with
  |zero=>
   obtain rfl:c=b:=by simpa using hk
   exact List.Perm.refl _
  |succ k=>
   have hk':l[k]? =some b:=by simpa using hk
   exact ((ih hk').cons c).trans (List.Perm.swap _ _ _)
theorem At.front {b:Blk} (k:Nat) (h:At w l W) (hk:l[k]? =some b):At w (b::l.eraseIdx k) W:=by
 exact h.perm (front_perm hk)
theorem At.sub {l':List Blk} (h:At w l W) (hs:l'.Sublist l):At w l' W:=⟨h.b,h.k.sub hs,h.d.sublist (nums_sub hs)⟩
end
theorem R_far_of {α:Type} {d:Kd α} {e:Nat} {W W1:World} {base:Nat} {v:Value} {xs:List α} {g:Nat} {o:Obj} (h:Kd.R d e W base (fun _=>True) v xs) (hg:W.heap[g]? =some o) (ht:noData o=true) (ho:∀ k,k≠g→W1.heap[k]? =W.heap[k]?)
  (hE:∀ q,q∈e::d.E→datT q=true):Kd.R d e W1 base (fun _=>True) v xs:=by
 refine Kd.R_mono (Kd.R_move (Kd.R_bound h) (fun k hk=>ho k ?_)) (fun _ _=>trivial)
 obtain ⟨_,_,_,q,hq,cells,hc⟩:=hk
 rintro rfl
 rw [hc] at hg
 cases hg
 simp [noData,hE q hq] at ht
def Fact.rows {α:Type} (d:Kd α) (e:Nat) (base:Nat) (hE:∀ q,q∈e::d.E→datT q=true) (v:Value) (xs:List α):Fact where
 P W:=Kd.R d e W base (fun _=>True) v xs
 below h hb:=Kd.R_below h hb
 far h hg ht ho:=R_far_of h hg ht ho hE
section
variable {P:Program} {ops:Array Oper} {rest:List Oper} {o:Oper} {a:Act} {Q:Exit→Act→World→Prop} {w W:World} {l:List Blk}
theorem box_at (H:At w l W) (hgd:o.guard=none) {N:Tmp} (_hd:o.dst=some N) {cs:Array Value} {t:TypeId}
  (hrun:(execOp a.eval o).run P W= .ok (.value (.pointer (some ⟨W.heap.size,0,none⟩))) (W.alloc (.cells cs t (0,0))))
  (h:∀ g w1,At w (.b g (row cs t)::l) w1→w.heap.size≤g→wpList P ops Q rest (a.put o.dst (.pointer (some ⟨g,0,none⟩))) w1):wpList P ops Q (o::rest) a W:=
 Kd.event_run hgd hrun (h _ _ (H.new _) H.b.size)
theorem new_at (H:At w l W) (hgd:o.guard=none) {N:Tmp} (_hd:o.dst=some N) {ob:Obj} {v:Nat→Value}
  (hrun:(execOp a.eval o).run P W= .ok (.value (v W.heap.size)) (W.alloc ob))
  (h:∀ g w1,At w (.b g ob::l) w1→w.heap.size≤g→wpList P ops Q rest (a.put o.dst (v g)) w1):wpList P ops Q (o::rest) a W:=
 Kd.event_run hgd hrun (h _ _ (H.new _) H.b.size)
theorem call_at {f:FuncId} {fn:Func} {xs:Array Operand} {ts:Array TypeId} (args:Array Value) (v:Value) (H:At w l W) (hg:o.guard=none) (hf:P.funcs[f]? =some fn) (hname:(fn.name == "runtime.NumGoroutine")=false) (hb:fn.body.isSome=true)
  (hop:o.op= .call {callee:= .value (.func f),args:=xs,argTypes:=ts}) (hargs:xs.map a.eval=args)
  (hc:Calls P f args W fun e w'=>e= .returned v∧Below W.heap.size W w')
  (h:∀ w1,At w l w1→wpList P ops Q rest (a.put o.dst v) w1):wpList P ops Q (o::rest) a W:=by
 refine goesL_ _ rfl hg hf hname hb args hop hargs (hc.mono ?_)
 rintro e w' ⟨rfl,hbw⟩
 exact ⟨v,rfl,h w' (H.step hbw)⟩
theorem call_to {f:FuncId} {fn:Func} {xs:Array Operand} {ts:Array TypeId} (args:Array Value) (v:Value) (F:World→Prop) (hg:o.guard=none) (hf:P.funcs[f]? =some fn) (hname:(fn.name == "runtime.NumGoroutine")=false) (hb:fn.body.isSome=true)
  (hop:o.op= .call {callee:= .value (.func f),args:=xs,argTypes:=ts}) (hargs:xs.map a.eval=args)
  (hc:Calls P f args W fun e w'=>e= .returned v∧F w')
  (h:∀ w1,F w1→wpList P ops Q rest (a.put o.dst v) w1):wpList P ops Q (o::rest) a W:=by
 refine goesL_ _ rfl hg hf hname hb args hop hargs (hc.mono ?_)
 rintro e w' ⟨rfl,hF⟩
 exact ⟨v,rfl,h w' hF⟩
theorem call_with {f:FuncId} {fn:Func} {xs:Array Operand} {ts:Array TypeId} (args:Array Value) (F:Value→World→Prop) (H:At w l W) (hg:o.guard=none) (hf:P.funcs[f]? =some fn) (hname:(fn.name == "runtime.NumGoroutine")=false) (hb:fn.body.isSome=true)
  (hop:o.op= .call {callee:= .value (.func f),args:=xs,argTypes:=ts}) (hargs:xs.map a.eval=args)
  (hc:Calls P f args W fun e w'=>∃ v,e= .returned v∧F v w'∧Below W.heap.size W w')
  (h:∀ v w1,At w l w1→F v w1→Below W.heap.size W w1→wpList P ops Q rest (a.put o.dst v) w1):wpList P ops Q (o::rest) a W:=by
 refine goesL_ _ rfl hg hf hname hb args hop hargs (hc.mono ?_)
 rintro e w' ⟨v,rfl,hF,hbw⟩
 exact ⟨v,rfl,h v w' (H.step hbw) hF hbw⟩
theorem load_at {ty:TypeId} {x:Operand} (g:Nat) (cs:Array Value) (hgd:o.guard=none) (ho:o.op= .load ty x) (hx:a.eval x= .pointer (some ⟨g,0,none⟩)) {d:TypeDesc} (hg:W.heap[g]? =some (.cells cs ty (0,0)))
  (hu:P.underlying ty=some d) (hd:(match d with| .struct _| .array _ _=>true|_=>false)=true) (hi:(P.info? ty).map (·.size)=some cs.size)
  (h:wpList P ops Q rest (a.put o.dst (.agg cs)) W):wpList P ops Q (o::rest) a W:=
 wpList_load_row hgd ty x ho g hx ty cs (0,0) d hg hu hd hi h
theorem storerow_at {ty:TypeId} {x y:Operand} {g:Nat} {cs:Array Value} (k:Nat) (new:Array Value) (H:At w l W) (hk:l[k]? =some (.b g (row cs ty))) (hgw:w.heap.size≤g) (ht:datT ty=false) (hgd:o.guard=none) (ho:o.op= .store ty x y) (hN:o.dst=none)
  (hx:a.eval x= .pointer (some ⟨g,0,none⟩)) (hy:a.eval y= .agg new) (hi:(P.info? ty).map (·.size)=some new.size) (hold:cs.size=new.size) (h1:new.all (·.oneCell')=true)
  (h:∀ w1,At w (l.set k (.b g (row new ty))) w1→wpList P ops Q rest a w1):wpList P ops Q (o::rest) a W:=by
 refine wpList_store_row hgd ty x y ho g new hx hy ty cs (H.k.get hk).1 hi hold h1 ?_
 rw [hN]
 exact h _ (H.putrow k hk hgw ht)
theorem store_at {t ty:TypeId} {p:Tmp} {y:Operand} {g i:Nat} {cs:Array Value} {v:Value} (k:Nat) (new:Array Value) (e:cs.setIfInBounds i v=new) (H:At w l W) (hk:l[k]? =some (.b g (row cs ty))) (hgw:w.heap.size≤g) (ht:datT ty=false) (hgd:o.guard=none) (_ho:o.op= .store t (.tmp p) y) (hN:o.dst=none)
  (hrun:(execOp a.eval o).run P W= .ok .skip (W.setCell ⟨g,i,none⟩ v))
  (h:∀ w1,At w (l.set k (.b g (row new ty))) w1→wpList P ops Q rest a w1):wpList P ops Q (o::rest) a W:=
 store_event hgd _ho hN hrun (fun w' e'=>h w' (by rw [e'];exact H.store_to k new hk hgw ht e))
end
abbrev nilS:Value:= .slice none 0 0
abbrev i0:Value:= .int .i64 0
abbrev bF:Value:= .bool false
abbrev nP:Value:= .pointer none
abbrev eS:Value:= .string ⟨#[]⟩
abbrev nM:Value:= .map none
section
open Go.ChangeMaps Go.MapKept Go.WideShapes
open Go.WideElems (Fit rd rg pl)
open Go.Maps (Keyed IsMap)
abbrev RD:=Value→Option (DataW Unit×List MemPlace)
section
variable {P:Program} {ops:Array Oper} {rest:List Oper} {o:Oper} {a:Act} {Q:Exit→Act→World→Prop} {w W W1:World} {l:List Blk} {kt:TypeId} {R:RD} {es:Array MapEntry} {clock n g r since c0 cnt:Nat} {seen:Array Nat} {left:Lit→Bool} {D:DataW Unit}
theorem At.swept {o1:Obj} (j:Nat) (h:At w l W) {o0:Obj} (hj:l[j]? =some (.b r o0)) (h0:noData o0=true) (hr:w.heap.size≤r) (hg:W.grownBy W1 (some r)) (hs:W1.heap.size=W.heap.size) (h1:W1.heap[r]? =some o1):At w (l.set j (.b r o1)) W1:=by
 have ha:∀ k,k≠r→W1.heap[k]? =W.heap[k]? :=fun k hk=>by
  by_cases hlt:k < W.heap.size
  ·exact hg.block k hlt (by simpa using hk)
  ·rw [Array.getElem?_eq_none (by omega),Array.getElem?_eq_none (by omega)]
 exact ⟨⟨hg.os.trans h.b.os,hg.tape.trans h.b.tape,hg.output.trans h.b.output,Nat.le_trans h.b.size hg.size,fun j hj=>(ha j (by omega)).trans (h.b.block j hj)⟩,h.k.turn h.d hj h0 ha h1,by rw [nums_set hj];exact h.d⟩
end
abbrev lit (s:ByteArray):Lit:= .string s.data.toList
section
variable {P:Program} {ops:Array Oper} {rest:List Oper} {o:Oper} {a:Act} {Q:Exit→Act→World→Prop} {w W:World} {l:List Blk} {Kc:Act→World→Prop}
theorem new_ (H:At w l W) (hw:Region.wanted o (yielded ops a.tmps)=true) {N:Tmp} (_hd:o.dst=some N) {ob:Obj} {v:Nat→Value}
  (hrun:(execOp a.eval o).run P W= .ok (.value (v W.heap.size)) (W.alloc ob))
  (h:∀ g w1,At w (.b g ob::l) w1→w.heap.size≤g→Kc (a.put o.dst (v g)) w1):if Region.wanted o (yielded ops a.tmps)=true then Oper.wp P o a W Kc Q else Kc (a.put o.dst undef) W:=
 event_step hw hrun (h _ _ (H.new _) H.b.size)
theorem cells_one {v:Value} (h:v.oneCell'=true):v.cells=#[v]:=by cases v<;>first|rfl|(simp [Value.oneCell'] at h)
theorem lit1_run {t e:TypeId} {z v:Value} {bytes:Nat} {x:Operand} (hu:P.underlying t=some (.slice e)) (hinfo:(P.info? e).map (fun i=>(i.zero,i.size,i.bytes))=some (some z,1,bytes)) (_hz:z.cells.size=1)
  (ho:o.op= .buildSlice t 1 #[(0,x)]) (hx:a.eval x=v) (h1:v.oneCell'=true):(execOp a.eval o).run P W= .ok (.value (.slice (some ⟨W.heap.size,0,none⟩) 1 1)) (W.alloc (.cells #[v] e)):=by
 obtain ⟨i0,hi,hzz⟩:=Option.map_eq_some_iff.1 hinfo
 simp only [Prod.mk.injEq] at hzz
 obtain ⟨hz0,hz1,hz2⟩:=hzz
 have hr:=run_buildSlice (P:=P) W t e 1 #[(0,v)] #[v] i0 z hu hi hz0 (by rw [hz1];decide) (by rw [hz1];decide) (by
  rw [hz1]
  have hr1:Array.range 1=#[0]:=by decide
  simp [Instr.fill,cells_one h1,hr1])
 unfold execOp
 simp [ho,hx,hr,Result.andThen]
theorem reads_one {α:Type} {enc:α→Value} {e:TypeId} {g:Nat} {p:α} (h:W.heap[g]? =some (row #[enc p] e)):ReadsRow (fun x cs=>cs=[enc x]) 1 W (some ⟨g,0,none⟩) 1 [p]:=by
 refine ⟨rfl,by omega,fun _=>⟨_,rfl,fun j q hj=> ?_⟩⟩
 cases j with
 |succ j=>simp at hj
 |zero=>
  obtain rfl:p=q:=by simpa using hj
  refine ⟨[enc p],rfl,rfl,fun i u hu=> ?_⟩
  cases i with
  |succ i=>simp at hu
  |zero=>
   obtain rfl:enc p=u:=by simpa using hu
   exact blk_cell h 0
theorem append1_at {α:Type} {enc:α→Value} {h1:∀ x,(enc x).oneCell'=true} {e:Nat} {hE:∀ q,q∈e::(Kd.scalar enc h1).E→datT q=true} {v:Value} {xs:List α} {p:α} {g:Nat} {s x:Operand} {t:TypeId} {z:Value} {bytes:Nat}
  (H:At w (.b g (row #[enc p] e):: .f (Fact.rows (Kd.scalar enc h1) e w.heap.size hE v xs)::l) W) (hl:offT e l=true) (hgd:o.guard=none)
  (ho:o.op= .call {callee:= .builtin .append,args:=#[s,x],argTypes:=#[t,t]}) (ht:P.underlying t=some (.slice e)) (hinfo:(P.info? e).map (fun i=>(i.zero,i.size,i.bytes))=some (some z,1,bytes)) (hz:z.cells.size=1) (hb0:0 < bytes) (hs:a.eval s=v) (hx:a.eval x= .slice (some ⟨g,0,none⟩) 1 1) (hlen:(xs.length + 1) * bytes≤140737488355328)
  (h:∀ v1 w1,At w (.f (Fact.rows (Kd.scalar enc h1) e w.heap.size hE v1 (xs ++ [p]))::l) w1→wpList P ops Q rest (a.put o.dst v1) w1):wpList P ops Q (o::rest) a W:=by
 have HO:Kd.R (Kd.scalar enc h1) e W w.heap.size (fun _=>True) v xs:=H.k.2.1
 refine Kd.R_append_rows (Kd.scalar enc h1) (w0:=w) w.heap.size hgd s x t e z bytes ho ht hinfo hz Nat.one_pos hb0 v xs [p] _ 1 1 (fun _=>True) (fun _=>False) hs hx HO (reads_one H.k.1) (fun x cs hc=>hc) (fun _ h=>h.elim) (fun _ _=>trivial) H.b H.b.size hlen ?_
 intro v1 w1 hR hB hg hat
 refine h v1 w1 ?_
 obtain ⟨_,inner,hown,_⟩:=HO
 exact (H.drop.drop.grown hl (fun k hk=>⟨own_base hown k hk,own_typed hown k hk⟩) hg).fact _ hR
end
end
section
open Go.ChangeMaps Go.MapKept Go.WideShapes
open Go.WideElems (Fit rd rg pl)
open Go.Maps (Keyed IsMap)
section
variable {P:Program} {ops:Array Oper} {rest:List Oper} {o:Oper} {a:Act} {Q:Exit→Act→World→Prop} {w W W1:World} {l:List Blk} {kt:TypeId} {R:RD} {es:Array MapEntry} {clock n g r since c0 cnt:Nat} {seen:Array Nat} {left:Lit→Bool} {D:DataW Unit}
theorem range_any (H:At w l W) (hg:W.heap[g]? =some (.map es clock)) (hgd:o.guard=none) {m:Operand} {t k e:TypeId} (ho:o.op= .range t m) (ht:P.underlying t=some (.map k e)) (hm:a.eval m= .map (some g))
  (h:∀ r w1,At w (.b r (.mapIter (some g) clock #[] clock)::l) w1→w.heap.size≤r→wpList P ops Q rest (a.put o.dst (.pointer (some ⟨r,0,none⟩))) w1):wpList P ops Q (o::rest) a W:=by
 refine wpList_plain hgd fun K' hK'=> ?_
 have hrun:=run_range_map (P:=P) W t k e g es clock ht hg
 unfold Oper.wp
 simp [execOp,ho,hm,hrun,Result.andThen]
 exact hK' _ _ (h _ _ (H.new _) H.b.size)
theorem next_done (H:At w l W) (hg:W.heap[g]? =some (.map es clock)) (j:Nat) (hj:l[j]? =some (.b r (.mapIter (some g) since seen c0))) (hl:(leftOf es seen).size=0) (hold:∀ x∈es.toList,x.born < since) (hsc:since≤c0) (hgd:o.guard=none) {it:Operand} (ho:o.op= .next it false) (hit:a.eval it= .pointer (some ⟨r,0,none⟩))
  (h:wpList P ops Q rest (a.put o.dst (.tuple #[.bool false])) W):wpList P ops Q (o::rest) a W:=by
 refine wpList_plain hgd fun K' hK'=> ?_
 unfold Oper.wp
 rcases run_next_at (P:=P) W o.type r g since c0 seen es clock (H.k.get hj).1 hg hold hsc with ⟨_,hrun⟩|⟨e,he,_⟩
 ·simp [execOp,ho,hit,hrun,Result.andThen]
  exact hK' _ _ h
 ·have:leftOf es seen=#[]:=Array.eq_empty_of_size_eq_zero hl
  rw [this] at he
  simp at he
end
end
section
variable {P:Program} {ops:Array Oper} {rest:List Oper} {o:Oper} {a:Act} {Q:Exit→Act→World→Prop} {w W:World} {l:List Blk} {Kc:Act→World→Prop}
theorem storerow_ {ty:TypeId} {x y:Operand} {g:Nat} {cs:Array Value} (k:Nat) (new:Array Value) (H:At w l W) (hk:l[k]? =some (.b g (row cs ty))) (hgw:w.heap.size≤g) (ht:datT ty=false) (hw:Region.wanted o (yielded ops a.tmps)=true) (ho:o.op= .store ty x y) (hN:o.dst=none)
  (hx:a.eval x= .pointer (some ⟨g,0,none⟩)) (hy:a.eval y= .agg new) (hi:(P.info? ty).map (·.size)=some new.size) (hold:cs.size=new.size) (h1:new.all (·.oneCell')=true)
  (h:∀ w1,At w (l.set k (.b g (row new ty))) w1→Kc a w1):if Region.wanted o (yielded ops a.tmps)=true then Oper.wp P o a W Kc Q else Kc (a.put none undef) W:=by
 rw [if_pos hw]
 refine wp_store_row ty x y ho g new hx hy ty cs (H.k.get hk).1 hi hold h1 ?_
 rw [hN]
 exact h _ (H.putrow k hk hgw ht)
end
theorem cel_ {W:World} {g:Nat} {t:TypeId} {cs:Array Value} (h:W.heap[g]? =some (.cells cs t (0,0))) (j:Nat):W.cell? ⟨g,j,none⟩=cs[j]? :=blk_cell h j
theorem fro_ {W:World} {g:Nat} {t:TypeId} {cs:Array Value} (h:W.heap[g]? =some (.cells cs t (0,0))) (j:Nat):W.frozen? ⟨g,j,none⟩=false:=blk_frozen h j
theorem cA_ {w W:World} {l:List Blk} {g:Nat} {t:TypeId} {cs:Array Value} (h:At w l W) (k:Nat) (hk:l[k]? =some (.b g (row cs t)):=by exact rfl) (j:Nat):W.cell? ⟨g,j,none⟩=cs[j]? :=blk_cell (h.k.get hk).1 j
theorem cE_ {w W:World} {l:List Blk} {g:Nat} {t:TypeId} {cs:Array Value} (h:Aside0 (At w l W)) (k:Nat) (hk:l[k]? =some (.b g (row cs t)):=by exact rfl) (j:Nat):W.cell? ⟨g,j,none⟩=cs[j]? :=blk_cell (h.out.k.get hk).1 j
theorem fE_ {w W:World} {l:List Blk} {g:Nat} {t:TypeId} {cs:Array Value} (h:Aside0 (At w l W)) (k:Nat) (hk:l[k]? =some (.b g (row cs t)):=by exact rfl) (j:Nat):W.frozen? ⟨g,j,none⟩=false:=blk_frozen (h.out.k.get hk).1 j
theorem asd_ {p:Prop} (h:p):Aside0 p:=⟨h⟩
theorem as2_ {p1 p2:Prop} (h1:p1) (h2:p2):Aside0 p1∧Aside0 p2:=⟨⟨h1⟩,⟨h2⟩⟩
theorem as3_ {p1 p2 p3:Prop} (h1:p1) (h2:p2) (h3:p3):Aside0 p1∧Aside0 p2∧Aside0 p3:=⟨⟨h1⟩,⟨h2⟩,⟨h3⟩⟩
theorem as4_ {p1 p2 p3 p4:Prop} (h1:p1) (h2:p2) (h3:p3) (h4:p4):Aside0 p1∧Aside0 p2∧Aside0 p3∧Aside0 p4:=⟨⟨h1⟩,⟨h2⟩,⟨h3⟩,⟨h4⟩⟩
theorem as5_ {p1 p2 p3 p4 p5:Prop} (h1:p1) (h2:p2) (h3:p3) (h4:p4) (h5:p5):Aside0 p1∧Aside0 p2∧Aside0 p3∧Aside0 p4∧Aside0 p5:=⟨⟨h1⟩,⟨h2⟩,⟨h3⟩,⟨h4⟩,⟨h5⟩⟩
theorem as6_ {p1 p2 p3 p4 p5 p6:Prop} (h1:p1) (h2:p2) (h3:p3) (h4:p4) (h5:p5) (h6:p6):Aside0 p1∧Aside0 p2∧Aside0 p3∧Aside0 p4∧Aside0 p5∧Aside0 p6:=⟨⟨h1⟩,⟨h2⟩,⟨h3⟩,⟨h4⟩,⟨h5⟩,⟨h6⟩⟩
theorem as7_ {p1 p2 p3 p4 p5 p6 p7:Prop} (h1:p1) (h2:p2) (h3:p3) (h4:p4) (h5:p5) (h6:p6) (h7:p7):Aside0 p1∧Aside0 p2∧Aside0 p3∧Aside0 p4∧Aside0 p5∧Aside0 p6∧Aside0 p7:=⟨⟨h1⟩,⟨h2⟩,⟨h3⟩,⟨h4⟩,⟨h5⟩,⟨h6⟩,⟨h7⟩⟩
theorem as8_ {p1 p2 p3 p4 p5 p6 p7 p8:Prop} (h1:p1) (h2:p2) (h3:p3) (h4:p4) (h5:p5) (h6:p6) (h7:p7) (h8:p8):Aside0 p1∧Aside0 p2∧Aside0 p3∧Aside0 p4∧Aside0 p5∧Aside0 p6∧Aside0 p7∧Aside0 p8:=⟨⟨h1⟩,⟨h2⟩,⟨h3⟩,⟨h4⟩,⟨h5⟩,⟨h6⟩,⟨h7⟩,⟨h8⟩⟩
theorem as9_ {p1 p2 p3 p4 p5 p6 p7 p8 p9:Prop} (h1:p1) (h2:p2) (h3:p3) (h4:p4) (h5:p5) (h6:p6) (h7:p7) (h8:p8) (h9:p9):Aside0 p1∧Aside0 p2∧Aside0 p3∧Aside0 p4∧Aside0 p5∧Aside0 p6∧Aside0 p7∧Aside0 p8∧Aside0 p9:=⟨⟨h1⟩,⟨h2⟩,⟨h3⟩,⟨h4⟩,⟨h5⟩,⟨h6⟩,⟨h7⟩,⟨h8⟩,⟨h9⟩⟩
theorem as10_ {p1 p2 p3 p4 p5 p6 p7 p8 p9 p10:Prop} (h1:p1) (h2:p2) (h3:p3) (h4:p4) (h5:p5) (h6:p6) (h7:p7) (h8:p8) (h9:p9) (h10:p10):Aside0 p1∧Aside0 p2∧Aside0 p3∧Aside0 p4∧Aside0 p5∧Aside0 p6∧Aside0 p7∧Aside0 p8∧Aside0 p9∧Aside0 p10:=⟨⟨h1⟩,⟨h2⟩,⟨h3⟩,⟨h4⟩,⟨h5⟩,⟨h6⟩,⟨h7⟩,⟨h8⟩,⟨h9⟩,⟨h10⟩⟩
theorem as11_ {p1 p2 p3 p4 p5 p6 p7 p8 p9 p10 p11:Prop} (h1:p1) (h2:p2) (h3:p3) (h4:p4) (h5:p5) (h6:p6) (h7:p7) (h8:p8) (h9:p9) (h10:p10) (h11:p11):Aside0 p1∧Aside0 p2∧Aside0 p3∧Aside0 p4∧Aside0 p5∧Aside0 p6∧Aside0 p7∧Aside0 p8∧Aside0 p9∧Aside0 p10∧Aside0 p11:=⟨⟨h1⟩,⟨h2⟩,⟨h3⟩,⟨h4⟩,⟨h5⟩,⟨h6⟩,⟨h7⟩,⟨h8⟩,⟨h9⟩,⟨h10⟩,⟨h11⟩⟩
theorem as12_ {p1 p2 p3 p4 p5 p6 p7 p8 p9 p10 p11 p12:Prop} (h1:p1) (h2:p2) (h3:p3) (h4:p4) (h5:p5) (h6:p6) (h7:p7) (h8:p8) (h9:p9) (h10:p10) (h11:p11) (h12:p12):Aside0 p1∧Aside0 p2∧Aside0 p3∧Aside0 p4∧Aside0 p5∧Aside0 p6∧Aside0 p7∧Aside0 p8∧Aside0 p9∧Aside0 p10∧Aside0 p11∧Aside0 p12:=⟨⟨h1⟩,⟨h2⟩,⟨h3⟩,⟨h4⟩,⟨h5⟩,⟨h6⟩,⟨h7⟩,⟨h8⟩,⟨h9⟩,⟨h10⟩,⟨h11⟩,⟨h12⟩⟩
theorem xc2_ {w W:World} (hb:Below w.heap.size w W) {a1 a2:Addr} {v1 v2:Value} (h1:Aside0 (w.cell? a1=some v1)) (h2:Aside0 (w.cell? a2=some v2)):W.cell? a1=some v1∧W.cell? a2=some v2:=⟨pw_cell_below hb h1.out,pw_cell_below hb h2.out⟩
theorem xc3_ {w W:World} (hb:Below w.heap.size w W) {a1 a2 a3:Addr} {v1 v2 v3:Value} (h1:Aside0 (w.cell? a1=some v1)) (h2:Aside0 (w.cell? a2=some v2)) (h3:Aside0 (w.cell? a3=some v3)):W.cell? a1=some v1∧W.cell? a2=some v2∧W.cell? a3=some v3:=⟨pw_cell_below hb h1.out,pw_cell_below hb h2.out,pw_cell_below hb h3.out⟩
theorem xc4_ {w W:World} (hb:Below w.heap.size w W) {a1 a2 a3 a4:Addr} {v1 v2 v3 v4:Value} (h1:Aside0 (w.cell? a1=some v1)) (h2:Aside0 (w.cell? a2=some v2)) (h3:Aside0 (w.cell? a3=some v3)) (h4:Aside0 (w.cell? a4=some v4)):W.cell? a1=some v1∧W.cell? a2=some v2∧W.cell? a3=some v3∧W.cell? a4=some v4:=⟨pw_cell_below hb h1.out,pw_cell_below hb h2.out,pw_cell_below hb h3.out,pw_cell_below hb h4.out⟩
theorem xc7_ {w W:World} (hb:Below w.heap.size w W) {a1 a2 a3 a4 a5 a6 a7:Addr} {v1 v2 v3 v4 v5 v6 v7:Value} (h1:Aside0 (w.cell? a1=some v1)) (h2:Aside0 (w.cell? a2=some v2)) (h3:Aside0 (w.cell? a3=some v3)) (h4:Aside0 (w.cell? a4=some v4)) (h5:Aside0 (w.cell? a5=some v5)) (h6:Aside0 (w.cell? a6=some v6)) (h7:Aside0 (w.cell? a7=some v7)):W.cell? a1=some v1∧W.cell? a2=some v2∧W.cell? a3=some v3∧W.cell? a4=some v4∧W.cell? a5=some v5∧W.cell? a6=some v6∧W.cell? a7=some v7:=⟨pw_cell_below hb h1.out,pw_cell_below hb h2.out,pw_cell_below hb h3.out,pw_cell_below hb h4.out,pw_cell_below hb h5.out,pw_cell_below hb h6.out,pw_cell_below hb h7.out⟩
theorem at_ {p:Prop} (h:p:=by repeat (first|exact HK.out|apply At.drewN|apply At.drew|apply At.alloc)):p:=h
theorem be_ {p:Prop} (h:p:=by repeat (first|exact HK.out.b|apply below_alloc|apply pw_below_drewN|apply below_drew1)):p:=h
theorem gs_ {p:Prop} (h:p:=by first|(go_simp;done)|(go_simp;rfl)):p:=h
theorem ar_ {p:Prop} (h:p:=by (try simp only [List.map_toArray,List.map_cons,List.map_nil]);first|done|rfl):p:=h
theorem kr_ {p:Prop} (h:p:=by kernel_rfl):p:=h
def bts (n m:Nat):Array Bool:=((List.range n).map m.testBit).toArray
theorem bts_zero (n:Nat):Array.replicate n false=bts n 0:=by
 unfold bts
 have h:(List.range n).map (Nat.testBit 0)=List.replicate n false:=by
  refine List.eq_replicate_iff.2 ⟨by simp,fun b hb=> ?_⟩
  obtain ⟨i,_,rfl⟩:=List.mem_map.1 hb
  exact Nat.zero_testBit i
 rw [h]
 rfl
section
variable {P:Program} {ops:Array Oper} {Q:Exit→Act→World→Prop} {md:Region.Mode} {ds:List Nat} {S:World→Prop}
theorem st_ {id:Nat} {a:Act} {w w0:World} {l:List Blk} (n:Nat) (S:World→Prop) (ds:List Nat) (hS:At w0 l w.drew→S w.drew) (h:S w.drew→wpAnyLast P .any ops Q S ds n (bts n 0) a w.drew)
  (H:At w0 l w.drew:=by first|exact At.drew HK.out|(apply At.drew;repeat (first|exact HK.out|apply At.drewN|apply At.drew|apply At.alloc))) (hm:P.follows .mixedOrders=true:=by kernel_rfl) (hn:ops.size=n:=by exact rfl):(Code.region id ops true).wp P Q a w:=
 start_ (bts n 0) hm hn (bts_zero n) (hS H) h
theorem pu_ {n m fuel:Nat} {a a':Act} {w:World} {oi:Oper} {v:Value} (i N m':Nat) (h:wpAnyLast P md ops Q S ds fuel (bts n m') a' w) (hi:ops[i]? =some oi:=by exact rfl) (hN:oi.dst=some N:=by exact rfl) (hc:anyB md ops (bts n m) (bts n m') i=true:=by kernel_rfl)
  (hw:Region.wanted oi (yielded ops a.tmps)=true:=by rfl) (hy:∀ w,(execOp a.eval oi).run P w= .ok (.value v) w:=by (intro w';go_simp;with_reducible rfl)) (ha:a.put (some N) v=a':=by (simp only [Act.put,List.setIfInBounds_toArray,List.set_cons_zero,List.set_cons_succ,i64_w,i32_w];rfl))
  (hQ:∀ c a w,Q (.panic c) (a.put oi.dst v) w→Q (.panic c) a w:=by exact fun _ _ _ h=>h):wpAnyLast P md ops Q S ds (fuel + 1) (bts n m) a w:=
 pure_ (bts n m') hi hN hc hQ (Or.inl ⟨hw,hy⟩) ha h
theorem pn_ {n m fuel:Nat} {a a':Act} {w:World} {oi:Oper} (i N m':Nat) (h:wpAnyLast P md ops Q S ds fuel (bts n m') a' w) (hi:ops[i]? =some oi:=by exact rfl) (hN:oi.dst=some N:=by exact rfl) (hc:anyB md ops (bts n m) (bts n m') i=true:=by kernel_rfl)
  (hw:Region.wanted oi (yielded ops a.tmps)=false:=by rfl) (ha:a.put (some N) undef=a':=by (simp only [Act.put,List.setIfInBounds_toArray,List.set_cons_zero,List.set_cons_succ,i64_w,i32_w];rfl))
  (hQ:∀ c a w,Q (.panic c) (a.put oi.dst undef) w→Q (.panic c) a w:=by exact fun _ _ _ h=>h):wpAnyLast P md ops Q S ds (fuel + 1) (bts n m) a w:=
 pure_ (bts n m') hi hN hc hQ (Or.inr ⟨hw,rfl⟩) ha h
theorem ta2_ {n m fuel:Nat} {a a':Act} {w:World} {oi:Oper} {v:Value} (i N m':Nat) (hS:S w) (h:wpAnyLast P md ops Q S ds fuel (bts n m') a' w) (hi:ops[i]? =some oi:=by exact rfl) (hN:oi.dst=some N:=by exact rfl) (hc:takeB md ops ds (bts n m) (bts n m') i=true:=by kernel_rfl)
  (hw:Region.wanted oi (yielded ops a.tmps)=true:=by rfl) (hy:∀ w,S w→(execOp a.eval oi).run P w= .ok (.value v) w:=by (rintro w' ⟨s0,s1⟩;go_simp;with_reducible rfl)) (ha:a.put (some N) v=a':=by (simp only [Act.put,List.setIfInBounds_toArray,List.set_cons_zero,List.set_cons_succ,i64_w,i32_w];rfl))
  (hQ:∀ c a w,Q (.panic c) (a.put oi.dst v) w→Q (.panic c) a w:=by exact fun _ _ _ h=>h):wpAnyLast P md ops Q S ds (fuel + 1) (bts n m) a w:=
 take_ (bts n m') hi hN hc hQ (Or.inl ⟨hw,hy⟩) hS ha h
theorem ta3_ {n m fuel:Nat} {a a':Act} {w:World} {oi:Oper} {v:Value} (i N m':Nat) (hS:S w) (h:wpAnyLast P md ops Q S ds fuel (bts n m') a' w) (hi:ops[i]? =some oi:=by exact rfl) (hN:oi.dst=some N:=by exact rfl) (hc:takeB md ops ds (bts n m) (bts n m') i=true:=by kernel_rfl)
  (hw:Region.wanted oi (yielded ops a.tmps)=true:=by rfl) (hy:∀ w,S w→(execOp a.eval oi).run P w= .ok (.value v) w:=by (rintro w' ⟨s0,s1,s2⟩;go_simp;with_reducible rfl)) (ha:a.put (some N) v=a':=by (simp only [Act.put,List.setIfInBounds_toArray,List.set_cons_zero,List.set_cons_succ,i64_w,i32_w];rfl))
  (hQ:∀ c a w,Q (.panic c) (a.put oi.dst v) w→Q (.panic c) a w:=by exact fun _ _ _ h=>h):wpAnyLast P md ops Q S ds (fuel + 1) (bts n m) a w:=
 take_ (bts n m') hi hN hc hQ (Or.inl ⟨hw,hy⟩) hS ha h
theorem ta4_ {n m fuel:Nat} {a a':Act} {w:World} {oi:Oper} {v:Value} (i N m':Nat) (hS:S w) (h:wpAnyLast P md ops Q S ds fuel (bts n m') a' w) (hi:ops[i]? =some oi:=by exact rfl) (hN:oi.dst=some N:=by exact rfl) (hc:takeB md ops ds (bts n m) (bts n m') i=true:=by kernel_rfl)
  (hw:Region.wanted oi (yielded ops a.tmps)=true:=by rfl) (hy:∀ w,S w→(execOp a.eval oi).run P w= .ok (.value v) w:=by (rintro w' ⟨s0,s1,s2,s3⟩;go_simp;with_reducible rfl)) (ha:a.put (some N) v=a':=by (simp only [Act.put,List.setIfInBounds_toArray,List.set_cons_zero,List.set_cons_succ,i64_w,i32_w];rfl))
  (hQ:∀ c a w,Q (.panic c) (a.put oi.dst v) w→Q (.panic c) a w:=by exact fun _ _ _ h=>h):wpAnyLast P md ops Q S ds (fuel + 1) (bts n m) a w:=
 take_ (bts n m') hi hN hc hQ (Or.inl ⟨hw,hy⟩) hS ha h
theorem ta7_ {n m fuel:Nat} {a a':Act} {w:World} {oi:Oper} {v:Value} (i N m':Nat) (hS:S w) (h:wpAnyLast P md ops Q S ds fuel (bts n m') a' w) (hi:ops[i]? =some oi:=by exact rfl) (hN:oi.dst=some N:=by exact rfl) (hc:takeB md ops ds (bts n m) (bts n m') i=true:=by kernel_rfl)
  (hw:Region.wanted oi (yielded ops a.tmps)=true:=by rfl) (hy:∀ w,S w→(execOp a.eval oi).run P w= .ok (.value v) w:=by (rintro w' ⟨s0,s1,s2,s3,s4,s5,s6⟩;go_simp;with_reducible rfl)) (ha:a.put (some N) v=a':=by (simp only [Act.put,List.setIfInBounds_toArray,List.set_cons_zero,List.set_cons_succ,i64_w,i32_w];rfl))
  (hQ:∀ c a w,Q (.panic c) (a.put oi.dst v) w→Q (.panic c) a w:=by exact fun _ _ _ h=>h):wpAnyLast P md ops Q S ds (fuel + 1) (bts n m) a w:=
 take_ (bts n m') hi hN hc hQ (Or.inl ⟨hw,hy⟩) hS ha h
theorem ta8_ {n m fuel:Nat} {a a':Act} {w:World} {oi:Oper} {v:Value} (i N m':Nat) (hS:S w) (h:wpAnyLast P md ops Q S ds fuel (bts n m') a' w) (hi:ops[i]? =some oi:=by exact rfl) (hN:oi.dst=some N:=by exact rfl) (hc:takeB md ops ds (bts n m) (bts n m') i=true:=by kernel_rfl)
  (hw:Region.wanted oi (yielded ops a.tmps)=true:=by rfl) (hy:∀ w,S w→(execOp a.eval oi).run P w= .ok (.value v) w:=by (rintro w' ⟨s0,s1,s2,s3,s4,s5,s6,s7⟩;go_simp;with_reducible rfl)) (ha:a.put (some N) v=a':=by (simp only [Act.put,List.setIfInBounds_toArray,List.set_cons_zero,List.set_cons_succ,i64_w,i32_w];rfl))
  (hQ:∀ c a w,Q (.panic c) (a.put oi.dst v) w→Q (.panic c) a w:=by exact fun _ _ _ h=>h):wpAnyLast P md ops Q S ds (fuel + 1) (bts n m) a w:=
 take_ (bts n m') hi hN hc hQ (Or.inl ⟨hw,hy⟩) hS ha h
theorem ta15_ {n m fuel:Nat} {a a':Act} {w:World} {oi:Oper} {v:Value} (i N m':Nat) (hS:S w) (h:wpAnyLast P md ops Q S ds fuel (bts n m') a' w) (hi:ops[i]? =some oi:=by exact rfl) (hN:oi.dst=some N:=by exact rfl) (hc:takeB md ops ds (bts n m) (bts n m') i=true:=by kernel_rfl)
  (hw:Region.wanted oi (yielded ops a.tmps)=true:=by rfl) (hy:∀ w,S w→(execOp a.eval oi).run P w= .ok (.value v) w:=by (rintro w' ⟨s0,s1,s2,s3,s4,s5,s6,s7,s8,s9,s10,s11,s12,s13,s14⟩;go_simp;with_reducible rfl)) (ha:a.put (some N) v=a':=by (simp only [Act.put,List.setIfInBounds_toArray,List.set_cons_zero,List.set_cons_succ,i64_w,i32_w];rfl))
  (hQ:∀ c a w,Q (.panic c) (a.put oi.dst v) w→Q (.panic c) a w:=by exact fun _ _ _ h=>h):wpAnyLast P md ops Q S ds (fuel + 1) (bts n m) a w:=
 take_ (bts n m') hi hN hc hQ (Or.inl ⟨hw,hy⟩) hS ha h
theorem ta1_ {n m fuel:Nat} {a a':Act} {w:World} {oi:Oper} {v:Value} (i N m':Nat) (hS:S w) (h:wpAnyLast P md ops Q S ds fuel (bts n m') a' w) (hi:ops[i]? =some oi:=by exact rfl) (hN:oi.dst=some N:=by exact rfl) (hc:takeB md ops ds (bts n m) (bts n m') i=true:=by kernel_rfl)
  (hw:Region.wanted oi (yielded ops a.tmps)=true:=by rfl) (hy:∀ w,S w→(execOp a.eval oi).run P w= .ok (.value v) w:=by (intro w' s0;go_simp;with_reducible rfl)) (ha:a.put (some N) v=a':=by (simp only [Act.put,List.setIfInBounds_toArray,List.set_cons_zero,List.set_cons_succ,i64_w,i32_w];rfl))
  (hQ:∀ c a w,Q (.panic c) (a.put oi.dst v) w→Q (.panic c) a w:=by exact fun _ _ _ h=>h):wpAnyLast P md ops Q S ds (fuel + 1) (bts n m) a w:=
 take_ (bts n m') hi hN hc hQ (Or.inl ⟨hw,hy⟩) hS ha h
theorem pq_ {n m fuel:Nat} {a a':Act} {w:World} {oi:Oper} {v:Value} (i N m':Nat) (hi0:ops[i]? =some oi) (hy:∀ w,(execOp a.eval oi).run P w= .ok (.value v) w) (h:wpAnyLast P md ops Q S ds fuel (bts n m') a' w) (hN:oi.dst=some N:=by exact rfl) (hc:anyB md ops (bts n m) (bts n m') i=true:=by kernel_rfl)
  (hw:Region.wanted oi (yielded ops a.tmps)=true:=by rfl) (ha:a.put (some N) v=a':=by (simp only [Act.put,List.setIfInBounds_toArray,List.set_cons_zero,List.set_cons_succ,i64_w,i32_w];rfl))
  (hQ:∀ c a w,Q (.panic c) (a.put oi.dst v) w→Q (.panic c) a w:=by exact fun _ _ _ h=>h):wpAnyLast P md ops Q S ds (fuel + 1) (bts n m) a w:=
 pure_ (bts n m') hi0 hN hc hQ (Or.inl ⟨hw,hy⟩) ha h
theorem jo_ {σ:Type} {n m fuel:Nat} {a:Act} {w:World} (fuel' m':Nat) (ns:σ→List (Tmp×Value)) (F:σ→World→Prop)
  (h:(∀ s w',F s w'→wpAnyLast P md ops Q S ds fuel' (bts n m') (PrintLast.putAll a (ns s)) w')→wpAnyLast P md ops Q S ds fuel (bts n m) a w)
  (hcont:∀ s w',F s w'→wpAnyLast P md ops Q S ds fuel' (bts n m') (PrintLast.putAll a (ns s)) w'):wpAnyLast P md ops Q S ds fuel (bts n m) a w:=h hcont
theorem sk_ {oi:Oper} {a:Act} {w w1:World} {K:Act→World→Prop} (h:K a w1) (hw:Region.wanted oi (yielded ops a.tmps)=true:=by rfl) (hN:oi.dst=none:=by exact rfl) (hrun:(execOp a.eval oi).run P w= .ok .skip w1:=by (go_simp;rfl)):if Region.wanted oi (yielded ops a.tmps)=true then Oper.wp P oi a w K Q else K (a.put none undef) w:=skip_ hw hN hrun h
theorem nq_ {fuel:Nat} {l:Array Bool} {a a':Act} {w:World} {v:Value} (N:Tmp) (h:wpAnyLast P md ops Q S ds fuel l a' w) (ha:a.put (some N) v=a':=by (simp only [Act.put,List.setIfInBounds_toArray,List.set_cons_zero,List.set_cons_succ,i64_w,i32_w];rfl)):wpAnyLast P md ops Q S ds fuel l (a.put (some N) v) w:=norm_ ha h
theorem np_ {fuel:Nat} {l:Array Bool} {a a':Act} {w:World} (h:wpAnyLast P md ops Q S ds fuel l a' w) (ha:a=a':=by (simp only [PrintLast.putAll,Act.put,List.setIfInBounds_toArray,List.set_cons_zero,List.set_cons_succ];rfl)):wpAnyLast P md ops Q S ds fuel l a w:=norm_ ha h
theorem nx_ {fuel:Nat} {l:Array Bool} {a a':Act} {w:World} (h:wpAnyLast P md ops Q S ds fuel l a' w) (ha:a=a':=by first|(simp only [PrintLast.putAll,Act.put,List.setIfInBounds_toArray,List.set_cons_zero,List.set_cons_succ];done)|(simp only [PrintLast.putAll,Act.put,List.setIfInBounds_toArray,List.set_cons_zero,List.set_cons_succ];rfl)|rfl):wpAnyLast P md ops Q S ds fuel l a w:=norm_ ha h
theorem on_ {n m fuel:Nat} {a:Act} {w:World} {oi:Oper} (i N m':Nat) (h:∀ K:Act→World→Prop,Shut (∀ a' w',S w'→(S w'→wpAnyLast P md ops Q S ds fuel (bts n m') a' w')→K a' w')→if Region.wanted oi (yielded ops a.tmps)=true then Oper.wp P oi a w K Q else K (a.put (some N) undef) w)
  (hi:ops[i]? =some oi:=by exact rfl) (hN:oi.dst=some N:=by exact rfl) (hc:readyB md ops (bts n m) (bts n m') i=true:=by kernel_rfl) (hd:i∉ds:=by decide):wpAnyLast P md ops Q S ds (fuel + 1) (bts n m) a w:=one_ (bts n m') hi hN hc hd h
theorem la_ {n m fuel:Nat} {a:Act} {w:World} {oi:Oper} (i N m':Nat) (h:∀ K:Act→World→Prop,Shut (∀ a' w',wpAnyLast P md ops Q S ds fuel (bts n m') a' w'→K a' w')→if Region.wanted oi (yielded ops a.tmps)=true then Oper.wp P oi a w K Q else K (a.put (some N) undef) w)
  (hi:ops[i]? =some oi:=by exact rfl) (hN:oi.dst=some N:=by exact rfl) (hc:readyB md ops (bts n m) (bts n m') i=true:=by kernel_rfl) (hd:i∈ds:=by decide):wpAnyLast P md ops Q S ds (fuel + 1) (bts n m) a w:=last_ (bts n m') hi hN hc hd h
theorem lz_ {n m fuel:Nat} {a:Act} {w:World} {oi:Oper} (i m':Nat) (h:∀ K:Act→World→Prop,Shut (∀ a' w',wpAnyLast P md ops Q S ds fuel (bts n m') a' w'→K a' w')→if Region.wanted oi (yielded ops a.tmps)=true then Oper.wp P oi a w K Q else K (a.put none undef) w)
  (hi:ops[i]? =some oi:=by exact rfl) (hN:oi.dst=none:=by exact rfl) (hc:readyB md ops (bts n m) (bts n m') i=true:=by kernel_rfl) (hd:i∈ds:=by decide):wpAnyLast P md ops Q S ds (fuel + 1) (bts n m) a w:=last_ (bts n m') hi hN hc hd h
theorem tw_ {n m fuel:Nat} {a:Act} {w:World} {oi oj:Oper} (i j Ni Nj mi mj:Nat)
  (h1:∀ K:Act→World→Prop,Shut (∀ a' w',S w'→(S w'→wpAnyLast P md ops Q S ds fuel (bts n mi) a' w')→K a' w')→if Region.wanted oi (yielded ops a.tmps)=true then Oper.wp P oi a w K Q else K (a.put (some Ni) undef) w)
  (h2:∀ K:Act→World→Prop,Shut (∀ a' w',S w'→(S w'→wpAnyLast P md ops Q S ds fuel (bts n mj) a' w')→K a' w')→if Region.wanted oj (yielded ops a.tmps)=true then Oper.wp P oj a w K Q else K (a.put (some Nj) undef) w)
  (hi:ops[i]? =some oi:=by exact rfl) (hj:ops[j]? =some oj:=by exact rfl) (hNi:oi.dst=some Ni:=by exact rfl) (hNj:oj.dst=some Nj:=by exact rfl)
  (hc:(Region.ready md ops (bts n m) == [i,j]&&(bts n m).setIfInBounds i true == bts n mi&&(bts n m).setIfInBounds j true == bts n mj)=true:=by kernel_rfl) (hdi:i∉ds:=by decide) (hdj:j∉ds:=by decide):wpAnyLast P md ops Q S ds (fuel + 1) (bts n m) a w:=
 two_ (bts n mi) (bts n mj) hi hj hNi hNj hc hdi hdj h1 h2
theorem ge_ {oi:Oper} {N:Option Tmp} {a:Act} {w:World} {K:Act→World→Prop} {f:FuncId} {fn:Func} {xs:Array Operand} {ts:Array TypeId} (hf:P.funcs[f]? =some fn) (args:Array Value) (h:Calls P f args w fun e w'=>∃ v,e= .returned v∧K (a.put N v) w')
  (hw:Region.wanted oi (yielded ops a.tmps)=true:=by rfl) (hN:oi.dst=N:=by exact rfl) (hop:oi.op= .call {callee:= .value (.func f),args:=xs,argTypes:=ts}:=by exact rfl) (hargs:xs.map a.eval=args:=by (simp only [List.map_toArray,List.map_cons,List.map_nil];rfl))
  (hname:(fn.name == "runtime.NumGoroutine")=false:=by kernel_rfl) (hb:fn.body.isSome=true:=by exact rfl):if Region.wanted oi (yielded ops a.tmps)=true then Oper.wp P oi a w K Q else K (a.put N undef) w:=
 goes_ hf hname hb args hw hN hop hargs h
variable {rest:List Oper} {o:Oper} {a:Act} {w W:World} {l:List Blk} {Kc:Act→World→Prop}
theorem ne_ (N:Tmp) (ob:Obj) (v:Nat→Value) (h:∀ g w1,At w (.b g ob::l) w1→w.heap.size≤g→Kc (a.put o.dst (v g)) w1) (H:At w l W:=by exact HE.out) (hw:Region.wanted o (yielded ops a.tmps)=true:=by rfl) (hd:o.dst=some N:=by rfl)
  (hrun:(execOp a.eval o).run P W= .ok (.value (v W.heap.size)) (W.alloc ob):=by first|(go_simp;done)|(go_simp;rfl)):if Region.wanted o (yielded ops a.tmps)=true then Oper.wp P o a W Kc Q else Kc (a.put o.dst undef) W:=
 new_ H hw hd hrun h
theorem gd_ (N:Tmp) (h:wpList P ops Q (o::rest) a W) (hd:o.dst=some N:=by with_reducible exact rfl):wpList P ops Q (o::rest) a W:=h
theorem bx_ (cs:Array Value) (t:TypeId) (h:∀ g w1,Aside0 (At w (.b g (row cs t)::l) w1)→Aside0 (w.heap.size≤g)→wpList P ops Q rest (a.put o.dst (.pointer (some ⟨g,0,none⟩))) w1)
  (H:At w l W:=by repeat (first|exact HK.out|apply At.drewN|apply At.drew|apply At.alloc)) (hgd:o.guard=none:=by exact rfl) (hrun:(execOp a.eval o).run P W= .ok (.value (.pointer (some ⟨W.heap.size,0,none⟩))) (W.alloc (.cells cs t (0,0))):=by first|(go_simp;done)|(go_simp;rfl)):wpList P ops Q (o::rest) a W:=
 Kd.event_run hgd hrun (h _ _ ⟨H.new _⟩ ⟨H.b.size⟩)
theorem nw_ (ob:Obj) (v:Nat→Value) (h:∀ g w1,Aside0 (At w (.b g ob::l) w1)→Aside0 (w.heap.size≤g)→wpList P ops Q rest (a.put o.dst (v g)) w1)
  (H:At w l W:=by repeat (first|exact HK.out|apply At.drewN|apply At.drew|apply At.alloc)) (hgd:o.guard=none:=by exact rfl) (hrun:(execOp a.eval o).run P W= .ok (.value (v W.heap.size)) (W.alloc ob):=by first|(go_simp;done)|(go_simp;rfl)):wpList P ops Q (o::rest) a W:=
 Kd.event_run hgd hrun (h _ _ ⟨H.new _⟩ ⟨H.b.size⟩)
theorem cl_ {f:FuncId} {fn:Func} {xs:Array Operand} {ts:Array TypeId} (args:Array Value) (v:Value) (hf:P.funcs[f]? =some fn) (hc:Calls P f args W fun e w'=>e= .returned v∧Below W.heap.size W w') (h:∀ w1,At w l w1→wpList P ops Q rest (a.put o.dst v) w1)
  (H:At w l W:=by repeat (first|exact HK.out|apply At.drewN|apply At.drew|apply At.alloc)) (hg:o.guard=none:=by exact rfl) (hname:(fn.name == "runtime.NumGoroutine")=false:=by kernel_rfl) (hb:fn.body.isSome=true:=by exact rfl)
  (hop:o.op= .call {callee:= .value (.func f),args:=xs,argTypes:=ts}:=by exact rfl) (hargs:xs.map a.eval=args:=by (try simp only [List.map_toArray,List.map_cons,List.map_nil]);first|done|rfl):wpList P ops Q (o::rest) a W:=
 call_at args v H hg hf hname hb hop hargs hc h
theorem cw_ {f:FuncId} {fn:Func} {xs:Array Operand} {ts:Array TypeId} {F:Value→World→Prop} (args:Array Value) (hf:P.funcs[f]? =some fn) (hc:Calls P f args W fun e w'=>∃ v,e= .returned v∧F v w'∧Below W.heap.size W w') (h:∀ v w1,At w l w1→F v w1→Below W.heap.size W w1→wpList P ops Q rest (a.put o.dst v) w1)
  (H:At w l W:=by repeat (first|exact HK.out|apply At.drewN|apply At.drew|apply At.alloc)) (hg:o.guard=none:=by exact rfl) (hname:(fn.name == "runtime.NumGoroutine")=false:=by kernel_rfl) (hb:fn.body.isSome=true:=by exact rfl)
  (hop:o.op= .call {callee:= .value (.func f),args:=xs,argTypes:=ts}:=by exact rfl) (hargs:xs.map a.eval=args:=by (try simp only [List.map_toArray,List.map_cons,List.map_nil]);first|done|rfl):wpList P ops Q (o::rest) a W:=
 call_with args F H hg hf hname hb hop hargs hc h
theorem lo_ (ty:TypeId) (x:Tmp) (g:Nat) (cs:Array Value) (hg:W.heap[g]? =some (.cells cs ty (0,0))) {d:TypeDesc} (hu:P.underlying ty=some d) (h:wpList P ops Q rest (a.put o.dst (.agg cs)) W) (hgd:o.guard=none:=by exact rfl) (ho:o.op= .load ty (.tmp x):=by exact rfl) (hx:a.eval (.tmp x)= .pointer (some ⟨g,0,none⟩):=by exact rfl)
  (hd:(match d with| .struct _| .array _ _=>true|_=>false)=true:=by exact rfl) (hi:(P.info? ty).map (·.size)=some cs.size:=by kernel_rfl):wpList P ops Q (o::rest) a W:=
 load_at (ty:=ty) (x:= .tmp x) g cs hgd ho hx hg hu hd hi h
end
theorem st0_ (w:World):Aside0 (At w [] w):=⟨At.start w⟩
abbrev rb (v:Value) (W:World):Ending→World→Prop:=fun e w'=>e= .returned v∧Below W.heap.size W w'
theorem ce1_ {w W:World} {l:List Blk} {g1:Nat} {t1:TypeId} {c1:Array Value} (h:Aside0 (At w l W)) (k1:Nat) (e1:l[k1]? =some (.b g1 (row c1 t1)):=by exact rfl):(∀ j,W.cell? ⟨g1,j,none⟩=c1[j]?):=cE_ h k1 e1
theorem ce2_ {w W:World} {l:List Blk} {g1 g2:Nat} {t1 t2:TypeId} {c1 c2:Array Value} (h:Aside0 (At w l W)) (k1 k2:Nat) (e1:l[k1]? =some (.b g1 (row c1 t1)):=by exact rfl) (e2:l[k2]? =some (.b g2 (row c2 t2)):=by exact rfl):(∀ j,W.cell? ⟨g1,j,none⟩=c1[j]?)∧(∀ j,W.cell? ⟨g2,j,none⟩=c2[j]?):=⟨cE_ h k1 e1,cE_ h k2 e2⟩
theorem ce3_ {w W:World} {l:List Blk} {g1 g2 g3:Nat} {t1 t2 t3:TypeId} {c1 c2 c3:Array Value} (h:Aside0 (At w l W)) (k1 k2 k3:Nat) (e1:l[k1]? =some (.b g1 (row c1 t1)):=by exact rfl) (e2:l[k2]? =some (.b g2 (row c2 t2)):=by exact rfl) (e3:l[k3]? =some (.b g3 (row c3 t3)):=by exact rfl):(∀ j,W.cell? ⟨g1,j,none⟩=c1[j]?)∧(∀ j,W.cell? ⟨g2,j,none⟩=c2[j]?)∧(∀ j,W.cell? ⟨g3,j,none⟩=c3[j]?):=⟨cE_ h k1 e1,cE_ h k2 e2,cE_ h k3 e3⟩
theorem ce4_ {w W:World} {l:List Blk} {g1 g2 g3 g4:Nat} {t1 t2 t3 t4:TypeId} {c1 c2 c3 c4:Array Value} (h:Aside0 (At w l W)) (k1 k2 k3 k4:Nat) (e1:l[k1]? =some (.b g1 (row c1 t1)):=by exact rfl) (e2:l[k2]? =some (.b g2 (row c2 t2)):=by exact rfl) (e3:l[k3]? =some (.b g3 (row c3 t3)):=by exact rfl) (e4:l[k4]? =some (.b g4 (row c4 t4)):=by exact rfl):(∀ j,W.cell? ⟨g1,j,none⟩=c1[j]?)∧(∀ j,W.cell? ⟨g2,j,none⟩=c2[j]?)∧(∀ j,W.cell? ⟨g3,j,none⟩=c3[j]?)∧(∀ j,W.cell? ⟨g4,j,none⟩=c4[j]?):=⟨cE_ h k1 e1,cE_ h k2 e2,cE_ h k3 e3,cE_ h k4 e4⟩
theorem ce5_ {w W:World} {l:List Blk} {g1 g2 g3 g4 g5:Nat} {t1 t2 t3 t4 t5:TypeId} {c1 c2 c3 c4 c5:Array Value} (h:Aside0 (At w l W)) (k1 k2 k3 k4 k5:Nat) (e1:l[k1]? =some (.b g1 (row c1 t1)):=by exact rfl) (e2:l[k2]? =some (.b g2 (row c2 t2)):=by exact rfl) (e3:l[k3]? =some (.b g3 (row c3 t3)):=by exact rfl) (e4:l[k4]? =some (.b g4 (row c4 t4)):=by exact rfl) (e5:l[k5]? =some (.b g5 (row c5 t5)):=by exact rfl):(∀ j,W.cell? ⟨g1,j,none⟩=c1[j]?)∧(∀ j,W.cell? ⟨g2,j,none⟩=c2[j]?)∧(∀ j,W.cell? ⟨g3,j,none⟩=c3[j]?)∧(∀ j,W.cell? ⟨g4,j,none⟩=c4[j]?)∧(∀ j,W.cell? ⟨g5,j,none⟩=c5[j]?):=⟨cE_ h k1 e1,cE_ h k2 e2,cE_ h k3 e3,cE_ h k4 e4,cE_ h k5 e5⟩
theorem ce6_ {w W:World} {l:List Blk} {g1 g2 g3 g4 g5 g6:Nat} {t1 t2 t3 t4 t5 t6:TypeId} {c1 c2 c3 c4 c5 c6:Array Value} (h:Aside0 (At w l W)) (k1 k2 k3 k4 k5 k6:Nat) (e1:l[k1]? =some (.b g1 (row c1 t1)):=by exact rfl) (e2:l[k2]? =some (.b g2 (row c2 t2)):=by exact rfl) (e3:l[k3]? =some (.b g3 (row c3 t3)):=by exact rfl) (e4:l[k4]? =some (.b g4 (row c4 t4)):=by exact rfl) (e5:l[k5]? =some (.b g5 (row c5 t5)):=by exact rfl) (e6:l[k6]? =some (.b g6 (row c6 t6)):=by exact rfl):(∀ j,W.cell? ⟨g1,j,none⟩=c1[j]?)∧(∀ j,W.cell? ⟨g2,j,none⟩=c2[j]?)∧(∀ j,W.cell? ⟨g3,j,none⟩=c3[j]?)∧(∀ j,W.cell? ⟨g4,j,none⟩=c4[j]?)∧(∀ j,W.cell? ⟨g5,j,none⟩=c5[j]?)∧(∀ j,W.cell? ⟨g6,j,none⟩=c6[j]?):=⟨cE_ h k1 e1,cE_ h k2 e2,cE_ h k3 e3,cE_ h k4 e4,cE_ h k5 e5,cE_ h k6 e6⟩
theorem fe1_ {w W:World} {l:List Blk} {g1:Nat} {t1:TypeId} {c1:Array Value} (h:Aside0 (At w l W)) (k1:Nat) (e1:l[k1]? =some (.b g1 (row c1 t1)):=by exact rfl):(∀ j,W.frozen? ⟨g1,j,none⟩=false):=fE_ h k1 e1
theorem fe2_ {w W:World} {l:List Blk} {g1 g2:Nat} {t1 t2:TypeId} {c1 c2:Array Value} (h:Aside0 (At w l W)) (k1 k2:Nat) (e1:l[k1]? =some (.b g1 (row c1 t1)):=by exact rfl) (e2:l[k2]? =some (.b g2 (row c2 t2)):=by exact rfl):(∀ j,W.frozen? ⟨g1,j,none⟩=false)∧(∀ j,W.frozen? ⟨g2,j,none⟩=false):=⟨fE_ h k1 e1,fE_ h k2 e2⟩
theorem fe3_ {w W:World} {l:List Blk} {g1 g2 g3:Nat} {t1 t2 t3:TypeId} {c1 c2 c3:Array Value} (h:Aside0 (At w l W)) (k1 k2 k3:Nat) (e1:l[k1]? =some (.b g1 (row c1 t1)):=by exact rfl) (e2:l[k2]? =some (.b g2 (row c2 t2)):=by exact rfl) (e3:l[k3]? =some (.b g3 (row c3 t3)):=by exact rfl):(∀ j,W.frozen? ⟨g1,j,none⟩=false)∧(∀ j,W.frozen? ⟨g2,j,none⟩=false)∧(∀ j,W.frozen? ⟨g3,j,none⟩=false):=⟨fE_ h k1 e1,fE_ h k2 e2,fE_ h k3 e3⟩
theorem fe4_ {w W:World} {l:List Blk} {g1 g2 g3 g4:Nat} {t1 t2 t3 t4:TypeId} {c1 c2 c3 c4:Array Value} (h:Aside0 (At w l W)) (k1 k2 k3 k4:Nat) (e1:l[k1]? =some (.b g1 (row c1 t1)):=by exact rfl) (e2:l[k2]? =some (.b g2 (row c2 t2)):=by exact rfl) (e3:l[k3]? =some (.b g3 (row c3 t3)):=by exact rfl) (e4:l[k4]? =some (.b g4 (row c4 t4)):=by exact rfl):(∀ j,W.frozen? ⟨g1,j,none⟩=false)∧(∀ j,W.frozen? ⟨g2,j,none⟩=false)∧(∀ j,W.frozen? ⟨g3,j,none⟩=false)∧(∀ j,W.frozen? ⟨g4,j,none⟩=false):=⟨fE_ h k1 e1,fE_ h k2 e2,fE_ h k3 e3,fE_ h k4 e4⟩
theorem fe5_ {w W:World} {l:List Blk} {g1 g2 g3 g4 g5:Nat} {t1 t2 t3 t4 t5:TypeId} {c1 c2 c3 c4 c5:Array Value} (h:Aside0 (At w l W)) (k1 k2 k3 k4 k5:Nat) (e1:l[k1]? =some (.b g1 (row c1 t1)):=by exact rfl) (e2:l[k2]? =some (.b g2 (row c2 t2)):=by exact rfl) (e3:l[k3]? =some (.b g3 (row c3 t3)):=by exact rfl) (e4:l[k4]? =some (.b g4 (row c4 t4)):=by exact rfl) (e5:l[k5]? =some (.b g5 (row c5 t5)):=by exact rfl):(∀ j,W.frozen? ⟨g1,j,none⟩=false)∧(∀ j,W.frozen? ⟨g2,j,none⟩=false)∧(∀ j,W.frozen? ⟨g3,j,none⟩=false)∧(∀ j,W.frozen? ⟨g4,j,none⟩=false)∧(∀ j,W.frozen? ⟨g5,j,none⟩=false):=⟨fE_ h k1 e1,fE_ h k2 e2,fE_ h k3 e3,fE_ h k4 e4,fE_ h k5 e5⟩
section
variable {P:Program} {ops:Array Oper} {Q:Exit→Act→World→Prop} {md:Region.Mode} {ds:List Nat}
theorem su1_ {id:Nat} {a:Act} {w w0 W:World} {l:List Blk} {g1:Nat} {t1:TypeId} {c1:Array Value} (n:Nat) (HK:Aside0 (At w0 l W)) (k1:Nat) (ds:List Nat) (h:(∀ {w'},At w0 l w'→At w0 l w'∧(∀ j,w'.cell? ⟨g1,j,none⟩=c1[j]?))→At w0 l w.drew∧(∀ j,w.drew.cell? ⟨g1,j,none⟩=c1[j]?)→wpAnyLast P .any ops Q (fun w'=>At w0 l w'∧(∀ j,w'.cell? ⟨g1,j,none⟩=c1[j]?)) ds n (bts n 0) a w.drew)
  (e1:l[k1]? =some (.b g1 (row c1 t1)):=by exact rfl) (H:At w0 l w.drew:=by first|exact At.drew HK.out|(apply At.drew;repeat (first|exact HK.out|apply At.drewN|apply At.drew|apply At.alloc))) (hm:P.follows .mixedOrders=true:=by kernel_rfl) (hn:ops.size=n:=by exact rfl):(Code.region id ops true).wp P Q a w:=
 have HS:∀ {w'},At w0 l w'→At w0 l w'∧(∀ j,w'.cell? ⟨g1,j,none⟩=c1[j]?):=fun A=>⟨A,cA_ A k1 e1⟩
 start_ (S:=fun w'=>At w0 l w'∧(∀ j,w'.cell? ⟨g1,j,none⟩=c1[j]?)) (ds:=ds) (bts n 0) hm hn (bts_zero n) (HS H) (h HS)
theorem su2_ {id:Nat} {a:Act} {w w0 W:World} {l:List Blk} {g1 g2:Nat} {t1 t2:TypeId} {c1 c2:Array Value} (n:Nat) (HK:Aside0 (At w0 l W)) (k1 k2:Nat) (ds:List Nat) (h:(∀ {w'},At w0 l w'→At w0 l w'∧(∀ j,w'.cell? ⟨g1,j,none⟩=c1[j]?)∧(∀ j,w'.cell? ⟨g2,j,none⟩=c2[j]?))→At w0 l w.drew∧(∀ j,w.drew.cell? ⟨g1,j,none⟩=c1[j]?)∧(∀ j,w.drew.cell? ⟨g2,j,none⟩=c2[j]?)→wpAnyLast P .any ops Q (fun w'=>At w0 l w'∧(∀ j,w'.cell? ⟨g1,j,none⟩=c1[j]?)∧(∀ j,w'.cell? ⟨g2,j,none⟩=c2[j]?)) ds n (bts n 0) a w.drew)
  (e1:l[k1]? =some (.b g1 (row c1 t1)):=by exact rfl) (e2:l[k2]? =some (.b g2 (row c2 t2)):=by exact rfl) (H:At w0 l w.drew:=by first|exact At.drew HK.out|(apply At.drew;repeat (first|exact HK.out|apply At.drewN|apply At.drew|apply At.alloc))) (hm:P.follows .mixedOrders=true:=by kernel_rfl) (hn:ops.size=n:=by exact rfl):(Code.region id ops true).wp P Q a w:=
 have HS:∀ {w'},At w0 l w'→At w0 l w'∧(∀ j,w'.cell? ⟨g1,j,none⟩=c1[j]?)∧(∀ j,w'.cell? ⟨g2,j,none⟩=c2[j]?):=fun A=>⟨A,cA_ A k1 e1,cA_ A k2 e2⟩
 start_ (S:=fun w'=>At w0 l w'∧(∀ j,w'.cell? ⟨g1,j,none⟩=c1[j]?)∧(∀ j,w'.cell? ⟨g2,j,none⟩=c2[j]?)) (ds:=ds) (bts n 0) hm hn (bts_zero n) (HS H) (h HS)
theorem su3_ {id:Nat} {a:Act} {w w0 W:World} {l:List Blk} {g1 g2 g3:Nat} {t1 t2 t3:TypeId} {c1 c2 c3:Array Value} (n:Nat) (HK:Aside0 (At w0 l W)) (k1 k2 k3:Nat) (ds:List Nat) (h:(∀ {w'},At w0 l w'→At w0 l w'∧(∀ j,w'.cell? ⟨g1,j,none⟩=c1[j]?)∧(∀ j,w'.cell? ⟨g2,j,none⟩=c2[j]?)∧(∀ j,w'.cell? ⟨g3,j,none⟩=c3[j]?))→At w0 l w.drew∧(∀ j,w.drew.cell? ⟨g1,j,none⟩=c1[j]?)∧(∀ j,w.drew.cell? ⟨g2,j,none⟩=c2[j]?)∧(∀ j,w.drew.cell? ⟨g3,j,none⟩=c3[j]?)→wpAnyLast P .any ops Q (fun w'=>At w0 l w'∧(∀ j,w'.cell? ⟨g1,j,none⟩=c1[j]?)∧(∀ j,w'.cell? ⟨g2,j,none⟩=c2[j]?)∧(∀ j,w'.cell? ⟨g3,j,none⟩=c3[j]?)) ds n (bts n 0) a w.drew)
  (e1:l[k1]? =some (.b g1 (row c1 t1)):=by exact rfl) (e2:l[k2]? =some (.b g2 (row c2 t2)):=by exact rfl) (e3:l[k3]? =some (.b g3 (row c3 t3)):=by exact rfl) (H:At w0 l w.drew:=by first|exact At.drew HK.out|(apply At.drew;repeat (first|exact HK.out|apply At.drewN|apply At.drew|apply At.alloc))) (hm:P.follows .mixedOrders=true:=by kernel_rfl) (hn:ops.size=n:=by exact rfl):(Code.region id ops true).wp P Q a w:=
 have HS:∀ {w'},At w0 l w'→At w0 l w'∧(∀ j,w'.cell? ⟨g1,j,none⟩=c1[j]?)∧(∀ j,w'.cell? ⟨g2,j,none⟩=c2[j]?)∧(∀ j,w'.cell? ⟨g3,j,none⟩=c3[j]?):=fun A=>⟨A,cA_ A k1 e1,cA_ A k2 e2,cA_ A k3 e3⟩
 start_ (S:=fun w'=>At w0 l w'∧(∀ j,w'.cell? ⟨g1,j,none⟩=c1[j]?)∧(∀ j,w'.cell? ⟨g2,j,none⟩=c2[j]?)∧(∀ j,w'.cell? ⟨g3,j,none⟩=c3[j]?)) (ds:=ds) (bts n 0) hm hn (bts_zero n) (HS H) (h HS)
theorem su6_ {id:Nat} {a:Act} {w w0 W:World} {l:List Blk} {g1 g2 g3 g4 g5 g6:Nat} {t1 t2 t3 t4 t5 t6:TypeId} {c1 c2 c3 c4 c5 c6:Array Value} (n:Nat) (HK:Aside0 (At w0 l W)) (k1 k2 k3 k4 k5 k6:Nat) (ds:List Nat) (h:(∀ {w'},At w0 l w'→At w0 l w'∧(∀ j,w'.cell? ⟨g1,j,none⟩=c1[j]?)∧(∀ j,w'.cell? ⟨g2,j,none⟩=c2[j]?)∧(∀ j,w'.cell? ⟨g3,j,none⟩=c3[j]?)∧(∀ j,w'.cell? ⟨g4,j,none⟩=c4[j]?)∧(∀ j,w'.cell? ⟨g5,j,none⟩=c5[j]?)∧(∀ j,w'.cell? ⟨g6,j,none⟩=c6[j]?))→At w0 l w.drew∧(∀ j,w.drew.cell? ⟨g1,j,none⟩=c1[j]?)∧(∀ j,w.drew.cell? ⟨g2,j,none⟩=c2[j]?)∧(∀ j,w.drew.cell? ⟨g3,j,none⟩=c3[j]?)∧(∀ j,w.drew.cell? ⟨g4,j,none⟩=c4[j]?)∧(∀ j,w.drew.cell? ⟨g5,j,none⟩=c5[j]?)∧(∀ j,w.drew.cell? ⟨g6,j,none⟩=c6[j]?)→wpAnyLast P .any ops Q (fun w'=>At w0 l w'∧(∀ j,w'.cell? ⟨g1,j,none⟩=c1[j]?)∧(∀ j,w'.cell? ⟨g2,j,none⟩=c2[j]?)∧(∀ j,w'.cell? ⟨g3,j,none⟩=c3[j]?)∧(∀ j,w'.cell? ⟨g4,j,none⟩=c4[j]?)∧(∀ j,w'.cell? ⟨g5,j,none⟩=c5[j]?)∧(∀ j,w'.cell? ⟨g6,j,none⟩=c6[j]?)) ds n (bts n 0) a w.drew)
  (e1:l[k1]? =some (.b g1 (row c1 t1)):=by exact rfl) (e2:l[k2]? =some (.b g2 (row c2 t2)):=by exact rfl) (e3:l[k3]? =some (.b g3 (row c3 t3)):=by exact rfl) (e4:l[k4]? =some (.b g4 (row c4 t4)):=by exact rfl) (e5:l[k5]? =some (.b g5 (row c5 t5)):=by exact rfl) (e6:l[k6]? =some (.b g6 (row c6 t6)):=by exact rfl) (H:At w0 l w.drew:=by first|exact At.drew HK.out|(apply At.drew;repeat (first|exact HK.out|apply At.drewN|apply At.drew|apply At.alloc))) (hm:P.follows .mixedOrders=true:=by kernel_rfl) (hn:ops.size=n:=by exact rfl):(Code.region id ops true).wp P Q a w:=
 have HS:∀ {w'},At w0 l w'→At w0 l w'∧(∀ j,w'.cell? ⟨g1,j,none⟩=c1[j]?)∧(∀ j,w'.cell? ⟨g2,j,none⟩=c2[j]?)∧(∀ j,w'.cell? ⟨g3,j,none⟩=c3[j]?)∧(∀ j,w'.cell? ⟨g4,j,none⟩=c4[j]?)∧(∀ j,w'.cell? ⟨g5,j,none⟩=c5[j]?)∧(∀ j,w'.cell? ⟨g6,j,none⟩=c6[j]?):=fun A=>⟨A,cA_ A k1 e1,cA_ A k2 e2,cA_ A k3 e3,cA_ A k4 e4,cA_ A k5 e5,cA_ A k6 e6⟩
 start_ (S:=fun w'=>At w0 l w'∧(∀ j,w'.cell? ⟨g1,j,none⟩=c1[j]?)∧(∀ j,w'.cell? ⟨g2,j,none⟩=c2[j]?)∧(∀ j,w'.cell? ⟨g3,j,none⟩=c3[j]?)∧(∀ j,w'.cell? ⟨g4,j,none⟩=c4[j]?)∧(∀ j,w'.cell? ⟨g5,j,none⟩=c5[j]?)∧(∀ j,w'.cell? ⟨g6,j,none⟩=c6[j]?)) (ds:=ds) (bts n 0) hm hn (bts_zero n) (HS H) (h HS)
end
end Go.Proofs.YtlblbefbbibpaaaGreatDoor.J
