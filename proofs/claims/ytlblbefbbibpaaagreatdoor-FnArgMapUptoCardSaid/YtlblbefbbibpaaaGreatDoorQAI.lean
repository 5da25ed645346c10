/- Part. -/
import Derived.Test.YtlblbefbbibpaaaGreatDoorQAH
import Derived.IntWalk
set_option linter.unusedVariables false
set_option linter.unusedSimpArgs false
set_option maxHeartbeats 8000000
set_option maxRecDepth 100000
namespace Go.Proofs.YtlblbefbbibpaaaGreatDoor.J
open Go.RowKit Zw Zw.PrintWords Zw.PrintLast Zw.PrintMore PAM
abbrev LXc (A:Option Addr) (n c:Nat) (i:Int) (v:Value) (sure:Bool) (seen line from_:Int):Array Value:=#[.slice A n c,.int .i64 i,v,.bool sure,.int .i64 seen,.int .i64 line,.int .i64 from_]
theorem drewN_drew_ (W:World) (n:Nat):(W.drewN n).drew=W.drewN (n + 1):=rfl
def pk (xs:List Int) (i:Int):Int:=if i < xs.length then xs.getD i.toNat 0 else 0
theorem pk_in {xs:List Int} {i:Int} (h:pk xs i≠0):i < xs.length:=by
 unfold pk at h;split at h<;>first|assumption|exact absurd rfl h
abbrev Txt (w:World) (A:Option Addr) (xs:List Int):Prop:=Kd.C (Kd.int .i32) w A xs.length xs
theorem Txt.at {w0 W:World} {l:List Blk} {A:Option Addr} {xs:List Int} (h:Txt w0 A xs) (H:At w0 l W) (i:Int) (h0:0≤i) (h1:i < xs.length):∃ ad,A=some ad∧W.cell? (ad.add i.toNat)=some (.int .i32 (xs.getD i.toNat 0)):=by
 obtain ⟨ad,e,hc⟩:=Kd.at_int h i h0 h1
 exact ⟨ad,e,pw_cell_below H.b hc⟩
theorem peek_in {w0 w:World} {l:List Blk} {g n c:Nat} {A:Option Addr} {xs:List Int} {i seen line from_:Int} {v:Value} {sure:Bool} (on:Int) (H:At w0 (.b g (row (LXc A n c i v sure seen line from_) 194)::l) w) (hn:n=xs.length) (ht:Txt w0 A xs) (hL:xs.length≤8388608) (h0:0≤i) (h1:i≤8388608) (h2:0≤on) (h3:on≤8) (hi:i + on < xs.length):
  Calls Tryz.prog 104 #[.pointer (some ⟨g,0,none⟩),.int .i64 on] w fun e w'=>e= .returned (.int .i32 (xs.getD (i + on).toNat 0))∧Below w.heap.size w w':=by
 have HK:=asd_ H
 clear H
 replace Bc:=ce1_ HK 0
 obtain rfl:n=xs.length:=hn
 obtain ⟨ad,rfl,hcell⟩:=Txt.at ht HK.out (i + on) (by omega) hi
 generalize xs.getD (i + on).toNat 0=r at hcell ⊢
 have hlt:decide (i + on < (xs.length:Int))=true:=decide_eq_true hi
 have hsum:IntKind.i64.wrap (i + on)=i + on:=IntWalk.i64_in _ (by omega)
 have p0:(0:Int)≤i + on:=by omega
 have p1:i + on < (xs.length:Int):=hi
 clear h0 h1 h2 h3 hL hi
 go_enter Tryz.func104,Tryz.ntmps104
 go_wp2_with fail
 go_quiet (fail)
 go_wp2_with fail
 go_quiet (fail)
 go_wp2_with fail
 go_ret
 exact ⟨rfl,by repeat (first|exact Below.refl _ _|apply below_alloc|apply pw_below_drewN|apply below_drew1)⟩
theorem peek_out {w0 w:World} {l:List Blk} {g n c:Nat} {A:Option Addr} {xs:List Int} {i seen line from_:Int} {v:Value} {sure:Bool} (on:Int) (H:At w0 (.b g (row (LXc A n c i v sure seen line from_) 194)::l) w) (hn:n=xs.length) (ht:Txt w0 A xs) (hL:xs.length≤8388608) (h0:0≤i) (h1:i≤8388608) (h2:0≤on) (h3:on≤8) (hi:¬ i + on < xs.length):
  Calls Tryz.prog 104 #[.pointer (some ⟨g,0,none⟩),.int .i64 on] w fun e w'=>e= .returned (.int .i32 (0))∧Below w.heap.size w w':=by
 have HK:=asd_ H
 clear H
 replace Bc:=ce1_ HK 0
 obtain rfl:n=xs.length:=hn
 have hlt:decide (i + on < (xs.length:Int))=false:=decide_eq_false hi
 have hsum:IntKind.i64.wrap (i + on)=i + on:=IntWalk.i64_in _ (by omega)
 have p0:(0:Int)≤i + on:=by omega
 clear h0 h1 h2 h3 hL hi
 go_enter Tryz.func104,Tryz.ntmps104
 go_wp2_with fail
 go_quiet (fail)
 go_wp2_with fail
 go_ret
 exact ⟨rfl,by repeat (first|exact Below.refl _ _|apply below_alloc|apply pw_below_drewN|apply below_drew1)⟩
theorem peek_ok {w0 w:World} {l:List Blk} {g n c:Nat} {A:Option Addr} {xs:List Int} {i seen line from_:Int} {v:Value} {sure:Bool} (on:Int) (H:At w0 (.b g (row (LXc A n c i v sure seen line from_) 194)::l) w) (hn:n=xs.length) (ht:Txt w0 A xs) (hL:xs.length≤8388608) (h0:0≤i) (h1:i≤8388608) (h2:0≤on) (h3:on≤8):
  Calls Tryz.prog 104 #[.pointer (some ⟨g,0,none⟩),.int .i64 on] w fun e w'=>e= .returned (.int .i32 (pk xs (i + on)))∧Below w.heap.size w w':=by
 by_cases hi:i + on < xs.length
 ·have e:pk xs (i + on)=xs.getD (i + on).toNat 0:=if_pos hi
  rw [e];exact peek_in on H hn ht hL h0 h1 h2 h3 hi
 ·have e:pk xs (i + on)=0:=if_neg hi
  rw [e];exact peek_out on H hn ht hL h0 h1 h2 h3 hi
def Fact.stays (F:Fact) (e:TypeId):Prop:=∀ (W W1:World) (v:Value),F.P W→(∀ k,v.ownBlock=some k→∃ cells,W.heap[k]? =some (.cells cells e (0,0)))→W.grownBy W1 v.ownBlock→F.P W1
def offF (e:TypeId):List Blk→Prop
 |[]=>True
 | .b _ (.cells _ t _)::l=>t≠e∧offF e l
 | .b _ _::l=>offF e l
 | .f F::l=>F.stays e∧offF e l
theorem At.grownF {w W W1:World} {l:List Blk} {v:Value} {e:TypeId} (h:At w l W) (hl:offF e l) (hk:∀ k,v.ownBlock=some k→w.heap.size≤k∧∃ cells,W.heap[k]? =some (.cells cells e (0,0))) (hg:W.grownBy W1 v.ownBlock):At w l W1:=by
 refine ⟨⟨hg.os.trans h.b.os,hg.tape.trans h.b.tape,hg.output.trans h.b.output,Nat.le_trans h.b.size hg.size,fun j hj=>(hg.block j (by have:=h.b.size;omega) (fun e=>by have:=(hk j e.symm).1;omega)).trans (h.b.block j hj)⟩,?_,h.d⟩
 have hk':=h.k
 clear h
 induction l with
 |nil=>trivial
 |cons b l ih=>
  cases b with
  |f F=>exact ⟨hl.1 W W1 v hk'.1 (fun k e1=>(hk k e1).2) hg,ih hl.2 hk'.2⟩
  |b g o=>
   have hne:some g≠v.ownBlock:=fun e1=>by
    obtain ⟨_,cells,hc⟩:=hk g e1.symm
    have e2:=hk'.1.symm.trans hc
    cases e2
    exact absurd rfl hl.1
   refine ⟨(hg.block g (blk_lt hk'.1) hne).trans hk'.1,ih ?_ hk'.2⟩
   cases o<;>first|exact hl.2|exact hl
theorem rows_stays {α:Type} {d:Kd α} {e2 base:Nat} {hE:∀ q,q∈e2::d.E→datT q=true} {v:Value} {xs:List α} (e:TypeId) (h:e∉e2::d.E):(Fact.rows d e2 base hE v xs).stays e:=by
 intro W W1 u hP hk hg
 have h1:Kd.R d e2 W base (fun _=>True) v xs:=hP
 refine Kd.R_mono (Kd.R_move (Kd.R_bound h1) (fun k hk2=>hg.block k hk2.2.2.1 ?_)) (fun _ _=>trivial)
 intro e1
 obtain ⟨_,_,_,q,hq,cells,hc⟩:=hk2
 obtain ⟨cells2,hc2⟩:=hk k e1.symm
 rw [hc2] at hc
 cases hc
 exact h hq
section
variable {P:Program} {ops:Array Oper} {rest:List Oper} {o:Oper} {a:Act} {Q:Exit→Act→World→Prop} {Kc:Act→World→Prop} {w W:World} {l:List Blk}
theorem reads_kd {α:Type} {g:Nat} {kc:Array Value} {e:TypeId} (p:α) (h:W.heap[g]? =some (row kc e)):ReadsRow (fun (x:α) c=>x=p∧c=kc.toList) kc.toList.length W (some ⟨g,0,none⟩) 1 [p]:=by
 refine ⟨rfl,by omega,fun _=>⟨_,rfl,fun j q hj=> ?_⟩⟩
 cases j with
 |succ j=>simp at hj
 |zero=>
  refine ⟨kc.toList,rfl,⟨by simpa using hj.symm,rfl⟩,fun i u hu=> ?_⟩
  have:=blk_cell h i
  simp only [Nat.zero_mul,Nat.zero_add]
  have ea:Addr.add (⟨g,0,none⟩:Addr) i=⟨g,i,none⟩:=by simp [Addr.add];exact fun h=>h.symm
  rw [ea,this,← hu,Array.getElem?_toList]
theorem appendk_ {α:Type} {d:Kd α} {e:Nat} {hE:∀ q,q∈e::d.E→datT q=true} {v:Value} {xs:List α} {p:α} {g:Nat} {kc:Array Value} {s x:Operand} {t:TypeId} {z:Value} {bytes:Nat}
  (hM:∀ W,d.M W w.heap.size (fun _=>False) p kc.toList)
  (H:At w (.b g (row kc e):: .f (Fact.rows d e w.heap.size hE v xs)::l) W) (hl:offF e l) (hw:Region.wanted o (yielded ops a.tmps)=true)
  (ho:o.op= .call {callee:= .builtin .append,args:=#[s,x],argTypes:=#[t,t]}) (ht:P.underlying t=some (.slice e)) (hinfo:(P.info? e).map (fun i=>(i.zero,i.size,i.bytes))=some (some z,d.sz,bytes)) (hz:z.cells.size=d.sz) (hs0:0 < d.sz) (hk:kc.toList.length=d.sz) (hb0:0 < bytes) (hs:a.eval s=v) (hx:a.eval x= .slice (some ⟨g,0,none⟩) 1 1) (hlen:(xs.length + 1) * bytes≤140737488355328)
  (h:∀ v1 w1,At w (.f (Fact.rows d e w.heap.size hE v1 (xs ++ [p]))::l) w1→Kc (a.put o.dst v1) w1):if Region.wanted o (yielded ops a.tmps)=true then Oper.wp P o a W Kc Q else Kc (a.put o.dst undef) W:=by
 have HO:Kd.R d e W w.heap.size (fun _=>True) v xs:=H.k.2.1
 have HR:=reads_kd (e:=e) p H.k.1
 rw [hk] at HR
 refine Kd.R_append_rows_step d (w0:=w) w.heap.size hw s x t e z bytes ho ht hinfo hz hs0 hb0 v xs [p] _ 1 1 (fun _=>True) (fun _=>False) hs hx HO HR (fun x cs hc=>by obtain ⟨rfl,rfl⟩:=hc;exact hM W) (fun _ h=>h.elim) (fun _ _=>trivial) H.b H.b.size hlen ?_
 intro v1 w1 hR hB hg hat
 refine h v1 w1 ?_
 obtain ⟨_,inner,hown,_⟩:=HO
 exact (H.drop.drop.grownF hl (fun k hk=>⟨own_base hown k hk,own_typed hown k hk⟩) hg).fact _ hR
theorem appendk_at {α:Type} {d:Kd α} {e:Nat} {hE:∀ q,q∈e::d.E→datT q=true} {v:Value} {xs:List α} {p:α} {g:Nat} {kc:Array Value} {s x:Operand} {t:TypeId} {z:Value} {bytes:Nat}
  (hM:∀ W,d.M W w.heap.size (fun _=>False) p kc.toList)
  (H:At w (.b g (row kc e):: .f (Fact.rows d e w.heap.size hE v xs)::l) W) (hl:offF e l) (hgd:o.guard=none)
  (ho:o.op= .call {callee:= .builtin .append,args:=#[s,x],argTypes:=#[t,t]}) (ht:P.underlying t=some (.slice e)) (hinfo:(P.info? e).map (fun i=>(i.zero,i.size,i.bytes))=some (some z,d.sz,bytes)) (hz:z.cells.size=d.sz) (hs0:0 < d.sz) (hk:kc.toList.length=d.sz) (hb0:0 < bytes) (hs:a.eval s=v) (hx:a.eval x= .slice (some ⟨g,0,none⟩) 1 1) (hlen:(xs.length + 1) * bytes≤140737488355328)
  (h:∀ v1 w1,At w (.f (Fact.rows d e w.heap.size hE v1 (xs ++ [p]))::l) w1→wpList P ops Q rest (a.put o.dst v1) w1):wpList P ops Q (o::rest) a W:=by
 have HO:Kd.R d e W w.heap.size (fun _=>True) v xs:=H.k.2.1
 have HR:=reads_kd (e:=e) p H.k.1
 rw [hk] at HR
 refine Kd.R_append_rows d (w0:=w) w.heap.size hgd s x t e z bytes ho ht hinfo hz hs0 hb0 v xs [p] _ 1 1 (fun _=>True) (fun _=>False) hs hx HO HR (fun x cs hc=>by obtain ⟨rfl,rfl⟩:=hc;exact hM W) (fun _ h=>h.elim) (fun _ _=>trivial) H.b H.b.size hlen ?_
 intro v1 w1 hR hB hg hat
 refine h v1 w1 ?_
 obtain ⟨_,inner,hown,_⟩:=HO
 exact (H.drop.drop.grownF hl (fun k hk=>⟨own_base hown k hk,own_typed hown k hk⟩) hg).fact _ hR
end
structure Tok where
 kind:Int
 val:ByteArray
 st:Int
 en:Int
 ln:Int
 cl:Int
abbrev Tok.cells (x:Tok):List Value:=[.int .i64 x.kind,.string x.val,.int .i64 x.st,.int .i64 x.en,.int .i64 x.ln,.int .i64 x.cl]
def kTok:Kd Tok where
 sz:=6
 E:=[]
 K _ x cs:=cs=x.cells
 M _ _ _ x cs:=cs=x.cells
 K_len h:=by subst h;rfl
 K_one h:=by subst h;intro u hu;simp at hu;rcases hu with rfl|rfl|rfl|rfl|rfl|rfl<;>rfl
 K_below _ h:=h
 K_of_M h:=h
 M_mono _ h:=h
 M_bound h:=h
 M_move _ h:=h
 M_lower _ h:=h
theorem E162:∀ q,q∈162::kTok.E→datT q=true:=by
 intro q hq
 obtain rfl:q=162:=by simpa [kTok] using hq
 rfl
theorem info162:(Tryz.prog.info? 162).map (fun i=>(i.zero,i.size,i.bytes))=some (some (.agg #[.int .i64 0,.string ⟨#[]⟩,.int .i64 0,.int .i64 0,.int .i64 0,.int .i64 0]),6,56):=by kernel_rfl
abbrev Toks (w0:World) (v:Value) (ts:List Tok):Fact:=Fact.rows kTok 162 w0.heap.size E162 v ts
def PR (b:Nat) (pr:List Blk) (e:TypeId) (sz:Nat) (v:Value) (n:Nat) (cells:List Value):Prop:=
 (pr=[]∧v= .slice none 0 0∧n=0∧cells=[])∨
 ∃ g cap cur,pr=[.b g (row cur e)]∧v= .slice (some ⟨g,0,none⟩) n cap∧b≤g∧n≤cap∧cap≤maxLen∧cur.size=cap * sz∧cur.toList.take (n * sz)=cells∧cells.length=n * sz
theorem PR.none_ (b:Nat) (e:TypeId) (sz:Nat):PR b [] e sz nilS 0 []:= .inl ⟨rfl,rfl,rfl,rfl⟩
theorem PR.slice {b:Nat} {pr:List Blk} {e:TypeId} {sz:Nat} {v:Value} {n:Nat} {cells:List Value} (h:PR b pr e sz v n cells):∃ A c,v= .slice A n c∧n≤c:=by
 rcases h with ⟨_,rfl,rfl,_⟩|⟨g,cap,cur,_,rfl,_,hn,_⟩
 ·exact ⟨none,0,rfl,Nat.le_refl _⟩
 ·exact ⟨_,_,rfl,hn⟩
def offG (e:TypeId):List Blk→Prop
 |[]=>True
 | .b _ _::l=>offG e l
 | .f F::l=>F.stays e∧offG e l
theorem offG_append {e:TypeId} {l l':List Blk} (h:offG e l) (h':offG e l'):offG e (l ++ l'):=by
 induction l with
 |nil=>exact h'
 |cons b l ih=>cases b with
  |b g o=>exact ih h
  |f F=>exact ⟨h.1,ih h.2⟩
theorem Keeps.app {l l':List Blk} {W:World}:Keeps (l ++ l') W↔Keeps l W∧Keeps l' W:=by
 induction l with
 |nil=>simp [Keeps]
 |cons b l ih=>cases b<;>simp [Keeps,ih,and_assoc]
theorem nums_app {l l':List Blk}:nums (l ++ l')=nums l ++ nums l':=by
 induction l with
 |nil=>rfl
 |cons b l ih=>cases b<;>simp [nums,ih]
theorem Keeps.mem {l:List Blk} {W:World} {g:Nat} {o:Obj} (h:Keeps l W) (hm:Blk.b g o∈l):W.heap[g]? =some o:=by
 induction l with
 |nil=>cases hm
 |cons c l ih=>cases c with
  |b k o'=>
   rcases List.mem_cons.1 hm with e|hm
   ·cases e;exact h.1
   ·exact ih h.2 hm
  |f F=>
   rcases List.mem_cons.1 hm with e|hm
   ·cases e
   ·exact ih h.2 hm
theorem At.off {w W:World} {T:List Blk} (sn:List Blk):∀ {L:List Blk},At w (L ++ (sn ++ T)) W→At w (L ++ T) W:=fun {L} h=>h.sub ((List.sublist_append_right sn T).append_left L)
theorem At.came_all {w W W1:World} {l sn:List Blk} (h:At w l W) (hb:Below W.heap.size W W1) (hk:Keeps sn W1) (hd:(nums sn).Nodup) (hn:∀ g∈nums sn,W.heap.size≤g):At w (sn ++ l) W1:=by
 have h1:=h.step hb
 refine ⟨h1.b,Keeps.app.2 ⟨hk,h1.k⟩,?_⟩
 rw [nums_app,List.nodup_append]
 refine ⟨hd,h1.d,fun a ha b hb' e=> ?_⟩
 subst e
 exact Nat.lt_irrefl _ (Nat.lt_of_lt_of_le (h.k.lt _ hb') (hn _ ha))
theorem PR.owns {w W:World} {L pr T:List Blk} {e:TypeId} {sz:Nat} {v:Value} {n:Nat} {cells:List Value} (H:At w (L ++ (pr ++ T)) W) (hP:PR w.heap.size pr e sz v n cells):W.ownsRow w.heap.size e sz v n cells:=by
 rcases hP with ⟨rfl,rfl,rfl,rfl⟩|⟨g,cap,cur,rfl,rfl,hb,hn,hm,hs,hc,hl⟩
 ·exact ⟨by simp,.inl ⟨rfl,rfl⟩⟩
 ·exact ⟨hl,.inr ⟨g,cap,cur,rfl,hb,H.k.mem (by simp),hn,hm,hs,hc⟩⟩
theorem Keeps.stay {l:List Blk} {W W1:World} {v:Value} {e:TypeId} (h:Keeps l W) (hf:offG e l) (hn:∀ k,v.ownBlock=some k→k∉nums l∧∃ cells,W.heap[k]? =some (.cells cells e (0,0))) (hg:W.grownBy W1 v.ownBlock):Keeps l W1:=by
 induction l with
 |nil=>trivial
 |cons b l ih=>
  cases b with
  |b g o=>
   refine ⟨(hg.block g (blk_lt h.1) (fun e1=>(hn g e1.symm).1 List.mem_cons_self)).trans h.1,ih h.2 hf (fun k hk=>⟨fun hm=>(hn k hk).1 (List.mem_cons_of_mem _ hm),(hn k hk).2⟩)⟩
  |f F=>exact ⟨hf.1 W W1 v h.1 (fun k hk=>(hn k hk).2) hg,ih h.2 hf.2 hn⟩
theorem At.pr_grow {w W W1:World} {L pr T:List Blk} {e:TypeId} {sz:Nat} {v:Value} {n m g cap:Nat} {cells cells':List Value} (H:At w (L ++ (pr ++ T)) W) (hoff:offG e (L ++ T)) (hP:PR w.heap.size pr e sz v n cells) (hm:0 < m)
  (hown:W1.ownsRow w.heap.size e sz (.slice (some ⟨g,0,none⟩) (n + m) cap) (n + m) cells') (hg:W.grownBy W1 v.ownBlock) (hor:v.ownBlock=some g∨g=W.heap.size):
  ∃ pr',PR w.heap.size pr' e sz (.slice (some ⟨g,0,none⟩) (n + m) cap) (n + m) cells'∧At w (L ++ (pr' ++ T)) W1:=by
 obtain ⟨hl,⟨h0,h1⟩|⟨g2,cap2,cur,e1,hb,hh,hn,hmx,hs,hc⟩⟩:=hown
 ·omega
 ·injection e1 with e1 e2 e3
  injection e1 with e1
  injection e1 with e1
  subst e1 e3
  have hv:∀ k,v.ownBlock=some k→(w.heap.size≤k)∧k∉nums (L ++ T)∧∃ cells,W.heap[k]? =some (.cells cells e (0,0)):=by
   intro k hk
   rcases hP with ⟨_,rfl,_⟩|⟨g3,cap3,cur3,rfl,rfl,hb3,_⟩
   ·simp [Value.ownBlock] at hk
   ·obtain rfl:g3=k:=by simpa [Value.ownBlock] using hk
    refine ⟨hb3,?_,cur3,H.k.mem (by simp)⟩
    have hd:=H.d
    simp only [nums_app,nums,List.nodup_append,List.mem_append] at hd ⊢
    rintro (h|h)
    ·exact hd.2.2 g3 h g3 (.inl List.mem_cons_self) rfl
    ·exact hd.2.1.2.2 g3 List.mem_cons_self g3 h rfl
  have HLT:At w (L ++ T) W:=At.off pr H
  have hk:Keeps (L ++ T) W1:=HLT.k.stay hoff (fun k hk=>(hv k hk).2) hg
  have hgn:g∉nums (L ++ T):=by
   rcases hor with h|h
   ·exact (hv g h).2.1
   ·subst h;exact HLT.fresh
  have hB:Below w.heap.size w W1:=⟨hg.os.trans H.b.os,hg.tape.trans H.b.tape,hg.output.trans H.b.output,Nat.le_trans H.b.size hg.size,fun j hj=>(hg.block j (by have:=H.b.size;omega) (fun e1=>by have:=(hv j e1.symm).1;omega)).trans (H.b.block j hj)⟩
  refine ⟨[.b g (row cur e)],.inr ⟨g,cap,cur,rfl,rfl,hb,hn,hmx,hs,hc,hl⟩,hB,?_,?_⟩
  ·rw [Keeps.app] at hk ⊢
   exact ⟨hk.1,hh,hk.2⟩
  ·have hd:=HLT.d
   rw [nums_app] at hd hgn
   rw [nums_app]
   have:(nums L ++ nums ([Blk.b g (row cur e)] ++ T)).Perm (g::(nums L ++ nums T)):=List.perm_middle
   exact this.nodup_iff.2 (List.nodup_cons.2 ⟨hgn,hd⟩)
section
variable {P:Program} {ops:Array Oper} {rest:List Oper} {o:Oper} {a:Act} {Q:Exit→Act→World→Prop} {Kc:Act→World→Prop} {w W:World}
theorem info_of {e:TypeId} {z:Value} {sz bytes:Nat} (hinfo:(P.info? e).map (fun i=>(i.zero,i.size,i.bytes))=some (some z,sz,bytes)):∃ i,P.info? e=some i∧i.zero=some z∧i.size=sz∧i.bytes=bytes:=by
 obtain ⟨i0,hi,hzz⟩:=Option.map_eq_some_iff.1 hinfo
 simp only [Prod.mk.injEq] at hzz
 exact ⟨i0,hi,hzz⟩
theorem appendpr_at {L pr T:List Blk} {e:TypeId} {sz:Nat} {v:Value} {n g1:Nat} {cells:List Value} {kc:Array Value} {s x:Operand} {t:TypeId} {z:Value} {bytes:Nat}
  (H:At w (.b g1 (row kc e)::(L ++ (pr ++ T))) W) (hoff:offG e (L ++ T)) (hP:PR w.heap.size pr e sz v n cells) (hgd:o.guard=none)
  (ho:o.op= .call {callee:= .builtin .append,args:=#[s,x],argTypes:=#[t,t]}) (ht:P.underlying t=some (.slice e)) (hinfo:(P.info? e).map (fun i=>(i.zero,i.size,i.bytes))=some (some z,sz,bytes)) (hz:z.cells.size=sz) (hs0:0 < sz) (hk:kc.toList.length=sz) (h1:kc.all (·.oneCell')=true)
  (hs:a.eval s=v) (hx:a.eval x= .slice (some ⟨g1,0,none⟩) 1 1) (hn:n≤1073741824) (hlen:(n + 1) * bytes≤140737488355328)
  (h:∀ pr' g cap w1,PR w.heap.size pr' e sz (.slice (some ⟨g,0,none⟩) (n + 1) cap) (n + 1) (cells ++ kc.toList)→At w (L ++ (pr' ++ T)) w1→wpList P ops Q rest (a.put o.dst (.slice (some ⟨g,0,none⟩) (n + 1) cap)) w1):wpList P ops Q (o::rest) a W:=by
 obtain ⟨i0,hi,hz0,hz1,hz2⟩:=info_of hinfo
 have H1:At w (L ++ (pr ++ T)) W:=H.drop
 refine wpList_append_lies W hgd s x t ho w.heap.size e i0 z sz bytes ht hi hz0 hz1 hz2 hz hs0 v n cells hs (PR.owns H1 hP) ⟨g1,0,none⟩ 1 1 kc.toList hx (by omega) (World.news_of_block H.k.1) (fun u hu=>Array.all_eq_true_iff_forall_mem.1 h1 u (by simpa using hu)) Nat.one_pos (by unfold maxLen;omega) hlen H.b.size _ rfl ?_
 intro g cap w1 hown hg hor hlt
 obtain ⟨pr',hP',H'⟩:=H1.pr_grow hoff hP Nat.one_pos hown hg hor
 exact h pr' g cap w1 hP' H'
theorem appendpr_ {L pr T:List Blk} {e:TypeId} {sz:Nat} {v:Value} {n g1:Nat} {cells:List Value} {kc:Array Value} {s x:Operand} {t:TypeId} {z:Value} {bytes:Nat}
  (H:At w (.b g1 (row kc e)::(L ++ (pr ++ T))) W) (hoff:offG e (L ++ T)) (hP:PR w.heap.size pr e sz v n cells) (hw:Region.wanted o (yielded ops a.tmps)=true)
  (ho:o.op= .call {callee:= .builtin .append,args:=#[s,x],argTypes:=#[t,t]}) (ht:P.underlying t=some (.slice e)) (hinfo:(P.info? e).map (fun i=>(i.zero,i.size,i.bytes))=some (some z,sz,bytes)) (hz:z.cells.size=sz) (hs0:0 < sz) (hk:kc.toList.length=sz) (h1:kc.all (·.oneCell')=true)
  (hs:a.eval s=v) (hx:a.eval x= .slice (some ⟨g1,0,none⟩) 1 1) (hn:n≤1073741824) (hlen:(n + 1) * bytes≤140737488355328)
  (h:∀ pr' g cap w1,PR w.heap.size pr' e sz (.slice (some ⟨g,0,none⟩) (n + 1) cap) (n + 1) (cells ++ kc.toList)→At w (L ++ (pr' ++ T)) w1→Kc (a.put o.dst (.slice (some ⟨g,0,none⟩) (n + 1) cap)) w1):if Region.wanted o (yielded ops a.tmps)=true then Oper.wp P o a W Kc Q else Kc (a.put o.dst undef) W:=by
 rw [if_pos hw]
 obtain ⟨i0,hi,hz0,hz1,hz2⟩:=info_of hinfo
 have H1:At w (L ++ (pr ++ T)) W:=H.drop
 refine wp_append_lies W s x t ho w.heap.size e i0 z sz bytes ht hi hz0 hz1 hz2 hz hs0 v n cells hs (PR.owns H1 hP) ⟨g1,0,none⟩ 1 1 kc.toList hx (by omega) (World.news_of_block H.k.1) (fun u hu=>Array.all_eq_true_iff_forall_mem.1 h1 u (by simpa using hu)) Nat.one_pos (by unfold maxLen;omega) hlen H.b.size _ rfl ?_
 intro g cap w1 hown hg hor hlt
 obtain ⟨pr',hP',H'⟩:=H1.pr_grow hoff hP Nat.one_pos hown hg hor
 exact h pr' g cap w1 hP' H'
end
end Go.Proofs.YtlblbefbbibpaaaGreatDoor.J
namespace Go.Proofs.YtlblbefbbibpaaaGreatDoor.J
open Go.RowKit Zw Zw.PrintWords PAM
structure Vl where
 kind:Int
 raw:ByteArray
 kids:List (ByteArray×Vl)
abbrev Kid:=ByteArray×Vl
def FVl (d:Kd Vl):Kd Vl:=Kd.iso (Kd.pair (Kd.int .i64) (Kd.pair Kd.string (Kd.slice 52 (Kd.pair Kd.string d)))) (fun x:Vl=>(x.kind,x.raw,x.kids))
theorem monoVl:Kd.Mono FVl:=Kd.mono_iso _ (Kd.mono_pair (Kd.mono_const _) (Kd.mono_pair (Kd.mono_const _) (Kd.mono_slice 52 (Kd.mono_pair (Kd.mono_const _) Kd.mono_id))))
theorem subVl:Kd.Sub FVl [52]:=Kd.sub_iso _ (Kd.sub_pair (Kd.sub_const _ (by decide)) (Kd.sub_pair (Kd.sub_const _ (by decide)) (Kd.sub_slice 52 (by decide) (Kd.sub_pair (Kd.sub_const _ (by decide)) Kd.sub_id))))
theorem szVl:∀ n,(Kd.upto FVl 3 [52] n).sz=3:=Kd.upto_sz (fun _=>rfl)
def kVl:Kd Vl:=Kd.fix FVl 3 [52] szVl (Kd.upto_E subVl)
def kKid:Kd Kid:=Kd.pair Kd.string kVl
theorem C_back {α β:Type} {F:Kd α→Kd α} {sz:Nat} {E:List Nat} {hs:∀ n,(Kd.upto F sz E n).sz=sz} {hE:∀ n q,q∈(Kd.upto F sz E n).E→q∈E} (hm:Kd.Mono F) (G:Kd α→Kd β) (hG:Kd.Mono G) (hGK:∀ w x cs,(G (Kd.fix F sz E hs hE)).K w x cs→∃ n,(G (Kd.upto F sz E n)).K w x cs) {w:World} {A:Option Addr} {n:Nat} {xs:List β} (h:(G (Kd.fix F sz E hs hE)).C w A n xs):∃ n1,(G (Kd.upto F sz E n1)).C w A n xs:=by
 obtain ⟨hl,hn,hr⟩:=h
 by_cases h0:0 < n
 ·obtain ⟨ad,e,hc⟩:=hr h0
  have hsz:∀ k,(G (Kd.upto F sz E k)).sz=(G (Kd.fix F sz E hs hE)).sz:=fun k=>hG.sz _ _ (hs k)
  have key:∀ m,m≤xs.length→∃ n1,∀ j p,j < m→xs[j]? =some p→∃ c,c.length=(G (Kd.upto F sz E n1)).sz∧(G (Kd.upto F sz E n1)).K w p c∧∀ i u,c[i]? =some u→w.cell? (ad.add (j * (G (Kd.fix F sz E hs hE)).sz + i))=some u:=by
   intro m
   induction m with
   |zero=>exact fun _=>⟨0,fun j p hj=>absurd hj (Nat.not_lt_zero _)⟩
   |succ m ih=>
    intro hm1
    obtain ⟨n1,h1⟩:=ih (by omega)
    obtain ⟨c,hcl,hK,hcell⟩:=hc m xs[m] (List.getElem?_eq_getElem (by omega))
    obtain ⟨n2,h2⟩:=hGK _ _ _ hK
    have up:∀ a b:Nat,a≤b→∀ w x cs,(G (Kd.upto F sz E a)).K w x cs→(G (Kd.upto F sz E b)).K w x cs:=fun a b hab=>hG.K _ _ (by rw [hs a,hs b]) (fun _ _ _ h=>Kd.upto_K_le hm hs hab h)
    refine ⟨max n1 n2,fun j p hj hp=> ?_⟩
    by_cases hjm:j < m
    ·obtain ⟨c2,h3,h4,h5⟩:=h1 j p hjm hp
     exact ⟨c2,by rw [hsz] at h3 ⊢;exact h3,up _ _ (Nat.le_max_left _ _) _ _ _ h4,h5⟩
    ·obtain rfl:j=m:=by omega
     rw [List.getElem?_eq_getElem (by omega)] at hp
     cases hp
     exact ⟨c,by rw [hsz];exact hcl,up _ _ (Nat.le_max_right _ _) _ _ _ h2,hcell⟩
  obtain ⟨n1,h1⟩:=key xs.length (Nat.le_refl _)
  refine ⟨n1,hl,hn,fun _=>⟨ad,e,fun j p hj=> ?_⟩⟩
  obtain ⟨c,h2,h3,h4⟩:=h1 j p (List.getElem?_eq_some_iff.1 hj).1 hj
  exact ⟨c,h2,h3,by rw [hsz];exact h4⟩
 ·exact ⟨0,hl,hn,fun h=>absurd h h0⟩
theorem kKid_open {w:World} {x:Kid} {cs:List Value} (h:kKid.K w x cs):∃ c,cs= .string x.1::c∧kVl.K w x.2 c:=by
 obtain ⟨c0,c1,rfl,rfl,h1⟩:=h
 exact ⟨c1,rfl,h1⟩
theorem kVl_open {w:World} {x:Vl} {cs:List Value} (h:kVl.K w x cs):∃ A c,cs=[.int .i64 x.kind,.string x.raw,.slice A x.kids.length c]∧x.kids.length≤c∧kKid.C w A x.kids.length x.kids:=by
 obtain ⟨n,h⟩:=h
 cases n with
 |zero=>exact h.elim
 |succ n=>
  obtain ⟨_,_,rfl,rfl,⟨_,_,rfl,rfl,⟨A1,c1,rfl,l1,g1⟩⟩⟩:=h
  refine ⟨A1,c1,rfl,l1,Kd.C_imp (d:=Kd.pair Kd.string (Kd.upto FVl 3 [52] n)) ?_ ?_ g1⟩
  ·show 1 + (Kd.upto FVl 3 [52] n).sz=1 + 3
   rw [szVl]
  ·rintro w x cs ⟨c0,c1,rfl,h0,h1⟩
   exact ⟨c0,c1,rfl,h0,n,h1⟩
theorem kVl_mk (w:World) (x:Vl) {A1:Option Addr} {c1:Nat} (l1:x.kids.length≤c1) (g1:kKid.C w A1 x.kids.length x.kids):kVl.K w x [.int .i64 x.kind,.string x.raw,.slice A1 x.kids.length c1]:=by
 obtain ⟨n1,q1⟩:=C_back monoVl (fun d=>Kd.pair Kd.string d) (Kd.mono_pair (Kd.mono_const _) Kd.mono_id) (by rintro w x cs ⟨c0,c1,rfl,h0,n,h1⟩;exact ⟨n,c0,c1,rfl,h0,h1⟩) g1
 exact ⟨n1 + 1,⟨[.int .i64 x.kind],[.string x.raw,.slice A1 x.kids.length c1],rfl,rfl,⟨[.string x.raw],[.slice A1 x.kids.length c1],rfl,rfl,⟨A1,c1,rfl,l1,q1⟩⟩⟩⟩
abbrev Dr:=ByteArray×List Kid
def kDr:Kd Dr:=Kd.pair Kd.string (Kd.slice 50 kKid)
structure ADef where
 doc:ByteArray
 name:ByteArray
 t:S41
 dflt:List Vl
 dirs:List Dr
def kAD:Kd ADef:=Kd.iso (Kd.pair Kd.string (Kd.pair Kd.string (Kd.pair k41 (Kd.pair (Kd.slice 48 kVl) (Kd.slice 122 kDr))))) (fun x:ADef=>(x.doc,x.name,x.t,x.dflt,x.dirs))
theorem kDr_open {w:World} {x:Dr} {cs:List Value} (h:kDr.K w x cs):∃ A c,cs=[.string x.1,.slice A x.2.length c]∧x.2.length≤c∧kKid.C w A x.2.length x.2:=by
 obtain ⟨_,_,rfl,rfl,⟨A,c,rfl,l,g⟩⟩:=h
 exact ⟨A,c,rfl,l,g⟩
theorem kAD_open {w:World} {x:ADef} {cs:List Value} (h:kAD.K w x cs):∃ A1 c1 A2 c2 A3 c3,cs=[.string x.doc,.string x.name,.string x.t.f0,.slice A1 x.t.f1.length c1,.bool x.t.f2,.slice A2 x.dflt.length c2,.slice A3 x.dirs.length c3]∧x.t.f1.length≤c1∧k41.C w A1 x.t.f1.length x.t.f1∧x.dflt.length≤c2∧kVl.C w A2 x.dflt.length x.dflt∧x.dirs.length≤c3∧kDr.C w A3 x.dirs.length x.dirs:=by
 obtain ⟨_,_,rfl,rfl,⟨_,_,rfl,rfl,⟨_,_,rfl,ht,⟨_,_,rfl,⟨A2,c2,rfl,l2,g2⟩,⟨A3,c3,rfl,l3,g3⟩⟩⟩⟩⟩:=h
 obtain ⟨A1,c1,rfl,l1,g1⟩:=k41_open ht
 exact ⟨A1,c1,A2,c2,A3,c3,rfl,l1,g1,l2,g2,l3,g3⟩
structure Dt where
 kind:Int
 b:Bool
 n:Int
 f:Int
 s:ByteArray
 kids:List (ByteArray×Dt)
abbrev Dt.cells (x:Dt) (v:Value):List Value:=[.int .i64 x.kind,.bool x.b,.int .i64 x.n,.int .u64 x.f,.string x.s,v]
end Go.Proofs.YtlblbefbbibpaaaGreatDoor.J
namespace Go.Proofs.YtlblbefbbibpaaaGreatDoor.J
open Go.RowKit Zw Zw.PrintWords Zw.PrintLast Zw.PrintMore PAM
abbrev kcells (k:ByteArray×Dt) (u:Value):List Value:= .string k.1::k.2.cells u
def rowOf (kids:List (ByteArray×Dt)) (us:List Value):List Value:=(List.zipWith kcells kids us).flatten
inductive DB (sn:List Blk):Value→Dt→Prop where
 |mk {x:Dt} {u:Value} {b:Nat} {pr:List Blk} {us:List Value}:PR b pr 85 7 u x.kids.length (rowOf x.kids us)→(∀ y∈pr,y∈sn)→us.length=x.kids.length→(∀ (i:Nat) (k:ByteArray×Dt) (t:Value),x.kids[i]? =some k→us[i]? =some t→DB sn t k.2)→DB sn u x
theorem DB.mono {sn sn':List Blk} (h:∀ x∈sn,x∈sn') {u:Value} {x:Dt} (hb:DB sn u x):DB sn' u x:=by
 induction hb with
 |mk h1 h2 h3 h4 ih=>exact .mk h1 (fun y hy=>h _ (h2 y hy)) h3 ih
theorem DB.slice {sn:List Blk} {u:Value} {x:Dt} (h:DB sn u x):∃ A c,u= .slice A x.kids.length c:=by
 obtain ⟨h1,_⟩:=h
 obtain ⟨A,c,e,_⟩:=h1.slice
 exact ⟨A,c,e⟩
theorem rowOf_len (kids:List (ByteArray×Dt)) (us:List Value) (h:us.length=kids.length):(rowOf kids us).length=kids.length * 7:=by
 induction kids generalizing us with
 |nil=>simp [rowOf]
 |cons k r ih=>
  cases us with
  |nil=>simp at h
  |cons u us=>
   have:=ih us (by simpa using h)
   simp only [rowOf,List.zipWith_cons_cons,List.flatten_cons,List.length_append,List.length_cons] at this ⊢
   simp [Dt.cells,this]
   omega
theorem rowOf_get {kids:List (ByteArray×Dt)} {us:List Value} {i:Nat} {k:ByteArray×Dt} {u:Value} (hk:kids[i]? =some k) (hu:us[i]? =some u) (j:Nat) (hj:j < 7):(rowOf kids us)[i * 7 + j]? =(kcells k u)[j]? :=by
 induction kids generalizing us i with
 |nil=>simp at hk
 |cons k0 r ih=>
  cases us with
  |nil=>simp at hu
  |cons u0 us=>
   cases i with
   |zero=>
    have e1:k0=k:=by simpa using hk
    have e2:u0=u:=by simpa using hu
    subst e1 e2
    simp only [rowOf,List.zipWith_cons_cons,List.flatten_cons,Nat.zero_mul,Nat.zero_add]
    rw [List.getElem?_append_left (by simp;omega)]
   |succ i=>
    have hk':r[i]? =some k:=by simpa using hk
    have hu':us[i]? =some u:=by simpa using hu
    have:=ih hk' hu'
    simp only [rowOf,List.zipWith_cons_cons,List.flatten_cons] at this ⊢
    rw [List.getElem?_append_right (by simp;omega)]
    have e:(i + 1) * 7 + j - (kcells k0 u0).length=i * 7 + j:=by simp;omega
    rw [e,this]
theorem PR.cell {b:Nat} {pr:List Blk} {e:TypeId} {sz:Nat} {v:Value} {n:Nat} {cells:List Value} {W:World} {sn:List Blk} (h:PR b pr e sz v n cells) (hk:Keeps sn W) (hs:∀ y∈pr,y∈sn) (hn:0 < n):∃ g cap,v= .slice (some ⟨g,0,none⟩) n cap∧∀ j u,cells[j]? =some u→W.cell? ⟨g,j,none⟩=some u:=by
 rcases h with ⟨_,_,rfl,_⟩|⟨g,cap,cur,rfl,rfl,_,_,_,_,hc,hl⟩
 ·omega
 ·refine ⟨g,cap,rfl,fun j u hj=> ?_⟩
  have hh:=hk.mem (hs _ (List.mem_singleton.2 rfl))
  rw [blk_cell hh j]
  have hlt:j < cells.length:=(List.getElem?_eq_some_iff.1 hj).1
  rw [← hc,List.getElem?_take_of_lt (by omega)] at hj
  rw [← hj]
  simp
theorem DB.at {sn:List Blk} {W:World} {u:Value} {x:Dt} (h:DB sn u x) (hk:Keeps sn W) (i:Nat) (hi:i < x.kids.length):∃ (g cap:Nat) (nm:ByteArray) (y:Dt) (A:Option Addr) (c:Nat),u= .slice (some ⟨g,0,none⟩) x.kids.length cap∧x.kids[i]? =some (nm,y)∧DB sn (.slice A y.kids.length c) y∧
  ∀ j,j < 7→W.cell? ⟨g,i * 7 + j,none⟩=(kcells (nm,y) (.slice A y.kids.length c))[j]? :=by
 obtain ⟨h1,h2,h3,h4⟩:=h
 obtain ⟨g,cap,e,hc⟩:=h1.cell hk h2 (by omega)
 rename_i us
 have hx:x.kids[i]? =some x.kids[i]:=List.getElem?_eq_getElem hi
 have hu:us[i]? =some us[i]:=List.getElem?_eq_getElem (by omega)
 have hd:=h4 i _ _ hx hu
 obtain ⟨A,c,e2⟩:=hd.slice
 rw [e2] at hd
 refine ⟨g,cap,x.kids[i].1,x.kids[i].2,A,c,e,hx,hd,fun j hj=> ?_⟩
 rw [e2] at hu
 have:=rowOf_get hx hu j hj
 have hlt:j < (kcells x.kids[i] (.slice A x.kids[i].2.kids.length c)).length:=by simpa using hj
 rw [List.getElem?_eq_getElem hlt] at this ⊢
 exact hc _ _ this
theorem goesv_ {P:Program} {ops:Array Oper} {Q:Exit→Act→World→Prop} {oi:Oper} {N:Option Tmp} {a:Act} {w:World} {K:Act→World→Prop} {f:FuncId} {fn:Func} {c:Operand} {xs:Array Operand} {ts:Array TypeId} (hf:P.funcs[f]? =some fn) (hname:(fn.name == "runtime.NumGoroutine")=false) (hb:fn.body.isSome=true) (args:Array Value)
  (hw:Region.wanted oi (yielded ops a.tmps)=true) (hN:oi.dst=N) (hop:oi.op= .call {callee:= .value c,args:=xs,argTypes:=ts}) (hc:a.eval c= .func (.func f) #[] #[]) (hargs:xs.map a.eval=args)
  (h:Calls P f args w fun e w'=>∃ v,e= .returned v∧K (a.put N v) w'):if Region.wanted oi (yielded ops a.tmps)=true then Oper.wp P oi a w K Q else K (a.put N undef) w:=by
 refine call_ f args hw hN ?_ h
 have he:=enters_ hf hname hb args w
 unfold execOp
 simp [hop,resolve,hc,Deferred.ofValue,invoke,hargs,he]
theorem sameKid (nm:ByteArray) (y:Dt) {A1 A2:Option Addr} {n1 n2 c1 c2:Nat} (w:World) (hi:∀ W,Below w.heap.size w W→Calls Tryz.prog 9 #[.agg #[.int .i64 y.kind,.bool y.b,.int .i64 y.n,.int .u64 y.f,.string y.s,.slice A1 n1 c1],.agg #[.int .i64 y.kind,.bool y.b,.int .i64 y.n,.int .u64 y.f,.string y.s,.slice A2 n2 c2]] W fun e w'=>e= .returned (.bool true)∧Below W.heap.size W w'):
  Calls Tryz.prog 23 #[.agg #[.string nm,.int .i64 y.kind,.bool y.b,.int .i64 y.n,.int .u64 y.f,.string y.s,.slice A1 n1 c1],.agg #[.string nm,.int .i64 y.kind,.bool y.b,.int .i64 y.n,.int .u64 y.f,.string y.s,.slice A2 n2 c2]] w fun e w'=>e= .returned (.bool true)∧Below w.heap.size w w':=by
 have Hi:=asd_ hi;clear hi;have HK:=st0_ w
 go_enter Tryz.func23,Tryz.ntmps23
 go_wp2_with (first|((with_reducible refine gd_ 2 ?_);refine bx_ #[.string nm,.int .i64 y.kind,.bool y.b,.int .i64 y.n,.int .u64 y.f,.string y.s,.slice A1 n1 c1] 85 ?_;clear HK;intro g1 wb2 HK Gg1;replace Bc:=ce1_ HK 0)|((with_reducible refine gd_ 3 ?_);refine bx_ #[.string nm,.int .i64 y.kind,.bool y.b,.int .i64 y.n,.int .u64 y.f,.string y.s,.slice A2 n2 c2] 85 ?_;clear HK;intro g2 wb3 HK Gg2;replace Bc:=ce2_ HK 1 0)|((with_reducible refine gd_ 15 ?_);(try (refine gate_guard (by rfl) ?_;dsimp only));refine cl_ #[.agg #[.int .i64 y.kind,.bool y.b,.int .i64 y.n,.int .u64 y.f,.string y.s,.slice A1 n1 c1],.agg #[.int .i64 y.kind,.bool y.b,.int .i64 y.n,.int .u64 y.f,.string y.s,.slice A2 n2 c2]] (.bool true) Tryz.func9 (Hi.out _ be_) ?_;intro wc15 HK1;replace HK:=asd_ HK1;clear HK1;replace Bc:=ce2_ HK 1 0))
 go_ret
 exact ⟨rfl,be_⟩
theorem each_ok (x:Dt) (ih:∀ k∈x.kids,∀ {w0:World} {sn1 sn2:List Blk} {u1 u2:Value},Keeps sn1 w0→Keeps sn2 w0→DB sn1 u1 k.2→DB sn2 u2 k.2→∀ w,Below w0.heap.size w0 w→Calls Tryz.prog 9 #[.agg #[.int .i64 k.2.kind,.bool k.2.b,.int .i64 k.2.n,.int .u64 k.2.f,.string k.2.s,u1],.agg #[.int .i64 k.2.kind,.bool k.2.b,.int .i64 k.2.n,.int .u64 k.2.f,.string k.2.s,u2]] w fun e w'=>e= .returned (.bool true)∧Below w.heap.size w w') {w0:World} {sn1 sn2:List Blk} {u1 u2:Value} (hk1:Keeps sn1 w0) (hk2:Keeps sn2 w0) (h1:DB sn1 u1 x) (h2:DB sn2 u2 x) (w:World) (hW:Below w0.heap.size w0 w) (hL:x.kids.length≤1073741824):
  Calls Tryz.prog 22 #[u1,u2,.func (.func 23) #[] #[]] w fun e w'=>e= .returned (.bool true)∧Below w.heap.size w w':=by
 obtain ⟨A1,c1,rfl⟩:=h1.slice;obtain ⟨A2,c2,rfl⟩:=h2.slice
 obtain ⟨n,hn⟩:∃ n,x.kids.length=n:=⟨_,rfl⟩;rw [hn]
 obtain ⟨Ih_,Hk1_,Hk2_,H1_,H2_,HW_,Hn_,HL_⟩:=as8_ ih hk1 hk2 h1 h2 hW hn hL;clear ih hk1 hk2 h1 h2 hW hn hL
 have HK:=st0_ w
 go_enter Tryz.func22,Tryz.ntmps22
 go_wp2_with fail
 go_loopg [15] n (fun kq i w'=>∃ k:Nat,Aside0 (k≤n)∧i= .int .i64 k∧Aside0 (kq=n - k)∧Aside0 (At w [] w'))
 case atStart=>exact ⟨0,⟨Nat.zero_le _⟩,rfl,⟨rfl⟩,⟨at_⟩⟩
 case round=>
  clear HK;obtain ⟨k,Hk,rfl,Hkq,HK⟩:=hrel
  by_cases hlt:k < n
  case neg=>
   have hd:decide (k < n)=false:=decide_eq_false hlt;clear hlt
   go_wp2_with fail
   go_ret
   exact ⟨rfl,be_⟩
  case pos=>
   have hd:decide (k < n)=true:=decide_eq_true hlt;have Hlt:=asd_ hlt;clear hlt
   have hi0:(0:Int)≤(k:Int):=(by omega);have hi1:(k:Int) < (n:Int):=(by have:=Hlt.out;omega);have hs1:IntKind.i64.wrap ((k:Int) + 1)=(k:Int) + 1:=IntWalk.i64_in _ (by have:=Hlt.out;have:=HL_.out;have:=Hn_.out;omega)
   obtain ⟨g1,p1,nm,y,B1,d1,e1,hx1,hb1,hc1⟩:=H1_.out.at Hk1_.out k (by rw [Hn_.out];exact Hlt.out)
   obtain ⟨g2,p2,nm2,y2,B2,d2,e2,hx2,hb2,hc2⟩:=H2_.out.at Hk2_.out k (by rw [Hn_.out];exact Hlt.out)
   rw [hx1] at hx2;cases hx2;injection e1 with e1 e1b e1c;injection e2 with e2 e2b e2c;subst e1 e2 e1c e2c;clear e1b e2b
   obtain ⟨Hx1,Hb1,Hb2,Hc1,Hc2⟩:=as5_ hx1 hb1 hb2 hc1 hc2;clear hx1 hb1 hb2 hc1 hc2
   have Hi:Aside0 (∀ W,Below w.heap.size w W→Calls Tryz.prog 9 #[.agg #[.int .i64 y.kind,.bool y.b,.int .i64 y.n,.int .u64 y.f,.string y.s,.slice B1 y.kids.length d1],.agg #[.int .i64 y.kind,.bool y.b,.int .i64 y.n,.int .u64 y.f,.string y.s,.slice B2 y.kids.length d2]] W fun e w'=>e= .returned (.bool true)∧Below W.heap.size W w'):=⟨fun W hW=>Ih_.out _ (List.mem_of_getElem? Hx1.out) Hk1_.out Hk2_.out Hb1.out Hb2.out W (below_step HW_.out hW)⟩
   go_wp2_with fail
   refine st_ 11 (fun w'=>At w [] w'∧w'.cell? ⟨g1,k * 7,none⟩=some (.string nm)∧w'.cell? ⟨g1,k * 7 + 1,none⟩=some (.int .i64 y.kind)∧w'.cell? ⟨g1,k * 7 + 2,none⟩=some (.bool y.b)∧w'.cell? ⟨g1,k * 7 + 3,none⟩=some (.int .i64 y.n)∧w'.cell? ⟨g1,k * 7 + 4,none⟩=some (.int .u64 y.f)∧w'.cell? ⟨g1,k * 7 + 5,none⟩=some (.string y.s)∧w'.cell? ⟨g1,k * 7 + 6,none⟩=some (.slice B1 y.kids.length d1)∧w'.cell? ⟨g2,k * 7,none⟩=some (.string nm)∧w'.cell? ⟨g2,k * 7 + 1,none⟩=some (.int .i64 y.kind)∧w'.cell? ⟨g2,k * 7 + 2,none⟩=some (.bool y.b)∧w'.cell? ⟨g2,k * 7 + 3,none⟩=some (.int .i64 y.n)∧w'.cell? ⟨g2,k * 7 + 4,none⟩=some (.int .u64 y.f)∧w'.cell? ⟨g2,k * 7 + 5,none⟩=some (.string y.s)∧w'.cell? ⟨g2,k * 7 + 6,none⟩=some (.slice B2 y.kids.length d2)) [] (fun A=>⟨A,(pw_cell_below (below_step HW_.out A.b) (Hc1.out 0 (by decide))),(pw_cell_below (below_step HW_.out A.b) (Hc1.out 1 (by decide))),(pw_cell_below (below_step HW_.out A.b) (Hc1.out 2 (by decide))),(pw_cell_below (below_step HW_.out A.b) (Hc1.out 3 (by decide))),(pw_cell_below (below_step HW_.out A.b) (Hc1.out 4 (by decide))),(pw_cell_below (below_step HW_.out A.b) (Hc1.out 5 (by decide))),(pw_cell_below (below_step HW_.out A.b) (Hc1.out 6 (by decide))),(pw_cell_below (below_step HW_.out A.b) (Hc2.out 0 (by decide))),(pw_cell_below (below_step HW_.out A.b) (Hc2.out 1 (by decide))),(pw_cell_below (below_step HW_.out A.b) (Hc2.out 2 (by decide))),(pw_cell_below (below_step HW_.out A.b) (Hc2.out 3 (by decide))),(pw_cell_below (below_step HW_.out A.b) (Hc2.out 4 (by decide))),(pw_cell_below (below_step HW_.out A.b) (Hc2.out 5 (by decide))),(pw_cell_below (below_step HW_.out A.b) (Hc2.out 6 (by decide)))⟩) (fun hHeld=> ?_)
   refine pu_ 0 18 1 ?_
   refine pu_ 1 19 3 ?_
   refine pu_ 2 20 7 ?_
   refine pu_ 3 21 15 ?_
   refine pu_ 5 23 47 ?_
   refine pu_ 6 24 111 ?_
   refine pu_ 7 25 239 ?_
   refine ta15_ 4 22 255 hHeld ?_
   refine ta15_ 8 26 511 hHeld ?_
   refine on_ 9 27 1023 (fun K hK=> ?_)
   have HE:=asd_ (hHeld.1)
   refine goesv_ (f:=23) Tryz.func23 kr_ rfl #[.agg #[.string nm,.int .i64 y.kind,.bool y.b,.int .i64 y.n,.int .u64 y.f,.string y.s,.slice B1 y.kids.length d1],.agg #[.string nm,.int .i64 y.kind,.bool y.b,.int .i64 y.n,.int .u64 y.f,.string y.s,.slice B2 y.kids.length d2]] (by rfl) rfl rfl rfl (by simp only [List.map_toArray,List.map_cons,List.map_nil];rfl) ?_
   with_reducible refine (sameKid nm y _ (fun W hW=>Hi.out W (below_step HE.out.b hW))).mono ?_
   rintro e w3 ⟨rfl,hb⟩
   refine ⟨_,rfl,?_⟩
   have HE1:=asd_ (At.step HE.out hb)
   clear hb
   clear HE;have HE:=HE1;clear HE1
   refine hK.out _ _ ⟨((At.sub HE.out (List.Sublist.refl _)):At w [] _),(pw_cell_below (below_step HW_.out (At.sub HE.out (List.Sublist.refl _)).b) (Hc1.out 0 (by decide))),(pw_cell_below (below_step HW_.out (At.sub HE.out (List.Sublist.refl _)).b) (Hc1.out 1 (by decide))),(pw_cell_below (below_step HW_.out (At.sub HE.out (List.Sublist.refl _)).b) (Hc1.out 2 (by decide))),(pw_cell_below (below_step HW_.out (At.sub HE.out (List.Sublist.refl _)).b) (Hc1.out 3 (by decide))),(pw_cell_below (below_step HW_.out (At.sub HE.out (List.Sublist.refl _)).b) (Hc1.out 4 (by decide))),(pw_cell_below (below_step HW_.out (At.sub HE.out (List.Sublist.refl _)).b) (Hc1.out 5 (by decide))),(pw_cell_below (below_step HW_.out (At.sub HE.out (List.Sublist.refl _)).b) (Hc1.out 6 (by decide))),(pw_cell_below (below_step HW_.out (At.sub HE.out (List.Sublist.refl _)).b) (Hc2.out 0 (by decide))),(pw_cell_below (below_step HW_.out (At.sub HE.out (List.Sublist.refl _)).b) (Hc2.out 1 (by decide))),(pw_cell_below (below_step HW_.out (At.sub HE.out (List.Sublist.refl _)).b) (Hc2.out 2 (by decide))),(pw_cell_below (below_step HW_.out (At.sub HE.out (List.Sublist.refl _)).b) (Hc2.out 3 (by decide))),(pw_cell_below (below_step HW_.out (At.sub HE.out (List.Sublist.refl _)).b) (Hc2.out 4 (by decide))),(pw_cell_below (below_step HW_.out (At.sub HE.out (List.Sublist.refl _)).b) (Hc2.out 5 (by decide))),(pw_cell_below (below_step HW_.out (At.sub HE.out (List.Sublist.refl _)).b) (Hc2.out 6 (by decide)))⟩ (fun hHeld=> ?_)
   clear hK K
   refine nq_ 27 ?_
   refine pu_ 10 28 2047 ?_
   refine done_ kr_ ?_
   clear HK;have HK:=HE;clear HE
   clear hHeld
   go_wp2_with fail
   go_roundg (n - (k + 1))
   case measure=>have:=Hkq.out;have:=Hlt.out;omega
   case rel=>exact ⟨k + 1,⟨Hlt.out⟩,by go_num,⟨rfl⟩,⟨at_⟩⟩
theorem same_one (x:Dt) (hL:x.kids.length≤1073741824) (ih:∀ k∈x.kids,∀ {w0:World} {sn1 sn2:List Blk} {u1 u2:Value},Keeps sn1 w0→Keeps sn2 w0→DB sn1 u1 k.2→DB sn2 u2 k.2→∀ w,Below w0.heap.size w0 w→Calls Tryz.prog 9 #[.agg #[.int .i64 k.2.kind,.bool k.2.b,.int .i64 k.2.n,.int .u64 k.2.f,.string k.2.s,u1],.agg #[.int .i64 k.2.kind,.bool k.2.b,.int .i64 k.2.n,.int .u64 k.2.f,.string k.2.s,u2]] w fun e w'=>e= .returned (.bool true)∧Below w.heap.size w w') {w0:World} {sn1 sn2:List Blk} {u1 u2:Value} (hk1:Keeps sn1 w0) (hk2:Keeps sn2 w0) (h1:DB sn1 u1 x) (h2:DB sn2 u2 x) (w:World) (hW:Below w0.heap.size w0 w):
  Calls Tryz.prog 9 #[.agg #[.int .i64 x.kind,.bool x.b,.int .i64 x.n,.int .u64 x.f,.string x.s,u1],.agg #[.int .i64 x.kind,.bool x.b,.int .i64 x.n,.int .u64 x.f,.string x.s,u2]] w fun e w'=>e= .returned (.bool true)∧Below w.heap.size w w':=by
 obtain ⟨A1,c1,rfl⟩:=h1.slice;obtain ⟨A2,c2,rfl⟩:=h2.slice
 obtain ⟨kind,b,n,f,s,kids⟩:=x
 have He:=asd_ (fun W hW=>each_ok ⟨kind,b,n,f,s,kids⟩ ih hk1 hk2 h1 h2 W hW hL);have HW_:=asd_ hW;clear ih hk1 hk2 h1 h2 hW hL;have HK:=st0_ w
 go_enter Tryz.func9,Tryz.ntmps9
 go_wp2_with (first|((with_reducible refine gd_ 2 ?_);refine bx_ #[.int .i64 kind,.bool b,.int .i64 n,.int .u64 f,.string s,.slice A1 kids.length c1] 30 ?_;clear HK;intro g1 wb2 HK Gg1;replace Bc:=ce1_ HK 0)|((with_reducible refine gd_ 3 ?_);refine bx_ #[.int .i64 kind,.bool b,.int .i64 n,.int .u64 f,.string s,.slice A2 kids.length c2] 30 ?_;clear HK;intro g2 wb3 HK Gg2;replace Bc:=ce2_ HK 1 0)|((with_reducible refine gd_ 42 ?_);refine cl_ #[.slice A1 kids.length c1,.slice A2 kids.length c2,.func (.func 23) #[] #[]] (.bool true) Tryz.func22 (He.out _ (below_step HW_.out be_)) ?_;intro wc42 HK1;replace HK:=asd_ HK1;clear HK1;replace Bc:=ce2_ HK 1 0))
 go_ret
 exact ⟨rfl,be_⟩
inductive Lt:Dt→Prop where
 |mk {x:Dt}:x.kids.length≤1073741824→(∀ k∈x.kids,Lt k.2)→Lt x
theorem same_ok {x:Dt} (hx:Lt x):∀ {w0:World} {sn1 sn2:List Blk} {u1 u2:Value},Keeps sn1 w0→Keeps sn2 w0→DB sn1 u1 x→DB sn2 u2 x→∀ w,Below w0.heap.size w0 w→Calls Tryz.prog 9 #[.agg #[.int .i64 x.kind,.bool x.b,.int .i64 x.n,.int .u64 x.f,.string x.s,u1],.agg #[.int .i64 x.kind,.bool x.b,.int .i64 x.n,.int .u64 x.f,.string x.s,u2]] w fun e w'=>e= .returned (.bool true)∧Below w.heap.size w w':=by
 induction hx with
 | @mk x h1 h2 ih=>exact fun a b c d w hw=>same_one x h1 ih a b c d w hw
end Go.Proofs.YtlblbefbbibpaaaGreatDoor.J
namespace Go.Proofs.YtlblbefbbibpaaaGreatDoor.PAM
open Go.RowKit Zw.PrintWords Zw.PrintLast Zw.PrintMore
theorem wb_ {p:Prop} (h:p:=by repeat (first|(with_reducible first|exact HB.out|apply below_alloc|apply pw_below_drewN|apply below_drew1|refine below_set ?_ (Aside0.out (by assumption)))|exact HB.out)):p:=h
theorem r1_ {p:Prop} (h:p:=by first|rfl|(simp;done)|(simp [*];done)):p:=h
theorem ap_ {p:Prop} (h:p:=by (try simp only [List.map_toArray,List.map_cons,List.map_nil]);first|done|rfl|(simp only [List.length_drop,List.length_take];rfl)):p:=h
theorem as_ {p:Prop} (h:p:=by first|(with_reducible assumption)|assumption):p:=h
theorem dr_ {p:Prop} (h:p:=by repeat (first|exact Drawn0.refl _|apply Drawn0.step)):p:=h
theorem er_ {p:Prop} (h:p:=by first|rfl|(simp [errW_none,errW_some]<;>rfl)|(simp [*,errW_none,errW_some]<;>rfl)):p:=h
theorem bk_ {p:Prop} (h:p:=by ((with_reducible repeat (first|refine blk_drewN ?_ _|refine blk_drew ?_|refine blk_alloc ?_ _));exact Aside0.out (by assumption))):p:=h
theorem kr_ {p:Prop} (h:p:=by kernel_rfl):p:=h
theorem cb_ {W:World} {g:Nat} {t:TypeId} {cs:Array Value} (h:W.heap[g]? =some (.cells cs t (0,0))):(∀ j,W.cell? ⟨g,j,none⟩=cs[j]?)∧∀ j,W.frozen? ⟨g,j,none⟩=false:=⟨fun j=>blk_cell h j,fun j=>blk_frozen h j⟩
theorem asd_ {p:Prop} (h:p):Aside0 p:=⟨h⟩
end Go.Proofs.YtlblbefbbibpaaaGreatDoor.PAM
