/- Part. -/
import Derived.Test.YtkphbhncpdcbeaaGreatDoorQBI
set_option linter.unusedVariables false
set_option linter.unusedSimpArgs false
set_option maxHeartbeats 8000000
set_option maxRecDepth 100000
namespace Go.Proofs.YtkphbhncpdcbeaaGreatDoor.J
open Go.RowKit YtkphbhncpdcbeaaGreatDoorW.PrintWords YtkphbhncpdcbeaaGreatDoorW.PrintLast YtkphbhncpdcbeaaGreatDoorW.PrintMore PJT
section
variable {w W W1:World} {l m:List Blk}
theorem Keeps.append:Keeps (l ++ m) W↔Keeps l W∧Keeps m W:=by
 induction l with
 |nil=>simp [Keeps]
 |cons b l ih=>
  cases b with
  |b g o=>simp only [List.cons_append,Keeps,ih,and_assoc]
  |f F=>simp only [List.cons_append,Keeps,ih,and_assoc]
theorem Keeps.right (h:Keeps (l ++ m) W):Keeps m W:=(Keeps.append.1 h).2
theorem nums_append:nums (l ++ m)=nums l ++ nums m:=by
 induction l with
 |nil=>rfl
 |cons b l ih=>cases b<;>simp [nums,ih]
theorem At.snap (h:At w l W) (hb:Below W.heap.size W W1):∃ ms,At w (l ++ ms) W1∧∀ W',Keeps ms W'→∀ k,W.heap.size≤k→k < W1.heap.size→W'.heap[k]? =W1.heap[k]? :=by
 let ks:=List.range' W.heap.size (W1.heap.size - W.heap.size)
 let ms:=ks.map (fun k=>Blk.b k (W1.heap.getD k (.map #[] 0)))
 have hk:∀ k,k∈ks↔W.heap.size≤k∧k < W1.heap.size:=fun k=>by
  have:=hb.size
  simp only [ks,List.mem_range'_1]
  omega
 have hget:∀ k,k∈ks→W1.heap[k]? =some (W1.heap.getD k (.map #[] 0)):=fun k h=>by
  have:=((hk k).1 h).2
  simp [Array.getD,this]
 have hnum:∀ q:List Nat,nums (q.map (fun k=>Blk.b k (W1.heap.getD k (.map #[] 0))))=q:=fun q=>by
  induction q with
  |nil=>rfl
  |cons a q ih=>exact congrArg (a:: ·) ih
 have hkeep:∀ (q:List Nat) (V:World),Keeps (q.map (fun k=>Blk.b k (W1.heap.getD k (.map #[] 0)))) V↔∀ k∈q,V.heap[k]? =some (W1.heap.getD k (.map #[] 0)):=fun q V=>by
  induction q with
  |nil=>simp [Keeps]
  |cons a q ih=>simp only [List.map_cons,Keeps,List.mem_cons,forall_eq_or_imp,ih]
 refine ⟨ms,⟨below_step h.b hb,Keeps.append.2 ⟨h.k.below hb,(hkeep ks W1).2 hget⟩,?_⟩,fun W' hW k h1 h2=> ?_⟩
 ·rw [nums_append,hnum]
  refine List.nodup_append.2 ⟨h.d,List.nodup_range',fun a ha b hb2=> ?_⟩
  have h1:=h.k.lt a ha
  have h2:=((hk b).1 hb2).1
  omega
 ·rw [(hkeep ks W').1 hW k ((hk k).2 ⟨h1,h2⟩),hget k ((hk k).2 ⟨h1,h2⟩)]
end
theorem RowD.stays {W W':World} {b:Nat} {l:List S25} {v:Value} (h:RowD W b l v) (hm:∀ k,b≤k→k < W.heap.size→W'.heap[k]? =W.heap[k]?):RowD W' b l v:=by
 rcases h with h|⟨k,c,cur,vs,e,h1,h2,h3,h4,h5⟩
 ·exact Or.inl h
 ·exact Or.inr ⟨k,c,cur,vs,e,h1,(hm k h1 (blk_lt h2)).trans h2,h3,h4,fun i hi=>(h5 i hi).move (fun k hk hl=>⟨hk,hm k hk hl⟩)⟩
theorem OutD.stays {W W':World} {b:Nat} {x:S25} {v:Value} (h:OutD W (fun k=>b≤k) x v) (hm:∀ k,b≤k→k < W.heap.size→W'.heap[k]? =W.heap[k]?):OutD W' (fun k=>b≤k) x v:=h.move (fun k hk hl=>⟨hk,hm k hk hl⟩)
theorem RowD.slice {W:World} {b:Nat} {l:List S25} {v:Value} (h:RowD W b l v):∃ A c,v= .slice A l.length c:=by
 rcases h with ⟨e,_⟩|⟨k,c,cur,vs,e,_⟩
 ·exact ⟨_,_,e⟩
 ·exact ⟨_,_,e⟩
theorem RowD.cells {W:World} {b:Nat} {l:List S25} {A:Option Addr} {c:Nat} (h:RowD W b l (.slice A l.length c)):∃ vs:List Value,vs.length=l.length∧(∀ i,i < l.length→∃ ad,A=some ad∧W.cell? (ad.add i)=some (vs.getD i .nilIface))∧∀ i,i < l.length→OutD W (fun k=>b≤k) (l.getD i z25) (vs.getD i .nilIface):=by
 rcases h with ⟨e,h0⟩|⟨k,c',cur,vs,e,h1,h2,h3,h4,h5⟩
 ·exact ⟨[],by simp [h0],fun i hi=>by omega,fun i hi=>by omega⟩
 ·cases e
  exact ⟨vs,h3,fun i hi=>⟨_,rfl,by rw [add_cell];exact (blk_cell h2 i).trans (h4 i hi)⟩,h5⟩
theorem NewEnum_row (w:World) (b:Nat) (l:List S25) (A:Option Addr) (c:Nat) (h:RowD w b l (.slice A l.length c)) (hn:l.length≤LM) (hk:∀ x∈l,V x):
  Calls Tryz.prog 91 #[.slice A l.length c] w fun e w'=>∃ v,e= .returned v∧(∃ g,v= .pointer (some ⟨g,0,none⟩)∧w'.heap[g]? =some (row #[.slice A l.length c,.int .i64 (kinds l).v] 285)∧w.heap.size≤g)∧Below w.heap.size w w':=by
 obtain ⟨vs,hl,hc,ho⟩:=h.cells
 refine (NewEnum_ok w A c l vs hn hc (fun i hi W=>type_out (ho i hi) W) hk).mono ?_
 rintro e w' ⟨g,rfl,h1,h2,hb⟩
 exact ⟨_,rfl,⟨g,rfl,h1,h2⟩,hb⟩
def Pend (w:World) (l:List Blk) (g:Nat) (z:Value) (ty:TypeId) (w1:World):Prop:=∃ W,At w l W∧g=W.heap.size∧w1=W.alloc (.cells #[z] ty (0,0))
theorem Pend.cell {w:World} {l:List Blk} {g:Nat} {z:Value} {ty:TypeId} {w1:World} (h:Pend w l g z ty w1):w1.heap[g]? =some (row #[z] ty):=by
 obtain ⟨W,_,rfl,rfl⟩:=h
 exact blk_new W _
section
variable {P:Program} {ops:Array Oper} {rest:List Oper} {o:Oper} {a:Act} {Q:Exit→Act→World→Prop} {w W:World} {l:List Blk}
theorem bxp_at (H:At w l W) (hgd:o.guard=none) {N:Tmp} (_hd:o.dst=some N) {z:Value} {t:TypeId}
  (hrun:(execOp a.eval o).run P W= .ok (.value (.pointer (some ⟨W.heap.size,0,none⟩))) (W.alloc (.cells #[z] t (0,0))))
  (h:∀ g w1,Pend w l g z t w1→w.heap.size≤g→wpList P ops Q rest (a.put o.dst (.pointer (some ⟨g,0,none⟩))) w1):wpList P ops Q (o::rest) a W:=
 Kd.event_run hgd hrun (h _ _ ⟨W,H,rfl,rfl⟩ H.b.size)
theorem storep_at {t ty:TypeId} {p:Tmp} {y:Operand} {g:Nat} {z v:Value} (HP:Pend w l g z ty W) (hgd:o.guard=none) (ho:o.op= .store t (.tmp p) y) (hN:o.dst=none)
  (hrun:(execOp a.eval o).run P W= .ok .skip (W.setCell ⟨g,0,none⟩ v))
  (h:∀ w1,At w (.b g (row #[v] ty)::l) w1→wpList P ops Q rest a w1):wpList P ops Q (o::rest) a W:=by
 obtain ⟨W0,H,rfl,rfl⟩:=HP
 refine store_event hgd ho hN hrun (fun w' e'=>h w' ?_)
 have hN0:=H.new (.cells #[z] ty (0,0))
 have hb:Below W0.heap.size W0 w':=by
  rw [e']
  exact below_set (below_alloc (Below.refl _ _) _) (Nat.le_refl _)
 refine (H.step hb).hold ?_ H.fresh
 rw [e']
 exact blk_put (blk_new W0 _) 0 v rfl
end
end Go.Proofs.YtkphbhncpdcbeaaGreatDoor.J
namespace Go.Proofs.YtkphbhncpdcbeaaGreatDoor.J
open Go.RowKit YtkphbhncpdcbeaaGreatDoorW.PrintWords YtkphbhncpdcbeaaGreatDoorW.PrintLast YtkphbhncpdcbeaaGreatDoorW.PrintMore PJT
open Go.ChangeMaps Go.MapKept Go.WideShapes
open Go.Maps (Keyed IsMap)
section
def bare (p:Lit×DataW Unit):Lit×DataW Unit:=(p.1,.lit (.bool true))
def bareD:DataW Unit→DataW Unit
 | .map es=> .map (es.map bare)
 |x=>x
theorem bare_insert (p:Lit×DataW Unit) (l:List (Lit×DataW Unit)):(DataW.insert p l).map bare=DataW.insert (bare p) (l.map bare):=by
 induction l with
 |nil=>rfl
 |cons y r ih=>
  simp only [DataW.insert,List.map_cons]
  show List.map bare (if p.1.before y.1 then _ else _)=(if p.1.before y.1 then _ else _)
  split
  ·rfl
  ·rw [List.map_cons,ih]
theorem bare_filter (k:Lit) (l:List (Lit×DataW Unit)):(l.filter fun p=> !p.1.sameKey k).map bare=(l.map bare).filter fun p=> !p.1.sameKey k:=by
 induction l with
 |nil=>rfl
 |cons y r ih=>
  simp only [List.filter_cons,List.map_cons]
  show List.map bare (if (!y.1.sameKey k)=true then _ else _)=(if (!y.1.sameKey k)=true then _ else _)
  split
  ·rw [List.map_cons,ih]
  ·exact ih
theorem bare_put {D:DataW Unit} (h:IsMap D) (k:Lit) (d:DataW Unit):bareD (D.put k d)=(bareD D).put k (.lit (.bool true)):=by
 obtain ⟨es,rfl⟩:=h
 show DataW.map ((DataW.insert (k,d) (es.filter fun p=> !p.1.sameKey k)).map bare)= .map (DataW.insert (k,.lit (.bool true)) ((es.map bare).filter fun p=> !p.1.sameKey k))
 rw [bare_insert,bare_filter]
 rfl
theorem bare_putV {D:DataW Unit} (h:IsMap D) (l:List (ByteArray×Value)):bareD (putV D l)=putAll (bareD D) (l.map (·.1)):=by
 induction l generalizing D with
 |nil=>rfl
 |cons p l ih=>
  show bareD (putV (D.put (lit p.1) (cd p.2)) l)=putAll ((bareD D).put (lit p.1) (.lit (.bool true))) (l.map (·.1))
  rw [ih (h.put _ _),bare_put h]
theorem bare_mapV {names:List ByteArray} {vs:List Value} (h:names.length=vs.length):bareD (mapV names vs)=mapOf names:=by
 rw [mapV,bare_putV ⟨_,rfl⟩,List.map_fst_zip (by omega)]
 rfl
theorem rd_bare {x:MapEntry} {y:Lit×DataW Unit} (h:Go.WideElems.rd Tryz.prog 9 RC x=some y):Go.WideElems.rd Tryz.prog 9 RT x=some (bare y):=by
 unfold Go.WideElems.rd at h ⊢
 cases hk:keyOf Tryz.prog 9 x.key with
 |none=>rw [hk] at h;cases h
 |some k=>
  rw [hk] at h
  cases hr:RC x.val with
  |none=>simp [hr] at h
  |some d=>
   simp only [hr,Option.bind_some,Option.map_some,Option.some.injEq] at h
   subst h
   rfl
theorem rg_bare {x:MapEntry} (h:∃ y,Go.WideElems.rd Tryz.prog 9 RC x=some y):Go.WideElems.rg Tryz.prog 9 RT x=bare (Go.WideElems.rg Tryz.prog 9 RC x):=by
 obtain ⟨y,hy⟩:=h
 unfold Go.WideElems.rg
 rw [hy,rd_bare hy]
 rfl
theorem MapIs.bare {es:Array MapEntry} {ck n:Nat} {D:DataW Unit} (M:MapIs Tryz.prog 9 RC es ck n D):MapIs Tryz.prog 9 RT es ck n (bareD D):=by
 refine ⟨⟨M.fit.size,M.fit.stamped,fun x hx=> ?_⟩,M.size,?_⟩
 ·obtain ⟨y,hy⟩:=M.fit.reads x hx
  exact ⟨_,rd_bare hy⟩
 ·rw [M.eq]
  have key:∀ l:List MapEntry,(∀ x∈l,∃ y,Go.WideElems.rd Tryz.prog 9 RC x=some y)→List.map J.bare ((l.map (Go.WideElems.rg Tryz.prog 9 RC)).foldr DataW.insert [])=(l.map (Go.WideElems.rg Tryz.prog 9 RT)).foldr DataW.insert []:=fun l=>by
   induction l with
   |nil=>intro _;rfl
   |cons x l ih=>
    intro h
    rw [List.map_cons,List.foldr_cons,bare_insert,ih (fun x hx=>h x (List.mem_cons_of_mem _ hx)),List.map_cons,List.foldr_cons,rg_bare (h x List.mem_cons_self)]
  show DataW.map _=_
  rw [key _ M.fit.reads]
end
end Go.Proofs.YtkphbhncpdcbeaaGreatDoor.J
namespace Go.Proofs.YtkphbhncpdcbeaaGreatDoor.J
open Go.RowKit YtkphbhncpdcbeaaGreatDoorW.PrintWords YtkphbhncpdcbeaaGreatDoorW.PrintLast YtkphbhncpdcbeaaGreatDoorW.PrintMore PJT
theorem tk_enum_190 (v:Value) (W:World):(Instr.typeAssert (.iface 286 v) 126 190 true).run Tryz.prog W= .ok (.tuple #[.pointer none,.bool false]) W:=by kernel_rfl
theorem tk_enum_193 (v:Value) (W:World):(Instr.typeAssert (.iface 286 v) 126 193 true).run Tryz.prog W= .ok (.tuple #[.pointer none,.bool false]) W:=by kernel_rfl
theorem tk_enum_196 (v:Value) (W:World):(Instr.typeAssert (.iface 286 v) 126 196 true).run Tryz.prog W= .ok (.tuple #[.pointer none,.bool false]) W:=by kernel_rfl
theorem tk_enum_199 (v:Value) (W:World):(Instr.typeAssert (.iface 286 v) 126 199 true).run Tryz.prog W= .ok (.tuple #[.pointer none,.bool false]) W:=by kernel_rfl
theorem tk_enum_201 (v:Value) (W:World):(Instr.typeAssert (.iface 286 v) 126 201 true).run Tryz.prog W= .ok (.tuple #[.pointer none,.bool false]) W:=by kernel_rfl
theorem tk_enum_205 (v:Value) (W:World):(Instr.typeAssert (.iface 286 v) 126 205 true).run Tryz.prog W= .ok (.tuple #[.pointer none,.bool false]) W:=by kernel_rfl
theorem tk_enum_208 (v:Value) (W:World):(Instr.typeAssert (.iface 286 v) 126 208 true).run Tryz.prog W= .ok (.tuple #[.pointer none,.bool false]) W:=by kernel_rfl
theorem tk_enum_211 (v:Value) (W:World):(Instr.typeAssert (.iface 286 v) 126 211 true).run Tryz.prog W= .ok (.tuple #[.pointer none,.bool false]) W:=by kernel_rfl
theorem tk_enum_215 (v:Value) (W:World):(Instr.typeAssert (.iface 286 v) 126 215 true).run Tryz.prog W= .ok (.tuple #[.pointer none,.bool false]) W:=by kernel_rfl
theorem tk_enum_219 (v:Value) (W:World):(Instr.typeAssert (.iface 286 v) 126 219 true).run Tryz.prog W= .ok (.tuple #[.pointer none,.bool false]) W:=by kernel_rfl
theorem tk_enum_222 (v:Value) (W:World):(Instr.typeAssert (.iface 286 v) 126 222 true).run Tryz.prog W= .ok (.tuple #[.pointer none,.bool false]) W:=by kernel_rfl
theorem tk_enum_225 (v:Value) (W:World):(Instr.typeAssert (.iface 286 v) 126 225 true).run Tryz.prog W= .ok (.tuple #[.pointer none,.bool false]) W:=by kernel_rfl
theorem tk_enum_298 (v:Value) (W:World):(Instr.typeAssert (.iface 286 v) 126 298 true).run Tryz.prog W= .ok (.tuple #[.pointer none,.bool false]) W:=by kernel_rfl
theorem tk_enum_301 (v:Value) (W:World):(Instr.typeAssert (.iface 286 v) 126 301 true).run Tryz.prog W= .ok (.tuple #[.pointer none,.bool false]) W:=by kernel_rfl
theorem tk_enum_303 (v:Value) (W:World):(Instr.typeAssert (.iface 286 v) 126 303 true).run Tryz.prog W= .ok (.tuple #[.pointer none,.bool false]) W:=by kernel_rfl
theorem tk_enum_305 (v:Value) (W:World):(Instr.typeAssert (.iface 286 v) 126 305 true).run Tryz.prog W= .ok (.tuple #[.pointer none,.bool false]) W:=by kernel_rfl
theorem tk_enum_307 (v:Value) (W:World):(Instr.typeAssert (.iface 286 v) 126 307 true).run Tryz.prog W= .ok (.tuple #[.pointer none,.bool false]) W:=by kernel_rfl
theorem tk_enum_309 (v:Value) (W:World):(Instr.typeAssert (.iface 286 v) 126 309 true).run Tryz.prog W= .ok (.tuple #[.pointer none,.bool false]) W:=by kernel_rfl
theorem tk_enum_275 (v:Value) (W:World):(Instr.typeAssert (.iface 286 v) 126 275 true).run Tryz.prog W= .ok (.tuple #[.pointer none,.bool false]) W:=by kernel_rfl
theorem tk_enum_187 (v:Value) (W:World):(Instr.typeAssert (.iface 286 v) 126 187 true).run Tryz.prog W= .ok (.tuple #[.pointer none,.bool false]) W:=by kernel_rfl
theorem tk_enum_185 (v:Value) (W:World):(Instr.typeAssert (.iface 286 v) 126 185 true).run Tryz.prog W= .ok (.tuple #[.pointer none,.bool false]) W:=by kernel_rfl
theorem tk_enum_311 (v:Value) (W:World):(Instr.typeAssert (.iface 286 v) 126 311 true).run Tryz.prog W= .ok (.tuple #[.pointer none,.bool false]) W:=by kernel_rfl
theorem tk_enum_312 (v:Value) (W:World):(Instr.typeAssert (.iface 286 v) 126 312 true).run Tryz.prog W= .ok (.tuple #[.pointer none,.bool false]) W:=by kernel_rfl
theorem tk_enum_313 (v:Value) (W:World):(Instr.typeAssert (.iface 286 v) 126 313 true).run Tryz.prog W= .ok (.tuple #[.pointer none,.bool false]) W:=by kernel_rfl
theorem tk_enum_267 (v:Value) (W:World):(Instr.typeAssert (.iface 286 v) 126 267 true).run Tryz.prog W= .ok (.tuple #[.pointer none,.bool false]) W:=by kernel_rfl
theorem tk_enum_270 (v:Value) (W:World):(Instr.typeAssert (.iface 286 v) 126 270 true).run Tryz.prog W= .ok (.tuple #[.pointer none,.bool false]) W:=by kernel_rfl
theorem tk_enum_286 (v:Value) (W:World):(Instr.typeAssert (.iface 286 v) 126 286 true).run Tryz.prog W= .ok (.tuple #[v,.bool true]) W:=by kernel_rfl
theorem tk_const_190 (v:Value) (W:World):(Instr.typeAssert (.iface 281 v) 126 190 true).run Tryz.prog W= .ok (.tuple #[.pointer none,.bool false]) W:=by kernel_rfl
theorem tk_const_193 (v:Value) (W:World):(Instr.typeAssert (.iface 281 v) 126 193 true).run Tryz.prog W= .ok (.tuple #[.pointer none,.bool false]) W:=by kernel_rfl
theorem tk_const_196 (v:Value) (W:World):(Instr.typeAssert (.iface 281 v) 126 196 true).run Tryz.prog W= .ok (.tuple #[.pointer none,.bool false]) W:=by kernel_rfl
theorem tk_const_199 (v:Value) (W:World):(Instr.typeAssert (.iface 281 v) 126 199 true).run Tryz.prog W= .ok (.tuple #[.pointer none,.bool false]) W:=by kernel_rfl
theorem tk_const_201 (v:Value) (W:World):(Instr.typeAssert (.iface 281 v) 126 201 true).run Tryz.prog W= .ok (.tuple #[.pointer none,.bool false]) W:=by kernel_rfl
theorem tk_const_205 (v:Value) (W:World):(Instr.typeAssert (.iface 281 v) 126 205 true).run Tryz.prog W= .ok (.tuple #[.pointer none,.bool false]) W:=by kernel_rfl
theorem tk_const_208 (v:Value) (W:World):(Instr.typeAssert (.iface 281 v) 126 208 true).run Tryz.prog W= .ok (.tuple #[.pointer none,.bool false]) W:=by kernel_rfl
theorem tk_const_211 (v:Value) (W:World):(Instr.typeAssert (.iface 281 v) 126 211 true).run Tryz.prog W= .ok (.tuple #[.pointer none,.bool false]) W:=by kernel_rfl
theorem tk_const_215 (v:Value) (W:World):(Instr.typeAssert (.iface 281 v) 126 215 true).run Tryz.prog W= .ok (.tuple #[.pointer none,.bool false]) W:=by kernel_rfl
theorem tk_const_219 (v:Value) (W:World):(Instr.typeAssert (.iface 281 v) 126 219 true).run Tryz.prog W= .ok (.tuple #[.pointer none,.bool false]) W:=by kernel_rfl
theorem tk_const_222 (v:Value) (W:World):(Instr.typeAssert (.iface 281 v) 126 222 true).run Tryz.prog W= .ok (.tuple #[.pointer none,.bool false]) W:=by kernel_rfl
theorem tk_const_225 (v:Value) (W:World):(Instr.typeAssert (.iface 281 v) 126 225 true).run Tryz.prog W= .ok (.tuple #[.pointer none,.bool false]) W:=by kernel_rfl
theorem tk_const_298 (v:Value) (W:World):(Instr.typeAssert (.iface 281 v) 126 298 true).run Tryz.prog W= .ok (.tuple #[.pointer none,.bool false]) W:=by kernel_rfl
theorem tk_const_301 (v:Value) (W:World):(Instr.typeAssert (.iface 281 v) 126 301 true).run Tryz.prog W= .ok (.tuple #[.pointer none,.bool false]) W:=by kernel_rfl
theorem tk_const_303 (v:Value) (W:World):(Instr.typeAssert (.iface 281 v) 126 303 true).run Tryz.prog W= .ok (.tuple #[.pointer none,.bool false]) W:=by kernel_rfl
theorem tk_const_305 (v:Value) (W:World):(Instr.typeAssert (.iface 281 v) 126 305 true).run Tryz.prog W= .ok (.tuple #[.pointer none,.bool false]) W:=by kernel_rfl
theorem tk_const_307 (v:Value) (W:World):(Instr.typeAssert (.iface 281 v) 126 307 true).run Tryz.prog W= .ok (.tuple #[.pointer none,.bool false]) W:=by kernel_rfl
theorem tk_const_309 (v:Value) (W:World):(Instr.typeAssert (.iface 281 v) 126 309 true).run Tryz.prog W= .ok (.tuple #[.pointer none,.bool false]) W:=by kernel_rfl
theorem tk_const_275 (v:Value) (W:World):(Instr.typeAssert (.iface 281 v) 126 275 true).run Tryz.prog W= .ok (.tuple #[.pointer none,.bool false]) W:=by kernel_rfl
theorem tk_const_187 (v:Value) (W:World):(Instr.typeAssert (.iface 281 v) 126 187 true).run Tryz.prog W= .ok (.tuple #[.pointer none,.bool false]) W:=by kernel_rfl
theorem tk_const_185 (v:Value) (W:World):(Instr.typeAssert (.iface 281 v) 126 185 true).run Tryz.prog W= .ok (.tuple #[.pointer none,.bool false]) W:=by kernel_rfl
theorem tk_const_311 (v:Value) (W:World):(Instr.typeAssert (.iface 281 v) 126 311 true).run Tryz.prog W= .ok (.tuple #[.pointer none,.bool false]) W:=by kernel_rfl
theorem tk_const_312 (v:Value) (W:World):(Instr.typeAssert (.iface 281 v) 126 312 true).run Tryz.prog W= .ok (.tuple #[.pointer none,.bool false]) W:=by kernel_rfl
theorem tk_const_313 (v:Value) (W:World):(Instr.typeAssert (.iface 281 v) 126 313 true).run Tryz.prog W= .ok (.tuple #[.pointer none,.bool false]) W:=by kernel_rfl
theorem tk_const_267 (v:Value) (W:World):(Instr.typeAssert (.iface 281 v) 126 267 true).run Tryz.prog W= .ok (.tuple #[.pointer none,.bool false]) W:=by kernel_rfl
theorem tk_const_270 (v:Value) (W:World):(Instr.typeAssert (.iface 281 v) 126 270 true).run Tryz.prog W= .ok (.tuple #[.pointer none,.bool false]) W:=by kernel_rfl
theorem tk_const_286 (v:Value) (W:World):(Instr.typeAssert (.iface 281 v) 126 286 true).run Tryz.prog W= .ok (.tuple #[.pointer none,.bool false]) W:=by kernel_rfl
theorem tk_const_281 (v:Value) (W:World):(Instr.typeAssert (.iface 281 v) 126 281 true).run Tryz.prog W= .ok (.tuple #[v,.bool true]) W:=by kernel_rfl
theorem tk_format_190 (v:Value) (W:World):(Instr.typeAssert (.iface 289 v) 126 190 true).run Tryz.prog W= .ok (.tuple #[.pointer none,.bool false]) W:=by kernel_rfl
theorem tk_format_193 (v:Value) (W:World):(Instr.typeAssert (.iface 289 v) 126 193 true).run Tryz.prog W= .ok (.tuple #[.pointer none,.bool false]) W:=by kernel_rfl
theorem tk_format_196 (v:Value) (W:World):(Instr.typeAssert (.iface 289 v) 126 196 true).run Tryz.prog W= .ok (.tuple #[.pointer none,.bool false]) W:=by kernel_rfl
theorem tk_format_199 (v:Value) (W:World):(Instr.typeAssert (.iface 289 v) 126 199 true).run Tryz.prog W= .ok (.tuple #[.pointer none,.bool false]) W:=by kernel_rfl
theorem tk_format_201 (v:Value) (W:World):(Instr.typeAssert (.iface 289 v) 126 201 true).run Tryz.prog W= .ok (.tuple #[.pointer none,.bool false]) W:=by kernel_rfl
theorem tk_format_205 (v:Value) (W:World):(Instr.typeAssert (.iface 289 v) 126 205 true).run Tryz.prog W= .ok (.tuple #[.pointer none,.bool false]) W:=by kernel_rfl
theorem tk_format_208 (v:Value) (W:World):(Instr.typeAssert (.iface 289 v) 126 208 true).run Tryz.prog W= .ok (.tuple #[.pointer none,.bool false]) W:=by kernel_rfl
theorem tk_format_211 (v:Value) (W:World):(Instr.typeAssert (.iface 289 v) 126 211 true).run Tryz.prog W= .ok (.tuple #[.pointer none,.bool false]) W:=by kernel_rfl
theorem tk_format_215 (v:Value) (W:World):(Instr.typeAssert (.iface 289 v) 126 215 true).run Tryz.prog W= .ok (.tuple #[.pointer none,.bool false]) W:=by kernel_rfl
theorem tk_format_219 (v:Value) (W:World):(Instr.typeAssert (.iface 289 v) 126 219 true).run Tryz.prog W= .ok (.tuple #[.pointer none,.bool false]) W:=by kernel_rfl
theorem tk_format_222 (v:Value) (W:World):(Instr.typeAssert (.iface 289 v) 126 222 true).run Tryz.prog W= .ok (.tuple #[.pointer none,.bool false]) W:=by kernel_rfl
theorem tk_format_225 (v:Value) (W:World):(Instr.typeAssert (.iface 289 v) 126 225 true).run Tryz.prog W= .ok (.tuple #[.pointer none,.bool false]) W:=by kernel_rfl
theorem tk_format_298 (v:Value) (W:World):(Instr.typeAssert (.iface 289 v) 126 298 true).run Tryz.prog W= .ok (.tuple #[.pointer none,.bool false]) W:=by kernel_rfl
theorem tk_format_301 (v:Value) (W:World):(Instr.typeAssert (.iface 289 v) 126 301 true).run Tryz.prog W= .ok (.tuple #[.pointer none,.bool false]) W:=by kernel_rfl
theorem tk_format_303 (v:Value) (W:World):(Instr.typeAssert (.iface 289 v) 126 303 true).run Tryz.prog W= .ok (.tuple #[.pointer none,.bool false]) W:=by kernel_rfl
theorem tk_format_305 (v:Value) (W:World):(Instr.typeAssert (.iface 289 v) 126 305 true).run Tryz.prog W= .ok (.tuple #[.pointer none,.bool false]) W:=by kernel_rfl
theorem tk_format_307 (v:Value) (W:World):(Instr.typeAssert (.iface 289 v) 126 307 true).run Tryz.prog W= .ok (.tuple #[.pointer none,.bool false]) W:=by kernel_rfl
theorem tk_format_309 (v:Value) (W:World):(Instr.typeAssert (.iface 289 v) 126 309 true).run Tryz.prog W= .ok (.tuple #[.pointer none,.bool false]) W:=by kernel_rfl
theorem tk_format_275 (v:Value) (W:World):(Instr.typeAssert (.iface 289 v) 126 275 true).run Tryz.prog W= .ok (.tuple #[.pointer none,.bool false]) W:=by kernel_rfl
theorem tk_format_187 (v:Value) (W:World):(Instr.typeAssert (.iface 289 v) 126 187 true).run Tryz.prog W= .ok (.tuple #[.pointer none,.bool false]) W:=by kernel_rfl
theorem tk_format_185 (v:Value) (W:World):(Instr.typeAssert (.iface 289 v) 126 185 true).run Tryz.prog W= .ok (.tuple #[.pointer none,.bool false]) W:=by kernel_rfl
theorem tk_format_311 (v:Value) (W:World):(Instr.typeAssert (.iface 289 v) 126 311 true).run Tryz.prog W= .ok (.tuple #[.pointer none,.bool false]) W:=by kernel_rfl
theorem tk_format_312 (v:Value) (W:World):(Instr.typeAssert (.iface 289 v) 126 312 true).run Tryz.prog W= .ok (.tuple #[.pointer none,.bool false]) W:=by kernel_rfl
theorem tk_format_313 (v:Value) (W:World):(Instr.typeAssert (.iface 289 v) 126 313 true).run Tryz.prog W= .ok (.tuple #[.pointer none,.bool false]) W:=by kernel_rfl
theorem tk_format_267 (v:Value) (W:World):(Instr.typeAssert (.iface 289 v) 126 267 true).run Tryz.prog W= .ok (.tuple #[.pointer none,.bool false]) W:=by kernel_rfl
theorem tk_format_270 (v:Value) (W:World):(Instr.typeAssert (.iface 289 v) 126 270 true).run Tryz.prog W= .ok (.tuple #[.pointer none,.bool false]) W:=by kernel_rfl
theorem tk_format_286 (v:Value) (W:World):(Instr.typeAssert (.iface 289 v) 126 286 true).run Tryz.prog W= .ok (.tuple #[.pointer none,.bool false]) W:=by kernel_rfl
theorem tk_format_281 (v:Value) (W:World):(Instr.typeAssert (.iface 289 v) 126 281 true).run Tryz.prog W= .ok (.tuple #[.pointer none,.bool false]) W:=by kernel_rfl
theorem tk_format_289 (v:Value) (W:World):(Instr.typeAssert (.iface 289 v) 126 289 true).run Tryz.prog W= .ok (.tuple #[v,.bool true]) W:=by kernel_rfl
theorem tk_pattern_190 (v:Value) (W:World):(Instr.typeAssert (.iface 315 v) 126 190 true).run Tryz.prog W= .ok (.tuple #[.pointer none,.bool false]) W:=by kernel_rfl
theorem tk_pattern_193 (v:Value) (W:World):(Instr.typeAssert (.iface 315 v) 126 193 true).run Tryz.prog W= .ok (.tuple #[.pointer none,.bool false]) W:=by kernel_rfl
theorem tk_pattern_196 (v:Value) (W:World):(Instr.typeAssert (.iface 315 v) 126 196 true).run Tryz.prog W= .ok (.tuple #[.pointer none,.bool false]) W:=by kernel_rfl
theorem tk_pattern_199 (v:Value) (W:World):(Instr.typeAssert (.iface 315 v) 126 199 true).run Tryz.prog W= .ok (.tuple #[.pointer none,.bool false]) W:=by kernel_rfl
theorem tk_pattern_201 (v:Value) (W:World):(Instr.typeAssert (.iface 315 v) 126 201 true).run Tryz.prog W= .ok (.tuple #[.pointer none,.bool false]) W:=by kernel_rfl
theorem tk_pattern_205 (v:Value) (W:World):(Instr.typeAssert (.iface 315 v) 126 205 true).run Tryz.prog W= .ok (.tuple #[.pointer none,.bool false]) W:=by kernel_rfl
theorem tk_pattern_208 (v:Value) (W:World):(Instr.typeAssert (.iface 315 v) 126 208 true).run Tryz.prog W= .ok (.tuple #[.pointer none,.bool false]) W:=by kernel_rfl
theorem tk_pattern_211 (v:Value) (W:World):(Instr.typeAssert (.iface 315 v) 126 211 true).run Tryz.prog W= .ok (.tuple #[.pointer none,.bool false]) W:=by kernel_rfl
theorem tk_pattern_215 (v:Value) (W:World):(Instr.typeAssert (.iface 315 v) 126 215 true).run Tryz.prog W= .ok (.tuple #[.pointer none,.bool false]) W:=by kernel_rfl
theorem tk_pattern_219 (v:Value) (W:World):(Instr.typeAssert (.iface 315 v) 126 219 true).run Tryz.prog W= .ok (.tuple #[.pointer none,.bool false]) W:=by kernel_rfl
theorem tk_pattern_222 (v:Value) (W:World):(Instr.typeAssert (.iface 315 v) 126 222 true).run Tryz.prog W= .ok (.tuple #[.pointer none,.bool false]) W:=by kernel_rfl
theorem tk_pattern_225 (v:Value) (W:World):(Instr.typeAssert (.iface 315 v) 126 225 true).run Tryz.prog W= .ok (.tuple #[.pointer none,.bool false]) W:=by kernel_rfl
theorem tk_pattern_298 (v:Value) (W:World):(Instr.typeAssert (.iface 315 v) 126 298 true).run Tryz.prog W= .ok (.tuple #[.pointer none,.bool false]) W:=by kernel_rfl
theorem tk_pattern_301 (v:Value) (W:World):(Instr.typeAssert (.iface 315 v) 126 301 true).run Tryz.prog W= .ok (.tuple #[.pointer none,.bool false]) W:=by kernel_rfl
theorem tk_pattern_303 (v:Value) (W:World):(Instr.typeAssert (.iface 315 v) 126 303 true).run Tryz.prog W= .ok (.tuple #[.pointer none,.bool false]) W:=by kernel_rfl
theorem tk_pattern_305 (v:Value) (W:World):(Instr.typeAssert (.iface 315 v) 126 305 true).run Tryz.prog W= .ok (.tuple #[.pointer none,.bool false]) W:=by kernel_rfl
theorem tk_pattern_307 (v:Value) (W:World):(Instr.typeAssert (.iface 315 v) 126 307 true).run Tryz.prog W= .ok (.tuple #[.pointer none,.bool false]) W:=by kernel_rfl
theorem tk_pattern_309 (v:Value) (W:World):(Instr.typeAssert (.iface 315 v) 126 309 true).run Tryz.prog W= .ok (.tuple #[.pointer none,.bool false]) W:=by kernel_rfl
theorem tk_pattern_275 (v:Value) (W:World):(Instr.typeAssert (.iface 315 v) 126 275 true).run Tryz.prog W= .ok (.tuple #[.pointer none,.bool false]) W:=by kernel_rfl
theorem tk_pattern_187 (v:Value) (W:World):(Instr.typeAssert (.iface 315 v) 126 187 true).run Tryz.prog W= .ok (.tuple #[.pointer none,.bool false]) W:=by kernel_rfl
theorem tk_pattern_185 (v:Value) (W:World):(Instr.typeAssert (.iface 315 v) 126 185 true).run Tryz.prog W= .ok (.tuple #[.pointer none,.bool false]) W:=by kernel_rfl
theorem tk_pattern_311 (v:Value) (W:World):(Instr.typeAssert (.iface 315 v) 126 311 true).run Tryz.prog W= .ok (.tuple #[.pointer none,.bool false]) W:=by kernel_rfl
theorem tk_pattern_312 (v:Value) (W:World):(Instr.typeAssert (.iface 315 v) 126 312 true).run Tryz.prog W= .ok (.tuple #[.pointer none,.bool false]) W:=by kernel_rfl
theorem tk_pattern_313 (v:Value) (W:World):(Instr.typeAssert (.iface 315 v) 126 313 true).run Tryz.prog W= .ok (.tuple #[.pointer none,.bool false]) W:=by kernel_rfl
theorem tk_pattern_267 (v:Value) (W:World):(Instr.typeAssert (.iface 315 v) 126 267 true).run Tryz.prog W= .ok (.tuple #[.pointer none,.bool false]) W:=by kernel_rfl
theorem tk_pattern_270 (v:Value) (W:World):(Instr.typeAssert (.iface 315 v) 126 270 true).run Tryz.prog W= .ok (.tuple #[.pointer none,.bool false]) W:=by kernel_rfl
theorem tk_pattern_286 (v:Value) (W:World):(Instr.typeAssert (.iface 315 v) 126 286 true).run Tryz.prog W= .ok (.tuple #[.pointer none,.bool false]) W:=by kernel_rfl
theorem tk_pattern_281 (v:Value) (W:World):(Instr.typeAssert (.iface 315 v) 126 281 true).run Tryz.prog W= .ok (.tuple #[.pointer none,.bool false]) W:=by kernel_rfl
theorem tk_pattern_289 (v:Value) (W:World):(Instr.typeAssert (.iface 315 v) 126 289 true).run Tryz.prog W= .ok (.tuple #[.pointer none,.bool false]) W:=by kernel_rfl
theorem tk_pattern_314 (v:Value) (W:World):(Instr.typeAssert (.iface 315 v) 126 314 true).run Tryz.prog W= .ok (.tuple #[.pointer none,.bool false]) W:=by kernel_rfl
theorem tk_pattern_315 (v:Value) (W:World):(Instr.typeAssert (.iface 315 v) 126 315 true).run Tryz.prog W= .ok (.tuple #[v,.bool true]) W:=by kernel_rfl
section
attribute [local go_sem] tk_enum_190 tk_enum_193 tk_enum_196 tk_enum_199 tk_enum_201 tk_enum_205 tk_enum_208 tk_enum_211 tk_enum_215 tk_enum_219 tk_enum_222 tk_enum_225 tk_enum_298 tk_enum_301 tk_enum_303 tk_enum_305 tk_enum_307 tk_enum_309 tk_enum_275 tk_enum_187 tk_enum_185 tk_enum_311 tk_enum_312 tk_enum_313 tk_enum_267 tk_enum_270 tk_enum_286
theorem count_enum (w:World) (gk:Nat):
  Calls Tryz.prog 102 #[.iface 286 (.pointer (some ⟨gk,0,none⟩))] w (rb (.tuple #[eS,i0,i0,bF]) w):=by
 have HK:=st0_ w
 go_enter Tryz.func102,Tryz.ntmps102
 go_wp2_with fail
 ((try simp only [Exit.inBlock,Exit.then]);refine bodyPost_ret (results_tmp4 rfl _ _ _) rfl ?_)
 exact ⟨rfl,be_⟩
theorem plain_enum (w:World) (gk:Nat):
  Calls Tryz.prog 103 #[.iface 286 (.pointer (some ⟨gk,0,none⟩))] w (rb (.string ⟨#[69,110,117,109]⟩) w):=by
 have HK:=st0_ w
 go_enter Tryz.func103,Tryz.ntmps103
 go_wp2_with fail
 go_ret
 exact ⟨rfl,be_⟩
theorem path_enum (w:World) (gk:Nat):
  Calls Tryz.prog 258 #[.pointer (some ⟨gk,0,none⟩)] w fun e w'=>∃ A c,e= .returned (.slice A 1 c)∧1≤c∧Kd.C Kd.string w' A 1 ([⟨#[101,110,117,109]⟩]:List ByteArray)∧Below w.heap.size w w':=by
 have HK:=st0_ w
 go_enter Tryz.func258,Tryz.ntmps258
 go_wp2_with (first|((with_reducible refine gd_ 3 ?_);refine nw_ (row #[.string ⟨#[101,110,117,109]⟩] 9) (fun b=> .slice (some ⟨b,0,none⟩) 1 1) ?_;clear HK;intro g3 wb3 HK Gg3;skip))
 go_ret
 exact ⟨_,_,rfl,Nat.le_refl _,reads_one (enc:=Value.string) HK.out.k.1,HK.out.b⟩
theorem kind_enum (w:World) (gk:Nat):
  Calls Tryz.prog 56 #[.iface 286 (.pointer (some ⟨gk,0,none⟩))] w (rb (.tuple #[.string ⟨#[69,110,117,109]⟩,eS,nilS,nilS]) w):=by
 have HK:=st0_ w
 go_enter Tryz.func56,Tryz.ntmps56
 go_wp2_with (first|((first|((with_reducible refine gd_ 151 ?_);refine cl_ #[.iface 286 (.pointer (some ⟨gk,0,none⟩))] (.tuple #[eS,i0,i0,bF]) Tryz.func102 (count_enum _ gk) ?_)|((with_reducible refine gd_ 162 ?_);refine cl_ #[.iface 286 (.pointer (some ⟨gk,0,none⟩))] (.string ⟨#[69,110,117,109]⟩) Tryz.func103 (plain_enum _ gk) ?_));intro wc151 HK1;replace HK:=asd_ HK1;clear HK1;skip))
 ((try simp only [Exit.inBlock,Exit.then]);refine bodyPost_ret (results_tmp4 rfl _ _ _) rfl ?_)
 exact ⟨rfl,be_⟩
end
section
attribute [local go_sem] tk_const_190 tk_const_193 tk_const_196 tk_const_199 tk_const_201 tk_const_205 tk_const_208 tk_const_211 tk_const_215 tk_const_219 tk_const_222 tk_const_225 tk_const_298 tk_const_301 tk_const_303 tk_const_305 tk_const_307 tk_const_309 tk_const_275 tk_const_187 tk_const_185 tk_const_311 tk_const_312 tk_const_313 tk_const_267 tk_const_270 tk_const_286 tk_const_281
theorem count_const (w:World) (gk:Nat):
  Calls Tryz.prog 102 #[.iface 281 (.pointer (some ⟨gk,0,none⟩))] w (rb (.tuple #[eS,i0,i0,bF]) w):=by
 have HK:=st0_ w
 go_enter Tryz.func102,Tryz.ntmps102
 go_wp2_with fail
 ((try simp only [Exit.inBlock,Exit.then]);refine bodyPost_ret (results_tmp4 rfl _ _ _) rfl ?_)
 exact ⟨rfl,be_⟩
theorem plain_const (w:World) (gk:Nat):
  Calls Tryz.prog 103 #[.iface 281 (.pointer (some ⟨gk,0,none⟩))] w (rb (.string ⟨#[67,111,110,115,116]⟩) w):=by
 have HK:=st0_ w
 go_enter Tryz.func103,Tryz.ntmps103
 go_wp2_with fail
 go_ret
 exact ⟨rfl,be_⟩
theorem path_const (w:World) (gk:Nat):
  Calls Tryz.prog 257 #[.pointer (some ⟨gk,0,none⟩)] w fun e w'=>∃ A c,e= .returned (.slice A 1 c)∧1≤c∧Kd.C Kd.string w' A 1 ([⟨#[99,111,110,115,116]⟩]:List ByteArray)∧Below w.heap.size w w':=by
 have HK:=st0_ w
 go_enter Tryz.func257,Tryz.ntmps257
 go_wp2_with (first|((with_reducible refine gd_ 3 ?_);refine nw_ (row #[.string ⟨#[99,111,110,115,116]⟩] 9) (fun b=> .slice (some ⟨b,0,none⟩) 1 1) ?_;clear HK;intro g3 wb3 HK Gg3;skip))
 go_ret
 exact ⟨_,_,rfl,Nat.le_refl _,reads_one (enc:=Value.string) HK.out.k.1,HK.out.b⟩
theorem kind_const (w:World) (gk:Nat):
  Calls Tryz.prog 56 #[.iface 281 (.pointer (some ⟨gk,0,none⟩))] w (rb (.tuple #[.string ⟨#[67,111,110,115,116]⟩,eS,nilS,nilS]) w):=by
 have HK:=st0_ w
 go_enter Tryz.func56,Tryz.ntmps56
 go_wp2_with (first|((first|((with_reducible refine gd_ 151 ?_);refine cl_ #[.iface 281 (.pointer (some ⟨gk,0,none⟩))] (.tuple #[eS,i0,i0,bF]) Tryz.func102 (count_const _ gk) ?_)|((with_reducible refine gd_ 162 ?_);refine cl_ #[.iface 281 (.pointer (some ⟨gk,0,none⟩))] (.string ⟨#[67,111,110,115,116]⟩) Tryz.func103 (plain_const _ gk) ?_));intro wc151 HK1;replace HK:=asd_ HK1;clear HK1;skip))
 ((try simp only [Exit.inBlock,Exit.then]);refine bodyPost_ret (results_tmp4 rfl _ _ _) rfl ?_)
 exact ⟨rfl,be_⟩
end
section
attribute [local go_sem] tk_format_190 tk_format_193 tk_format_196 tk_format_199 tk_format_201 tk_format_205 tk_format_208 tk_format_211 tk_format_215 tk_format_219 tk_format_222 tk_format_225 tk_format_298 tk_format_301 tk_format_303 tk_format_305 tk_format_307 tk_format_309 tk_format_275 tk_format_187 tk_format_185 tk_format_311 tk_format_312 tk_format_313 tk_format_267 tk_format_270 tk_format_286 tk_format_281 tk_format_289
theorem count_format (w:World) (gk:Nat):
  Calls Tryz.prog 102 #[.iface 289 (.pointer (some ⟨gk,0,none⟩))] w (rb (.tuple #[eS,i0,i0,bF]) w):=by
 have HK:=st0_ w
 go_enter Tryz.func102,Tryz.ntmps102
 go_wp2_with fail
 ((try simp only [Exit.inBlock,Exit.then]);refine bodyPost_ret (results_tmp4 rfl _ _ _) rfl ?_)
 exact ⟨rfl,be_⟩
theorem plain_format (w:World) (gk:Nat):
  Calls Tryz.prog 103 #[.iface 289 (.pointer (some ⟨gk,0,none⟩))] w (rb (.string ⟨#[70,111,114,109,97,116]⟩) w):=by
 have HK:=st0_ w
 go_enter Tryz.func103,Tryz.ntmps103
 go_wp2_with fail
 go_ret
 exact ⟨rfl,be_⟩
theorem path_format (w:World) (gk:Nat):
  Calls Tryz.prog 259 #[.pointer (some ⟨gk,0,none⟩)] w fun e w'=>∃ A c,e= .returned (.slice A 1 c)∧1≤c∧Kd.C Kd.string w' A 1 ([⟨#[102,111,114,109,97,116]⟩]:List ByteArray)∧Below w.heap.size w w':=by
 have HK:=st0_ w
 go_enter Tryz.func259,Tryz.ntmps259
 go_wp2_with (first|((with_reducible refine gd_ 3 ?_);refine nw_ (row #[.string ⟨#[102,111,114,109,97,116]⟩] 9) (fun b=> .slice (some ⟨b,0,none⟩) 1 1) ?_;clear HK;intro g3 wb3 HK Gg3;skip))
 go_ret
 exact ⟨_,_,rfl,Nat.le_refl _,reads_one (enc:=Value.string) HK.out.k.1,HK.out.b⟩
theorem kind_format (w:World) (gk:Nat):
  Calls Tryz.prog 56 #[.iface 289 (.pointer (some ⟨gk,0,none⟩))] w (rb (.tuple #[.string ⟨#[70,111,114,109,97,116]⟩,eS,nilS,nilS]) w):=by
 have HK:=st0_ w
 go_enter Tryz.func56,Tryz.ntmps56
 go_wp2_with (first|((first|((with_reducible refine gd_ 151 ?_);refine cl_ #[.iface 289 (.pointer (some ⟨gk,0,none⟩))] (.tuple #[eS,i0,i0,bF]) Tryz.func102 (count_format _ gk) ?_)|((with_reducible refine gd_ 162 ?_);refine cl_ #[.iface 289 (.pointer (some ⟨gk,0,none⟩))] (.string ⟨#[70,111,114,109,97,116]⟩) Tryz.func103 (plain_format _ gk) ?_));intro wc151 HK1;replace HK:=asd_ HK1;clear HK1;skip))
 ((try simp only [Exit.inBlock,Exit.then]);refine bodyPost_ret (results_tmp4 rfl _ _ _) rfl ?_)
 exact ⟨rfl,be_⟩
end
section
attribute [local go_sem] tk_pattern_190 tk_pattern_193 tk_pattern_196 tk_pattern_199 tk_pattern_201 tk_pattern_205 tk_pattern_208 tk_pattern_211 tk_pattern_215 tk_pattern_219 tk_pattern_222 tk_pattern_225 tk_pattern_298 tk_pattern_301 tk_pattern_303 tk_pattern_305 tk_pattern_307 tk_pattern_309 tk_pattern_275 tk_pattern_187 tk_pattern_185 tk_pattern_311 tk_pattern_312 tk_pattern_313 tk_pattern_267 tk_pattern_270 tk_pattern_286 tk_pattern_281 tk_pattern_289 tk_pattern_314 tk_pattern_315
theorem count_pattern (w:World) (gk:Nat):
  Calls Tryz.prog 102 #[.iface 315 (.pointer (some ⟨gk,0,none⟩))] w (rb (.tuple #[eS,i0,i0,bF]) w):=by
 have HK:=st0_ w
 go_enter Tryz.func102,Tryz.ntmps102
 go_wp2_with fail
 ((try simp only [Exit.inBlock,Exit.then]);refine bodyPost_ret (results_tmp4 rfl _ _ _) rfl ?_)
 exact ⟨rfl,be_⟩
theorem plain_pattern (w:World) (gk:Nat):
  Calls Tryz.prog 103 #[.iface 315 (.pointer (some ⟨gk,0,none⟩))] w (rb (.string ⟨#[80,97,116,116,101,114,110]⟩) w):=by
 have HK:=st0_ w
 go_enter Tryz.func103,Tryz.ntmps103
 go_wp2_with fail
 go_ret
 exact ⟨rfl,be_⟩
theorem path_pattern (w:World) (gk:Nat):
  Calls Tryz.prog 270 #[.pointer (some ⟨gk,0,none⟩)] w fun e w'=>∃ A c,e= .returned (.slice A 1 c)∧1≤c∧Kd.C Kd.string w' A 1 ([⟨#[112,97,116,116,101,114,110]⟩]:List ByteArray)∧Below w.heap.size w w':=by
 have HK:=st0_ w
 go_enter Tryz.func270,Tryz.ntmps270
 go_wp2_with (first|((with_reducible refine gd_ 3 ?_);refine nw_ (row #[.string ⟨#[112,97,116,116,101,114,110]⟩] 9) (fun b=> .slice (some ⟨b,0,none⟩) 1 1) ?_;clear HK;intro g3 wb3 HK Gg3;skip))
 go_ret
 exact ⟨_,_,rfl,Nat.le_refl _,reads_one (enc:=Value.string) HK.out.k.1,HK.out.b⟩
theorem kind_pattern (w:World) (gk:Nat):
  Calls Tryz.prog 56 #[.iface 315 (.pointer (some ⟨gk,0,none⟩))] w (rb (.tuple #[.string ⟨#[80,97,116,116,101,114,110]⟩,eS,nilS,nilS]) w):=by
 have HK:=st0_ w
 go_enter Tryz.func56,Tryz.ntmps56
 go_wp2_with (first|((first|((with_reducible refine gd_ 151 ?_);refine cl_ #[.iface 315 (.pointer (some ⟨gk,0,none⟩))] (.tuple #[eS,i0,i0,bF]) Tryz.func102 (count_pattern _ gk) ?_)|((with_reducible refine gd_ 162 ?_);refine cl_ #[.iface 315 (.pointer (some ⟨gk,0,none⟩))] (.string ⟨#[80,97,116,116,101,114,110]⟩) Tryz.func103 (plain_pattern _ gk) ?_));intro wc151 HK1;replace HK:=asd_ HK1;clear HK1;skip))
 ((try simp only [Exit.inBlock,Exit.then]);refine bodyPost_ret (results_tmp4 rfl _ _ _) rfl ?_)
 exact ⟨rfl,be_⟩
end
end Go.Proofs.YtkphbhncpdcbeaaGreatDoor.J
