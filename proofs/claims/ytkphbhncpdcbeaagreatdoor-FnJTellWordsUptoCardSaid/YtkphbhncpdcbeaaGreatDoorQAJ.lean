/- Part. -/
import Derived.Test.YtkphbhncpdcbeaaGreatDoorQAI
set_option linter.unusedVariables false
set_option linter.unusedSimpArgs false
namespace Go.Proofs.YtkphbhncpdcbeaaGreatDoor.J
open YtkphbhncpdcbeaaGreatDoorW Go.RowKit YtkphbhncpdcbeaaGreatDoorW.PrintWords YtkphbhncpdcbeaaGreatDoorW.PrintLast YtkphbhncpdcbeaaGreatDoorW.PrintMore PJT
theorem cel_ {W:World} {g:Nat} {t:TypeId} {cs:Array Value} (h:W.heap[g]? =some (.cells cs t (0,0))) (j:Nat):W.cell? ⟨g,j,none⟩=cs[j]? :=blk_cell h j
theorem fro_ {W:World} {g:Nat} {t:TypeId} {cs:Array Value} (h:W.heap[g]? =some (.cells cs t (0,0))) (j:Nat):W.frozen? ⟨g,j,none⟩=false:=blk_frozen h j
theorem cA_ {w W:World} {l:List Blk} {g:Nat} {t:TypeId} {cs:Array Value} (h:At w l W) (k:Nat) (hk:l[k]? =some (.b g (row cs t)):=by exact rfl) (j:Nat):W.cell? ⟨g,j,none⟩=cs[j]? :=blk_cell (h.k.get hk).1 j
theorem cE_ {w W:World} {l:List Blk} {g:Nat} {t:TypeId} {cs:Array Value} (h:Aside0 (At w l W)) (k:Nat) (hk:l[k]? =some (.b g (row cs t)):=by exact rfl) (j:Nat):W.cell? ⟨g,j,none⟩=cs[j]? :=blk_cell (h.out.k.get hk).1 j
theorem fE_ {w W:World} {l:List Blk} {g:Nat} {t:TypeId} {cs:Array Value} (h:Aside0 (At w l W)) (k:Nat) (hk:l[k]? =some (.b g (row cs t)):=by exact rfl) (j:Nat):W.frozen? ⟨g,j,none⟩=false:=blk_frozen (h.out.k.get hk).1 j
theorem at_ {p:Prop} (h:p:=by repeat (first|exact HK.out|apply At.drewN|apply At.drew|apply At.alloc)):p:=h
theorem be_ {p:Prop} (h:p:=by repeat (first|exact HK.out.b|apply below_alloc|apply pw_below_drewN|apply below_drew1)):p:=h
theorem gs_ {p:Prop} (h:p:=by first|(go_simp;done)|(go_simp;rfl)):p:=h
theorem ar_ {p:Prop} (h:p:=by (try simp only [List.map_toArray,List.map_cons,List.map_nil]);first|done|rfl):p:=h
theorem kr_ {p:Prop} (h:p:=by kernel_rfl):p:=h
def bts (n m:Nat):Array Bool:=((List.range n).map m.testBit).toArray
theorem bts_zero (n:Nat):Array.replicate n false=bts n 0:=by
 unfold bts
 have h:(List.range n).map (Nat.testBit 0)=List.replicate n false:=by
  refine List.eq_replicate_iff.2 ⟨by simp,fun b hb=> ?_⟩
  obtain ⟨i,_,rfl⟩:=List.mem_map.1 hb
  exact Nat.zero_testBit i
 rw [h]
 rfl
section
variable {P:Program} {ops:Array Oper} {Q:Exit→Act→World→Prop} {md:Region.Mode} {ds:List Nat} {S:World→Prop}
theorem st_ {id:Nat} {a:Act} {w w0:World} {l:List Blk} (n:Nat) (S:World→Prop) (ds:List Nat) (hS:At w0 l w.drew→S w.drew) (h:S w.drew→wpAnyLast P .any ops Q S ds n (bts n 0) a w.drew)
  (H:At w0 l w.drew:=by first|exact At.drew HK.out|(apply At.drew;repeat (first|exact HK.out|apply At.drewN|apply At.drew|apply At.alloc))) (hm:P.follows .mixedOrders=true:=by kernel_rfl) (hn:ops.size=n:=by exact rfl):(Code.region id ops true).wp P Q a w:=
 start_ (bts n 0) hm hn (bts_zero n) (hS H) h
theorem pu_ {n m fuel:Nat} {a a':Act} {w:World} {oi:Oper} {v:Value} (i N m':Nat) (h:wpAnyLast P md ops Q S ds fuel (bts n m') a' w) (hi:ops[i]? =some oi:=by exact rfl) (hN:oi.dst=some N:=by exact rfl) (hc:anyB md ops (bts n m) (bts n m') i=true:=by kernel_rfl)
  (hw:Region.wanted oi (yielded ops a.tmps)=true:=by rfl) (hy:∀ w,(execOp a.eval oi).run P w= .ok (.value v) w:=by (intro w';go_simp;with_reducible rfl)) (ha:a.put (some N) v=a':=by (simp only [Act.put,List.setIfInBounds_toArray,List.set_cons_zero,List.set_cons_succ,i64_w,i32_w];rfl))
  (hQ:∀ c a w,Q (.panic c) (a.put oi.dst v) w→Q (.panic c) a w:=by exact fun _ _ _ h=>h):wpAnyLast P md ops Q S ds (fuel + 1) (bts n m) a w:=
 pure_ (bts n m') hi hN hc hQ (Or.inl ⟨hw,hy⟩) ha h
theorem pn_ {n m fuel:Nat} {a a':Act} {w:World} {oi:Oper} (i N m':Nat) (h:wpAnyLast P md ops Q S ds fuel (bts n m') a' w) (hi:ops[i]? =some oi:=by exact rfl) (hN:oi.dst=some N:=by exact rfl) (hc:anyB md ops (bts n m) (bts n m') i=true:=by kernel_rfl)
  (hw:Region.wanted oi (yielded ops a.tmps)=false:=by rfl) (ha:a.put (some N) undef=a':=by (simp only [Act.put,List.setIfInBounds_toArray,List.set_cons_zero,List.set_cons_succ,i64_w,i32_w];rfl))
  (hQ:∀ c a w,Q (.panic c) (a.put oi.dst undef) w→Q (.panic c) a w:=by exact fun _ _ _ h=>h):wpAnyLast P md ops Q S ds (fuel + 1) (bts n m) a w:=
 pure_ (bts n m') hi hN hc hQ (Or.inr ⟨hw,rfl⟩) ha h
theorem ta3_ {n m fuel:Nat} {a a':Act} {w:World} {oi:Oper} {v:Value} (i N m':Nat) (hS:S w) (h:wpAnyLast P md ops Q S ds fuel (bts n m') a' w) (hi:ops[i]? =some oi:=by exact rfl) (hN:oi.dst=some N:=by exact rfl) (hc:takeB md ops ds (bts n m) (bts n m') i=true:=by kernel_rfl)
  (hw:Region.wanted oi (yielded ops a.tmps)=true:=by rfl) (hy:∀ w,S w→(execOp a.eval oi).run P w= .ok (.value v) w:=by (rintro w' ⟨s0,s1,s2⟩;go_simp;with_reducible rfl)) (ha:a.put (some N) v=a':=by (simp only [Act.put,List.setIfInBounds_toArray,List.set_cons_zero,List.set_cons_succ,i64_w,i32_w];rfl))
  (hQ:∀ c a w,Q (.panic c) (a.put oi.dst v) w→Q (.panic c) a w:=by exact fun _ _ _ h=>h):wpAnyLast P md ops Q S ds (fuel + 1) (bts n m) a w:=
 take_ (bts n m') hi hN hc hQ (Or.inl ⟨hw,hy⟩) hS ha h
theorem ta4_ {n m fuel:Nat} {a a':Act} {w:World} {oi:Oper} {v:Value} (i N m':Nat) (hS:S w) (h:wpAnyLast P md ops Q S ds fuel (bts n m') a' w) (hi:ops[i]? =some oi:=by exact rfl) (hN:oi.dst=some N:=by exact rfl) (hc:takeB md ops ds (bts n m) (bts n m') i=true:=by kernel_rfl)
  (hw:Region.wanted oi (yielded ops a.tmps)=true:=by rfl) (hy:∀ w,S w→(execOp a.eval oi).run P w= .ok (.value v) w:=by (rintro w' ⟨s0,s1,s2,s3⟩;go_simp;with_reducible rfl)) (ha:a.put (some N) v=a':=by (simp only [Act.put,List.setIfInBounds_toArray,List.set_cons_zero,List.set_cons_succ,i64_w,i32_w];rfl))
  (hQ:∀ c a w,Q (.panic c) (a.put oi.dst v) w→Q (.panic c) a w:=by exact fun _ _ _ h=>h):wpAnyLast P md ops Q S ds (fuel + 1) (bts n m) a w:=
 take_ (bts n m') hi hN hc hQ (Or.inl ⟨hw,hy⟩) hS ha h
theorem ta5_ {n m fuel:Nat} {a a':Act} {w:World} {oi:Oper} {v:Value} (i N m':Nat) (hS:S w) (h:wpAnyLast P md ops Q S ds fuel (bts n m') a' w) (hi:ops[i]? =some oi:=by exact rfl) (hN:oi.dst=some N:=by exact rfl) (hc:takeB md ops ds (bts n m) (bts n m') i=true:=by kernel_rfl)
  (hw:Region.wanted oi (yielded ops a.tmps)=true:=by rfl) (hy:∀ w,S w→(execOp a.eval oi).run P w= .ok (.value v) w:=by (rintro w' ⟨s0,s1,s2,s3,s4⟩;go_simp;with_reducible rfl)) (ha:a.put (some N) v=a':=by (simp only [Act.put,List.setIfInBounds_toArray,List.set_cons_zero,List.set_cons_succ,i64_w,i32_w];rfl))
  (hQ:∀ c a w,Q (.panic c) (a.put oi.dst v) w→Q (.panic c) a w:=by exact fun _ _ _ h=>h):wpAnyLast P md ops Q S ds (fuel + 1) (bts n m) a w:=
 take_ (bts n m') hi hN hc hQ (Or.inl ⟨hw,hy⟩) hS ha h
theorem ta6_ {n m fuel:Nat} {a a':Act} {w:World} {oi:Oper} {v:Value} (i N m':Nat) (hS:S w) (h:wpAnyLast P md ops Q S ds fuel (bts n m') a' w) (hi:ops[i]? =some oi:=by exact rfl) (hN:oi.dst=some N:=by exact rfl) (hc:takeB md ops ds (bts n m) (bts n m') i=true:=by kernel_rfl)
  (hw:Region.wanted oi (yielded ops a.tmps)=true:=by rfl) (hy:∀ w,S w→(execOp a.eval oi).run P w= .ok (.value v) w:=by (rintro w' ⟨s0,s1,s2,s3,s4,s5⟩;go_simp;with_reducible rfl)) (ha:a.put (some N) v=a':=by (simp only [Act.put,List.setIfInBounds_toArray,List.set_cons_zero,List.set_cons_succ,i64_w,i32_w];rfl))
  (hQ:∀ c a w,Q (.panic c) (a.put oi.dst v) w→Q (.panic c) a w:=by exact fun _ _ _ h=>h):wpAnyLast P md ops Q S ds (fuel + 1) (bts n m) a w:=
 take_ (bts n m') hi hN hc hQ (Or.inl ⟨hw,hy⟩) hS ha h
theorem ta8_ {n m fuel:Nat} {a a':Act} {w:World} {oi:Oper} {v:Value} (i N m':Nat) (hS:S w) (h:wpAnyLast P md ops Q S ds fuel (bts n m') a' w) (hi:ops[i]? =some oi:=by exact rfl) (hN:oi.dst=some N:=by exact rfl) (hc:takeB md ops ds (bts n m) (bts n m') i=true:=by kernel_rfl)
  (hw:Region.wanted oi (yielded ops a.tmps)=true:=by rfl) (hy:∀ w,S w→(execOp a.eval oi).run P w= .ok (.value v) w:=by (rintro w' ⟨s0,s1,s2,s3,s4,s5,s6,s7⟩;go_simp;with_reducible rfl)) (ha:a.put (some N) v=a':=by (simp only [Act.put,List.setIfInBounds_toArray,List.set_cons_zero,List.set_cons_succ,i64_w,i32_w];rfl))
  (hQ:∀ c a w,Q (.panic c) (a.put oi.dst v) w→Q (.panic c) a w:=by exact fun _ _ _ h=>h):wpAnyLast P md ops Q S ds (fuel + 1) (bts n m) a w:=
 take_ (bts n m') hi hN hc hQ (Or.inl ⟨hw,hy⟩) hS ha h
theorem ta10_ {n m fuel:Nat} {a a':Act} {w:World} {oi:Oper} {v:Value} (i N m':Nat) (hS:S w) (h:wpAnyLast P md ops Q S ds fuel (bts n m') a' w) (hi:ops[i]? =some oi:=by exact rfl) (hN:oi.dst=some N:=by exact rfl) (hc:takeB md ops ds (bts n m) (bts n m') i=true:=by kernel_rfl)
  (hw:Region.wanted oi (yielded ops a.tmps)=true:=by rfl) (hy:∀ w,S w→(execOp a.eval oi).run P w= .ok (.value v) w:=by (rintro w' ⟨s0,s1,s2,s3,s4,s5,s6,s7,s8,s9⟩;go_simp;with_reducible rfl)) (ha:a.put (some N) v=a':=by (simp only [Act.put,List.setIfInBounds_toArray,List.set_cons_zero,List.set_cons_succ,i64_w,i32_w];rfl))
  (hQ:∀ c a w,Q (.panic c) (a.put oi.dst v) w→Q (.panic c) a w:=by exact fun _ _ _ h=>h):wpAnyLast P md ops Q S ds (fuel + 1) (bts n m) a w:=
 take_ (bts n m') hi hN hc hQ (Or.inl ⟨hw,hy⟩) hS ha h
theorem ta12_ {n m fuel:Nat} {a a':Act} {w:World} {oi:Oper} {v:Value} (i N m':Nat) (hS:S w) (h:wpAnyLast P md ops Q S ds fuel (bts n m') a' w) (hi:ops[i]? =some oi:=by exact rfl) (hN:oi.dst=some N:=by exact rfl) (hc:takeB md ops ds (bts n m) (bts n m') i=true:=by kernel_rfl)
  (hw:Region.wanted oi (yielded ops a.tmps)=true:=by rfl) (hy:∀ w,S w→(execOp a.eval oi).run P w= .ok (.value v) w:=by (rintro w' ⟨s0,s1,s2,s3,s4,s5,s6,s7,s8,s9,s10,s11⟩;go_simp;with_reducible rfl)) (ha:a.put (some N) v=a':=by (simp only [Act.put,List.setIfInBounds_toArray,List.set_cons_zero,List.set_cons_succ,i64_w,i32_w];rfl))
  (hQ:∀ c a w,Q (.panic c) (a.put oi.dst v) w→Q (.panic c) a w:=by exact fun _ _ _ h=>h):wpAnyLast P md ops Q S ds (fuel + 1) (bts n m) a w:=
 take_ (bts n m') hi hN hc hQ (Or.inl ⟨hw,hy⟩) hS ha h
theorem ta13_ {n m fuel:Nat} {a a':Act} {w:World} {oi:Oper} {v:Value} (i N m':Nat) (hS:S w) (h:wpAnyLast P md ops Q S ds fuel (bts n m') a' w) (hi:ops[i]? =some oi:=by exact rfl) (hN:oi.dst=some N:=by exact rfl) (hc:takeB md ops ds (bts n m) (bts n m') i=true:=by kernel_rfl)
  (hw:Region.wanted oi (yielded ops a.tmps)=true:=by rfl) (hy:∀ w,S w→(execOp a.eval oi).run P w= .ok (.value v) w:=by (rintro w' ⟨s0,s1,s2,s3,s4,s5,s6,s7,s8,s9,s10,s11,s12⟩;go_simp;with_reducible rfl)) (ha:a.put (some N) v=a':=by (simp only [Act.put,List.setIfInBounds_toArray,List.set_cons_zero,List.set_cons_succ,i64_w,i32_w];rfl))
  (hQ:∀ c a w,Q (.panic c) (a.put oi.dst v) w→Q (.panic c) a w:=by exact fun _ _ _ h=>h):wpAnyLast P md ops Q S ds (fuel + 1) (bts n m) a w:=
 take_ (bts n m') hi hN hc hQ (Or.inl ⟨hw,hy⟩) hS ha h
theorem ta14_ {n m fuel:Nat} {a a':Act} {w:World} {oi:Oper} {v:Value} (i N m':Nat) (hS:S w) (h:wpAnyLast P md ops Q S ds fuel (bts n m') a' w) (hi:ops[i]? =some oi:=by exact rfl) (hN:oi.dst=some N:=by exact rfl) (hc:takeB md ops ds (bts n m) (bts n m') i=true:=by kernel_rfl)
  (hw:Region.wanted oi (yielded ops a.tmps)=true:=by rfl) (hy:∀ w,S w→(execOp a.eval oi).run P w= .ok (.value v) w:=by (rintro w' ⟨s0,s1,s2,s3,s4,s5,s6,s7,s8,s9,s10,s11,s12,s13⟩;go_simp;with_reducible rfl)) (ha:a.put (some N) v=a':=by (simp only [Act.put,List.setIfInBounds_toArray,List.set_cons_zero,List.set_cons_succ,i64_w,i32_w];rfl))
  (hQ:∀ c a w,Q (.panic c) (a.put oi.dst v) w→Q (.panic c) a w:=by exact fun _ _ _ h=>h):wpAnyLast P md ops Q S ds (fuel + 1) (bts n m) a w:=
 take_ (bts n m') hi hN hc hQ (Or.inl ⟨hw,hy⟩) hS ha h
theorem ta15_ {n m fuel:Nat} {a a':Act} {w:World} {oi:Oper} {v:Value} (i N m':Nat) (hS:S w) (h:wpAnyLast P md ops Q S ds fuel (bts n m') a' w) (hi:ops[i]? =some oi:=by exact rfl) (hN:oi.dst=some N:=by exact rfl) (hc:takeB md ops ds (bts n m) (bts n m') i=true:=by kernel_rfl)
  (hw:Region.wanted oi (yielded ops a.tmps)=true:=by rfl) (hy:∀ w,S w→(execOp a.eval oi).run P w= .ok (.value v) w:=by (rintro w' ⟨s0,s1,s2,s3,s4,s5,s6,s7,s8,s9,s10,s11,s12,s13,s14⟩;go_simp;with_reducible rfl)) (ha:a.put (some N) v=a':=by (simp only [Act.put,List.setIfInBounds_toArray,List.set_cons_zero,List.set_cons_succ,i64_w,i32_w];rfl))
  (hQ:∀ c a w,Q (.panic c) (a.put oi.dst v) w→Q (.panic c) a w:=by exact fun _ _ _ h=>h):wpAnyLast P md ops Q S ds (fuel + 1) (bts n m) a w:=
 take_ (bts n m') hi hN hc hQ (Or.inl ⟨hw,hy⟩) hS ha h
theorem ta16_ {n m fuel:Nat} {a a':Act} {w:World} {oi:Oper} {v:Value} (i N m':Nat) (hS:S w) (h:wpAnyLast P md ops Q S ds fuel (bts n m') a' w) (hi:ops[i]? =some oi:=by exact rfl) (hN:oi.dst=some N:=by exact rfl) (hc:takeB md ops ds (bts n m) (bts n m') i=true:=by kernel_rfl)
  (hw:Region.wanted oi (yielded ops a.tmps)=true:=by rfl) (hy:∀ w,S w→(execOp a.eval oi).run P w= .ok (.value v) w:=by (rintro w' ⟨s0,s1,s2,s3,s4,s5,s6,s7,s8,s9,s10,s11,s12,s13,s14,s15⟩;go_simp;with_reducible rfl)) (ha:a.put (some N) v=a':=by (simp only [Act.put,List.setIfInBounds_toArray,List.set_cons_zero,List.set_cons_succ,i64_w,i32_w];rfl))
  (hQ:∀ c a w,Q (.panic c) (a.put oi.dst v) w→Q (.panic c) a w:=by exact fun _ _ _ h=>h):wpAnyLast P md ops Q S ds (fuel + 1) (bts n m) a w:=
 take_ (bts n m') hi hN hc hQ (Or.inl ⟨hw,hy⟩) hS ha h
theorem ta1_ {n m fuel:Nat} {a a':Act} {w:World} {oi:Oper} {v:Value} (i N m':Nat) (hS:S w) (h:wpAnyLast P md ops Q S ds fuel (bts n m') a' w) (hi:ops[i]? =some oi:=by exact rfl) (hN:oi.dst=some N:=by exact rfl) (hc:takeB md ops ds (bts n m) (bts n m') i=true:=by kernel_rfl)
  (hw:Region.wanted oi (yielded ops a.tmps)=true:=by rfl) (hy:∀ w,S w→(execOp a.eval oi).run P w= .ok (.value v) w:=by (intro w' s0;go_simp;with_reducible rfl)) (ha:a.put (some N) v=a':=by (simp only [Act.put,List.setIfInBounds_toArray,List.set_cons_zero,List.set_cons_succ,i64_w,i32_w];rfl))
  (hQ:∀ c a w,Q (.panic c) (a.put oi.dst v) w→Q (.panic c) a w:=by exact fun _ _ _ h=>h):wpAnyLast P md ops Q S ds (fuel + 1) (bts n m) a w:=
 take_ (bts n m') hi hN hc hQ (Or.inl ⟨hw,hy⟩) hS ha h
theorem pq_ {n m fuel:Nat} {a a':Act} {w:World} {oi:Oper} {v:Value} (i N m':Nat) (hi0:ops[i]? =some oi) (hy:∀ w,(execOp a.eval oi).run P w= .ok (.value v) w) (h:wpAnyLast P md ops Q S ds fuel (bts n m') a' w) (hN:oi.dst=some N:=by exact rfl) (hc:anyB md ops (bts n m) (bts n m') i=true:=by kernel_rfl)
  (hw:Region.wanted oi (yielded ops a.tmps)=true:=by rfl) (ha:a.put (some N) v=a':=by (simp only [Act.put,List.setIfInBounds_toArray,List.set_cons_zero,List.set_cons_succ,i64_w,i32_w];rfl))
  (hQ:∀ c a w,Q (.panic c) (a.put oi.dst v) w→Q (.panic c) a w:=by exact fun _ _ _ h=>h):wpAnyLast P md ops Q S ds (fuel + 1) (bts n m) a w:=
 pure_ (bts n m') hi0 hN hc hQ (Or.inl ⟨hw,hy⟩) ha h
theorem jo_ {σ:Type} {n m fuel:Nat} {a:Act} {w:World} (fuel' m':Nat) (ns:σ→List (Tmp×Value)) (F:σ→World→Prop)
  (h:(∀ s w',F s w'→wpAnyLast P md ops Q S ds fuel' (bts n m') (PrintLast.putAll a (ns s)) w')→wpAnyLast P md ops Q S ds fuel (bts n m) a w)
  (hcont:∀ s w',F s w'→wpAnyLast P md ops Q S ds fuel' (bts n m') (PrintLast.putAll a (ns s)) w'):wpAnyLast P md ops Q S ds fuel (bts n m) a w:=h hcont
theorem fo_ {n m fuel:Nat} {a:Act} {w:World} {oi oj ok om:Oper} (i j k r Ni Nj Nk Nm mi mj mk mm:Nat)
  (h1:∀ K:Act→World→Prop,Shut (∀ a' w',S w'→(S w'→wpAnyLast P md ops Q S ds fuel (bts n mi) a' w')→K a' w')→if Region.wanted oi (yielded ops a.tmps)=true then Oper.wp P oi a w K Q else K (a.put (some Ni) undef) w)
  (h2:∀ K:Act→World→Prop,Shut (∀ a' w',S w'→(S w'→wpAnyLast P md ops Q S ds fuel (bts n mj) a' w')→K a' w')→if Region.wanted oj (yielded ops a.tmps)=true then Oper.wp P oj a w K Q else K (a.put (some Nj) undef) w)
  (h3:∀ K:Act→World→Prop,Shut (∀ a' w',S w'→(S w'→wpAnyLast P md ops Q S ds fuel (bts n mk) a' w')→K a' w')→if Region.wanted ok (yielded ops a.tmps)=true then Oper.wp P ok a w K Q else K (a.put (some Nk) undef) w)
  (h4:∀ K:Act→World→Prop,Shut (∀ a' w',S w'→(S w'→wpAnyLast P md ops Q S ds fuel (bts n mm) a' w')→K a' w')→if Region.wanted om (yielded ops a.tmps)=true then Oper.wp P om a w K Q else K (a.put (some Nm) undef) w)
  (hi:ops[i]? =some oi:=by exact rfl) (hj:ops[j]? =some oj:=by exact rfl) (hk:ops[k]? =some ok:=by exact rfl) (hm:ops[r]? =some om:=by exact rfl) (hNi:oi.dst=some Ni:=by exact rfl) (hNj:oj.dst=some Nj:=by exact rfl) (hNk:ok.dst=some Nk:=by exact rfl) (hNm:om.dst=some Nm:=by exact rfl)
  (hc:(Region.ready md ops (bts n m) == [i,j,k,r]&&(bts n m).setIfInBounds i true == bts n mi&&(bts n m).setIfInBounds j true == bts n mj&&(bts n m).setIfInBounds k true == bts n mk&&(bts n m).setIfInBounds r true == bts n mm)=true:=by kernel_rfl)
  (hdi:i∉ds:=by decide) (hdj:j∉ds:=by decide) (hdk:k∉ds:=by decide) (hdm:r∉ds:=by decide):wpAnyLast P md ops Q S ds (fuel + 1) (bts n m) a w:=
 four_ (bts n mi) (bts n mj) (bts n mk) (bts n mm) hi hj hk hm hNi hNj hNk hNm hc hdi hdj hdk hdm h1 h2 h3 h4
theorem sk_ {oi:Oper} {a:Act} {w w1:World} {K:Act→World→Prop} (h:K a w1) (hw:Region.wanted oi (yielded ops a.tmps)=true:=by rfl) (hN:oi.dst=none:=by exact rfl) (hrun:(execOp a.eval oi).run P w= .ok .skip w1:=by (go_simp;rfl)):if Region.wanted oi (yielded ops a.tmps)=true then Oper.wp P oi a w K Q else K (a.put none undef) w:=skip_ hw hN hrun h
theorem tq_ {n m fuel:Nat} {a a':Act} {w:World} {oi:Oper} {v:Value} (i N m':Nat) (hi0:ops[i]? =some oi) (hS:S w) (hy:∀ w,S w→(execOp a.eval oi).run P w= .ok (.value v) w) (h:wpAnyLast P md ops Q S ds fuel (bts n m') a' w) (hN:oi.dst=some N:=by exact rfl) (hc:takeB md ops ds (bts n m) (bts n m') i=true:=by kernel_rfl)
  (hw:Region.wanted oi (yielded ops a.tmps)=true:=by rfl) (ha:a.put (some N) v=a':=by (simp only [Act.put,List.setIfInBounds_toArray,List.set_cons_zero,List.set_cons_succ,i64_w,i32_w];rfl))
  (hQ:∀ c a w,Q (.panic c) (a.put oi.dst v) w→Q (.panic c) a w:=by exact fun _ _ _ h=>h):wpAnyLast P md ops Q S ds (fuel + 1) (bts n m) a w:=
 take_ (bts n m') hi0 hN hc hQ (Or.inl ⟨hw,hy⟩) hS ha h
theorem nq_ {fuel:Nat} {l:Array Bool} {a a':Act} {w:World} {v:Value} (N:Tmp) (h:wpAnyLast P md ops Q S ds fuel l a' w) (ha:a.put (some N) v=a':=by (simp only [Act.put,List.setIfInBounds_toArray,List.set_cons_zero,List.set_cons_succ,i64_w,i32_w];rfl)):wpAnyLast P md ops Q S ds fuel l (a.put (some N) v) w:=norm_ ha h
theorem np_ {fuel:Nat} {l:Array Bool} {a a':Act} {w:World} (h:wpAnyLast P md ops Q S ds fuel l a' w) (ha:a=a':=by (simp only [PrintLast.putAll,Act.put,List.setIfInBounds_toArray,List.set_cons_zero,List.set_cons_succ];rfl)):wpAnyLast P md ops Q S ds fuel l a w:=norm_ ha h
theorem nx_ {fuel:Nat} {l:Array Bool} {a a':Act} {w:World} (h:wpAnyLast P md ops Q S ds fuel l a' w) (ha:a=a':=by first|(simp only [PrintLast.putAll,Act.put,List.setIfInBounds_toArray,List.set_cons_zero,List.set_cons_succ];done)|(simp only [PrintLast.putAll,Act.put,List.setIfInBounds_toArray,List.set_cons_zero,List.set_cons_succ];rfl)|rfl):wpAnyLast P md ops Q S ds fuel l a w:=norm_ ha h
theorem on_ {n m fuel:Nat} {a:Act} {w:World} {oi:Oper} (i N m':Nat) (h:∀ K:Act→World→Prop,Shut (∀ a' w',S w'→(S w'→wpAnyLast P md ops Q S ds fuel (bts n m') a' w')→K a' w')→if Region.wanted oi (yielded ops a.tmps)=true then Oper.wp P oi a w K Q else K (a.put (some N) undef) w)
  (hi:ops[i]? =some oi:=by exact rfl) (hN:oi.dst=some N:=by exact rfl) (hc:readyB md ops (bts n m) (bts n m') i=true:=by kernel_rfl) (hd:i∉ds:=by decide):wpAnyLast P md ops Q S ds (fuel + 1) (bts n m) a w:=one_ (bts n m') hi hN hc hd h
theorem la_ {n m fuel:Nat} {a:Act} {w:World} {oi:Oper} (i N m':Nat) (h:∀ K:Act→World→Prop,Shut (∀ a' w',wpAnyLast P md ops Q S ds fuel (bts n m') a' w'→K a' w')→if Region.wanted oi (yielded ops a.tmps)=true then Oper.wp P oi a w K Q else K (a.put (some N) undef) w)
  (hi:ops[i]? =some oi:=by exact rfl) (hN:oi.dst=some N:=by exact rfl) (hc:readyB md ops (bts n m) (bts n m') i=true:=by kernel_rfl) (hd:i∈ds:=by decide):wpAnyLast P md ops Q S ds (fuel + 1) (bts n m) a w:=last_ (bts n m') hi hN hc hd h
theorem lz_ {n m fuel:Nat} {a:Act} {w:World} {oi:Oper} (i m':Nat) (h:∀ K:Act→World→Prop,Shut (∀ a' w',wpAnyLast P md ops Q S ds fuel (bts n m') a' w'→K a' w')→if Region.wanted oi (yielded ops a.tmps)=true then Oper.wp P oi a w K Q else K (a.put none undef) w)
  (hi:ops[i]? =some oi:=by exact rfl) (hN:oi.dst=none:=by exact rfl) (hc:readyB md ops (bts n m) (bts n m') i=true:=by kernel_rfl) (hd:i∈ds:=by decide):wpAnyLast P md ops Q S ds (fuel + 1) (bts n m) a w:=last_ (bts n m') hi hN hc hd h
theorem tw_ {n m fuel:Nat} {a:Act} {w:World} {oi oj:Oper} (i j Ni Nj mi mj:Nat)
  (h1:∀ K:Act→World→Prop,Shut (∀ a' w',S w'→(S w'→wpAnyLast P md ops Q S ds fuel (bts n mi) a' w')→K a' w')→if Region.wanted oi (yielded ops a.tmps)=true then Oper.wp P oi a w K Q else K (a.put (some Ni) undef) w)
  (h2:∀ K:Act→World→Prop,Shut (∀ a' w',S w'→(S w'→wpAnyLast P md ops Q S ds fuel (bts n mj) a' w')→K a' w')→if Region.wanted oj (yielded ops a.tmps)=true then Oper.wp P oj a w K Q else K (a.put (some Nj) undef) w)
  (hi:ops[i]? =some oi:=by exact rfl) (hj:ops[j]? =some oj:=by exact rfl) (hNi:oi.dst=some Ni:=by exact rfl) (hNj:oj.dst=some Nj:=by exact rfl)
  (hc:(Region.ready md ops (bts n m) == [i,j]&&(bts n m).setIfInBounds i true == bts n mi&&(bts n m).setIfInBounds j true == bts n mj)=true:=by kernel_rfl) (hdi:i∉ds:=by decide) (hdj:j∉ds:=by decide):wpAnyLast P md ops Q S ds (fuel + 1) (bts n m) a w:=
 two_ (bts n mi) (bts n mj) hi hj hNi hNj hc hdi hdj h1 h2
theorem th_ {n m fuel:Nat} {a:Act} {w:World} {oi oj ok:Oper} (i j k Ni Nj Nk mi mj mk:Nat)
  (h1:∀ K:Act→World→Prop,Shut (∀ a' w',S w'→(S w'→wpAnyLast P md ops Q S ds fuel (bts n mi) a' w')→K a' w')→if Region.wanted oi (yielded ops a.tmps)=true then Oper.wp P oi a w K Q else K (a.put (some Ni) undef) w)
  (h2:∀ K:Act→World→Prop,Shut (∀ a' w',S w'→(S w'→wpAnyLast P md ops Q S ds fuel (bts n mj) a' w')→K a' w')→if Region.wanted oj (yielded ops a.tmps)=true then Oper.wp P oj a w K Q else K (a.put (some Nj) undef) w)
  (h3:∀ K:Act→World→Prop,Shut (∀ a' w',S w'→(S w'→wpAnyLast P md ops Q S ds fuel (bts n mk) a' w')→K a' w')→if Region.wanted ok (yielded ops a.tmps)=true then Oper.wp P ok a w K Q else K (a.put (some Nk) undef) w)
  (hi:ops[i]? =some oi:=by exact rfl) (hj:ops[j]? =some oj:=by exact rfl) (hk:ops[k]? =some ok:=by exact rfl) (hNi:oi.dst=some Ni:=by exact rfl) (hNj:oj.dst=some Nj:=by exact rfl) (hNk:ok.dst=some Nk:=by exact rfl)
  (hc:(Region.ready md ops (bts n m) == [i,j,k]&&(bts n m).setIfInBounds i true == bts n mi&&(bts n m).setIfInBounds j true == bts n mj&&(bts n m).setIfInBounds k true == bts n mk)=true:=by kernel_rfl) (hdi:i∉ds:=by decide) (hdj:j∉ds:=by decide) (hdk:k∉ds:=by decide):wpAnyLast P md ops Q S ds (fuel + 1) (bts n m) a w:=
 three_ (bts n mi) (bts n mj) (bts n mk) hi hj hk hNi hNj hNk hc hdi hdj hdk h1 h2 h3
theorem ge_ {oi:Oper} {N:Option Tmp} {a:Act} {w:World} {K:Act→World→Prop} {f:FuncId} {fn:Func} {xs:Array Operand} {ts:Array TypeId} (hf:P.funcs[f]? =some fn) (args:Array Value) (h:Calls P f args w fun e w'=>∃ v,e= .returned v∧K (a.put N v) w')
  (hw:Region.wanted oi (yielded ops a.tmps)=true:=by rfl) (hN:oi.dst=N:=by exact rfl) (hop:oi.op= .call {callee:= .value (.func f),args:=xs,argTypes:=ts}:=by exact rfl) (hargs:xs.map a.eval=args:=by (simp only [List.map_toArray,List.map_cons,List.map_nil];rfl))
  (hname:(fn.name == "runtime.NumGoroutine")=false:=by kernel_rfl) (hb:fn.body.isSome=true:=by exact rfl):if Region.wanted oi (yielded ops a.tmps)=true then Oper.wp P oi a w K Q else K (a.put N undef) w:=
 goes_ hf hname hb args hw hN hop hargs h
variable {rest:List Oper} {o:Oper} {a:Act} {w W:World} {l:List Blk} {Kc:Act→World→Prop}
theorem ne_ (N:Tmp) (ob:Obj) (v:Nat→Value) (h:∀ g w1,At w (.b g ob::l) w1→w.heap.size≤g→Kc (a.put o.dst (v g)) w1) (H:At w l W:=by exact HE.out) (hw:Region.wanted o (yielded ops a.tmps)=true:=by rfl) (hd:o.dst=some N:=by rfl)
  (hrun:(execOp a.eval o).run P W= .ok (.value (v W.heap.size)) (W.alloc ob):=by first|(go_simp;done)|(go_simp;rfl)):if Region.wanted o (yielded ops a.tmps)=true then Oper.wp P o a W Kc Q else Kc (a.put o.dst undef) W:=
 new_ H hw hd hrun h
theorem rr_ {ty:TypeId} (x:Tmp) (g:Nat) (cs:Array Value) (hg:W.heap[g]? =some (.cells cs ty (0,0))) {d:TypeDesc} (hu:P.underlying ty=some d) (ho:o.op= .load ty (.tmp x):=by rfl) (hx:a.eval (.tmp x)= .pointer (some ⟨g,0,none⟩):=by rfl)
  (hd:(match d with| .struct _| .array _ _=>true|_=>false)=true:=by rfl) (hi:(P.info? ty).map (·.size)=some cs.size:=by kernel_rfl):(execOp a.eval o).run P W= .ok (.value (.agg cs)) W:=
 readr_ (x:= .tmp x) g cs ho hx hg hu hd hi
theorem gd_ (N:Tmp) (h:wpList P ops Q (o::rest) a W) (hd:o.dst=some N:=by with_reducible exact rfl):wpList P ops Q (o::rest) a W:=h
theorem bx_ (cs:Array Value) (t:TypeId) (h:∀ g w1,Aside0 (At w (.b g (row cs t)::l) w1)→Aside0 (w.heap.size≤g)→wpList P ops Q rest (a.put o.dst (.pointer (some ⟨g,0,none⟩))) w1)
  (H:At w l W:=by repeat (first|exact HK.out|apply At.drewN|apply At.drew|apply At.alloc)) (hgd:o.guard=none:=by exact rfl) (hrun:(execOp a.eval o).run P W= .ok (.value (.pointer (some ⟨W.heap.size,0,none⟩))) (W.alloc (.cells cs t (0,0))):=by first|(go_simp;done)|(go_simp;rfl)):wpList P ops Q (o::rest) a W:=
 Kd.event_run hgd hrun (h _ _ ⟨H.new _⟩ ⟨H.b.size⟩)
theorem nw_ (ob:Obj) (v:Nat→Value) (h:∀ g w1,Aside0 (At w (.b g ob::l) w1)→Aside0 (w.heap.size≤g)→wpList P ops Q rest (a.put o.dst (v g)) w1)
  (H:At w l W:=by repeat (first|exact HK.out|apply At.drewN|apply At.drew|apply At.alloc)) (hgd:o.guard=none:=by exact rfl) (hrun:(execOp a.eval o).run P W= .ok (.value (v W.heap.size)) (W.alloc ob):=by first|(go_simp;done)|(go_simp;rfl)):wpList P ops Q (o::rest) a W:=
 Kd.event_run hgd hrun (h _ _ ⟨H.new _⟩ ⟨H.b.size⟩)
theorem cl_ {f:FuncId} {fn:Func} {xs:Array Operand} {ts:Array TypeId} (args:Array Value) (v:Value) (hf:P.funcs[f]? =some fn) (hc:Calls P f args W fun e w'=>e= .returned v∧Below W.heap.size W w') (h:∀ w1,At w l w1→wpList P ops Q rest (a.put o.dst v) w1)
  (H:At w l W:=by repeat (first|exact HK.out|apply At.drewN|apply At.drew|apply At.alloc)) (hg:o.guard=none:=by exact rfl) (hname:(fn.name == "runtime.NumGoroutine")=false:=by kernel_rfl) (hb:fn.body.isSome=true:=by exact rfl)
  (hop:o.op= .call {callee:= .value (.func f),args:=xs,argTypes:=ts}:=by exact rfl) (hargs:xs.map a.eval=args:=by (try simp only [List.map_toArray,List.map_cons,List.map_nil]);first|done|rfl):wpList P ops Q (o::rest) a W:=
 call_at args v H hg hf hname hb hop hargs hc h
theorem cw_ {f:FuncId} {fn:Func} {xs:Array Operand} {ts:Array TypeId} {F:Value→World→Prop} (args:Array Value) (hf:P.funcs[f]? =some fn) (hc:Calls P f args W fun e w'=>∃ v,e= .returned v∧F v w'∧Below W.heap.size W w') (h:∀ v w1,At w l w1→F v w1→Below W.heap.size W w1→wpList P ops Q rest (a.put o.dst v) w1)
  (H:At w l W:=by repeat (first|exact HK.out|apply At.drewN|apply At.drew|apply At.alloc)) (hg:o.guard=none:=by exact rfl) (hname:(fn.name == "runtime.NumGoroutine")=false:=by kernel_rfl) (hb:fn.body.isSome=true:=by exact rfl)
  (hop:o.op= .call {callee:= .value (.func f),args:=xs,argTypes:=ts}:=by exact rfl) (hargs:xs.map a.eval=args:=by (try simp only [List.map_toArray,List.map_cons,List.map_nil]);first|done|rfl):wpList P ops Q (o::rest) a W:=
 call_with args F H hg hf hname hb hop hargs hc h
theorem lo_ (ty:TypeId) (x:Tmp) (g:Nat) (cs:Array Value) (hg:W.heap[g]? =some (.cells cs ty (0,0))) {d:TypeDesc} (hu:P.underlying ty=some d) (h:wpList P ops Q rest (a.put o.dst (.agg cs)) W) (hgd:o.guard=none:=by exact rfl) (ho:o.op= .load ty (.tmp x):=by exact rfl) (hx:a.eval (.tmp x)= .pointer (some ⟨g,0,none⟩):=by exact rfl)
  (hd:(match d with| .struct _| .array _ _=>true|_=>false)=true:=by exact rfl) (hi:(P.info? ty).map (·.size)=some cs.size:=by kernel_rfl):wpList P ops Q (o::rest) a W:=
 load_at (ty:=ty) (x:= .tmp x) g cs hgd ho hx hg hu hd hi h
end
theorem st0_ (w:World):Aside0 (At w [] w):=⟨At.start w⟩
abbrev rb (v:Value) (W:World):Ending→World→Prop:=fun e w'=>e= .returned v∧Below W.heap.size W w'
theorem ce1_ {w W:World} {l:List Blk} {g1:Nat} {t1:TypeId} {c1:Array Value} (h:Aside0 (At w l W)) (k1:Nat) (e1:l[k1]? =some (.b g1 (row c1 t1)):=by exact rfl):(∀ j,W.cell? ⟨g1,j,none⟩=c1[j]?):=cE_ h k1 e1
theorem ce2_ {w W:World} {l:List Blk} {g1 g2:Nat} {t1 t2:TypeId} {c1 c2:Array Value} (h:Aside0 (At w l W)) (k1 k2:Nat) (e1:l[k1]? =some (.b g1 (row c1 t1)):=by exact rfl) (e2:l[k2]? =some (.b g2 (row c2 t2)):=by exact rfl):(∀ j,W.cell? ⟨g1,j,none⟩=c1[j]?)∧(∀ j,W.cell? ⟨g2,j,none⟩=c2[j]?):=⟨cE_ h k1 e1,cE_ h k2 e2⟩
theorem ce3_ {w W:World} {l:List Blk} {g1 g2 g3:Nat} {t1 t2 t3:TypeId} {c1 c2 c3:Array Value} (h:Aside0 (At w l W)) (k1 k2 k3:Nat) (e1:l[k1]? =some (.b g1 (row c1 t1)):=by exact rfl) (e2:l[k2]? =some (.b g2 (row c2 t2)):=by exact rfl) (e3:l[k3]? =some (.b g3 (row c3 t3)):=by exact rfl):(∀ j,W.cell? ⟨g1,j,none⟩=c1[j]?)∧(∀ j,W.cell? ⟨g2,j,none⟩=c2[j]?)∧(∀ j,W.cell? ⟨g3,j,none⟩=c3[j]?):=⟨cE_ h k1 e1,cE_ h k2 e2,cE_ h k3 e3⟩
theorem ce4_ {w W:World} {l:List Blk} {g1 g2 g3 g4:Nat} {t1 t2 t3 t4:TypeId} {c1 c2 c3 c4:Array Value} (h:Aside0 (At w l W)) (k1 k2 k3 k4:Nat) (e1:l[k1]? =some (.b g1 (row c1 t1)):=by exact rfl) (e2:l[k2]? =some (.b g2 (row c2 t2)):=by exact rfl) (e3:l[k3]? =some (.b g3 (row c3 t3)):=by exact rfl) (e4:l[k4]? =some (.b g4 (row c4 t4)):=by exact rfl):(∀ j,W.cell? ⟨g1,j,none⟩=c1[j]?)∧(∀ j,W.cell? ⟨g2,j,none⟩=c2[j]?)∧(∀ j,W.cell? ⟨g3,j,none⟩=c3[j]?)∧(∀ j,W.cell? ⟨g4,j,none⟩=c4[j]?):=⟨cE_ h k1 e1,cE_ h k2 e2,cE_ h k3 e3,cE_ h k4 e4⟩
theorem ce5_ {w W:World} {l:List Blk} {g1 g2 g3 g4 g5:Nat} {t1 t2 t3 t4 t5:TypeId} {c1 c2 c3 c4 c5:Array Value} (h:Aside0 (At w l W)) (k1 k2 k3 k4 k5:Nat) (e1:l[k1]? =some (.b g1 (row c1 t1)):=by exact rfl) (e2:l[k2]? =some (.b g2 (row c2 t2)):=by exact rfl) (e3:l[k3]? =some (.b g3 (row c3 t3)):=by exact rfl) (e4:l[k4]? =some (.b g4 (row c4 t4)):=by exact rfl) (e5:l[k5]? =some (.b g5 (row c5 t5)):=by exact rfl):(∀ j,W.cell? ⟨g1,j,none⟩=c1[j]?)∧(∀ j,W.cell? ⟨g2,j,none⟩=c2[j]?)∧(∀ j,W.cell? ⟨g3,j,none⟩=c3[j]?)∧(∀ j,W.cell? ⟨g4,j,none⟩=c4[j]?)∧(∀ j,W.cell? ⟨g5,j,none⟩=c5[j]?):=⟨cE_ h k1 e1,cE_ h k2 e2,cE_ h k3 e3,cE_ h k4 e4,cE_ h k5 e5⟩
theorem fe1_ {w W:World} {l:List Blk} {g1:Nat} {t1:TypeId} {c1:Array Value} (h:Aside0 (At w l W)) (k1:Nat) (e1:l[k1]? =some (.b g1 (row c1 t1)):=by exact rfl):(∀ j,W.frozen? ⟨g1,j,none⟩=false):=fE_ h k1 e1
theorem fe2_ {w W:World} {l:List Blk} {g1 g2:Nat} {t1 t2:TypeId} {c1 c2:Array Value} (h:Aside0 (At w l W)) (k1 k2:Nat) (e1:l[k1]? =some (.b g1 (row c1 t1)):=by exact rfl) (e2:l[k2]? =some (.b g2 (row c2 t2)):=by exact rfl):(∀ j,W.frozen? ⟨g1,j,none⟩=false)∧(∀ j,W.frozen? ⟨g2,j,none⟩=false):=⟨fE_ h k1 e1,fE_ h k2 e2⟩
section
variable {P:Program} {ops:Array Oper} {Q:Exit→Act→World→Prop} {md:Region.Mode} {ds:List Nat}
theorem su0_ {id : Nat} {a : Act} {w w0 W : World} {l : List Blk} (n : Nat) (HK : Aside0 (At w0 l W)) (ds : List Nat) (h : (∀ {w'}, At w0 l w' → At w0 l w') → At w0 l w.drew → wpAnyLast P .any ops Q (fun w' => At w0 l w') ds n (bts n 0) a w.drew)
     (H : At w0 l w.drew := by first | exact At.drew HK.out | (apply At.drew; repeat (first | exact HK.out | apply At.drewN | apply At.drew | apply At.alloc))) (hm : P.follows .mixedOrders = true := by kernel_rfl) (hn : ops.size = n := by exact rfl) : (Code.region id ops true).wp P Q a w :=
  have HS : ∀ {w'}, At w0 l w' → At w0 l w' := fun A => A
  start_ (S := fun w' => At w0 l w') (ds := ds) (bts n 0) hm hn (bts_zero n) (HS H) (h HS)
theorem su2_ {id:Nat} {a:Act} {w w0 W:World} {l:List Blk} {g1 g2:Nat} {t1 t2:TypeId} {c1 c2:Array Value} (n:Nat) (HK:Aside0 (At w0 l W)) (k1 k2:Nat) (ds:List Nat) (h:(∀ {w'},At w0 l w'→At w0 l w'∧(∀ j,w'.cell? ⟨g1,j,none⟩=c1[j]?)∧(∀ j,w'.cell? ⟨g2,j,none⟩=c2[j]?))→At w0 l w.drew∧(∀ j,w.drew.cell? ⟨g1,j,none⟩=c1[j]?)∧(∀ j,w.drew.cell? ⟨g2,j,none⟩=c2[j]?)→wpAnyLast P .any ops Q (fun w'=>At w0 l w'∧(∀ j,w'.cell? ⟨g1,j,none⟩=c1[j]?)∧(∀ j,w'.cell? ⟨g2,j,none⟩=c2[j]?)) ds n (bts n 0) a w.drew)
  (e1:l[k1]? =some (.b g1 (row c1 t1)):=by exact rfl) (e2:l[k2]? =some (.b g2 (row c2 t2)):=by exact rfl) (H:At w0 l w.drew:=by first|exact At.drew HK.out|(apply At.drew;repeat (first|exact HK.out|apply At.drewN|apply At.drew|apply At.alloc))) (hm:P.follows .mixedOrders=true:=by kernel_rfl) (hn:ops.size=n:=by exact rfl):(Code.region id ops true).wp P Q a w:=
 have HS:∀ {w'},At w0 l w'→At w0 l w'∧(∀ j,w'.cell? ⟨g1,j,none⟩=c1[j]?)∧(∀ j,w'.cell? ⟨g2,j,none⟩=c2[j]?):=fun A=>⟨A,cA_ A k1 e1,cA_ A k2 e2⟩
 start_ (S:=fun w'=>At w0 l w'∧(∀ j,w'.cell? ⟨g1,j,none⟩=c1[j]?)∧(∀ j,w'.cell? ⟨g2,j,none⟩=c2[j]?)) (ds:=ds) (bts n 0) hm hn (bts_zero n) (HS H) (h HS)
theorem su3_ {id:Nat} {a:Act} {w w0 W:World} {l:List Blk} {g1 g2 g3:Nat} {t1 t2 t3:TypeId} {c1 c2 c3:Array Value} (n:Nat) (HK:Aside0 (At w0 l W)) (k1 k2 k3:Nat) (ds:List Nat) (h:(∀ {w'},At w0 l w'→At w0 l w'∧(∀ j,w'.cell? ⟨g1,j,none⟩=c1[j]?)∧(∀ j,w'.cell? ⟨g2,j,none⟩=c2[j]?)∧(∀ j,w'.cell? ⟨g3,j,none⟩=c3[j]?))→At w0 l w.drew∧(∀ j,w.drew.cell? ⟨g1,j,none⟩=c1[j]?)∧(∀ j,w.drew.cell? ⟨g2,j,none⟩=c2[j]?)∧(∀ j,w.drew.cell? ⟨g3,j,none⟩=c3[j]?)→wpAnyLast P .any ops Q (fun w'=>At w0 l w'∧(∀ j,w'.cell? ⟨g1,j,none⟩=c1[j]?)∧(∀ j,w'.cell? ⟨g2,j,none⟩=c2[j]?)∧(∀ j,w'.cell? ⟨g3,j,none⟩=c3[j]?)) ds n (bts n 0) a w.drew)
  (e1:l[k1]? =some (.b g1 (row c1 t1)):=by exact rfl) (e2:l[k2]? =some (.b g2 (row c2 t2)):=by exact rfl) (e3:l[k3]? =some (.b g3 (row c3 t3)):=by exact rfl) (H:At w0 l w.drew:=by first|exact At.drew HK.out|(apply At.drew;repeat (first|exact HK.out|apply At.drewN|apply At.drew|apply At.alloc))) (hm:P.follows .mixedOrders=true:=by kernel_rfl) (hn:ops.size=n:=by exact rfl):(Code.region id ops true).wp P Q a w:=
 have HS:∀ {w'},At w0 l w'→At w0 l w'∧(∀ j,w'.cell? ⟨g1,j,none⟩=c1[j]?)∧(∀ j,w'.cell? ⟨g2,j,none⟩=c2[j]?)∧(∀ j,w'.cell? ⟨g3,j,none⟩=c3[j]?):=fun A=>⟨A,cA_ A k1 e1,cA_ A k2 e2,cA_ A k3 e3⟩
 start_ (S:=fun w'=>At w0 l w'∧(∀ j,w'.cell? ⟨g1,j,none⟩=c1[j]?)∧(∀ j,w'.cell? ⟨g2,j,none⟩=c2[j]?)∧(∀ j,w'.cell? ⟨g3,j,none⟩=c3[j]?)) (ds:=ds) (bts n 0) hm hn (bts_zero n) (HS H) (h HS)
theorem su4_ {id:Nat} {a:Act} {w w0 W:World} {l:List Blk} {g1 g2 g3 g4:Nat} {t1 t2 t3 t4:TypeId} {c1 c2 c3 c4:Array Value} (n:Nat) (HK:Aside0 (At w0 l W)) (k1 k2 k3 k4:Nat) (ds:List Nat) (h:(∀ {w'},At w0 l w'→At w0 l w'∧(∀ j,w'.cell? ⟨g1,j,none⟩=c1[j]?)∧(∀ j,w'.cell? ⟨g2,j,none⟩=c2[j]?)∧(∀ j,w'.cell? ⟨g3,j,none⟩=c3[j]?)∧(∀ j,w'.cell? ⟨g4,j,none⟩=c4[j]?))→At w0 l w.drew∧(∀ j,w.drew.cell? ⟨g1,j,none⟩=c1[j]?)∧(∀ j,w.drew.cell? ⟨g2,j,none⟩=c2[j]?)∧(∀ j,w.drew.cell? ⟨g3,j,none⟩=c3[j]?)∧(∀ j,w.drew.cell? ⟨g4,j,none⟩=c4[j]?)→wpAnyLast P .any ops Q (fun w'=>At w0 l w'∧(∀ j,w'.cell? ⟨g1,j,none⟩=c1[j]?)∧(∀ j,w'.cell? ⟨g2,j,none⟩=c2[j]?)∧(∀ j,w'.cell? ⟨g3,j,none⟩=c3[j]?)∧(∀ j,w'.cell? ⟨g4,j,none⟩=c4[j]?)) ds n (bts n 0) a w.drew)
  (e1:l[k1]? =some (.b g1 (row c1 t1)):=by exact rfl) (e2:l[k2]? =some (.b g2 (row c2 t2)):=by exact rfl) (e3:l[k3]? =some (.b g3 (row c3 t3)):=by exact rfl) (e4:l[k4]? =some (.b g4 (row c4 t4)):=by exact rfl) (H:At w0 l w.drew:=by first|exact At.drew HK.out|(apply At.drew;repeat (first|exact HK.out|apply At.drewN|apply At.drew|apply At.alloc))) (hm:P.follows .mixedOrders=true:=by kernel_rfl) (hn:ops.size=n:=by exact rfl):(Code.region id ops true).wp P Q a w:=
 have HS:∀ {w'},At w0 l w'→At w0 l w'∧(∀ j,w'.cell? ⟨g1,j,none⟩=c1[j]?)∧(∀ j,w'.cell? ⟨g2,j,none⟩=c2[j]?)∧(∀ j,w'.cell? ⟨g3,j,none⟩=c3[j]?)∧(∀ j,w'.cell? ⟨g4,j,none⟩=c4[j]?):=fun A=>⟨A,cA_ A k1 e1,cA_ A k2 e2,cA_ A k3 e3,cA_ A k4 e4⟩
 start_ (S:=fun w'=>At w0 l w'∧(∀ j,w'.cell? ⟨g1,j,none⟩=c1[j]?)∧(∀ j,w'.cell? ⟨g2,j,none⟩=c2[j]?)∧(∀ j,w'.cell? ⟨g3,j,none⟩=c3[j]?)∧(∀ j,w'.cell? ⟨g4,j,none⟩=c4[j]?)) (ds:=ds) (bts n 0) hm hn (bts_zero n) (HS H) (h HS)
theorem su5_ {id:Nat} {a:Act} {w w0 W:World} {l:List Blk} {g1 g2 g3 g4 g5:Nat} {t1 t2 t3 t4 t5:TypeId} {c1 c2 c3 c4 c5:Array Value} (n:Nat) (HK:Aside0 (At w0 l W)) (k1 k2 k3 k4 k5:Nat) (ds:List Nat) (h:(∀ {w'},At w0 l w'→At w0 l w'∧(∀ j,w'.cell? ⟨g1,j,none⟩=c1[j]?)∧(∀ j,w'.cell? ⟨g2,j,none⟩=c2[j]?)∧(∀ j,w'.cell? ⟨g3,j,none⟩=c3[j]?)∧(∀ j,w'.cell? ⟨g4,j,none⟩=c4[j]?)∧(∀ j,w'.cell? ⟨g5,j,none⟩=c5[j]?))→At w0 l w.drew∧(∀ j,w.drew.cell? ⟨g1,j,none⟩=c1[j]?)∧(∀ j,w.drew.cell? ⟨g2,j,none⟩=c2[j]?)∧(∀ j,w.drew.cell? ⟨g3,j,none⟩=c3[j]?)∧(∀ j,w.drew.cell? ⟨g4,j,none⟩=c4[j]?)∧(∀ j,w.drew.cell? ⟨g5,j,none⟩=c5[j]?)→wpAnyLast P .any ops Q (fun w'=>At w0 l w'∧(∀ j,w'.cell? ⟨g1,j,none⟩=c1[j]?)∧(∀ j,w'.cell? ⟨g2,j,none⟩=c2[j]?)∧(∀ j,w'.cell? ⟨g3,j,none⟩=c3[j]?)∧(∀ j,w'.cell? ⟨g4,j,none⟩=c4[j]?)∧(∀ j,w'.cell? ⟨g5,j,none⟩=c5[j]?)) ds n (bts n 0) a w.drew)
  (e1:l[k1]? =some (.b g1 (row c1 t1)):=by exact rfl) (e2:l[k2]? =some (.b g2 (row c2 t2)):=by exact rfl) (e3:l[k3]? =some (.b g3 (row c3 t3)):=by exact rfl) (e4:l[k4]? =some (.b g4 (row c4 t4)):=by exact rfl) (e5:l[k5]? =some (.b g5 (row c5 t5)):=by exact rfl) (H:At w0 l w.drew:=by first|exact At.drew HK.out|(apply At.drew;repeat (first|exact HK.out|apply At.drewN|apply At.drew|apply At.alloc))) (hm:P.follows .mixedOrders=true:=by kernel_rfl) (hn:ops.size=n:=by exact rfl):(Code.region id ops true).wp P Q a w:=
 have HS:∀ {w'},At w0 l w'→At w0 l w'∧(∀ j,w'.cell? ⟨g1,j,none⟩=c1[j]?)∧(∀ j,w'.cell? ⟨g2,j,none⟩=c2[j]?)∧(∀ j,w'.cell? ⟨g3,j,none⟩=c3[j]?)∧(∀ j,w'.cell? ⟨g4,j,none⟩=c4[j]?)∧(∀ j,w'.cell? ⟨g5,j,none⟩=c5[j]?):=fun A=>⟨A,cA_ A k1 e1,cA_ A k2 e2,cA_ A k3 e3,cA_ A k4 e4,cA_ A k5 e5⟩
 start_ (S:=fun w'=>At w0 l w'∧(∀ j,w'.cell? ⟨g1,j,none⟩=c1[j]?)∧(∀ j,w'.cell? ⟨g2,j,none⟩=c2[j]?)∧(∀ j,w'.cell? ⟨g3,j,none⟩=c3[j]?)∧(∀ j,w'.cell? ⟨g4,j,none⟩=c4[j]?)∧(∀ j,w'.cell? ⟨g5,j,none⟩=c5[j]?)) (ds:=ds) (bts n 0) hm hn (bts_zero n) (HS H) (h HS)
theorem oc_ {S:World→Prop} {n m fuel:Nat} {a a':Act} {w w0:World} {l:List Blk} {oi:Oper} {f:FuncId} {fn:Func} {xs:Array Operand} {ts:Array TypeId} {v:Value} (i N m':Nat) (hf:P.funcs[f]? =some fn) (args:Array Value) (HS:∀ {w'},At w0 l w'→S w') (H:At w0 l w) (hc:Calls P f args w fun e w'=>e= .returned v∧Below w.heap.size w w')
  (h:∀ {w'},S w'→wpAnyLast P md ops Q S ds fuel (bts n m') a' w') (hi:ops[i]? =some oi:=by exact rfl) (hN:oi.dst=some N:=by exact rfl) (hcc:readyB md ops (bts n m) (bts n m') i=true:=by kernel_rfl) (hd:i∉ds:=by decide)
  (hw:Region.wanted oi (yielded ops a.tmps)=true:=by rfl) (hop:oi.op= .call {callee:= .value (.func f),args:=xs,argTypes:=ts}:=by exact rfl) (hargs:xs.map a.eval=args:=by (simp only [List.map_toArray,List.map_cons,List.map_nil];rfl))
  (hname:(fn.name == "runtime.NumGoroutine")=false:=by kernel_rfl) (hb:fn.body.isSome=true:=by exact rfl) (ha:a.put (some N) v=a':=by (simp only [Act.put,List.setIfInBounds_toArray,List.set_cons_zero,List.set_cons_succ,i64_w,i32_w];rfl)):
  wpAnyLast P md ops Q S ds (fuel + 1) (bts n m) a w:=by
 refine on_ i N m' (fun K hK=> ?_) hi hN hcc hd
 refine ge_ hf args ?_ hw hN hop hargs hname hb
 refine hc.mono ?_
 rintro e w3 ⟨rfl,hb⟩
 have HKd:=HS (At.step H hb)
 refine ⟨_,rfl,hK.out _ _ HKd (fun hHeld=> ?_)⟩
 rw [ha]
 exact h hHeld
end
end Go.Proofs.YtkphbhncpdcbeaaGreatDoor.J
namespace Go.Proofs.YtkphbhncpdcbeaaGreatDoor.J
open Go.RowKit YtkphbhncpdcbeaaGreatDoorW.PrintWords YtkphbhncpdcbeaaGreatDoorW.PrintLast YtkphbhncpdcbeaaGreatDoorW.PrintMore PJT
theorem at_zero (w:World) (l:Value) (above:Int) (h:0≤above):
  Calls Tryz.prog 52 #[l,i0,.int .i64 above] w fun e w'=>e= .returned (.pointer none)∧Below w.heap.size w w':=by
 go_enter Tryz.func52,Tryz.ntmps52
 go_wp2
 go_ret
 exact ⟨rfl,Below.refl _ _⟩
theorem all_nil (w:World) (l:Value) (above:Int):
  Calls Tryz.prog 89 #[l,nilS,.int .i64 above] w fun e w'=>e= .returned nilS∧Below w.heap.size w w':=by
 go_enter Tryz.func89,Tryz.ntmps89
 go_wp2_with (first|refine wp_loop_once ?_)
 go_ret
 exact ⟨rfl,Below.refl _ _⟩
theorem props_nil (w:World) (l:Value) (above:Int):
  Calls Tryz.prog 94 #[l,nilS,.int .i64 above] w fun e w'=>∃ v,e= .returned v∧(∃ b,v= .map (some b)∧w.heap.size≤b∧w'.heap[b]? =some (.map #[] 0))∧Below w.heap.size w w':=by
 have hmm:= @run_makeMap Tryz.prog
 go_enter Tryz.func94,Tryz.ntmps94
 go_wp2_with (first|refine wp_loop_once ?_)
 go_ret
 exact ⟨_,rfl,⟨_,rfl,Nat.le_refl _,heap_alloc_new _ _⟩,below_alloc (Below.refl _ _) _⟩
theorem lmore_none (w:World) (l:Value):
  Calls Tryz.prog 95 #[l,.agg #[i0,i0]] w fun e w'=>e= .returned .nilIface∧Below w.heap.size w w':=by
 go_enter Tryz.func95,Tryz.ntmps95
 go_wp2
 go_ret
 exact ⟨rfl,below_alloc (Below.refl _ _) _⟩
theorem limit_none (w:World) (n:Int):
  Calls Tryz.prog 92 #[.agg #[bF,.int .i64 n]] w fun e w'=>e= .returned (.pointer none)∧Below w.heap.size w w':=by
 go_enter Tryz.func92,Tryz.ntmps92
 go_wp2
 go_ret
 exact ⟨rfl,below_alloc (Below.refl _ _) _⟩
end Go.Proofs.YtkphbhncpdcbeaaGreatDoor.J
