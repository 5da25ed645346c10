/- Part. -/
import Derived.Test.YtlblbefbbibpaaaGreatDoorQBI
import Derived.Test.YtlblbefbbibpaaaGreatDoorRows
import Derived.OpenShut
import Derived.DataReads
import Derived.FnData
import Derived.ChangeReads
import Derived.LaidLaws
import Derived.Deep.Slices
import Derived.SliceStrings
set_option linter.unusedVariables false
set_option linter.unusedSimpArgs false
set_option maxHeartbeats 8000000
set_option maxRecDepth 100000
namespace Go.Proofs.YtlblbefbbibpaaaGreatDoor.J
open Go.RowKit Zw Zw.PrintWords Zw.PrintLast Zw.PrintMore PAM
section
variable {P:Program} {w:World} {H:Type} {enc:TypeId×Value→H} {base:Nat} {sp:Nat→Bool} {held:Bool} {fuel:Nat} {t:TypeId} {cs:List Value}
theorem trod_float {k:FloatKind} {x:DataW H×List MemPlace} (ht:P.underlying t=some (.float k)) (h:DataW.trod enc P w base sp held fuel t cs=some x):∃ b,cs=[.float k b]∧x=(.lit (.float k b),[]):=by
 cases fuel with
 |zero=>simp [DataW.trod] at h
 |succ n=>
  unfold DataW.trod at h
  rw [ht] at h
  split at h<;>simp_all
theorem take_one {l:List Value} {o:Nat} {v:Value} (h:(l.drop o).take 1=[v]):l[o]? =some v:=by
 have:=congrArg (fun l=>l[0]?) h
 simpa using this
theorem int_field {k:IntKind} {n:Nat} {o:Nat} {z:Int} {y:DataW H×List MemPlace} (hu:P.underlying t=some (.int k)) (hc:P.cellsOf t=1) (h:DataW.trod enc P w base sp held n t ((cs.drop o).take (P.cellsOf t))=some y) (hy:y.1= .lit (.int k z)):cs[o]? =some (.int k z):=by
 rw [hc] at h
 obtain ⟨m,e,e2,_⟩:=DataW.trod_int hu h
 rw [e2] at hy
 injection hy with hy
 injection hy with _ hy
 subst hy
 exact take_one e
theorem str_field {n:Nat} {o:Nat} {s:List UInt8} {y:DataW H×List MemPlace} (hu:P.underlying t=some .string) (hc:P.cellsOf t=1) (h:DataW.trod enc P w base sp held n t ((cs.drop o).take (P.cellsOf t))=some y) (hy:y.1= .lit (.string s)):cs[o]? =some (.string ⟨s.toArray⟩):=by
 rw [hc] at h
 obtain ⟨m,e,e2,_⟩:=DataW.trod_string hu h
 rw [e2] at hy
 injection hy with hy
 injection hy with hy
 subst hy
 rw [take_one e]
end
section
variable {w:World}
def VRead (w:World) (n:String) (d:DataW Unit):Prop:=∃ g t cs fuel p,Tryz.prog.globalNamed n=some g∧(Tryz.prog.globals[g]?).map (·.type)=some t∧(∀ i,w.cell? ⟨g,i,none⟩=cs[i]?)∧DataW.trod (fun _=>()) Tryz.prog w 0 (fun _=>true) false fuel t cs=some (d,p)
theorem vars_read:∀ {l:List (String×DataW Unit)} {ps:List MemPlace},DataW.LaidVars Tryz.prog w l ps→∀ n d,(n,d)∈l→VRead w n d∧∃ g cs,Tryz.prog.globalNamed n=some g∧w.var? Tryz.prog n=some cs∧∀ i,i < cs.size→MemPlace.cell g i∈ps
 |[],_,_,_,_,hm=>by cases hm
 |(n',d')::r,ps,h,n,d,hm=>by
  obtain ⟨g,t,cs,fuel,p,q,h1,h2,h3,h4,h5,rfl⟩:=h
  rcases List.mem_cons.1 hm with e|e
  ·cases e
   refine ⟨⟨g,t,cs.toList,fuel,p,h1,h2,fun i=> ?_,h4⟩,g,cs,h1,h3,fun i hi=> ?_⟩
   ·rw [World.var?_cell h1 h3 i];simp
   ·exact List.mem_append_left _ (List.mem_append_left _ (MemPlace.mem_row.2 ⟨i,hi,by simp⟩))
  ·obtain ⟨a,g2,cs2,b1,b2,b3⟩:=vars_read h5 n d e
   exact ⟨a,g2,cs2,b1,b2,fun i hi=>List.mem_append_right _ (b3 i hi)⟩
theorem VRead.at {n:String} {d:DataW Unit} {g:Nat} {t:TypeId} (h:VRead w n d) (hg:Tryz.prog.globalNamed n=some g) (ht:(Tryz.prog.globals[g]?).map (·.type)=some t):∃ cs fuel p,(∀ i,w.cell? ⟨g,i,none⟩=cs[i]?)∧DataW.trod (fun _=>()) Tryz.prog w 0 (fun _=>true) false fuel t cs=some (d,p):=by
 obtain ⟨g',t',cs,fuel,p,h1,h2,h3,h4⟩:=h
 rw [hg] at h1
 cases h1
 rw [ht] at h2
 cases h2
 exact ⟨cs,fuel,p,h3,h4⟩
theorem cof3:Tryz.prog.cellsOf 3=1:=by kernel_rfl
theorem cof9:Tryz.prog.cellsOf 9=1:=by kernel_rfl
theorem cof27:Tryz.prog.cellsOf 27=1:=by kernel_rfl
theorem cof97:Tryz.prog.cellsOf 97=1:=by kernel_rfl
theorem cof150:Tryz.prog.cellsOf 150=1:=by kernel_rfl
theorem cof274:Tryz.prog.cellsOf 274=2:=by kernel_rfl
theorem cof284:Tryz.prog.cellsOf 284=2:=by kernel_rfl
theorem finfo_of (h:VRead w "internal/strconv.float64info" Rows.laid_internal_strconv_float64info):Finfo w:=by
 obtain ⟨cs,fuel,p,hc,ht⟩:=h.at (g:=5) (t:=226) (by kernel_rfl) (by kernel_rfl)
 obtain ⟨xs,n,rfl,hx,_,_,hf⟩:=DataW.trod_struct Tryz.underlying226 ht
 injection hx with hx _
 injection hx with hx
 have key:∀ i:Nat,(xs.map (·.1))[i]? =([.lit (.int .u64 52),.lit (.int .u64 11),.lit (.int .i64 (-1023))]:List (DataW Unit))[i]? :=fun i=>by rw [← hx]
 have get:∀ (i:Nat) (d:DataW Unit),([.lit (.int .u64 52),.lit (.int .u64 11),.lit (.int .i64 (-1023))]:List (DataW Unit))[i]? =some d→∃ y,xs[i]? =some y∧y.1=d:=fun i d h=>by
  have:=key i
  rw [h,List.getElem?_map] at this
  cases hy:xs[i]? with
  |none=>rw [hy] at this;cases this
  |some y=>rw [hy] at this;exact ⟨y,rfl,by simpa using this⟩
 obtain ⟨y0,a0,b0⟩:=get 0 _ rfl
 obtain ⟨y1,a1,b1⟩:=get 1 _ rfl
 obtain ⟨y2,a2,b2⟩:=get 2 _ rfl
 exact ⟨by rw [hc];exact int_field Tryz.underlying150 cof150 ((hf 0 _ rfl).trans a0) b0,by rw [hc];exact int_field Tryz.underlying150 cof150 ((hf 1 _ rfl).trans a1) b1,by rw [hc];exact int_field Tryz.underlying3 cof3 ((hf 2 _ rfl).trans a2) b2⟩
theorem opt_of (h:VRead w "internal/strconv.optimize" Rows.laid_internal_strconv_optimize):w.cell? ⟨4,0,none⟩=some (.bool true):=by
 obtain ⟨cs,fuel,p,hc,ht⟩:=h.at (g:=4) (t:=4) (by kernel_rfl) (by kernel_rfl)
 obtain ⟨b,rfl,e⟩:=DataW.trod_bool Tryz.underlying4 ht
 injection e with e _
 injection e with e
 injection e with e
 subst e
 rw [hc];rfl
theorem err_of {n:String} {g:Nat} {nm:String} {d:DataW Unit} (h:VRead w n (.iface nm d)) (hg:Tryz.prog.globalNamed n=some g) (ht:(Tryz.prog.globals[g]?).map (·.type)=some 94):ErrC w g:=by
 obtain ⟨cs,fuel,p,hc,ht⟩:=h.at hg ht
 obtain ⟨_,u,v,rfl,_,_⟩:=iface_of_trod Tryz.underlying94 ht
 exact ⟨_,by rw [hc];rfl,.inr ⟨u,v,rfl⟩⟩
theorem slice_one {t e:TypeId} {ds:List (DataW Unit)} {cs:List Value} {fuel:Nat} {p:List MemPlace} (hu:Tryz.prog.underlying t=some (.slice e)) (hc:Tryz.prog.cellsOf e=1) (hne:ds≠[]) (h:DataW.trod (fun _=>()) Tryz.prog w 0 (fun _=>true) false fuel t cs=some (.slice ds [],p)):
  ∃ ad c,cs=[.slice (some ad) ds.length c]∧∀ (i:Nat) (d:DataW Unit),ds[i]? =some d→∃ v m y,w.cell? (ad.add i)=some v∧DataW.trod (fun _=>()) Tryz.prog w 0 (fun _=>true) false m e [v]=some y∧y.1=d:=by
 rcases DataW.trod_slice hu h with ⟨_,e2⟩|⟨a,len,cap,elems,rest,n,rfl,rfl,hx,_,hl,_,hel,hall,_⟩
 ·injection e2 with e2;cases e2
 ·injection hx with hx _
  injection hx with hx _
  have hlen:ds.length=len:=by rw [hx,List.length_map];exact hel
  refine ⟨a,cap,by rw [hlen],fun i d hd=> ?_⟩
  have hi:i < len:=by rw [← hlen];exact (List.getElem?_eq_some_iff.1 hd).1
  have h1:=hall i hi
  rw [hx,List.getElem?_map] at hd
  cases hy:elems[i]? with
  |none=>rw [hy] at hd;cases hd
  |some y=>
   rw [hy] at h1 hd
   obtain ⟨cs',hc1,hc2⟩:=Option.bind_eq_some_iff.1 h1
   obtain ⟨_,hcl,hcc⟩:=World.cells?_some hc1
   rw [hc] at hcl hcc
   obtain ⟨v,rfl⟩:∃ v,cs'=[v]:=by
    match cs',hcl with
    |[v],_=>exact ⟨v,rfl⟩
   refine ⟨v,n,y,?_,hc2,by simpa using hd⟩
   have:=hcc 0 (by decide)
   rw [Nat.mul_one] at this
   simpa [Addr.add] using this
theorem pow8_of (h:VRead w "internal/strconv.float64pow10" Rows.laid_internal_strconv_float64pow10):∃ ad c,Pow8 w ad c:=by
 obtain ⟨cs,fuel,p,hc,ht⟩:=h.at (g:=8) (t:=266) (by kernel_rfl) (by kernel_rfl)
 unfold Rows.laid_internal_strconv_float64pow10 at ht
 obtain ⟨ad,c,rfl,hall⟩:=slice_one Tryz.underlying266 cof97 (by simp) ht
 refine ⟨ad,c,by rw [hc];rfl,fun k hk=> ?_⟩
 have hd:∀ k:Fin 23,([.lit (.float .f64 4607182418800017408),.lit (.float .f64 4621819117588971520),.lit (.float .f64 4636737291354636288),.lit (.float .f64 4652007308841189376),.lit (.float .f64 4666723172467343360),.lit (.float .f64 4681608360884174848),.lit (.float .f64 4696837146684686336),.lit (.float .f64 4711630319722168320),.lit (.float .f64 4726483295884279808),.lit (.float .f64 4741671816366391296),.lit (.float .f64 4756540486875873280),.lit (.float .f64 4771362005757984768),.lit (.float .f64 4786511204640096256),.lit (.float .f64 4801453603149578240),.lit (.float .f64 4816244402031689728),.lit (.float .f64 4831355200913801216),.lit (.float .f64 4846369599423283200),.lit (.float .f64 4861130398305394688),.lit (.float .f64 4876203697187506176),.lit (.float .f64 4891288408196988160),.lit (.float .f64 4906019910204099648),.lit (.float .f64 4921056587992461136),.lit (.float .f64 4936209963552724370)]:List (DataW Unit))[k.1]? =some (.lit (.float .f64 (t10 k.1))):=fun k=>by
  match k with
  |⟨0,_⟩|⟨1,_⟩|⟨2,_⟩|⟨3,_⟩|⟨4,_⟩|⟨5,_⟩|⟨6,_⟩|⟨7,_⟩|⟨8,_⟩|⟨9,_⟩|⟨10,_⟩|⟨11,_⟩|⟨12,_⟩|⟨13,_⟩|⟨14,_⟩|⟨15,_⟩|⟨16,_⟩|⟨17,_⟩|⟨18,_⟩|⟨19,_⟩|⟨20,_⟩|⟨21,_⟩|⟨22,_⟩=>rfl
  |⟨n + 23,h⟩=>exact absurd h (by omega)
 obtain ⟨v,m,y,h1,h2,h3⟩:=hall k _ (hd ⟨k,hk⟩)
 obtain ⟨b,e1,e2⟩:=trod_float Tryz.underlying97 h2
 rw [e2] at h3
 injection h3 with h3
 injection h3 with _ h3
 have e1':v= .float .f64 b:=(List.cons.inj e1).1
 rw [h1,e1',h3]
theorem pows_of (h:VRead w "internal/strconv.powtab" Rows.laid_internal_strconv_powtab):∃ ad c,Pows w ad c:=by
 obtain ⟨cs,fuel,p,hc,ht⟩:=h.at (g:=7) (t:=265) (by kernel_rfl) (by kernel_rfl)
 unfold Rows.laid_internal_strconv_powtab at ht
 obtain ⟨ad,c,rfl,hall⟩:=slice_one Tryz.underlying265 cof3 (by simp) ht
 refine ⟨ad,c,by rw [hc];rfl,fun k hk=> ?_⟩
 have hd:∀ k:Fin 9,([.lit (.int .i64 1),.lit (.int .i64 3),.lit (.int .i64 6),.lit (.int .i64 9),.lit (.int .i64 13),.lit (.int .i64 16),.lit (.int .i64 19),.lit (.int .i64 23),.lit (.int .i64 26)]:List (DataW Unit))[k.1]? =some (.lit (.int .i64 (pt k.1:Nat))):=fun k=>by
  match k with
  |⟨0,_⟩|⟨1,_⟩|⟨2,_⟩|⟨3,_⟩|⟨4,_⟩|⟨5,_⟩|⟨6,_⟩|⟨7,_⟩|⟨8,_⟩=>rfl
 obtain ⟨v,m,y,h1,h2,h3⟩:=hall k _ (hd ⟨k,hk⟩)
 obtain ⟨b,e1,e2,_⟩:=DataW.trod_int Tryz.underlying3 h2
 rw [e2] at h3
 injection h3 with h3
 injection h3 with _ h3
 have e1':v= .int .i64 b:=(List.cons.inj e1).1
 rw [h1,e1',h3]
theorem tens_len:Pinned.pow10Rows.length=696:=by kernel_rfl
theorem tens_of (h:VRead w "internal/strconv.pow10Tab" Pinned.pow10Tab):Tens w:=by
 obtain ⟨cs,fuel,p,hc,ht⟩:=h.at (g:=9) (t:=275) (by kernel_rfl) (by kernel_rfl)
 unfold Pinned.pow10Tab at ht
 obtain ⟨xs,n,rfl,hx,_,hxl,hf⟩:=DataW.trod_array Tryz.underlying275 ht
 injection hx with hx _
 injection hx with hx
 have one:∀ k,k < 696→cs[k * 2]? =some (.int .u64 (p10 k).1)∧cs[k * 2 + 1]? =some (.int .u64 (p10 k).2):=fun k hk=>by
  have hr:Pinned.pow10Rows[k]? =some (p10 k):=by
   unfold p10
   rw [List.getD_eq_getElem?_getD,List.getElem?_eq_getElem (by rw [tens_len];exact hk)];rfl
  have h1:(xs.map (·.1))[k]? =some (.agg [.lit (.int .u64 (p10 k).1),.lit (.int .u64 (p10 k).2)]):=by
   rw [← hx,List.getElem?_map,hr];rfl
  rw [List.getElem?_map] at h1
  cases hy:xs[k]? with
  |none=>rw [hy] at h1;cases h1
  |some y=>
   rw [hy] at h1
   have hy1:y.1= .agg [.lit (.int .u64 (p10 k).1),.lit (.int .u64 (p10 k).2)]:=by simpa using h1
   have h2:=(hf k hk).trans hy
   obtain ⟨zs,m,rfl,hz,_,hzl,hg⟩:=DataW.trod_struct Tryz.underlying274 h2
   rw [hz] at hy1
   injection hy1 with hy1
   obtain ⟨z0,z1,rfl⟩:∃ a b,zs=[a,b]:=by
    match zs,hzl with
    |[a,b],_=>exact ⟨a,b,rfl⟩
   simp only [List.map_cons,List.map_nil,List.cons.injEq,and_true] at hy1
   have f0:=int_field Tryz.underlying27 cof27 (hg 0 _ rfl) hy1.1
   have f1:=int_field Tryz.underlying27 cof27 (hg 1 _ rfl) hy1.2
   rw [cof274] at f0 f1
   rw [List.getElem?_take_of_lt (by decide),List.getElem?_drop] at f0 f1
   exact ⟨by simpa using f0,f1⟩
 exact ⟨fun k hk=>by rw [hc];exact (one k hk).1,fun k hk=>by rw [hc];exact (one k hk).2⟩
theorem cheats_len:Pinned.cheatRows.length=61:=by kernel_rfl
theorem cheats_of (h:VRead w "internal/strconv.leftcheats" Pinned.leftcheats):∃ ad c,Cheats w ad c:=by
 obtain ⟨cs,fuel,p,hc,ht⟩:=h.at (g:=11) (t:=285) (by kernel_rfl) (by kernel_rfl)
 unfold Pinned.leftcheats at ht
 rcases DataW.trod_slice Tryz.underlying285 ht with ⟨_,e2⟩|⟨a,len,cap,elems,rest,n,rfl,rfl,hx,_,hl,_,hel,hall,_⟩
 ·injection e2 with e2;cases e2
 ·injection hx with hx _
  injection hx with hx _
  have hlen:len=61:=by
   have:=congrArg List.length hx
   rw [List.length_map,List.length_map,cheats_len,hel] at this
   exact this.symm
  subst hlen
  have one:∀ k,k≤60→w.cell? (a.add (k * 2))=some (.int .i64 ((cheat k).1:Nat))∧w.cell? ((a.add (k * 2)).add 1)=some (.string (cutS k)):=fun k hk=>by
   have hr:Pinned.cheatRows[k]? =some (cheat k):=by
    unfold cheat
    rw [List.getD_eq_getElem?_getD,List.getElem?_eq_getElem (by rw [cheats_len];omega)];rfl
   have h1:(elems.map (·.1))[k]? =some (.agg [.lit (.int .i64 (cheat k).1),.lit (.string (cheat k).2)]):=by
    rw [← hx,List.getElem?_map,hr];rfl
   rw [List.getElem?_map] at h1
   cases hy:elems[k]? with
   |none=>rw [hy] at h1;cases h1
   |some y=>
    rw [hy] at h1
    have hy1:y.1= .agg [.lit (.int .i64 (cheat k).1),.lit (.string (cheat k).2)]:=by simpa using h1
    have h2:=(hall k (by omega)).trans hy
    obtain ⟨cs',hc1,hc2⟩:=Option.bind_eq_some_iff.1 h2
    obtain ⟨_,hcl,hcc⟩:=World.cells?_some hc1
    rw [cof284] at hcl hcc
    obtain ⟨zs,m,rfl,hz,_,hzl,hg⟩:=DataW.trod_struct Tryz.underlying284 hc2
    rw [hz] at hy1
    injection hy1 with hy1
    obtain ⟨z0,z1,rfl⟩:∃ a b,zs=[a,b]:=by
     match zs,hzl with
     |[a,b],_=>exact ⟨a,b,rfl⟩
    simp only [List.map_cons,List.map_nil,List.cons.injEq,and_true] at hy1
    have f0:cs'[0]? =_:=int_field Tryz.underlying3 cof3 (hg 0 _ rfl) hy1.1
    have f1:cs'[1]? =_:=str_field Tryz.underlying9 cof9 (hg 1 _ rfl) hy1.2
    have g0:=hcc 0 (by decide)
    have g1:=hcc 1 (by decide)
    rw [f0] at g0
    rw [f1] at g1
    exact ⟨by simpa [Addr.add] using g0,g1⟩
  refine ⟨a,cap,by rw [hc];rfl,fun k hk=>(one k hk).1,fun k hk=> ?_⟩
  have:=(one k hk).2
  simpa [Addr.add] using this
theorem two_of {l:List (String×DataW Unit)} (h:laidMet Tryz.prog l w) {n:String} {d:DataW Unit} {g:Nat} (hm:(n,d)∈l) (hg:Tryz.prog.globalNamed n=some g) (hc:∃ v,w.cell? ⟨g,0,none⟩=some v):∃ c t,w.heap[g]? =some (.cells c t (0,0)):=by
 obtain ⟨ps,hv,_,hr⟩:=h
 obtain ⟨_,g',cs,h1,h2,h3⟩:=vars_read hv n d hm
 rw [hg] at h1
 cases h1
 have h4:=World.var?_cell hg h2 0
 obtain ⟨v,hv⟩:=hc
 rw [hv] at h4
 have h5:0 < cs.size:=by
  cases hs:cs.size with
  |zero=>rw [Array.getElem?_eq_none (by omega)] at h4;cases h4
  |succ k=>omega
 exact (hr g 0 (h3 0 h5)).1
/-- The tables, as the row lays them. -/
theorem ftabs_of (h:laidMet Tryz.prog Rows.fnArgMapUptoRow.laid w):FTabs w:=by
 have rd:∀ n d,(n,d)∈Rows.fnArgMapUptoRow.laid→VRead w n d:=fun n d hm=>let ⟨_,hv,_⟩:=h;(vars_read hv n d hm).1
 have m1:("internal/strconv.float64info",Rows.laid_internal_strconv_float64info)∈Rows.fnArgMapUptoRow.laid:=by simp [Rows.fnArgMapUptoRow]
 have m2:("internal/strconv.float32info",Rows.laid_internal_strconv_float32info)∈Rows.fnArgMapUptoRow.laid:=by simp [Rows.fnArgMapUptoRow]
 have fi:=finfo_of (rd _ _ m1)
 have c3:∃ v,w.cell? ⟨3,0,none⟩=some v:=by
  obtain ⟨cs,fuel,p,hc,ht⟩:=(rd _ _ m2).at (g:=3) (t:=226) (by kernel_rfl) (by kernel_rfl)
  obtain ⟨xs,n,rfl,hx,hl,_,_⟩:=DataW.trod_struct Tryz.underlying226 ht
  have h3:Tryz.prog.cellsOf 226=3:=by kernel_rfl
  rw [h3] at hl
  match cs,hl with
  |[a,_,_],_=>exact ⟨a,by rw [hc];rfl⟩
 exact ⟨fi,⟨two_of h m1 (by kernel_rfl) ⟨_,fi.m⟩,two_of h m2 (by kernel_rfl) c3⟩,pow8_of (rd _ _ (by simp [Rows.fnArgMapUptoRow])),tens_of (rd _ _ (by simp [Rows.fnArgMapUptoRow,Rows.laid_internal_strconv_pow10Tab])),cheats_of (rd _ _ (by simp [Rows.fnArgMapUptoRow,Rows.laid_internal_strconv_leftcheats])),pows_of (rd _ _ (by simp [Rows.fnArgMapUptoRow])),opt_of (rd _ _ (by simp [Rows.fnArgMapUptoRow])),
  err_of (rd "strconv.ErrSyntax" Rows.laid_strconv_ErrSyntax (by simp [Rows.fnArgMapUptoRow])) (by kernel_rfl) (by kernel_rfl),err_of (rd "strconv.ErrRange" Rows.laid_strconv_ErrRange (by simp [Rows.fnArgMapUptoRow])) (by kernel_rfl) (by kernel_rfl)⟩
end
section
variable {H:Type} {enc:TypeId×Value→H} {w:World}
abbrev LMx:Nat:=1048576
theorem one_bulk (d:DataW H):1≤Rows.uptoBulk d:=by
 cases d with
 |lit l=>cases l<;>simp [Rows.uptoBulk]
 |nil=>simp [Rows.uptoBulk]
 |ptr d=>simp [Rows.uptoBulk]
 |slice elems spare=>simp [Rows.uptoBulk]
 |agg parts=>simp [Rows.uptoBulk]
 |iface t d=>simp [Rows.uptoBulk]
 |map entries=>simp [Rows.uptoBulk]
 |held h=>simp [Rows.uptoBulk]
theorem part_bulk {d:DataW H} {l:List (DataW H)} (h:d∈l):Rows.uptoBulk d≤Rows.uptoBulkAll l:=by
 induction l with
 |nil=>cases h
 |cons x r ih=>
  simp only [Rows.uptoBulkAll]
  cases List.mem_cons.1 h with
  |inl e=>subst e;omega
  |inr e=>have:=ih e;omega
theorem length_bulk (l:List (DataW H)):l.length≤Rows.uptoBulkAll l:=by
 induction l with
 |nil=>simp [Rows.uptoBulkAll]
 |cons x r ih=>have:=one_bulk x;simp only [Rows.uptoBulkAll,List.length_cons];omega
noncomputable abbrev Trod (enc:TypeId×Value→H) (w:World) (fuel:Nat) (t:TypeId) (cs:List Value):Option (DataW H×List MemPlace):=DataW.trod enc Tryz.prog w 0 (fun _=>true) true fuel t cs
theorem open_slice {α:Type} {t e:TypeId} {sz:Nat} {d:Kd α} {S:α→Prop} (hu:Tryz.prog.underlying t=some (.slice e)) (hc:Tryz.prog.cellsOf e=sz) (hsz:d.sz=sz) {fuel:Nat} {cs:List Value} {x:DataW H×List MemPlace} (h:Trod enc w fuel t cs=some x)
  (ih:∀ m,m < fuel→∀ cs' y,Trod enc w m e cs'=some y→∃ s,d.K w s cs'∧(Rows.uptoBulk y.1≤LMx→S s)):
  ∃ (A:Option Addr) (k:Nat) (l:List α),cs=[.slice A l.length k]∧l.length≤k∧Kd.C d w A l.length l∧(Rows.uptoBulk x.1≤LMx→l.length≤LMx∧∀ y∈l,S y):=by
 rcases DataW.trod_slice hu h with ⟨e1,he⟩|⟨a,len,cap,elems,rest,m,hm,e1,hy,_,hl,hmx,hel,hall,_⟩
 ·exact ⟨none,0,[],e1,Nat.le_refl _,⟨rfl,Nat.zero_le _,fun h=>absurd h (Nat.lt_irrefl 0)⟩,fun _=>⟨Nat.zero_le _,fun y hy=>by cases hy⟩⟩
 ·rw [hc] at hall
  have hone:∀ i,i < len→∃ s:α,∃ y:DataW H×List MemPlace,elems[i]? =some y∧(∃ c,c.length=d.sz∧d.K w s c∧∀ j u,c[j]? =some u→w.cell? (a.add (i * d.sz + j))=some u)∧(Rows.uptoBulk y.1≤LMx→S s):=by
   intro i hi
   have hi':=hall i hi
   rw [List.getElem?_eq_getElem (by omega)] at hi'
   obtain ⟨cs',hc1,hc2⟩:=Option.bind_eq_some_iff.1 hi'
   obtain ⟨s,hK,hS⟩:=ih m (by omega) cs' _ hc2
   obtain ⟨_,hcl,hcc⟩:=World.cells?_some hc1
   refine ⟨s,_,List.getElem?_eq_getElem (by omega),⟨cs',by rw [hsz];exact hcl,hK,fun j u hu=> ?_⟩,hS⟩
   have hj:j < sz:=by have:=(List.getElem?_eq_some_iff.1 hu).1;omega
   rw [hsz,← Deep.add_add,hcc j hj,hu]
  have hch:∃ X:Nat→Option α,∀ i,i < len→∃ s,X i=some s∧∃ y:DataW H×List MemPlace,elems[i]? =some y∧(∃ c,c.length=d.sz∧d.K w s c∧∀ j u,c[j]? =some u→w.cell? (a.add (i * d.sz + j))=some u)∧(Rows.uptoBulk y.1≤LMx→S s):=by
   refine ⟨fun i=>open Classical in if h:i < len then some (Classical.choose (hone i h)) else none,fun i hi=>⟨Classical.choose (hone i hi),by simp [hi],Classical.choose_spec (hone i hi)⟩⟩
  obtain ⟨X,hX⟩:=hch
  obtain ⟨l,hll,hlX⟩:∃ l:List α,l.length=len∧∀ i,i < len→l[i]? =X i:=by
   have:∀ m,m≤len→∃ l:List α,l.length=m∧∀ i,i < m→l[i]? =X i:=by
    intro m
    induction m with
    |zero=>exact fun _=>⟨[],rfl,fun i h=>absurd h (Nat.not_lt_zero _)⟩
    |succ m ihm=>
     intro hm1
     obtain ⟨l,h1,h2⟩:=ihm (by omega)
     obtain ⟨s,hs,_⟩:=hX m (by omega)
     refine ⟨l ++ [s],by simp [h1],fun i hi=> ?_⟩
     rcases Nat.lt_or_ge i m with h3|h3
     ·rw [List.getElem?_append_left (by omega)];exact h2 i h3
     ·obtain rfl:i=m:=by omega
      rw [List.getElem?_append_right (by omega),h1,Nat.sub_self,hs];rfl
   exact this len (Nat.le_refl _)
  refine ⟨some a,cap,l,by rw [hll];exact e1,by rw [hll];exact hl,⟨rfl,by rw [hll];exact Nat.le_trans hl hmx,fun _=>⟨a,rfl,fun j p hj=> ?_⟩⟩,fun hB=> ?_⟩
  ·have hj':j < len:=by have:=(List.getElem?_eq_some_iff.1 hj).1;omega
   obtain ⟨s,hs,y,_,hc6,_⟩:=hX j hj'
   rw [hlX j hj',hs] at hj
   cases hj
   exact hc6
  ·rw [hy] at hB
   simp only [Rows.uptoBulk] at hB
   have hlb:=length_bulk (elems.map (·.1))
   rw [List.length_map] at hlb
   refine ⟨by rw [hll];omega,fun y hy=> ?_⟩
   obtain ⟨i,hi,e⟩:=List.getElem_of_mem hy
   have hi':i < len:=by omega
   obtain ⟨s,hs,z,hz,_,hS⟩:=hX i hi'
   have:l[i]? =some y:=by rw [List.getElem?_eq_getElem hi,e]
   rw [hlX i hi',hs] at this
   cases this
   refine hS ?_
   have:=part_bulk (H:=H) (List.mem_map.2 ⟨z,List.mem_of_getElem? hz,rfl⟩:z.1∈elems.map (·.1))
   omega
theorem coq4:Tryz.prog.cellsOf 4=1:=by kernel_rfl
theorem coq41:Tryz.prog.cellsOf 41=3:=by kernel_rfl
theorem coq45:Tryz.prog.cellsOf 45=7:=by kernel_rfl
theorem coq46:Tryz.prog.cellsOf 46=1:=by kernel_rfl
theorem coq39:Tryz.prog.cellsOf 39=1:=by kernel_rfl
theorem coq42:Tryz.prog.cellsOf 42=1:=by kernel_rfl
theorem coq43:Tryz.prog.cellsOf 43=1:=by kernel_rfl
theorem coq22:Tryz.prog.cellsOf 22=1:=by kernel_rfl
theorem coq48:Tryz.prog.cellsOf 48=3:=by kernel_rfl
theorem coq50:Tryz.prog.cellsOf 50=4:=by kernel_rfl
theorem coq52:Tryz.prog.cellsOf 52=4:=by kernel_rfl
theorem coq122:Tryz.prog.cellsOf 122=2:=by kernel_rfl
theorem len2 {α:Type} {cs:List α} (h:cs.length=2):∃ a b,cs=[a,b]:=by
 match cs,h with
 |[a,b],_=>exact ⟨a,b,rfl⟩
theorem len3 {α:Type} {cs:List α} (h:cs.length=3):∃ a b c,cs=[a,b,c]:=by
 match cs,h with
 |[a,b,c],_=>exact ⟨a,b,c,rfl⟩
theorem len4 {α:Type} {cs:List α} (h:cs.length=4):∃ a b c d,cs=[a,b,c,d]:=by
 match cs,h with
 |[a,b,c,d],_=>exact ⟨a,b,c,d,rfl⟩
theorem len5 {α:Type} {cs:List α} (h:cs.length=5):∃ a b c d e,cs=[a,b,c,d,e]:=by
 match cs,h with
 |[a,b,c,d,e],_=>exact ⟨a,b,c,d,e,rfl⟩
theorem len7 {α:Type} {cs:List α} (h:cs.length=7):∃ a b c d e f g,cs=[a,b,c,d,e,f,g]:=by
 match cs,h with
 |[a,b,c,d,e,f,g],_=>exact ⟨a,b,c,d,e,f,g,rfl⟩
theorem str_bulk {s:ByteArray} {y:DataW H} (h:y= .lit (.string s.data.toList)):Rows.uptoBulk y=s.size + 1:=by
 rw [h];simp only [Rows.uptoBulk,Array.length_toList];rfl
theorem open_typ (fuel:Nat):∀ (cs:List Value) (x:DataW H×List MemPlace),Trod enc w fuel 41 cs=some x→∃ s,k41.K w s cs∧(Rows.uptoBulk x.1≤LMx→TSm s):=by
 induction fuel using Nat.strongRecOn with
 |ind fuel ih=>
  intro cs x h
  obtain ⟨xs,n,rfl,rfl,hlen,hxs,hf⟩:=DataW.trod_struct Tryz.underlying41 h
  rw [coq41] at hlen
  obtain ⟨v0,v1,v2,rfl⟩:=len3 hlen
  obtain ⟨y0,y1,y2,rfl⟩:=len3 (show xs.length=3 from hxs)
  have h0:Trod enc w n 9 (([v0,v1,v2].drop 0).take (Tryz.prog.cellsOf 9))=some y0:=hf 0 _ rfl
  have h1:Trod enc w n 39 (([v0,v1,v2].drop 1).take (Tryz.prog.cellsOf 39))=some y1:=hf 1 _ rfl
  have h2:Trod enc w n 4 (([v0,v1,v2].drop 2).take (Tryz.prog.cellsOf 4))=some y2:=hf 2 _ rfl
  rw [cof9] at h0
  rw [coq39] at h1
  rw [coq4] at h2
  obtain ⟨s0,e0,d0,_⟩:=DataW.trod_string Tryz.underlying9 h0
  obtain ⟨A,k,l,e1,hl,hC,hB⟩:=open_slice (d:=k41) (S:=TSm) Tryz.underlying39 coq41 rfl h1 (fun m hm cs' y hy=>ih m (by omega) cs' y hy)
  obtain ⟨b2,e2,_⟩:=DataW.trod_bool Tryz.underlying4 h2
  have e0':v0= .string s0:=(List.cons.inj (show [v0]=[.string s0] from e0)).1
  have e1':v1= .slice A l.length k:=(List.cons.inj (show [v1]=[.slice A l.length k] from e1)).1
  have e2':v2= .bool b2:=(List.cons.inj (show [v2]=[.bool b2] from e2)).1
  subst e0' e1' e2'
  refine ⟨⟨s0,l,b2⟩,k41_mk w ⟨s0,l,b2⟩ hl hC,fun hb=> ?_⟩
  simp only [Rows.uptoBulk,List.map_cons,List.map_nil,Rows.uptoBulkAll] at hb
  have b0:=str_bulk (congrArg Prod.fst d0)
  obtain ⟨h3,h4⟩:=hB (by omega)
  exact .mk (by show s0.size≤1048576;simp only [LMx] at hb;omega) h3 h4
theorem open_kid {t:TypeId} (ht:Tryz.prog.underlying t=Tryz.prog.underlying 52) (hc:Tryz.prog.cellsOf t=4) (fuel:Nat) (ih:∀ m,m < fuel→∀ (cs:List Value) (x:DataW H×List MemPlace),Trod enc w m 48 cs=some x→∃ s,kVl.K w s cs∧(Rows.uptoBulk x.1≤LMx→Sm s)) (cs:List Value) (x:DataW H×List MemPlace) (h:Trod enc w fuel t cs=some x):∃ s,kKid.K w s cs∧(Rows.uptoBulk x.1≤LMx→s.1.size≤1048576∧Sm s.2):=by
 obtain ⟨xs,n,rfl,rfl,hlen,hxs,hf⟩:=DataW.trod_struct (ht.trans Tryz.underlying52) h
 rw [hc] at hlen
 obtain ⟨v0,v1,v2,v3,rfl⟩:=len4 hlen
 obtain ⟨y0,y1,rfl⟩:=len2 (show xs.length=2 from hxs)
 have h0:Trod enc w n 9 (([v0,v1,v2,v3].drop 0).take (Tryz.prog.cellsOf 9))=some y0:=hf 0 _ rfl
 have h1:Trod enc w n 48 (([v0,v1,v2,v3].drop 1).take (Tryz.prog.cellsOf 48))=some y1:=hf 1 _ rfl
 rw [cof9] at h0
 rw [coq48] at h1
 obtain ⟨s0,e0,d0,_⟩:=DataW.trod_string Tryz.underlying9 h0
 obtain ⟨v,hK,hS⟩:=ih n (by omega) _ _ h1
 have e0':v0= .string s0:=(List.cons.inj (show [v0]=[.string s0] from e0)).1
 subst e0'
 refine ⟨(s0,v),⟨[.string s0],[v1,v2,v3],rfl,rfl,hK⟩,fun hb=> ?_⟩
 simp only [Rows.uptoBulk,List.map_cons,List.map_nil,Rows.uptoBulkAll] at hb
 have b0:=str_bulk (congrArg Prod.fst d0)
 exact ⟨by show s0.size≤1048576;simp only [LMx] at hb;omega,hS (by omega)⟩
theorem open_val (fuel:Nat):∀ (cs:List Value) (x:DataW H×List MemPlace),Trod enc w fuel 48 cs=some x→∃ s,kVl.K w s cs∧(Rows.uptoBulk x.1≤LMx→Sm s):=by
 induction fuel using Nat.strongRecOn with
 |ind fuel ih=>
  intro cs x h
  obtain ⟨xs,n,rfl,rfl,hlen,hxs,hf⟩:=DataW.trod_struct Tryz.underlying48 h
  rw [coq48] at hlen
  obtain ⟨v0,v1,v2,rfl⟩:=len3 hlen
  obtain ⟨y0,y1,y2,rfl⟩:=len3 (show xs.length=3 from hxs)
  have h0:Trod enc w n 3 (([v0,v1,v2].drop 0).take (Tryz.prog.cellsOf 3))=some y0:=hf 0 _ rfl
  have h1:Trod enc w n 9 (([v0,v1,v2].drop 1).take (Tryz.prog.cellsOf 9))=some y1:=hf 1 _ rfl
  have h2:Trod enc w n 46 (([v0,v1,v2].drop 2).take (Tryz.prog.cellsOf 46))=some y2:=hf 2 _ rfl
  rw [cof3] at h0
  rw [cof9] at h1
  rw [coq46] at h2
  obtain ⟨n0,e0,_,_⟩:=DataW.trod_int Tryz.underlying3 h0
  obtain ⟨s1,e1,d1,_⟩:=DataW.trod_string Tryz.underlying9 h1
  obtain ⟨A,k,l,e2,hl,hC,hB⟩:=open_slice (d:=kKid) (S:=fun s=>s.1.size≤1048576∧Sm s.2) Tryz.underlying46 coq52 rfl h2 (fun m hm cs' y hy=>open_kid rfl coq52 m (fun m2 hm2 cs2 y2 hy2=>ih m2 (by omega) cs2 y2 hy2) cs' y hy)
  have e0':v0= .int .i64 n0:=(List.cons.inj (show [v0]=[.int .i64 n0] from e0)).1
  have e1':v1= .string s1:=(List.cons.inj (show [v1]=[.string s1] from e1)).1
  have e2':v2= .slice A l.length k:=(List.cons.inj (show [v2]=[.slice A l.length k] from e2)).1
  subst e0' e1' e2'
  refine ⟨⟨n0,s1,l⟩,kVl_mk w ⟨n0,s1,l⟩ hl hC,fun hb=> ?_⟩
  simp only [Rows.uptoBulk,List.map_cons,List.map_nil,Rows.uptoBulkAll] at hb
  have b1:=str_bulk (congrArg Prod.fst d1)
  obtain ⟨h3,h4⟩:=hB (by omega)
  exact .mk (by show s1.size≤1048576;simp only [LMx] at hb;omega) h3 (fun q hq=>(h4 q hq).1) (fun q hq=>(h4 q hq).2)
theorem open_args {fuel:Nat} {cs:List Value} {x:DataW H×List MemPlace} (h:Trod enc w fuel 22 cs=some x):∃ (A:Option Addr) (k:Nat) (l:List Kid),cs=[.slice A l.length k]∧l.length≤k∧kKid.C w A l.length l∧(Rows.uptoBulk x.1≤LMx→SmK l):=by
 obtain ⟨A,k,l,e,hl,hC,hB⟩:=open_slice (d:=kKid) (S:=fun s=>s.1.size≤1048576∧Sm s.2) Tryz.underlying22 coq50 rfl h (fun m hm cs' y hy=>open_kid (Tryz.underlying50.trans Tryz.underlying52.symm) coq50 m (fun m2 _ cs2 y2 hy2=>open_val m2 cs2 y2 hy2) cs' y hy)
 exact ⟨A,k,l,e,hl,hC,hB⟩
theorem open_dir (fuel:Nat) (cs:List Value) (x:DataW H×List MemPlace) (h:Trod enc w fuel 122 cs=some x):∃ s,kDr.K w s cs∧(Rows.uptoBulk x.1≤LMx→s.1.size≤1048576∧SmK s.2):=by
 obtain ⟨xs,n,rfl,rfl,hlen,hxs,hf⟩:=DataW.trod_struct Tryz.underlying122 h
 rw [coq122] at hlen
 obtain ⟨v0,v1,rfl⟩:=len2 hlen
 obtain ⟨y0,y1,rfl⟩:=len2 (show xs.length=2 from hxs)
 have h0:Trod enc w n 9 (([v0,v1].drop 0).take (Tryz.prog.cellsOf 9))=some y0:=hf 0 _ rfl
 have h1:Trod enc w n 22 (([v0,v1].drop 1).take (Tryz.prog.cellsOf 22))=some y1:=hf 1 _ rfl
 rw [cof9] at h0
 rw [coq22] at h1
 obtain ⟨s0,e0,d0,_⟩:=DataW.trod_string Tryz.underlying9 h0
 obtain ⟨A,k,l,e1,hl,hC,hB⟩:=open_args h1
 have e0':v0= .string s0:=(List.cons.inj (show [v0]=[.string s0] from e0)).1
 have e1':v1= .slice A l.length k:=(List.cons.inj (show [v1]=[.slice A l.length k] from e1)).1
 subst e0' e1'
 refine ⟨(s0,l),⟨_,_,rfl,rfl,⟨A,k,rfl,hl,hC⟩⟩,fun hb=> ?_⟩
 simp only [Rows.uptoBulk,List.map_cons,List.map_nil,Rows.uptoBulkAll] at hb
 have b0:=str_bulk (congrArg Prod.fst d0)
 exact ⟨by show s0.size≤1048576;simp only [LMx] at hb;omega,hB (by omega)⟩
theorem open_def (fuel:Nat) (cs:List Value) (x:DataW H×List MemPlace) (h:Trod enc w fuel 45 cs=some x):∃ s,kAD.K w s cs∧(Rows.uptoBulk x.1≤LMx→s.doc.size≤1048576∧s.name.size≤1048576∧TSm s.t∧(s.dflt.length≤1048576∧∀ v∈s.dflt,Sm v)∧SmD s.dirs):=by
 obtain ⟨xs,n,rfl,rfl,hlen,hxs,hf⟩:=DataW.trod_struct Tryz.underlying45 h
 rw [coq45] at hlen
 obtain ⟨v0,v1,v2,v3,v4,v5,v6,rfl⟩:=len7 hlen
 obtain ⟨y0,y1,y2,y3,y4,rfl⟩:=len5 (show xs.length=5 from hxs)
 have h0:Trod enc w n 9 (([v0,v1,v2,v3,v4,v5,v6].drop 0).take (Tryz.prog.cellsOf 9))=some y0:=hf 0 _ rfl
 have h1:Trod enc w n 9 (([v0,v1,v2,v3,v4,v5,v6].drop 1).take (Tryz.prog.cellsOf 9))=some y1:=hf 1 _ rfl
 have h2:Trod enc w n 41 (([v0,v1,v2,v3,v4,v5,v6].drop 2).take (Tryz.prog.cellsOf 41))=some y2:=hf 2 _ rfl
 have h3:Trod enc w n 42 (([v0,v1,v2,v3,v4,v5,v6].drop 5).take (Tryz.prog.cellsOf 42))=some y3:=hf 3 _ rfl
 have h4:Trod enc w n 43 (([v0,v1,v2,v3,v4,v5,v6].drop 6).take (Tryz.prog.cellsOf 43))=some y4:=hf 4 _ rfl
 rw [cof9] at h0 h1
 rw [coq41] at h2
 rw [coq42] at h3
 rw [coq43] at h4
 obtain ⟨s0,e0,d0,_⟩:=DataW.trod_string Tryz.underlying9 h0
 obtain ⟨s1,e1,d1,_⟩:=DataW.trod_string Tryz.underlying9 h1
 obtain ⟨ty,hty,hTS⟩:=open_typ n _ _ h2
 obtain ⟨A3,k3,l3,e3,hl3,hC3,hB3⟩:=open_slice (d:=kVl) (S:=Sm) Tryz.underlying42 coq48 rfl h3 (fun m _ cs' y hy=>open_val m cs' y hy)
 obtain ⟨A4,k4,l4,e4,hl4,hC4,hB4⟩:=open_slice (d:=kDr) (S:=fun s=>s.1.size≤1048576∧SmK s.2) Tryz.underlying43 coq122 rfl h4 (fun m _ cs' y hy=>open_dir m cs' y hy)
 have e0':v0= .string s0:=(List.cons.inj (show [v0]=[.string s0] from e0)).1
 have e1':v1= .string s1:=(List.cons.inj (show [v1]=[.string s1] from e1)).1
 have e3':v5= .slice A3 l3.length k3:=(List.cons.inj (show [v5]=[.slice A3 l3.length k3] from e3)).1
 have e4':v6= .slice A4 l4.length k4:=(List.cons.inj (show [v6]=[.slice A4 l4.length k4] from e4)).1
 subst e0' e1' e3' e4'
 refine ⟨⟨s0,s1,ty,l3,l4⟩,⟨[.string s0],_,rfl,rfl,⟨[.string s1],_,rfl,rfl,⟨[v2,v3,v4],_,rfl,hty,⟨[.slice A3 l3.length k3],[.slice A4 l4.length k4],rfl,⟨A3,k3,rfl,hl3,hC3⟩,⟨A4,k4,rfl,hl4,hC4⟩⟩⟩⟩⟩,fun hb=> ?_⟩
 simp only [Rows.uptoBulk,List.map_cons,List.map_nil,Rows.uptoBulkAll] at hb
 have b0:=str_bulk (congrArg Prod.fst d0)
 have b1:=str_bulk (congrArg Prod.fst d1)
 exact ⟨by show s0.size≤1048576;simp only [LMx] at hb;omega,by show s1.size≤1048576;simp only [LMx] at hb;omega,hTS (by omega),hB3 (by omega),hB4 (by omega)⟩
theorem open_defs {fuel:Nat} {cs:List Value} {x:DataW H×List MemPlace} (h:Trod enc w fuel 23 cs=some x):∃ (A:Option Addr) (k:Nat) (l:List ADef),cs=[.slice A l.length k]∧l.length≤k∧kAD.C w A l.length l∧(Rows.uptoBulk x.1≤LMx→SmA l):=by
 obtain ⟨A,k,l,e,hl,hC,hB⟩:=open_slice (d:=kAD) (S:=fun s=>s.doc.size≤1048576∧s.name.size≤1048576∧TSm s.t∧(s.dflt.length≤1048576∧∀ v∈s.dflt,Sm v)∧SmD s.dirs) Tryz.underlying23 coq45 rfl h (fun m _ cs' y hy=>open_def m cs' y hy)
 exact ⟨A,k,l,e,hl,hC,hB⟩
end
end Go.Proofs.YtlblbefbbibpaaaGreatDoor.J
