/- Part. -/
import Derived.Test.YtlblbefbbibpaaaGreatDoorQAT
set_option linter.unusedVariables false
set_option linter.unusedSimpArgs false
set_option maxHeartbeats 8000000
set_option maxRecDepth 100000
namespace Go.Proofs.YtlblbefbbibpaaaGreatDoor.J
open Go.RowKit Zw Zw.PrintWords Zw.PrintLast Zw.PrintMore PAM
open Go.Sort (grow putRowK HoldsK flatK PermIn SortedIn SWO)
open Go.Lib
abbrev SL:=Option Addr×Nat×Nat
abbrev slv (s:SL):Value:= .slice s.1 s.2.1 s.2.2
abbrev KU:=(ByteArray×Dt)×SL
instance:Inhabited KU:=⟨((⟨#[]⟩,dNull),(none,0,0))⟩
abbrev encK (x:KU):List Value:=kcells x.1 (slv x.2)
abbrev ltK (x y:KU):Bool:=bl x.1.1 y.1.1
theorem swo_ltK:SWO ltK:=⟨fun x=>bl_irr _,fun _ _ _ h h'=>bl_trans h h',fun _ _ _ h h'=>bl_ntrans h h'⟩
abbrev x12 (v:Value):Array Value:=#[.int .i64 6,bF,i0,.int .u64 0,eS,v]
theorem less_ok {g12 g cap n:Nat} (W:World) (hx:∀ j,W.cell? ⟨g12,j,none⟩=(x12 (.slice (some ⟨g,0,none⟩) n cap))[j]?) (nm:Nat→ByteArray) (hn:∀ t,t < n→W.cell? ⟨g,t * 7,none⟩=some (.string (nm t))) (i j:Nat) (hi:i < n) (hj:j < n) (hN:n < 4611686018427387904):
  Calls Tryz.prog 41 #[.int .i64 i,.int .i64 j,ptr g12] W fun e w'=>e= .returned (.bool (bl (nm i) (nm j)))∧∃ q,w'=W.drewN q:=by
 have ci:=hn i hi
 have cj:=hn j hj
 go_enter Tryz.func41,Tryz.ntmps41
 go_wp2
 go_quiet (fail)
 go_wp2
 go_ret
 exact ⟨rfl,nq,rfl⟩
theorem flat_row {ks:List (ByteArray×Dt)} {us:List SL} (h:us.length=ks.length):(flatK encK 7 (ks.zip us).toArray).toList=rowOf ks (us.map slv):=by
 have hz:(ks.zip us).length=ks.length:=by simp [List.length_zip];omega
 have hs:(flatK encK 7 (ks.zip us).toArray).size=ks.length * 7:=by rw [Go.Sort.size_flatK,List.size_toArray,hz]
 refine List.ext_getElem? fun t=> ?_
 rcases Nat.lt_or_ge t (ks.length * 7) with ht|ht
 ·have hd:t / 7 < ks.length:=Nat.div_lt_of_lt_mul (by omega)
  have hk:ks[t / 7]? =some ks[t / 7]:=List.getElem?_eq_getElem hd
  have hu:(us.map slv)[t / 7]? =some (slv (us[t / 7]'(by omega))):=by rw [List.getElem?_map,List.getElem?_eq_getElem (by omega)];rfl
  have e1:=rowOf_get hk hu (t % 7) (Nat.mod_lt _ (by decide))
  have e2:t / 7 * 7 + t % 7=t:=by omega
  rw [e2] at e1
  rw [e1]
  have ht2:t < (flatK encK 7 (ks.zip us).toArray).size:=by rw [hs];exact ht
  have e3:=Go.Sort.get_flatK encK 7 (ks.zip us).toArray t (by rw [Go.Sort.size_flatK] at ht2;exact ht2)
  rw [getElem!_pos _ t ht2] at e3
  have e4:(ks.zip us).toArray[t / 7]! =(ks[t / 7],us[t / 7]'(by omega)):=by
   rw [getElem!_pos _ _ (by simp [hz];omega)]
   simp
  rw [e4] at e3
  rw [Array.getElem?_toList,Array.getElem?_eq_getElem ht2,e3]
  have h7:t % 7 < (kcells ks[t / 7] (slv (us[t / 7]'(by omega)))).length:=Nat.mod_lt _ (by decide)
  rw [List.getElem?_eq_getElem h7,getElem!_pos (kcells ks[t / 7] (slv (us[t / 7]'(by omega)))) (t % 7) h7]
 ·rw [List.getElem?_eq_none (by simp [hs];omega),List.getElem?_eq_none (by rw [rowOf_len _ _ (by simpa using h)];exact ht)]
theorem At.sorted {w W:World} {L T:List Blk} {g:Nat} {cur:Array Value} (H:At w (L ++ (.b g (row cur 85)::T)) W) (hg:w.heap.size≤g) (F:Array Value) (q:Nat) (os:Array Obj):
  At w (L ++ (.b g (row (Go.Sort.putCells id 0 F cur) 85)::T)) (grow (Go.Sort.putRow id (Go.Sort.ahead W q) g 0 F) os):=by
 have H1:At w (.b g (row cur 85)::(L ++ T)) (W.drewN q):=(H.drewN q).perm List.perm_middle
 have e:(Go.Sort.putRow id (Go.Sort.ahead W q) g 0 F)={W.drewN q with heap:=(W.drewN q).heap.modify g (Go.Sort.onCells (Go.Sort.putCells id 0 F))}:=rfl
 have hh:(W.drewN q).heap[g]? =some (.cells cur 85 (0,0)):=H1.k.1
 have hlt:g < (W.drewN q).heap.size:=blk_lt hh
 have h1:(Go.Sort.putRow id (Go.Sort.ahead W q) g 0 F).heap[g]? =some (.cells (Go.Sort.putCells id 0 F cur) 85 (0,0)):=by
  rw [e]
  show ((W.drewN q).heap.modify g _)[g]? =_
  rw [Array.getElem?_modify,if_pos rfl,hh]
  rfl
 have hs:(Go.Sort.putRow id (Go.Sort.ahead W q) g 0 F).heap.size=(W.drewN q).heap.size:=by rw [e];simp
 have ho:∀ k,k≠g→(Go.Sort.putRow id (Go.Sort.ahead W q) g 0 F).heap[k]? =(W.drewN q).heap[k]? :=fun k hk=>by
  rw [e]
  show ((W.drewN q).heap.modify g _)[k]? =_
  rw [Array.getElem?_modify,if_neg (fun e1=>hk e1.symm)]
 have H2:=H1.swept (W1:=Go.Sort.putRow id (Go.Sort.ahead W q) g 0 F) 0 rfl rfl hg ⟨rfl,rfl,rfl,Nat.le_of_eq hs.symm,fun k _ hk=>ho k (fun e1=>hk (by rw [e1]))⟩ hs h1
 have H3:At w (L ++ (.b g (row (Go.Sort.putCells id 0 F cur) 85)::T)) (Go.Sort.putRow id (Go.Sort.ahead W q) g 0 F):=H2.perm (List.perm_middle (l₁:=L) (l₂:=T)).symm
 refine H3.step ⟨rfl,rfl,rfl,?_,fun j hj=> ?_⟩
 ·show _≤(_ ++ os).size
  simp
 ·show (_ ++ os)[j]? =_
  rw [Array.getElem?_append_left hj]
theorem At.grown_ {w W:World} {l:List Blk} (H:At w l W) (os:Array Obj):At w l (grow W os):=by
 refine H.step ⟨rfl,rfl,rfl,?_,fun j hj=> ?_⟩
 ·show _≤(_ ++ os).size
  simp
 ·show (_ ++ os)[j]? =_
  rw [Array.getElem?_append_left hj]
theorem putCells_list {F cur:Array Value} (h:F.size≤cur.size):(Go.Sort.putCells id 0 F cur).toList.take F.size=F.toList∧(Go.Sort.putCells id 0 F cur).size=cur.size:=by
 have hs:(Go.Sort.putCells id 0 F cur).size=cur.size:=by simp [Go.Sort.putCells]
 refine ⟨?_,hs⟩
 refine List.ext_getElem? fun t=> ?_
 rcases Nat.lt_or_ge t F.size with ht|ht
 ·rw [List.getElem?_take_of_lt ht,Array.getElem?_toList,Array.getElem?_toList,Array.getElem?_eq_getElem (by omega),Array.getElem?_eq_getElem ht]
  simp [Go.Sort.putCells,ht]
 ·rw [List.getElem?_eq_none (by simp;omega),List.getElem?_eq_none (by simp;omega)]
noncomputable def ti28:TypeInfo:=(Tryz.prog.info? 28).get (by kernel_rfl)
noncomputable def ti85:TypeInfo:=(Tryz.prog.info? 85).get (by kernel_rfl)
theorem swK (n:Nat) (h2:2≤n):Go.Lib.swapperK n ti85 25=9:=by
 have a:ti85.hasPointers=true:=by kernel_rfl
 have b:(ti85.bytes == 8)=false:=by kernel_rfl
 have c:(n == 0)=false:=by simp;omega
 have d:(n == 1)=false:=by simp;omega
 simp [Go.Lib.swapperK,a,b,c,d]
theorem sort_ok {w W:World} {L T pr:List Blk} {g12 n:Nat} {v:Value} {ks:List (ByteArray×Dt)} {us:List SL} (H:At w (.b g12 (row (x12 v) 30)::(L ++ (pr ++ T))) W) (hP:PR w.heap.size pr 85 7 v n (rowOf ks (us.map slv))) (hn:ks.length=n) (hl:us.length=n) (hN:n≤1073741824):
  Calls Tryz.prog 40 #[.iface 28 v,.func (.func 41) #[] #[ptr g12]] W fun e w'=>e= .returned (.tuple #[])∧∃ pr' ks' us',PR w.heap.size pr' 85 7 v n (rowOf ks' (us'.map slv))∧(ks'.zip us').Perm (ks.zip us)∧ks'.length=n∧us'.length=n∧ks'.Pairwise (fun a b=>bl b.1 a.1=false)∧At w (.b g12 (row (x12 v) 30)::(L ++ (pr' ++ T))) w':=by
 obtain ⟨A,c,rfl,hnc⟩:=hP.slice
 rcases Nat.lt_or_ge n 2 with h2|h2
 ·have hf:∃ f,Tryz.prog.funcs.findIdx? (·.name == "internal/reflectlite" ++ ".Swapper$" ++ toString (Go.Lib.swapperK n ti85 25))=some f:=by
   have:n=0∨n=1:=by omega
   rcases this with rfl|rfl
   ·exact ⟨66,by kernel_rfl⟩
   ·exact ⟨67,by kernel_rfl⟩
  obtain ⟨f,hf⟩:=hf
  refine (Tryz.sort_tiny 28 85 ti28 ti85 (by kernel_rfl) (by kernel_rfl) (by kernel_rfl) (by kernel_rfl) 25 (fun _=>by kernel_rfl) A n c (by omega) f hf (.func 41) #[] #[ptr g12] W).mono ?_
  rintro e w' ⟨rfl,os,rfl⟩
  refine ⟨rfl,pr,ks,us,hP,List.Perm.refl _,hn,hl,?_,H.grown_ os⟩
  match ks,hn with
  |[],_=>exact List.Pairwise.nil
  |[_],_=>exact List.pairwise_singleton _ _
  |_::_::_,hn=>simp at hn;omega
 ·obtain ⟨g,cap,cur,rfl,e1,hb,hnc,hmx,hcs,hct,hcl⟩:=hP.some_ (by omega)
  injection e1 with e1 _ e3
  subst e1 e3
  have hz:(ks.zip us).length=n:=by simp [List.length_zip];omega
  obtain ⟨d,hd⟩:∃ d,d=(ks.zip us).toArray:=⟨_,rfl⟩
  have hds:d.size=n:=by subst hd;simp [hz]
  have hgk:W.heap[g]? =some (row cur 85):=(Keeps.app.1 (Keeps.app.1 H.k.2).2).1.1
  have hne:g12≠g:=fun e=>by
   have h9:=H.d
   subst e
   refine (List.nodup_cons.1 h9).1 ?_
   simp [nums_app,nums]
  have hflat:(flatK encK 7 d).toList=rowOf ks (us.map slv):=by subst hd;exact flat_row (by omega)
  have hH:HoldsK encK 7 W g 0 d:=fun j hj=>by
   refine ⟨?_,blk_frozen hgk _⟩
   rw [blk_cell hgk]
   have hj2:j < n * 7:=by rw [Go.Sort.size_flatK,hds] at hj;exact hj
   have h3:(flatK encK 7 d).toList[j]? =cur.toList[j]? :=by rw [hflat,← hct,List.getElem?_take_of_lt hj2]
   rw [Nat.zero_add]
   rw [Array.getElem?_toList,Array.getElem?_toList] at h3
   rw [← h3,Array.getElem?_eq_getElem hj,getElem!_pos (flatK encK 7 d) j hj]
   rfl
  have hblk:g < W.heap.size:=blk_lt hgk
  have hx:∀ j,W.cell? ⟨g12,j,none⟩=(x12 (.slice (some ⟨g,0,none⟩) n c))[j]? :=fun j=>blk_cell H.k.1 j
  have hl12:g12 < W.heap.size:=blk_lt H.k.1
  have hless:LessReadsK Tryz.prog 41 #[ptr g12] encK 7 ltK g 0 d.size W:=by
   intro m os dk hs i j hi hj
   have e:sortWorldK encK 7 W g 0 m dk os=putRowK encK 7 (grow (Go.Sort.ahead W m) os) g 0 dk:=by
    unfold sortWorldK;rw [Go.Sort.putRowK_grow _ _ (Go.Sort.ahead W m) _ g 0 _ hblk]
   have hHg:HoldsK encK 7 (grow (Go.Sort.ahead W m) os) g 0 d:=Go.Sort.holdsK_grow _ _ _ _ g 0 d hblk (Go.Sort.holdsK_ahead _ _ _ _ _ _ _ hH)
   refine less_ok (g:=g) (cap:=c) (n:=d.size) _ (fun j=> ?_) (fun t=>dk[t]!.1.1) (fun t ht=> ?_) i j hi hj (by omega)
   ·rw [e,Go.Sort.cell?_putRowK_other _ _ _ g 0 dk _ (by exact hne),Go.Sort.cell?_grow _ _ _ (by exact hl12),hds]
    exact hx j
   ·rw [e]
    have:=((Go.Sort.holdsK_putRowK _ _ _ g 0 d dk hHg hs).cell (i:=t) (c:=0) (by omega) (by decide)).1
    simpa using this
  have hS:=Tryz.sort_cells 28 85 ti28 ti85 (by kernel_rfl) (by kernel_rfl) (by kernel_rfl) (by kernel_rfl) 25 (fun _=>by kernel_rfl) encK 7 (fun _=>rfl) (by kernel_rfl) (fun _=>by kernel_rfl)
   (fun x v hv=>by simp [Dt.cells] at hv;rcases hv with rfl|rfl|rfl|rfl|rfl|rfl|rfl<;>rfl) ltK swo_ltK 41 #[ptr g12] (enters_of Tryz.func41 (by kernel_rfl) rfl) g 0 c d (by omega) (by omega) 74 (by rw [swK _ (by omega)];kernel_rfl) false
   (fun args W=>run_callFunc_extern Tryz.func74 (by kernel_rfl) (by kernel_rfl) (by kernel_rfl) (e:=Extern.ReflectliteSwapper.swap false) (by kernel_rfl) args W) W hless hH hblk
  rw [hds] at hS
  refine hS.mono ?_
  rintro e w' ⟨rfl,d',q,os,hp,hso,rfl⟩
  have hd':d'.size=n:=hp.1.trans hds
  have hfs:(flatK encK 7 d').size=n * 7:=by rw [Go.Sort.size_flatK,hd']
  have hpl:=hp.2.2
  have x1:d'.extract 0 n=d':=by rw [← hd'];exact Array.extract_size
  have x2:d.extract 0 n=d:=by rw [← hds];exact Array.extract_size
  rw [x1,x2] at hpl
  have hz2:(d'.toList.map Prod.fst).zip (d'.toList.map Prod.snd)=d'.toList:=by
   have:=List.zip_unzip d'.toList
   simpa [List.unzip_eq_map] using this
  have hpc:=putCells_list (F:=flatK encK 7 d') (cur:=cur) (by rw [hfs,hcs];exact Nat.mul_le_mul_right _ hnc)
  have hrow:rowOf (d'.toList.map Prod.fst) ((d'.toList.map Prod.snd).map slv)=(flatK encK 7 d').toList:=by
   rw [← flat_row (by simp),hz2]
  refine ⟨rfl,[.b g (row (Go.Sort.putCells id 0 (flatK encK 7 d') cur) 85)],d'.toList.map Prod.fst,d'.toList.map Prod.snd,.inr ⟨g,c,_,rfl,rfl,hb,hnc,hmx,by rw [hpc.2,hcs],?_,?_⟩,?_,by simp [hd'],by simp [hd'],?_,?_⟩
  ·rw [hrow,← hfs];exact hpc.1
  ·rw [hrow];simp [hfs]
  ·rw [hz2]
   subst hd
   exact hpl
  ·rw [List.pairwise_map,List.pairwise_iff_getElem]
   intro i j hi hj hij
   have hi':i < d'.size:=by simpa using hi
   have hj':j < d'.size:=by simpa using hj
   have:=hso i j (Nat.zero_le _) hij (by omega)
   rw [getElem!_pos d' i hi',getElem!_pos d' j hj'] at this
   simpa using this
  ·exact At.sorted (L:= .b g12 (row (x12 (.slice (some ⟨g,0,none⟩) n c)) 30)::L) H hb (flatK encK 7 d') q os
end Go.Proofs.YtlblbefbbibpaaaGreatDoor.J
namespace Go.Proofs.YtlblbefbbibpaaaGreatDoor.J
open Go.RowKit Zw Zw.PrintWords Zw.PrintLast Zw.PrintMore PAM
theorem pb100_true (w:World):Calls Tryz.prog 100 #[.string ⟨#[116,114,117,101]⟩] w fun e w'=>e= .returned (.tuple #[.bool true,.nilIface])∧Below w.heap.size w w':=by
 have HK:=st0_ w
 go_enter Tryz.func100,Tryz.ntmps100
 go_wp2_with fail
 go_ret2
 exact ⟨rfl,be_⟩
theorem pb85_true (w:World):Calls Tryz.prog 85 #[.string ⟨#[116,114,117,101]⟩] w fun e w'=>e= .returned (.tuple #[.bool true,.nilIface])∧Below w.heap.size w w':=by
 have HK:=st0_ w
 go_enter Tryz.func85,Tryz.ntmps85
 go_wp2_with (first|((with_reducible refine gd_ 8 ?_);refine cl_ #[.string ⟨#[116,114,117,101]⟩] (.tuple #[.bool true,.nilIface]) Tryz.func100 (pb100_true _) ?_;intro wc8 HK1;replace HK:=asd_ HK1;clear HK1;skip))
 go_ret2
 exact ⟨rfl,be_⟩
theorem pb100_false (w:World):Calls Tryz.prog 100 #[.string ⟨#[102,97,108,115,101]⟩] w fun e w'=>e= .returned (.tuple #[.bool false,.nilIface])∧Below w.heap.size w w':=by
 have HK:=st0_ w
 go_enter Tryz.func100,Tryz.ntmps100
 go_wp2_with fail
 go_ret2
 exact ⟨rfl,be_⟩
theorem pb85_false (w:World):Calls Tryz.prog 85 #[.string ⟨#[102,97,108,115,101]⟩] w fun e w'=>e= .returned (.tuple #[.bool false,.nilIface])∧Below w.heap.size w w':=by
 have HK:=st0_ w
 go_enter Tryz.func85,Tryz.ntmps85
 go_wp2_with (first|((with_reducible refine gd_ 8 ?_);refine cl_ #[.string ⟨#[102,97,108,115,101]⟩] (.tuple #[.bool false,.nilIface]) Tryz.func100 (pb100_false _) ?_;intro wc8 HK1;replace HK:=asd_ HK1;clear HK1;skip))
 go_ret2
 exact ⟨rfl,be_⟩
theorem parseBool_ok {raw:ByteArray} (h:raw.toList=truB∨raw.toList=flsB) (w:World):Calls Tryz.prog 85 #[.string raw] w fun e w'=>e= .returned (.tuple #[.bool (raw.toList == truB),.nilIface])∧Below w.heap.size w w':=by
 rcases h with h|h
 ·have e:(raw.toList == truB)=true:=by rw [h];exact beq_self_eq_true _
  rw [e]
  obtain rfl:raw=⟨#[116,114,117,101]⟩:=toList_eq (h.trans (by rw [ByteArray.toList_eq]))
  exact pb85_true w
 ·have e:(raw.toList == truB)=false:=by rw [h];decide
  rw [e]
  obtain rfl:raw=⟨#[102,97,108,115,101]⟩:=toList_eq (h.trans (by rw [ByteArray.toList_eq]))
  exact pb85_false w
theorem va_null {w0 w:World} (hW:Below w0.heap.size w0 w) {raw:ByteArray} {kids:List Kid} {gx gp:Nat} {cv:Value} (hg:w.heap[gx]? =some (row (#[.string raw,cv,.int .i64 6,ptr gp,nP,nP,nP,nP,bF]) 129)):
  Calls Tryz.prog 58 #[ptr gx,nM] w (VA (dNull) w):=by
 have Hgx:=asd_ hg;clear hg;have HK:=st0_ w
 have bgx:=cel_ (blk_below Hgx.out HK.out.b)
 go_enter Tryz.func58,Tryz.ntmps58
 go_wp2_with fail
 exact bodyPost_ret (v:= .tuple #[.nilIface,.nilIface]) (by simp [results,Tryz.results58,go_sem]) rfl (VA.plain .null be_)
theorem va_str {w0 w:World} (hW:Below w0.heap.size w0 w) {raw:ByteArray} {kids:List Kid} {gx gp:Nat} {cv:Value} (hg:w.heap[gx]? =some (row (#[.string raw,cv,.int .i64 3,ptr gp,nP,nP,nP,nP,bF]) 129)):
  Calls Tryz.prog 58 #[ptr gx,nM] w (VA (dStr raw) w):=by
 have Hgx:=asd_ hg;clear hg;have HK:=st0_ w
 have bgx:=cel_ (blk_below Hgx.out HK.out.b)
 go_enter Tryz.func58,Tryz.ntmps58
 go_wp2_with fail
 exact bodyPost_ret (v:= .tuple #[.iface 9 (.string raw),.nilIface]) (by simp [results,Tryz.results58,go_sem]) rfl (VA.plain .str be_)
theorem va_blk {w0 w:World} (hW:Below w0.heap.size w0 w) {raw:ByteArray} {kids:List Kid} {gx gp:Nat} {cv:Value} (hg:w.heap[gx]? =some (row (#[.string raw,cv,.int .i64 4,ptr gp,nP,nP,nP,nP,bF]) 129)):
  Calls Tryz.prog 58 #[ptr gx,nM] w (VA (dStr raw) w):=by
 have Hgx:=asd_ hg;clear hg;have HK:=st0_ w
 have bgx:=cel_ (blk_below Hgx.out HK.out.b)
 go_enter Tryz.func58,Tryz.ntmps58
 go_wp2_with fail
 exact bodyPost_ret (v:= .tuple #[.iface 9 (.string raw),.nilIface]) (by simp [results,Tryz.results58,go_sem]) rfl (VA.plain .str be_)
theorem va_enum {w0 w:World} (hW:Below w0.heap.size w0 w) {raw:ByteArray} {kids:List Kid} {gx gp:Nat} {cv:Value} (hg:w.heap[gx]? =some (row (#[.string raw,cv,.int .i64 7,ptr gp,nP,nP,nP,nP,bF]) 129)):
  Calls Tryz.prog 58 #[ptr gx,nM] w (VA (dStr raw) w):=by
 have Hgx:=asd_ hg;clear hg;have HK:=st0_ w
 have bgx:=cel_ (blk_below Hgx.out HK.out.b)
 go_enter Tryz.func58,Tryz.ntmps58
 go_wp2_with fail
 exact bodyPost_ret (v:= .tuple #[.iface 9 (.string raw),.nilIface]) (by simp [results,Tryz.results58,go_sem]) rfl (VA.plain .str be_)
theorem va_int {w0 w:World} (hW:Below w0.heap.size w0 w) {raw:ByteArray} {kids:List Kid} {gx gp:Nat} {cv:Value} (hg:w.heap[gx]? =some (row (#[.string raw,cv,.int .i64 1,ptr gp,nP,nP,nP,nP,bF]) 129)) {m:Int} (hi:IOk w0 raw m):
  Calls Tryz.prog 58 #[ptr gx,nM] w (VA (dInt m) w):=by
 obtain ⟨Hi,HW_⟩:=as2_ hi hW;clear hi hW
 have Hgx:=asd_ hg;clear hg;have HK:=st0_ w
 have bgx:=cel_ (blk_below Hgx.out HK.out.b)
 go_enter Tryz.func58,Tryz.ntmps58
 go_wp2_with (first|((with_reducible refine gd_ 70 ?_);refine cl_ #[.string raw,.int .i64 10,.int .i64 64] (.tuple #[.int .i64 m,.nilIface]) Tryz.func31 (Hi.out _ (below_step HW_.out be_)) ?_;intro wc70 HK1;replace HK:=asd_ HK1;clear HK1;clear bgx;have bgx:=cel_ (blk_below Hgx.out HK.out.b)))
 exact bodyPost_ret (v:= .tuple #[.iface 2 (.int .i64 m),.nilIface]) (by simp [results,Tryz.results58,go_sem]) rfl (VA.plain .int be_)
theorem va_float {w0 w:World} (hW:Below w0.heap.size w0 w) {raw:ByteArray} {kids:List Kid} {gx gp:Nat} {cv:Value} (hg:w.heap[gx]? =some (row (#[.string raw,cv,.int .i64 2,ptr gp,nP,nP,nP,nP,bF]) 129)) {m:Nat} (hi:FOk w0 raw m):
  Calls Tryz.prog 58 #[ptr gx,nM] w (VA (dFloat m) w):=by
 obtain ⟨Hi,HW_⟩:=as2_ hi hW;clear hi hW
 have Hgx:=asd_ hg;clear hg;have HK:=st0_ w
 have bgx:=cel_ (blk_below Hgx.out HK.out.b)
 go_enter Tryz.func58,Tryz.ntmps58
 go_wp2_with (first|((with_reducible refine gd_ 80 ?_);refine cl_ #[.string raw,.int .i64 64] (.tuple #[.float .f64 m,.nilIface]) Tryz.func32 (Hi.out _ (below_step HW_.out be_)) ?_;intro wc80 HK1;replace HK:=asd_ HK1;clear HK1;clear bgx;have bgx:=cel_ (blk_below Hgx.out HK.out.b)))
 exact bodyPost_ret (v:= .tuple #[.iface 97 (.float .f64 m),.nilIface]) (by simp [results,Tryz.results58,go_sem]) rfl (VA.plain .float be_)
theorem va_bool {w0 w:World} (hW:Below w0.heap.size w0 w) {raw:ByteArray} {kids:List Kid} {gx gp:Nat} {cv:Value} (hg:w.heap[gx]? =some (row (#[.string raw,cv,.int .i64 5,ptr gp,nP,nP,nP,nP,bF]) 129)) (hr:raw.toList=truB∨raw.toList=flsB):
  Calls Tryz.prog 58 #[ptr gx,nM] w (VA (dBool (raw.toList == truB)) w):=by
 have Hp:=asd_ (fun w=>parseBool_ok hr w);obtain ⟨bb,hbb⟩:∃ b:Bool,(raw.toList == truB)=b:=⟨_,rfl⟩;rw [hbb] at Hp ⊢;clear hr hbb
 have Hgx:=asd_ hg;clear hg;have HK:=st0_ w
 have bgx:=cel_ (blk_below Hgx.out HK.out.b)
 go_enter Tryz.func58,Tryz.ntmps58
 go_wp2_with (first|((with_reducible refine gd_ 99 ?_);refine cl_ #[.string raw] (.tuple #[.bool bb,.nilIface]) Tryz.func85 (Hp.out _) ?_;intro wc99 HK1;replace HK:=asd_ HK1;clear HK1;clear bgx;have bgx:=cel_ (blk_below Hgx.out HK.out.b)))
 exact bodyPost_ret (v:= .tuple #[.iface 4 (.bool bb),.nilIface]) (by simp [results,Tryz.results58,go_sem]) rfl (VA.plain .bool be_)
theorem info20:(Tryz.prog.info? 20).map (fun i=>(i.zero,i.size,i.bytes))=some (some .nilIface,1,16):=by kernel_rfl
theorem VA.made {x:Dt} {a:Value} {w w':World} {e:Ending} {sn:List Blk} (L:List Blk) (he:e= .returned (.tuple #[a,.nilIface])) (ha:AB sn a x) (hg:∀ g∈nums sn,w.heap.size≤g) (ho:∀ e,offG e sn) (HK:At w (L ++ sn) w'):VA x w e w':=
 have H:=HK.sub (List.sublist_append_right L sn)
 ⟨a,sn,he,ha,H.k,H.d,hg,ho,H.b⟩
theorem va_list {w0 w:World} (hW:Below w0.heap.size w0 w) {raw:ByteArray} {kids:List Kid} {ds:List (ByteArray×Dt)} {gx gp:Nat} {cv:Value} (hg:w.heap[gx]? =some (row (#[.string raw,cv,.int .i64 8,ptr gp,nP,nP,nP,nP,bF]) 129)) (hL:kids.length≤1048576) (ih:∀ (i:Nat) (k:Kid) (d:ByteArray×Dt),kids[i]? =some k→ds[i]? =some d→∀ {w:World},Below w0.heap.size w0 w→∀ {sn:List Blk} {gx:Nat},Keeps sn w→VB sn gx k.2→Calls Tryz.prog 58 #[ptr gx,nM] w (VA d.2 w)) {sn:List Blk} (hk:Keeps sn w) {b:Nat} {pr:List Blk} {ps cs:List Nat} (hp:PR b pr 130 1 cv kids.length (ps.map ptr)) (hs:∀ x∈pr,x∈sn) (hlp:ps.length=kids.length) (hlc:cs.length=kids.length) (hld:ds.length=kids.length) (hkb:∀ (i g c:Nat) (x:Kid),ps[i]? =some g→cs[i]? =some c→kids[i]? =some x→KidB sn 131 g x.1 c) (hvb:∀ (i c:Nat) (x:Kid),cs[i]? =some c→kids[i]? =some x→VB sn c x.2) (hnm:∀ d∈ds,d.1=⟨#[]⟩):
  Calls Tryz.prog 58 #[ptr gx,nM] w (VA (dList ds) w):=by
 obtain ⟨A,cap,rfl,_⟩:=hp.slice;obtain ⟨n,hn⟩:∃ n,kids.length=n:=⟨_,rfl⟩;rw [hn] at hp hL hlp hlc hld hg
 obtain ⟨HW_,Hg_,HL_,Ih_,Hk_,Hp_,Hs_,Hlp_,Hlc_,Hld_,Hkb_,Hvb_⟩:=as12_ hW hg hL ih hk hp hs hlp hlc hld hkb hvb;obtain ⟨Hn_,Hnm_⟩:=as2_ hn hnm;clear hnm;clear hW hg hL ih hk hp hs hlp hlc hld hkb hvb hn
 have HK:=st0_ w
 have bgx:=cel_ (blk_below Hg_.out HK.out.b)
 go_enter Tryz.func58,Tryz.ntmps58
 go_wp2_with fail
 go_loopg [8,112] n (fun kq u i w'=>∃ (k:Nat) (pr2 sn2:List Blk) (us:List Value),Aside0 (k≤n)∧i= .int .i64 k∧Aside0 (kq=n - k)∧Aside0 (PR w.heap.size pr2 20 1 u k us)∧Aside0 (us.length=k)∧Aside0 (∀ (i:Nat) (d:ByteArray×Dt) (t:Value),ds[i]? =some d→us[i]? =some t→AB sn2 t d.2)∧Aside0 (∀ g∈nums sn2,w.heap.size≤g)∧Aside0 (∀ e,offG e sn2)∧Aside0 (At w (pr2 ++ sn2) w'))
 case atStart=>exact ⟨0,[],[],[],⟨Nat.zero_le _⟩,rfl,⟨rfl⟩,⟨PR.none_ _ _ _⟩,⟨rfl⟩,⟨fun _ _ _ _ h=>by simp at h⟩,⟨fun _ h=>by cases h⟩,⟨fun _=>trivial⟩,⟨at_⟩⟩
 case round=>
  clear HK bgx
  obtain ⟨k,pr2,sn2,us,Hk,rfl,Hkq,HP,Hlu,HU,Hgs,Hos,HK⟩:=hrel;obtain ⟨Au,cu,e8,hcu⟩:=HP.out.slice;subst e8;clear hcu
  have bgx:=cel_ (blk_below Hg_.out HK.out.b)
  by_cases hlt:k < n
  case neg=>
   have hd:decide (k < n)=false:=decide_eq_false hlt;have Hlt:=asd_ hlt;clear hlt
   go_wp2_with fail
   have e9:k=ds.length:=(by have:=Hlt.out;have:=Hk.out;have:=Hld_.out;omega);have HKz:Aside0 (At w (pr2 ++ sn2) _):=⟨at_⟩
   have e7:PR w.heap.size pr2 20 1 (.slice Au k cu) ds.length us:=e9 ▸ HP.out
   exact bodyPost_ret (v:= .tuple #[.iface 114 (.slice Au k cu),.nilIface]) (by simp [results,Tryz.results58,go_sem]) rfl (VA.made [] rfl (AB.list e7 (fun y hy=>List.mem_append_left _ hy) (Hlu.out.trans e9) (fun i d t h1 h2=>(HU.out i d t h1 h2).mono (fun b hb=>List.mem_append_right _ hb)) Hnm_.out (by have:=HL_.out;have:=Hk.out;omega)) (ge_app HP.out.ge Hgs.out) (fun e=>offG_append (HP.out.offG e) (Hos.out e)) HKz.out)
  case pos=>
   have hd:decide (k < n)=true:=decide_eq_true hlt;have Hlt:=asd_ hlt;clear hlt
   have hi0:(0:Int)≤(k:Int):=(by omega);have hi1:(k:Int) < (n:Int):=(by have:=Hlt.out;omega);have hs1:IntKind.i64.wrap ((k:Int) + 1)=(k:Int) + 1:=IntWalk.i64_in _ (by have:=Hlt.out;have:=HL_.out;omega)
   obtain ⟨x,hx⟩:∃ x,kids[k]? =some x:=⟨_,List.getElem?_eq_getElem (by have:=Hlt.out;have:=Hn_.out;omega)⟩;obtain ⟨g,hgk⟩:∃ g,ps[k]? =some g:=⟨_,List.getElem?_eq_getElem (by have:=Hlt.out;have:=Hlp_.out;omega)⟩;obtain ⟨c,hc⟩:∃ c,cs[k]? =some c:=⟨_,List.getElem?_eq_getElem (by have:=Hlt.out;have:=Hlc_.out;omega)⟩;obtain ⟨d,hdk⟩:∃ d,ds[k]? =some d:=⟨_,List.getElem?_eq_getElem (by have:=Hlt.out;have:=Hld_.out;omega)⟩
   obtain ⟨gA,cA,e1,hcl⟩:=Hp_.out.cell Hk_.out Hs_.out (by have:=Hlt.out;omega);injection e1 with e1 _ e3;subst e1 e3
   obtain ⟨q,hq⟩:=Hkb_.out k g c x hgk hc hx;have hv2:=Hvb_.out k c x hc hx;have hcm:=hcl k (ptr g) (by simp [hgk]);have hqm:=Hk_.out.mem hq
   obtain ⟨Hcm,Hqm,Hv2,Hx,Hdk⟩:=as5_ hcm hqm hv2 hx hdk;clear hcm hqm hv2 hx hdk hgk hc hq hcl
   clear bgx
   have bgx:=cel_ (blk_below Hg_.out HK.out.b);have hc0:wr.cell? ⟨gA,k,none⟩=some (ptr g):=pw_cell_below HK.out.b Hcm.out;have hc1:wr.cell? ⟨g,0,none⟩=some (.string x.1):=pw_cell_below HK.out.b (by simp [World.cell?,Hqm.out,row]);have hc2:wr.cell? ⟨g,1,none⟩=some (ptr c):=pw_cell_below HK.out.b (by simp [World.cell?,Hqm.out,row])
   have Hi2:=asd_ (fun {w}=>Ih_.out k x d Hx.out Hdk.out (w:=w))
   go_wp2_with fail
   refine (Hi2.out (below_step HW_.out be_) (Hk_.out.below be_) Hv2.out).mono ?_
   rintro _ w9 ⟨a,sn1,rfl,hab,hks,hnd,hge,hof,hb⟩
   have HK9:Aside0 (At w ((sn1 ++ (pr2 ++ sn2))) w9):=⟨At.came_all (l:=(pr2 ++ sn2)) at_ hb hks hnd hge⟩
   have Hge:Aside0 (∀ g∈nums sn1,w.heap.size≤g):=⟨fun g hg=>Nat.le_trans (show Below w.heap.size w _ from be_).size (hge g hg)⟩
   have hone:=hab.one;obtain ⟨Hab,Hof⟩:=as2_ hab hof;clear HK hab hks hnd hge hof hb;have HK:=HK9;clear HK9
   clear bgx hc0 hc1 hc2;have bgx:=cel_ (blk_below Hg_.out HK.out.b);have hc0:w9.cell? ⟨gA,k,none⟩=some (ptr g):=pw_cell_below HK.out.b Hcm.out;have hc1:w9.cell? ⟨g,0,none⟩=some (.string x.1):=pw_cell_below HK.out.b (by simp [World.cell?,Hqm.out,row]);have hc2:w9.cell? ⟨g,1,none⟩=some (ptr c):=pw_cell_below HK.out.b (by simp [World.cell?,Hqm.out,row])
   go_wp2_with (first|((with_reducible refine gd_ 132 ?_);refine new_at at_ rfl (N:=132) rfl (ob:=row (#[a]) 20) (v:=fun g=> .slice (some ⟨g,0,none⟩) 1 1) (by exact lit1_run Tryz.underlying114 info20 rfl rfl rfl hone) ?_;intro gl wb132 HK1 hggl;have Ggl:=asd_ hggl;clear hggl;replace HK:=asd_ HK1;clear HK1;clear bgx hc0 hc1 hc2;have bgx:=cel_ (blk_below Hg_.out HK.out.b);have hc0:wb132.cell? ⟨gA,k,none⟩=some (ptr g):=pw_cell_below HK.out.b Hcm.out;have hc1:wb132.cell? ⟨g,0,none⟩=some (.string x.1):=pw_cell_below HK.out.b (by simp [World.cell?,Hqm.out,row]);have hc2:wb132.cell? ⟨g,1,none⟩=some (ptr c):=pw_cell_below HK.out.b (by simp [World.cell?,Hqm.out,row]))|((with_reducible refine gate_builtin (b:= .append) (xs:=#[.tmp 130,.tmp 132]) rfl ?_);at_builtin;refine appendpr_at (L:=sn1) (pr:=pr2) (T:=sn2) (kc:=#[a]) (sz:=1) (e:=20) (At.front 0 HK.out rfl) (by repeat (first|exact Hof.out _|exact Hos.out _|exact HP.out.offG _|exact trivial|(apply offG_append))) HP.out rfl rfl Tryz.underlying114 info20 rfl (by decide) rfl (by simp [hone]) rfl rfl (by have:=Hlt.out;have:=HL_.out;omega) (by have:=Hlt.out;have:=HL_.out;omega) ?_;intro pr3 ga ca wa HP3 HE0;have HP3:=asd_ HP3;have HK9:Aside0 (At w ((sn1 ++ (pr3 ++ sn2))) wa):=asd_ HE0;clear HK HE0;have HK:=HK9;clear HK9;clear bgx hc0 hc1 hc2;have bgx:=cel_ (blk_below Hg_.out HK.out.b);have hc0:wa.cell? ⟨gA,k,none⟩=some (ptr g):=pw_cell_below HK.out.b Hcm.out;have hc1:wa.cell? ⟨g,0,none⟩=some (.string x.1):=pw_cell_below HK.out.b (by simp [World.cell?,Hqm.out,row]);have hc2:wa.cell? ⟨g,1,none⟩=some (ptr c):=pw_cell_below HK.out.b (by simp [World.cell?,Hqm.out,row])))
   go_roundg (n - (k + 1))
   case measure=>have:=Hkq.out;have:=Hlt.out;omega
   case rel=>exact ⟨k + 1,pr3,sn1 ++ sn2,us ++ [a],⟨Hlt.out⟩,by go_num,⟨rfl⟩,HP3,⟨by simp [Hlu.out]⟩,⟨fun i e t h1 h2=>(snoc_get Hlu.out h2).elim (fun h3=>(HU.out i e t h1 h3.2).mono (fun b hb=>List.mem_append_right _ hb)) (fun h3=>by obtain ⟨rfl,rfl⟩:=h3;rw [Hdk.out] at h1;cases h1;exact Hab.out.mono (fun b hb=>List.mem_append_left _ hb))⟩,⟨ge_app Hge.out Hgs.out⟩,⟨fun e=>offG_append (Hof.out e) (Hos.out e)⟩,⟨At.under [] at_⟩⟩
theorem val_one (kind:Int) (raw:ByteArray) (kids:List Kid) (ih:∀ k∈kids,Fit k.2→Sm k.2→∀ {w0 w:World} {l:List Blk} {gm gs:Nat},At w0 (.f (Fact.maker w0.heap.size gm gs)::l) w→Clean l→∀ {A:Option Addr} {c:Nat},kKid.C w0 A k.2.kids.length k.2.kids→k.2.kids.length≤c→Calls Tryz.prog 35 #[.pointer (some ⟨gm,0,none⟩),.agg #[.int .i64 k.2.kind,.string k.2.raw,.slice A k.2.kids.length c]] w (Made w0 l gm gs (fun gx sn=>VB sn gx k.2)))
  (hf:Fit ⟨kind,raw,kids⟩) (hs:Sm ⟨kind,raw,kids⟩) {w0 w:World} {l:List Blk} {gm gs:Nat} (H:At w0 (.f (Fact.maker w0.heap.size gm gs)::l) w) (hl:Clean l) {A:Option Addr} {n c:Nat} (hC:kKid.C w0 A n kids):
  Calls Tryz.prog 35 #[.pointer (some ⟨gm,0,none⟩),.agg #[.int .i64 kind,.string raw,.slice A n c]] w (Made w0 l gm gs (fun gx sn=>VB sn gx ⟨kind,raw,kids⟩)):=by
 have h1:(1:Int)≤kind:=(by cases hf with|mk a b c d=>exact a);have h2:kind≤9:=(by cases hf with|mk a b c d=>exact b)
 have f1:decide (kind < 0)=false:=decide_eq_false (by omega);have f2:decide (9 < kind)=false:=decide_eq_false (by omega);clear h1 h2
 obtain ⟨Hl_,HC_,Hf_,Hs_,Ih_⟩:=as5_ hl hC hf hs ih;clear hl hC hf hs ih
 have Hn:Aside0 (n=kids.length):=⟨HC_.out.1.symm⟩;have HL_:Aside0 (n≤1048576):=⟨by rw [Hn.out];exact Hs_.out.len⟩
 have HK:=asd_ H
 clear H
 go_enter Tryz.func35,Tryz.ntmps35
 go_wp2_with (first|((with_reducible refine gd_ 3 ?_);refine bx_ #[.int .i64 kind,.string raw,.slice A n c] 48 ?_;clear HK;intro gv wb3 HK Ggv;replace Bc:=ce1_ HK 0))
 refine su1_ 9 HK 0 [] (fun HS hHeld=> ?_)
 refine pu_ 0 19 1 ?_
 refine pu_ 2 21 5 ?_
 refine pu_ 4 23 21 ?_
 refine ta2_ 1 20 23 hHeld ?_
 refine ta2_ 3 22 31 hHeld ?_
 refine on_ 5 24 63 (fun K hK=> ?_)
 have HE:=asd_ (hHeld.1)
 refine ge_ Tryz.func36 #[.pointer (some ⟨gm,0,none⟩)] ?_
 with_reducible refine (pos_ok (l:=(.b gv (row (#[.int .i64 kind,.string raw,.slice A n c]) 48)::l)) (At.front 1 HE.out rfl) (by repeat (first|exact Hl_.out|exact Clean.nil|exact HPc.out|exact Hcs.out|(apply Clean.app)|(refine Clean.cons ?_ (by decide))))).mono ?_
 rintro e w3 ⟨gp,snp,rfl,hqp,hcp,HE9⟩
 refine ⟨_,rfl,?_⟩
 have Hqp:=asd_ hqp
 have Hcp:=asd_ hcp
 clear hqp hcp
 have HE1:Aside0 (At w0 (.b gv (row (#[.int .i64 kind,.string raw,.slice A n c]) 48):: .f (Fact.maker w0.heap.size gm gs)::l) _):=asd_ (At.back0 [.b gv (row (#[.int .i64 kind,.string raw,.slice A n c]) 48)] HE9)
 clear HE9
 clear HE;have HE:=HE1;clear HE1
 refine hK.out _ _ (HS (At.sub HE.out (List.Sublist.cons_cons _ (List.Sublist.cons_cons _ (List.Sublist.refl _))))) (fun hHeld=> ?_)
 clear hK K
 refine nq_ 24 ?_
 refine pu_ 6 25 127 ?_
 refine on_ 7 26 255 (fun K hK=> ?_)
 refine ne_ 26 (row (vc ⟨kind,raw,kids⟩ nilS gp) 129) (fun g=> .pointer (some ⟨g,0,none⟩)) ?_
 intro gx w3 HE0 hggx
 have Ggx:=asd_ hggx
 clear hggx
 replace HE:=asd_ HE0;clear HE0
 refine hK.out _ _ (HS (At.sub HE.out (List.Sublist.cons _ (List.Sublist.cons_cons _ (List.Sublist.cons_cons _ (List.Sublist.refl _)))))) (fun hHeld=> ?_)
 clear hK K
 refine nq_ 26 ?_
 refine pu_ 8 5 511 ?_
 refine done_ kr_ ?_
 clear HK;have HK:=HE;clear HE
 clear hHeld
 replace Bc:=ce2_ HK 1 0
 replace Bf:=fe1_ HK 0
 go_wp2_with fail
 go_loopg [30] n (fun kq i w'=>∃ (k:Nat) (cv:Value) (pr sn:List Blk) (ps cs:List Nat),Aside0 (k≤n)∧i= .int .i64 k∧Aside0 (kq=n - k)∧Aside0 (PR w0.heap.size pr 130 1 cv k (ps.map ptr))∧Aside0 (KidsB sn 131 ps cs kids k)∧Aside0 (Clean sn)∧Aside0 (At w0 (.b gx (row (vc ⟨kind,raw,kids⟩ cv gp) 129):: .b gv (row (#[.int .i64 kind,.string raw,.slice A n c]) 48):: .f (Fact.maker w0.heap.size gm gs)::(pr ++ (sn ++ l))) w'))
 case atStart=>exact ⟨0,nilS,[],[],[],[],⟨Nat.zero_le _⟩,rfl,⟨rfl⟩,⟨PR.none_ _ _ _⟩,⟨KidsB.zero _ _⟩,⟨Clean.nil⟩,⟨(show At w0 (.b gx (row (vc ⟨kind,raw,kids⟩ nilS gp) 129):: .b gv (row (#[.int .i64 kind,.string raw,.slice A n c]) 48):: .f (Fact.maker w0.heap.size gm gs)::l) _ from at_)⟩⟩
 case round=>
  clear HK
  obtain ⟨k,cv,pr,sn,ps,cs,Hk,rfl,Hkq,HP,HKs,Hcs,HK⟩:=hrel;have HPc:=asd_ (HP.out.clean (by decide))
  replace Bc:=ce2_ HK 1 0;replace Bf:=fe1_ HK 0
  by_cases hlt:k < n
  case neg=>
   have hd:decide (k < n)=false:=decide_eq_false hlt;have Hlt:=asd_ hlt;clear hlt
   go_wp2_with fail
   go_ret
   have e9:k=kids.length:=(by have:=Hlt.out;have:=Hk.out;have:=Hn.out;omega)
   refine ⟨gx,.b gx (row (vc ⟨kind,raw,kids⟩ cv gp) 129)::(pr ++ sn),rfl,?_,?_,?_⟩
   ·exact VB.mk List.mem_cons_self (e9 ▸ HP.out) (fun x hx=>List.mem_cons_of_mem _ (List.mem_append_left _ hx)) (e9 ▸ HKs.out.lp) (e9 ▸ HKs.out.lc) (fun i g c x a b d=>(HKs.out.kb i g c x a b d).mono (fun x hx=>List.mem_cons_of_mem _ (List.mem_append_right _ hx))) (fun i c x a b=>(HKs.out.vb i c x a b).mono (fun x hx=>List.mem_cons_of_mem _ (List.mem_append_right _ hx)))
   ·exact Clean.cons (Clean.app HPc.out Hcs.out) (by decide)
   ·have h9:At w0 (.b gx (row (vc ⟨kind,raw,kids⟩ cv gp) 129):: .f (Fact.maker w0.heap.size gm gs)::(pr ++ (sn ++ l))) _:=At.sub (show At w0 (.b gx (row (vc ⟨kind,raw,kids⟩ cv gp) 129):: .b gv (row (#[.int .i64 kind,.string raw,.slice A n c]) 48):: .f (Fact.maker w0.heap.size gm gs)::(pr ++ (sn ++ l))) _ from at_) (List.Sublist.cons_cons _ (List.Sublist.cons _ (List.Sublist.refl _)))
    exact (At.perm h9 (by simpa [List.append_assoc] using List.Perm.swap _ _ _))
  case pos=>
   have hd:decide (k < n)=true:=decide_eq_true hlt;have Hlt:=asd_ hlt;clear hlt
   have hi0:(0:Int)≤(k:Int):=(by omega);have hi1:(k:Int) < (n:Int):=(by have:=Hlt.out;omega);have hs1:IntKind.i64.wrap ((k:Int) + 1)=(k:Int) + 1:=IntWalk.i64_in _ (by have:=Hlt.out;have:=HL_.out;omega)
   obtain ⟨ad,nm,v,A2,c2,hA,hx,h0,h1,h2,h3,hl2,hC2⟩:=at_Kid HC_.out k Hlt.out
   subst hA;have hmem:=List.mem_of_getElem? hx;obtain ⟨Hx,Hl2,HC2,Hmem⟩:=as4_ hx hl2 hC2 hmem;clear hmem hx hl2 hC2
   obtain ⟨C0,C1,C2,C3⟩:=as4_ h0 h1 h2 h3;clear h0 h1 h2 h3
   have Hv:Aside0 (∀ {w0 w:World} {l:List Blk} {gm gs:Nat},At w0 (.f (Fact.maker w0.heap.size gm gs)::l) w→Clean l→∀ {A:Option Addr} {c:Nat},kKid.C w0 A v.kids.length v.kids→v.kids.length≤c→Calls Tryz.prog 35 #[.pointer (some ⟨gm,0,none⟩),.agg #[.int .i64 v.kind,.string v.raw,.slice A v.kids.length c]] w (Made w0 l gm gs (fun gx sn=>VB sn gx v))):=⟨Ih_.out _ Hmem.out (by cases Hf_.out with|mk a b c d=>exact d _ Hmem.out) (Hs_.out.kid Hmem.out).2⟩
   replace Bc:=ce2_ HK 1 0;replace Bf:=fe1_ HK 0;replace Bx:=xc4_ HK.out.b C0 C1 C2 C3
   go_wp2_with (first|((with_reducible refine gd_ 7 ?_);refine bx_ #[eS,i0,eS,nilS] 52 ?_;clear HK;intro ge wb7 HK Gge;replace Bc:=ce3_ HK 2 1 0;replace Bf:=fe2_ HK 1 0;replace Bx:=xc4_ HK.out.b C0 C1 C2 C3)|((with_reducible refine gate_ (.store 52 (.tmp 7) (.tmp 33)) rfl ?_);refine storerow_at (cs:=#[eS,i0,eS,nilS]) (g:=ge) 0 (#[.string nm,.int .i64 v.kind,.string v.raw,.slice A2 v.kids.length c2]) at_ rfl Gge.out rfl rfl rfl rfl rfl rfl kr_ rfl (by simp [Value.oneCell']) ?_;intro wr1 HK1;replace HK:=asd_ HK1;clear HK1;replace Bc:=ce3_ HK 2 1 0;replace Bf:=fe2_ HK 1 0;replace Bx:=xc4_ HK.out.b C0 C1 C2 C3))
   refine su3_ 20 HK 2 1 0 [16,19] (fun HS hHeld=> ?_)
   refine pu_ 0 34 1 ?_
   refine pu_ 1 35 3 ?_
   refine pu_ 2 36 7 ?_
   refine pu_ 3 37 15 ?_
   refine pu_ 5 39 47 ?_
   refine pu_ 7 41 175 ?_
   refine pu_ 8 42 431 ?_
   refine pu_ 11 45 2479 ?_
   refine ta4_ 4 38 2495 hHeld ?_
   refine ta4_ 6 40 2559 hHeld ?_
   refine ta4_ 9 43 3071 hHeld ?_
   refine on_ 10 44 4095 (fun K hK=> ?_)
   have HE:=asd_ (hHeld.1)
   refine ge_ Tryz.func35 #[.pointer (some ⟨gm,0,none⟩),.agg #[.int .i64 v.kind,.string v.raw,.slice A2 v.kids.length c2]] ?_
   with_reducible refine (Hv.out (l:=(.b ge (row (#[.string nm,.int .i64 v.kind,.string v.raw,.slice A2 v.kids.length c2]) 52):: .b gx (row (vc ⟨kind,raw,kids⟩ cv gp) 129):: .b gv (row (#[.int .i64 kind,.string raw,.slice (some ad) n c]) 48)::(pr ++ (sn ++ l)))) (At.front 3 HE.out rfl) (by repeat (first|exact Hl_.out|exact Clean.nil|exact HPc.out|exact Hcs.out|(apply Clean.app)|(refine Clean.cons ?_ (by decide)))) HC2.out Hl2.out).mono ?_
   rintro e w3 ⟨gc,snc,rfl,hqc,hcc,HE9⟩
   refine ⟨_,rfl,?_⟩
   have Hqc:=asd_ hqc
   have Hcc:=asd_ hcc
   clear hqc hcc
   have HE1:Aside0 (At w0 (.b ge (row (#[.string nm,.int .i64 v.kind,.string v.raw,.slice A2 v.kids.length c2]) 52):: .b gx (row (vc ⟨kind,raw,kids⟩ cv gp) 129):: .b gv (row (#[.int .i64 kind,.string raw,.slice (some ad) n c]) 48):: .f (Fact.maker w0.heap.size gm gs)::(snc ++ (pr ++ (sn ++ l)))) _):=asd_ (At.back [.b ge (row (#[.string nm,.int .i64 v.kind,.string v.raw,.slice A2 v.kids.length c2]) 52),.b gx (row (vc ⟨kind,raw,kids⟩ cv gp) 129),.b gv (row (#[.int .i64 kind,.string raw,.slice (some ad) n c]) 48)] HE9)
   clear HE9
   clear HE;have HE:=HE1;clear HE1
   refine hK.out _ _ (HS (At.sub HE.out (List.Sublist.cons_cons _ (List.Sublist.cons_cons _ (List.Sublist.cons_cons _ (List.Sublist.cons_cons _ (List.Sublist.trans (List.Sublist.refl _) (List.sublist_append_right _ _)))))))) (fun hHeld=> ?_)
   clear hK K
   refine nq_ 44 ?_
   refine on_ 12 46 8191 (fun K hK=> ?_)
   refine ge_ Tryz.func36 #[.pointer (some ⟨gm,0,none⟩)] ?_
   with_reducible refine (pos_ok (l:=(.b ge (row (#[.string nm,.int .i64 v.kind,.string v.raw,.slice A2 v.kids.length c2]) 52):: .b gx (row (vc ⟨kind,raw,kids⟩ cv gp) 129):: .b gv (row (#[.int .i64 kind,.string raw,.slice (some ad) n c]) 48)::(snc ++ (pr ++ (sn ++ l))))) (At.front 3 HE.out rfl) (by repeat (first|exact Hcc.out|exact Hl_.out|exact Clean.nil|exact HPc.out|exact Hcs.out|(apply Clean.app)|(refine Clean.cons ?_ (by decide))))).mono ?_
   rintro e w3 ⟨gq,snq,rfl,hqq,hcq,HE9⟩
   refine ⟨_,rfl,?_⟩
   have Hqq:=asd_ hqq
   have Hcq:=asd_ hcq
   clear hqq hcq
   have HE1:Aside0 (At w0 (.b ge (row (#[.string nm,.int .i64 v.kind,.string v.raw,.slice A2 v.kids.length c2]) 52):: .b gx (row (vc ⟨kind,raw,kids⟩ cv gp) 129):: .b gv (row (#[.int .i64 kind,.string raw,.slice (some ad) n c]) 48):: .f (Fact.maker w0.heap.size gm gs)::(snc ++ (pr ++ (sn ++ l)))) _):=asd_ (At.back0 [.b ge (row (#[.string nm,.int .i64 v.kind,.string v.raw,.slice A2 v.kids.length c2]) 52),.b gx (row (vc ⟨kind,raw,kids⟩ cv gp) 129),.b gv (row (#[.int .i64 kind,.string raw,.slice (some ad) n c]) 48)] HE9)
   clear HE9
   clear HE;have HE:=HE1;clear HE1
   refine hK.out _ _ (HS (At.sub HE.out (List.Sublist.cons_cons _ (List.Sublist.cons_cons _ (List.Sublist.cons_cons _ (List.Sublist.cons_cons _ (List.Sublist.trans (List.Sublist.refl _) (List.sublist_append_right _ _)))))))) (fun hHeld=> ?_)
   clear hK K
   refine nq_ 46 ?_
   refine pu_ 13 47 16383 ?_
   refine on_ 14 48 32767 (fun K hK=> ?_)
   refine ne_ 48 (row #[.string nm,ptr gc,ptr gq,nP] 131) (fun g=> .pointer (some ⟨g,0,none⟩)) ?_
   intro gk w3 HE0 hggk
   have Ggk:=asd_ hggk
   clear hggk
   replace HE:=asd_ HE0;clear HE0
   refine hK.out _ _ (HS (At.sub HE.out (List.Sublist.cons _ (List.Sublist.cons_cons _ (List.Sublist.cons_cons _ (List.Sublist.cons_cons _ (List.Sublist.cons_cons _ (List.Sublist.trans (List.Sublist.refl _) (List.sublist_append_right _ _))))))))) (fun hHeld=> ?_)
   clear hK K
   refine nq_ 48 ?_
   refine on_ 15 49 65535 (fun K hK=> ?_)
   refine ne_ 49 (row #[ptr gk] 130) (fun g=> .slice (some ⟨g,0,none⟩) 1 1) ?_
   intro gl w3 HE0 hggl
   have Ggl:=asd_ hggl
   clear hggl
   replace HE:=asd_ HE0;clear HE0
   refine hK.out _ _ (HS (At.sub HE.out (List.Sublist.cons _ (List.Sublist.cons _ (List.Sublist.cons_cons _ (List.Sublist.cons_cons _ (List.Sublist.cons_cons _ (List.Sublist.cons_cons _ (List.Sublist.trans (List.Sublist.refl _) (List.sublist_append_right _ _)))))))))) (fun hHeld=> ?_)
   clear hK K
   refine nq_ 49 ?_
   refine la_ 16 50 131071 (fun K hK=> ?_)
   refine appendpr_ (L:=(.b gk (row #[.string nm,ptr gc,ptr gq,nP] 131):: .b ge (row (#[.string nm,.int .i64 v.kind,.string v.raw,.slice A2 v.kids.length c2]) 52):: .b gx (row (vc ⟨kind,raw,kids⟩ cv gp) 129):: .b gv (row (#[.int .i64 kind,.string raw,.slice (some ad) n c]) 48):: .f (Fact.maker w0.heap.size gm gs)::snc)) (pr:=pr) (T:=(sn ++ l)) (kc:=#[ptr gk]) (sz:=1) (e:=130) (At.front 0 HE.out rfl) ⟨maker_stays (by decide),offG_append (Hcc.out.offG 130) ((Hcs.out.app Hl_.out).offG 130)⟩ HP.out (by rfl) rfl Tryz.underlying126 info130 rfl (by decide) rfl (by simp [Value.oneCell']) rfl rfl (by have:=Hlt.out;have:=HL_.out;omega) (by have:=Hlt.out;have:=HL_.out;omega) ?_
   intro pr2 g2 c2_ w3 HP2 HE0
   have HP2:=asd_ HP2
   have HE1:Aside0 (At w0 (.b gk (row #[.string nm,ptr gc,ptr gq,nP] 131):: .b ge (row (#[.string nm,.int .i64 v.kind,.string v.raw,.slice A2 v.kids.length c2]) 52):: .b gx (row (vc ⟨kind,raw,kids⟩ cv gp) 129):: .b gv (row (#[.int .i64 kind,.string raw,.slice (some ad) n c]) 48):: .f (Fact.maker w0.heap.size gm gs)::(snc ++ (pr2 ++ (sn ++ l)))) _):=asd_ HE0
   clear HE0
   clear HE;have HE:=HE1;clear HE1
   refine hK.out _ _ ?_
   clear hK K
   refine nq_ 50 ?_
   refine pu_ 17 51 262143 ?_
   refine pu_ 18 52 524287 ?_
   refine lz_ 19 1048575 (fun K hK=> ?_)
   have fgx_:=fE_ HE 2
   have cgx_:=cE_ HE 2
   refine sk_ ?_
   have HE1:=asd_ (At.store_to (i:=1) (v:= .slice (some ⟨g2,0,none⟩) (k + 1) c2_) 2 (vc ⟨kind,raw,kids⟩ (.slice (some ⟨g2,0,none⟩) (k + 1) c2_) gp) HE.out rfl Ggx.out rfl rfl)
   clear fgx_ cgx_
   clear HE;have HE:=HE1;clear HE1
   refine hK.out _ _ ?_
   clear hK K
   refine done_ kr_ ?_
   clear HK;have HK:=HE;clear HE
   clear hHeld
   replace Bc:=ce3_ HK 3 2 1
   replace Bf:=fe2_ HK 2 1
   go_wp2_with fail
   go_roundg (n - (k + 1))
   case measure=>have:=Hkq.out;have:=Hlt.out;omega
   case rel=>exact ⟨k + 1,_,pr2,(.b gk (row #[.string nm,ptr gc,ptr gq,nP] 131)::(snc ++ sn)),ps ++ [gk],cs ++ [gc],⟨Hlt.out⟩,by go_num,⟨rfl⟩,⟨by rw [List.map_append];exact HP2.out⟩,⟨HKs.out.next (fun b hb=>List.mem_cons_of_mem _ (List.mem_append_right _ hb)) Hx.out ⟨gq,List.mem_cons_self⟩ (Hqc.out.mono (fun b hb=>List.mem_cons_of_mem _ (List.mem_append_left _ hb)))⟩,⟨Clean.cons (Hcc.out.app Hcs.out) (by decide)⟩,⟨At.pack [.b gx (row (vc ⟨kind,raw,kids⟩ (.slice (some ⟨g2,0,none⟩) (k + 1) c2_) gp) 129),.b gv (row (#[.int .i64 kind,.string raw,.slice (some ad) n c]) 48),.f (Fact.maker w0.heap.size gm gs)] (At.sub (show At w0 (.b gk (row #[.string nm,ptr gc,ptr gq,nP] 131):: .b ge (row (#[.string nm,.int .i64 v.kind,.string v.raw,.slice A2 v.kids.length c2]) 52):: .b gx (row (vc ⟨kind,raw,kids⟩ (.slice (some ⟨g2,0,none⟩) (k + 1) c2_) gp) 129):: .b gv (row (#[.int .i64 kind,.string raw,.slice (some ad) n c]) 48):: .f (Fact.maker w0.heap.size gm gs)::(snc ++ (pr2 ++ (sn ++ l)))) _ from at_) (List.Sublist.cons_cons _ (List.Sublist.cons _ (List.Sublist.refl _))))⟩⟩
theorem val_ok (v:Vl):Fit v→Sm v→∀ {w0 w:World} {l:List Blk} {gm gs:Nat},At w0 (.f (Fact.maker w0.heap.size gm gs)::l) w→Clean l→∀ {A:Option Addr} {c:Nat},kKid.C w0 A v.kids.length v.kids→v.kids.length≤c→Calls Tryz.prog 35 #[.pointer (some ⟨gm,0,none⟩),.agg #[.int .i64 v.kind,.string v.raw,.slice A v.kids.length c]] w (Made w0 l gm gs (fun gx sn=>VB sn gx v)):=by
 obtain ⟨kind,raw,kids⟩:=v
 intro hf hs w0 w l gm gs H hl A c hC hc
 exact val_one kind raw kids (fun k hk hf hs=>val_ok k.2 hf hs) hf hs H hl hC
termination_by SizeOf.sizeOf v
decreasing_by
 all_goals (have:=List.sizeOf_lt_of_mem hk;obtain ⟨a,b⟩:=k;simp at this ⊢;omega)
def MadeV (w0:World) (l:List Blk) (gm gs:Nat) (Q:Value→List Blk→Prop) (e:Ending) (w':World):Prop:=
 ∃ (v:Value) (sn:List Blk),e= .returned v∧Q v sn∧Clean sn∧At w0 (.f (Fact.maker w0.heap.size gm gs)::(sn ++ l)) w'
def ArgsB (sn:List Blk) (v:Value) (xs:List Kid):Prop:=∃ (b:Nat) (pr:List Blk) (ps cs:List Nat),PR b pr 103 1 v xs.length (ps.map ptr)∧(∀ x∈pr,x∈sn)∧KidsB sn 107 ps cs xs xs.length
def FirstB (sn:List Blk) (v:Value) (xs:List Vl):Prop:=(xs=[]∧v=nP)∨∃ x g,xs=[x]∧v=ptr g∧VB sn g x
theorem FirstB.mono {sn sn':List Blk} (h:∀ x∈sn,x∈sn') {v:Value} {xs:List Vl} (hb:FirstB sn v xs):FirstB sn' v xs:=by
 rcases hb with hb|⟨x,g,e1,e2,h1⟩
 ·exact .inl hb
 ·exact .inr ⟨x,g,e1,e2,h1.mono h⟩
theorem FirstB.is {sn:List Blk} {v:Value} {xs:List Vl} (h:FirstB sn v xs):∃ A,v= .pointer A:=by
 rcases h with ⟨_,rfl⟩|⟨_,_,_,rfl,_⟩<;>exact ⟨_,rfl⟩
theorem info103:(Tryz.prog.info? 103).map (fun i=>(i.zero,i.size,i.bytes))=some (some nP,1,8):=by kernel_rfl
theorem info136:(Tryz.prog.info? 136).map (fun i=>(i.zero,i.size,i.bytes))=some (some nP,1,8):=by kernel_rfl
theorem info108:(Tryz.prog.info? 108).map (fun i=>(i.zero,i.size,i.bytes))=some (some nP,1,8):=by kernel_rfl
theorem args_ok {w0 w:World} {l:List Blk} {gm gs:Nat} (H:At w0 (.f (Fact.maker w0.heap.size gm gs)::l) w) (hl:Clean l) {A:Option Addr} {n c:Nat} {xs:List Kid} (hC:kKid.C w0 A n xs) (hL:n≤1048576) (hs:SmK xs) (hf:FitK xs):
  Calls Tryz.prog 17 #[.pointer (some ⟨gm,0,none⟩),.slice A n c] w (MadeV w0 l gm gs (fun v sn=>ArgsB sn v xs)):=by
 obtain ⟨Hl_,HC_,HL_,Hs_,Hf_⟩:=as5_ hl hC hL hs hf;clear hl hC hL hs hf
 have Hn:Aside0 (n=xs.length):=⟨HC_.out.1.symm⟩
 have HK:=asd_ H
 clear H
 go_enter Tryz.func17,Tryz.ntmps17
 go_wp2_with fail
 go_loopg [5,10] n (fun kq cv i w'=>∃ (k:Nat) (pr sn:List Blk) (ps cs:List Nat),Aside0 (k≤n)∧i= .int .i64 k∧Aside0 (kq=n - k)∧Aside0 (PR w0.heap.size pr 103 1 cv k (ps.map ptr))∧Aside0 (KidsB sn 107 ps cs xs k)∧Aside0 (Clean sn)∧Aside0 (At w0 (.f (Fact.maker w0.heap.size gm gs)::(pr ++ (sn ++ l))) w'))
 case atStart=>exact ⟨0,[],[],[],[],⟨Nat.zero_le _⟩,rfl,⟨rfl⟩,⟨PR.none_ _ _ _⟩,⟨KidsB.zero _ _⟩,⟨Clean.nil⟩,⟨(show At w0 (.f (Fact.maker w0.heap.size gm gs)::l) _ from at_)⟩⟩
 case round=>
  clear HK
  obtain ⟨k,pr,sn,ps,cs,Hk,rfl,Hkq,HP,HI,Hcs,HK⟩:=hrel;have HPc:=asd_ (HP.out.clean (by decide))
  obtain ⟨Ac,cc,e8,hcc8⟩:=HP.out.slice;subst e8;clear hcc8
  by_cases hlt:k < n
  case neg=>
   have hd:decide (k < n)=false:=decide_eq_false hlt;have Hlt:=asd_ hlt;clear hlt
   go_wp2_with fail
   go_ret
   have e9:k=xs.length:=(by have:=Hlt.out;have:=Hk.out;have:=Hn.out;omega)
   exact ⟨_,pr ++ sn,rfl,⟨_,pr,ps,cs,(by rw [← e9];exact HP.out),fun x hx=>List.mem_append_left _ hx,⟨e9 ▸ HI.out.lp,e9 ▸ HI.out.lc,fun i g c x a b d=>(HI.out.kb i g c x a b d).mono (fun x hx=>List.mem_append_right _ hx),fun i c x a b=>(HI.out.vb i c x a b).mono (fun x hx=>List.mem_append_right _ hx)⟩⟩,Clean.app HPc.out Hcs.out,(by rw [List.append_assoc];exact at_)⟩
  case pos=>
   have hd:decide (k < n)=true:=decide_eq_true hlt;have Hlt:=asd_ hlt;clear hlt
   have hi0:(0:Int)≤(k:Int):=(by omega);have hi1:(k:Int) < (n:Int):=(by have:=Hlt.out;omega);have hs1:IntKind.i64.wrap ((k:Int) + 1)=(k:Int) + 1:=IntWalk.i64_in _ (by have:=Hlt.out;have:=HL_.out;omega)
   obtain ⟨ad,nm,v,A2,c2,hA,hx,h0,h1,h2,h3,hl2,hC2⟩:=at_Kid HC_.out k Hlt.out
   subst hA
   have hmem:=List.mem_of_getElem? hx;obtain ⟨Hx,Hmem,Hl2,HC2⟩:=as4_ hx hmem hl2 hC2;clear hmem hx hl2 hC2
   obtain ⟨C0,C1,C2,C3⟩:=as4_ h0 h1 h2 h3;clear h0 h1 h2 h3
   replace Bx:=xc4_ HK.out.b C0 C1 C2 C3
   go_wp2_with (first|((with_reducible refine gd_ 7 ?_);refine bx_ #[eS,i0,eS,nilS] 50 ?_;clear HK;intro ge wb7 HK Gge;replace Bc:=ce1_ HK 0;replace Bf:=fe1_ HK 0;replace Bx:=xc4_ HK.out.b C0 C1 C2 C3)|((with_reducible refine gate_ (.store 50 (.tmp 7) (.tmp 13)) rfl ?_);refine storerow_at (cs:=#[eS,i0,eS,nilS]) (g:=ge) 0 (#[.string nm,.int .i64 v.kind,.string v.raw,.slice A2 v.kids.length c2]) at_ rfl Gge.out rfl rfl rfl rfl rfl rfl kr_ rfl (by simp [Value.oneCell']) ?_;intro wr1 HK1;replace HK:=asd_ HK1;clear HK1;replace Bc:=ce1_ HK 0;replace Bf:=fe1_ HK 0;replace Bx:=xc4_ HK.out.b C0 C1 C2 C3))
   have Hfv:Aside0 (Fit v):=⟨Hf_.out _ Hmem.out⟩;have Hsv:Aside0 (Sm v):=⟨(Hs_.out.2 _ Hmem.out).2⟩
   refine su1_ 14 HK 0 [12] (fun HS hHeld=> ?_)
   refine pu_ 0 14 1 ?_
   refine pu_ 1 15 3 ?_
   refine pu_ 3 17 11 ?_
   refine pu_ 4 18 27 ?_
   refine pu_ 7 21 155 ?_
   refine ta2_ 2 16 159 hHeld ?_
   refine ta2_ 5 19 191 hHeld ?_
   refine on_ 6 20 255 (fun K hK=> ?_)
   have HE:=asd_ (hHeld.1)
   refine ge_ Tryz.func35 #[.pointer (some ⟨gm,0,none⟩),.agg #[.int .i64 v.kind,.string v.raw,.slice A2 v.kids.length c2]] ?_
   with_reducible refine (val_ok v Hfv.out Hsv.out (l:=(.b ge (row (#[.string nm,.int .i64 v.kind,.string v.raw,.slice A2 v.kids.length c2]) 50)::(pr ++ (sn ++ l)))) (At.front 1 HE.out rfl) (by repeat (first|exact Hl_.out|exact Clean.nil|exact HPc.out|exact Hcs.out|(apply Clean.app)|(refine Clean.cons ?_ (by decide)))) HC2.out Hl2.out).mono ?_
   rintro e w3 ⟨gc,snc,rfl,hqc,hcc,HE9⟩
   refine ⟨_,rfl,?_⟩
   have Hqc:=asd_ hqc
   have Hcc:=asd_ hcc
   clear hqc hcc
   have HE1:Aside0 (At w0 (.b ge (row (#[.string nm,.int .i64 v.kind,.string v.raw,.slice A2 v.kids.length c2]) 50):: .f (Fact.maker w0.heap.size gm gs)::(snc ++ (pr ++ (sn ++ l)))) _):=asd_ (At.back [.b ge (row (#[.string nm,.int .i64 v.kind,.string v.raw,.slice A2 v.kids.length c2]) 50)] HE9)
   clear HE9
   clear HE;have HE:=HE1;clear HE1
   refine hK.out _ _ (HS (At.sub HE.out (List.Sublist.cons_cons _ (List.Sublist.cons_cons _ (List.Sublist.trans (List.Sublist.refl _) (List.sublist_append_right _ _)))))) (fun hHeld=> ?_)
   clear hK K
   refine nq_ 20 ?_
   refine on_ 8 22 511 (fun K hK=> ?_)
   refine ge_ Tryz.func36 #[.pointer (some ⟨gm,0,none⟩)] ?_
   with_reducible refine (pos_ok (l:=(.b ge (row (#[.string nm,.int .i64 v.kind,.string v.raw,.slice A2 v.kids.length c2]) 50)::(snc ++ (pr ++ (sn ++ l))))) (At.front 1 HE.out rfl) (by repeat (first|exact Hcc.out|exact Hl_.out|exact Clean.nil|exact HPc.out|exact Hcs.out|(apply Clean.app)|(refine Clean.cons ?_ (by decide))))).mono ?_
   rintro e w3 ⟨gq,snq,rfl,hqq,hcq,HE9⟩
   refine ⟨_,rfl,?_⟩
   have Hqq:=asd_ hqq
   have Hcq:=asd_ hcq
   clear hqq hcq
   have HE1:Aside0 (At w0 (.b ge (row (#[.string nm,.int .i64 v.kind,.string v.raw,.slice A2 v.kids.length c2]) 50):: .f (Fact.maker w0.heap.size gm gs)::(snc ++ (pr ++ (sn ++ l)))) _):=asd_ (At.back0 [.b ge (row (#[.string nm,.int .i64 v.kind,.string v.raw,.slice A2 v.kids.length c2]) 50)] HE9)
   clear HE9
   clear HE;have HE:=HE1;clear HE1
   refine hK.out _ _ (HS (At.sub HE.out (List.Sublist.cons_cons _ (List.Sublist.cons_cons _ (List.Sublist.trans (List.Sublist.refl _) (List.sublist_append_right _ _)))))) (fun hHeld=> ?_)
   clear hK K
   refine nq_ 22 ?_
   refine pu_ 9 23 1023 ?_
   refine on_ 10 24 2047 (fun K hK=> ?_)
   refine ne_ 24 (row #[.string nm,ptr gc,ptr gq,nP] 107) (fun g=> .pointer (some ⟨g,0,none⟩)) ?_
   intro gk w3 HE0 hggk
   have Ggk:=asd_ hggk
   clear hggk
   replace HE:=asd_ HE0;clear HE0
   refine hK.out _ _ (HS (At.sub HE.out (List.Sublist.cons _ (List.Sublist.cons_cons _ (List.Sublist.cons_cons _ (List.Sublist.trans (List.Sublist.refl _) (List.sublist_append_right _ _))))))) (fun hHeld=> ?_)
   clear hK K
   refine nq_ 24 ?_
   refine on_ 11 25 4095 (fun K hK=> ?_)
   refine ne_ 25 (row #[ptr gk] 103) (fun g=> .slice (some ⟨g,0,none⟩) 1 1) ?_
   intro gl w3 HE0 hggl
   have Ggl:=asd_ hggl
   clear hggl
   replace HE:=asd_ HE0;clear HE0
   refine hK.out _ _ (HS (At.sub HE.out (List.Sublist.cons _ (List.Sublist.cons _ (List.Sublist.cons_cons _ (List.Sublist.cons_cons _ (List.Sublist.trans (List.Sublist.refl _) (List.sublist_append_right _ _)))))))) (fun hHeld=> ?_)
   clear hK K
   refine nq_ 25 ?_
   refine la_ 12 26 8191 (fun K hK=> ?_)
   refine appendpr_ (L:=(.b gk (row #[.string nm,ptr gc,ptr gq,nP] 107):: .b ge (row (#[.string nm,.int .i64 v.kind,.string v.raw,.slice A2 v.kids.length c2]) 50):: .f (Fact.maker w0.heap.size gm gs)::snc)) (pr:=pr) (T:=(sn ++ l)) (kc:=#[ptr gk]) (sz:=1) (e:=103) (At.front 0 HE.out rfl) ⟨maker_stays (by decide),offG_append (Hcc.out.offG 103) ((Hcs.out.app Hl_.out).offG 103)⟩ HP.out (by rfl) rfl Tryz.underlying58 info103 rfl (by decide) rfl (by simp [Value.oneCell']) rfl rfl (by have:=Hlt.out;have:=HL_.out;omega) (by have:=Hlt.out;have:=HL_.out;omega) ?_
   intro pr2 g2 c2_ w3 HP2 HE0
   have HP2:=asd_ HP2
   have HE1:Aside0 (At w0 (.b gk (row #[.string nm,ptr gc,ptr gq,nP] 107):: .b ge (row (#[.string nm,.int .i64 v.kind,.string v.raw,.slice A2 v.kids.length c2]) 50):: .f (Fact.maker w0.heap.size gm gs)::(snc ++ (pr2 ++ (sn ++ l)))) _):=asd_ HE0
   clear HE0
   clear HE;have HE:=HE1;clear HE1
   refine hK.out _ _ ?_
   clear hK K
   refine nq_ 26 ?_
   refine pu_ 13 5 16383 ?_
   refine done_ kr_ ?_
   clear HK;have HK:=HE;clear HE
   clear hHeld
   replace Bc:=ce1_ HK 1
   replace Bf:=fe1_ HK 1
   go_wp2_with fail
   go_roundg (n - (k + 1))
   case measure=>have:=Hkq.out;have:=Hlt.out;omega
   case rel=>exact ⟨k + 1,pr2,(.b gk (row #[.string nm,ptr gc,ptr gq,nP] 107)::(snc ++ sn)),ps ++ [gk],cs ++ [gc],⟨Hlt.out⟩,by go_num,⟨rfl⟩,⟨by rw [List.map_append];exact HP2.out⟩,⟨HI.out.next (fun b hb=>List.mem_cons_of_mem _ (List.mem_append_right _ hb)) Hx.out ⟨gq,List.mem_cons_self⟩ (Hqc.out.mono (fun b hb=>List.mem_cons_of_mem _ (List.mem_append_left _ hb)))⟩,⟨Clean.cons (Hcc.out.app Hcs.out) (by decide)⟩,⟨At.pack [.f (Fact.maker w0.heap.size gm gs)] (At.sub (show At w0 (.b gk (row #[.string nm,ptr gc,ptr gq,nP] 107):: .b ge (row (#[.string nm,.int .i64 v.kind,.string v.raw,.slice A2 v.kids.length c2]) 50):: .f (Fact.maker w0.heap.size gm gs)::(snc ++ (pr2 ++ (sn ++ l)))) _ from at_) (List.Sublist.cons_cons _ (List.Sublist.cons _ (List.Sublist.refl _))))⟩⟩
end Go.Proofs.YtlblbefbbibpaaaGreatDoor.J
