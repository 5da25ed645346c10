/- FnArgMap returns true for all definitions of arguments and all arguments; condition: what comes in is of bulk at most 1048576. -/
import Derived.Test.YtlblbefbbibpaaaGreatDoorRows
import Derived.Test.YtlblbefbbibpaaaGreatDoorQAY
import Derived.Test.YtlblbefbbibpaaaGreatDoorQBJ
import Derived.ProofKit
import Derived.ShutString
import Derived.Carry
import Derived.Deep.DeepHandedRow
import Derived.Lay
import Derived.Test.YtlblbefbbibpaaaGreatDoorCards
import Derived.Test.YtlblbefbbibpaaaGreatDoorTie
set_option maxHeartbeats 8000000
set_option maxRecDepth 100000
namespace Go.Proofs.YtlblbefbbibpaaaGreatDoor.fnArgMap
open Go.ChangeShapes Go.WideShapes Go.ChangeAt Go.RowKit
open Go.Proofs.YtlblbefbbibpaaaGreatDoor.J Go.Proofs.YtlblbefbbibpaaaGreatDoor.PAM
theorem own:ownKnob Tryz.prog.godebug=none:=by kernel_rfl
theorem laidOut:laidOutB Tryz.prog=true:=by kernel_rfl
theorem c22:Tryz.prog.readableRec 22=true:=by kernel_rfl
theorem c23:Tryz.prog.readableRec 23=true:=by kernel_rfl
/-- What the walk gives, for every argument. -/
theorem contract (H:Type) (enc:TypeId×Value→H) (W:World) (base:Nat) (args:Array Value) (ds gs:List (DataW H)) (before:List MemPlace)
  (hval:∀ (j:Nat) t v,Tryz.f3.params[j]? =some t→args[j]? =some v→Value.okWide Tryz.prog W .any base t v)
  (hW:DataW.Whole enc Tryz.prog Tryz.f3.params.toList Rows.fnArgMapSpec.vars false W args.toList ds gs before) (hk:Rows.uptoSmall H (ds ++ gs)=true) (hL:laidMet Tryz.prog Rows.fnArgMapUptoRow.laid W):
  Calls Tryz.prog 3 args W fun e W'=>∃ v,e= .returned v∧Rows.fnArgMapSpec.post enc Tryz.prog Tryz.f3 false true false false W args v W':=by
 have hW':=hW
 obtain ⟨p,q,hA0,hV,rfl,hfz,hnd⟩:=hW
 have hA:DataW.TrodAll enc Tryz.prog W 0 (fun _=>true) true Tryz.f3.params.toList args.toList ds p:=hA0
 rw [Tryz.params3] at hA hval
 obtain ⟨v0,vs0,d0,ds0,p0,q0,hargs,rfl,rfl,h0,r0⟩:=trodAll_cons hA
 obtain ⟨v1,vs1,d1,ds1,p1,q1,rfl,rfl,rfl,h1,r1⟩:=trodAll_cons r0
 obtain ⟨rfl,rfl,rfl⟩:=trodAll_nil r1
 obtain rfl:args=#[v0,v1]:=by cases args;simp_all
 obtain ⟨rfl,rfl⟩:=trodVars_none hV
 have k0:=h0
 have k1:=h1
 have lt0:∀ x∈p0,x.block < W.heap.size:=by obtain ⟨m,hm⟩:=k0;exact DataW.trod_lt m _ _ _ hm
 have lt1:∀ x∈p1,x.block < W.heap.size:=by obtain ⟨m,hm⟩:=k1;exact DataW.trod_lt m _ _ _ hm
 obtain ⟨a0,len0,cap0,rfl⟩:=okWide_slice Tryz.underlying22 (hval 0 22 v0 rfl rfl)
 obtain ⟨a1,len1,cap1,rfl⟩:=okWide_slice Tryz.underlying23 (hval 1 23 v1 rfl rfl)
 obtain ⟨fuel0,hf0⟩:=h0
 obtain ⟨fuel1,hf1⟩:=h1
 obtain ⟨A,ca,xs,e0,hla,hCa,hB0⟩:=open_args hf0
 obtain ⟨B,cb,defs,e1,hlb,hCb,hB1⟩:=open_defs hf1
 have e0':Value.slice a0 len0 cap0= .slice A xs.length ca:=(List.cons.inj e0).1
 have e1':Value.slice a1 len1 cap1= .slice B defs.length cb:=(List.cons.inj e1).1
 rw [e0',e1'] at hW' ⊢
 rw [e0'] at k0
 rw [e1'] at k1
 clear hA0
 have hb:Rows.uptoBulkAll [d0,d1]≤1048576:=by
  simp only [List.append_nil] at hk
  exact of_decide_eq_true hk
 simp only [Rows.uptoBulkAll] at hb
 have hsa:=hB0 (by show Rows.uptoBulk d0≤LMx;simp only [LMx];omega)
 have hsd:=hB1 (by show Rows.uptoBulk d1≤LMx;simp only [LMx];omega)
 refine (law_ok (nums_ok (ftabs_of hL)) hCa hCb hsa.1 hsd.1 hsa hsd).mono fun e W' ⟨he,bel⟩=> ?_
 subst he
 exact ⟨_,rfl,_,_,_,[],_,[],hW',trodAll_mk1 (shut_bool Tryz.underlying4 _),
  (trodAll_cons_mk (Below.trod laidOut c22 (of_decide_eq_true (by kernel_rfl)) k0 bel lt0) (trodAll_cons_mk (Below.trod laidOut c23 (of_decide_eq_true (by kernel_rfl)) k1 bel lt1) trodAll_mk0)),rfl,bel.frame _,fun h=>by cases h⟩
theorem no_handles:(Rows.fnArgMapUptoRow.laid.filter fun x=>x.2.handleName?.isSome)=[]:=by kernel_rfl
theorem laid_plain {W:World} (h:laidMetH Tryz.prog Rows.fnArgMapUptoRow.laid W):laidMet Tryz.prog Rows.fnArgMapUptoRow.laid W:=by
 unfold laidMetH at h
 rw [no_handles] at h
 exact h
theorem laid_plain' {W:World} (h:laidMet Tryz.prog Rows.fnArgMapUptoRow.laid W):laidMetH Tryz.prog Rows.fnArgMapUptoRow.laid W:=by
 unfold laidMetH
 rw [no_handles]
 exact h
noncomputable def laidWorld (os:Os):World:=World.laidAll Tryz.prog os Rows.fnArgMapUptoRow.laid
def wargs:Array Value:=#[.slice none 0 0,.slice none 0 0]
theorem laid_met (os:Os):laidMetH Tryz.prog Rows.fnArgMapUptoRow.laid ((laidWorld os).forCall (fun _ _=>0) ⟨#[],wargs,[]⟩).memory:=by
 exact laid_plain' (laidMet_laidAll _ (by kernel_rfl) (by kernel_rfl))
theorem reads (os:Os) {H:Type} (enc:TypeId×Value→H):∃ places,DataW.whole enc Tryz.prog ((laidWorld os).forCall (fun _ _=>0) ⟨#[],wargs,[]⟩).memory Tryz.f3.params.toList Rows.fnArgMapSpec.vars false wargs.toList 8=
  some ([.nil,.nil],[],places):=
 ⟨[],by kernel_rfl⟩
theorem witness (os:Os) {H:Type} (enc:TypeId×Value→H):∃ (w:World) (tape:Tape) (i:Input),w.os=os∧(w.forCall tape i).Shaped Tryz.checked.prog∧i.vars=[]∧Input.okWide Tryz.checked.prog (w.forCall tape i) .any w.heap.size 3 i∧
  (Rows.OpenSpec.upto Rows.fnArgMapSpec).preRow enc Tryz.checked.prog Tryz.f3 Rows.fnArgMapUptoRow.domain false Rows.fnArgMapUptoRow.laid (w.forCall tape i).memory i.args∧({}:Assume).holds Tryz.checked.prog (lone (Frame.enter Tryz.checked.prog 3 i.args .normal) [] (w.forCall tape i)):=by
 obtain ⟨places,hx⟩:=reads os enc
 have hok:Input.okWideB Tryz.checked.prog ((laidWorld os).forCall (fun _ _=>0) ⟨#[],wargs,[]⟩) 3 ⟨#[],wargs,[]⟩=true:=by kernel_rfl
 exact ⟨laidWorld os,fun _ _=>0,⟨#[],wargs,[]⟩,World.laidAll_os _ _ _,World.shaped_of_ZipB (by kernel_rfl) (by kernel_rfl),(Input.okWide_of_okWideB (base:=0) hok).1,(Input.okWide_of_okWideB hok).2,
  OpenSpec.preRow_of_cond 8 hx (by kernel_rfl) (fun k hk=>by cases hk;kernel_rfl) (by kernel_rfl) (laid_met os),by
   simp only [Assume.holds]
   exact ⟨by simp,by simp,fun _=>Modest.zero,by simp,by simp⟩⟩
theorem liftedUpto (os:Os) (started:os.Started) (H:Type) (enc:TypeId×Value→H) (F:Stop.Interp):
  ReturnsInHanded {} Tryz.checked os 3 .any ((Rows.OpenSpec.upto Rows.fnArgMapSpec).preRow enc Tryz.prog Tryz.f3 Rows.fnArgMapUptoRow.domain false Rows.fnArgMapUptoRow.laid) (((Rows.OpenSpec.upto Rows.fnArgMapSpec).at F).post enc Tryz.prog Tryz.f3 false true false false):=by
 refine returnsInHanded_of_row (C:=Tryz.checked) (s:=Rows.OpenSpec.upto Rows.fnArgMapSpec) own started (by kernel_rfl) Tryz.func3 (witness os enc) ?_
 intro W base args ds gs before hval hW _ hcond _ hL _ _
 have hL2:laidMet Tryz.prog Rows.fnArgMapUptoRow.laid W:=laid_plain hL
 exact contract H enc W base args ds gs before hval hW (hcond _ rfl) hL2
end Go.Proofs.YtlblbefbbibpaaaGreatDoor.fnArgMap
namespace Go.Proofs.YtlblbefbbibpaaaGreatDoor.fnArgMap
theorem saidUpto:Rows.FnArgMapUptoSaid:=
 OpenClaim.holds_of_cond 3 Tryz.f3 rfl rfl rfl rfl rfl rfl rfl ⟨rfl,rfl,rfl,rfl,rfl⟩ rfl rfl rfl rfl rfl (by kernel_rfl) Tryz.func3 (by kernel_rfl)
  (of_decide_eq_true (by kernel_rfl)) (by unfold Func.isWrapper;first|(rw [if_pos (by decide +kernel)];kernel_rfl)|(rw [if_neg (by decide +kernel)];exact ⟨rfl,rfl⟩))
  (fun os started H enc _ F=>by rw [OpenClaim.pre_eq_preRow];exact liftedUpto os started H enc F)
theorem plain (f:FuncId) (fn:Func) (hf:Tryz.pinned.checked.prog.funcNamed "given.example/pub-querent/laws.FnArgMap" =some f) (hfn:Tryz.pinned.checked.prog.funcs[f]? =some fn):
  true=Tryz.pinned.checked.prog.looks []∧∀ (j:Nat) t,fn.params[j]? =some t→Tryz.pinned.checked.prog.wantsStandIn t=false:=by
 obtain rfl:f=3:=Option.some.inj ((show Tryz.prog.funcNamed "given.example/pub-querent/laws.FnArgMap" =some 3 by kernel_rfl).symm.trans hf) |>.symm
 obtain rfl:fn=Tryz.f3:=(Option.some.inj (Tryz.func3.symm.trans hfn)).symm
 refine ⟨by kernel_rfl,fun j t ht=> ?_⟩
 rw [Tryz.params3] at ht
 have hm:t=22∨t=23:=by simpa using Array.mem_of_getElem? ht
 rcases hm with rfl|rfl
 ·exact (show Tryz.prog.wantsStandIn 22=false by kernel_rfl)
 ·exact (show Tryz.prog.wantsStandIn 23=false by kernel_rfl)
theorem cardUpto:Rows.FnArgMapUptoCardSaid:=
 Claim7.holds_tied_plain_at .later [] _ _ _ _ saidUpto (fun _ h=>by cases h) (by kernel_rfl) (fun _ h=>by cases h) fnArgMapUpto_row_tie rfl ⟨rfl,rfl⟩ (by kernel_rfl) rfl plain (by kernel_rfl)
end Go.Proofs.YtlblbefbbibpaaaGreatDoor.fnArgMap
namespace Go.Proofs.YtlblbefbbibpaaaGreatDoor
theorem fnArgMap_card:Rows.FnArgMapUptoCardSaid:=fnArgMap.cardUpto
#print axioms fnArgMap_card
end Go.Proofs.YtlblbefbbibpaaaGreatDoor
