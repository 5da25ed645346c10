/- FnJTellWords returns true for all values and texts; condition: what comes in is of bulk at most 1048576. -/
import Derived.Test.YtkphbhncpdcbeaaGreatDoorQBR
import Derived.Test.YtkphbhncpdcbeaaGreatDoorCards
import Derived.Test.YtkphbhncpdcbeaaGreatDoorTie
import Derived.ProofKit
import Derived.OpenShut
import Derived.ShutString
import Derived.Carry
import Derived.Deep.DeepHandedRow
import Derived.Lib.LaidTab
set_option linter.unusedVariables false
set_option linter.unusedSimpArgs false
set_option maxHeartbeats 8000000
set_option maxRecDepth 100000
namespace Go.Proofs.YtkphbhncpdcbeaaGreatDoor.J
open Go.RowKit YtkphbhncpdcbeaaGreatDoorW.PrintWords YtkphbhncpdcbeaaGreatDoorW.PrintLast YtkphbhncpdcbeaaGreatDoorW.PrintMore PJT
theorem words_any (w:World) (AE:Option Addr) (cE:Nat) (l0:List S25) (y:S25) (B4 B5:Option Addr) (d4 d5:Nat) (tb:Bool) (A:Option Addr) (cn:Nat) (names:List ByteArray) (x:S25) (A4 A5:Option Addr) (c4 c5:Nat) (hl:Kd.C k25 w AE l0.length l0) (hn0:l0.length≤LM) (hzl:∀ z∈l0,Sz z) (hy:Rep w y B4 d4 B5 d5) (hzy:Sz y)
  (hx:Rep w x A4 c4 A5 c5) (hz:Sz x) (hr:Kd.C Kd.string w A names.length names) (hc:names.length≤cn) (hn:names.length≤LM):
  Calls Tryz.prog 4 #[.slice AE l0.length cE,.agg (jvc y B4 B5 d4 d5),.agg (#[.bool tb,.slice A names.length cn]),.agg (jvc x A4 A5 c4 c5)] w (rb (.bool true) w):=by
 obtain ⟨pa,ha⟩:=fits5_ok hzy
 obtain ⟨pb,hb⟩:=fits7_ok tb names hn
 obtain ⟨pc,hcc⟩:=fits5_ok hz
 obtain ⟨pd,hvd,hd⟩:=countless_all l0 hn0 hzl
 obtain ⟨pe,hve,he⟩:=countless_all [y,x] (by simp [LM]) (by intro z h;rcases (by simpa using h:z=y∨z=x) with rfl|rfl<;>assumption)
 have HA:=fun W (h:Below w.heap.size w W)=>ha W B4 B5 d4 d5 (hy.below h)
 have HB:=fun W (h:Below w.heap.size w W)=>hb W A cn (Kd.C_below hr h) hc
 have HC:=fun W (h:Below w.heap.size w W)=>hcc W A4 A5 c4 c5 (hx.below h)
 have HD:=fun W (h:Below w.heap.size w W)=>hd W AE cE (Kd.C_below hl h)
 have HE:=fun W gl (h:Below w.heap.size w W) hg=>he W (some ⟨gl,0,none⟩) 2 (two_C hg (hy.below h) (hx.below h))
 cases hm:decide ((l0.length:Int) > 2147483647) with
 |true=>exact words_z w AE cE l0 y B4 B5 d4 d5 tb A cn names x A4 A5 c4 c5 hm
 |false=>
 cases pa with
 |false=>exact words_a w AE cE l0 y B4 B5 d4 d5 tb A cn names x A4 A5 c4 c5 hm HA
 |true=>
 cases pb with
 |false=>exact words_b w AE cE l0 y B4 B5 d4 d5 tb A cn names x A4 A5 c4 c5 hm HA HB
 |true=>
 cases pc with
 |false=>exact words_c w AE cE l0 y B4 B5 d4 d5 tb A cn names x A4 A5 c4 c5 hm HA HB HC
 |true=>
 cases pd with
 |false=>exact words_d w AE cE l0 y B4 B5 d4 d5 tb A cn names x A4 A5 c4 c5 hm HA HB HC HD
 |true=>
 cases pe with
 |false=>exact words_e w AE cE l0 y B4 B5 d4 d5 tb A cn names x A4 A5 c4 c5 hm HA HB HC HD HE
 |true=>exact words_f w AE cE l0 y B4 B5 d4 d5 tb A cn names x A4 A5 c4 c5 hm HA HB HC HD HE hx (hve rfl x (by simp)) hy (hve rfl y (by simp)) hl (hvd rfl) hr hn0 hc hn (by simp only [LM] at hn;omega)
end Go.Proofs.YtkphbhncpdcbeaaGreatDoor.J
namespace Go.Proofs.YtkphbhncpdcbeaaGreatDoor.fnJTellWords
open Go.ChangeShapes Go.WideShapes Go.ChangeAt Go.RowKit
open Go.ChangeMaps (open_string shut_string)
open J PJT
theorem own:ownKnob Tryz.prog.godebug=none:=by kernel_rfl
theorem laidOut:laidOutB Tryz.prog=true:=by kernel_rfl
theorem c23:Tryz.prog.readableRec 23=true:=by kernel_rfl
theorem c25':Tryz.prog.readableRec 25=true:=by kernel_rfl
theorem c37:Tryz.prog.readableRec 37=true:=by kernel_rfl
/-- What the walk gives, for every argument. -/
theorem contract (H:Type) (enc:TypeId×Value→H) (W:World) (base:Nat) (args:Array Value) (ds gs:List (DataW H)) (before:List MemPlace)
  (hval:∀ (j:Nat) t v,Tryz.f4.params[j]? =some t→args[j]? =some v→Value.okWide Tryz.prog W .any base t v)
  (hW:DataW.Whole enc Tryz.prog Tryz.f4.params.toList Rows.fnJTellWordsSpec.vars false W args.toList ds gs before) (hk:Rows.uptoSmall H (ds ++ gs)=true):
  Calls Tryz.prog 4 args W fun e W'=>∃ v,e= .returned v∧Rows.fnJTellWordsSpec.post enc Tryz.prog Tryz.f4 false true false false W args v W':=by
 have hW':=hW
 obtain ⟨p,q,hA0,hV,rfl,hfz,hnd⟩:=hW
 have hA:DataW.TrodAll enc Tryz.prog W 0 (fun _=>true) true Tryz.f4.params.toList args.toList ds p:=hA0
 rw [Tryz.params4] at hA hval
 obtain ⟨v0,vs0,d0,ds0,p0,q0,hargs,rfl,rfl,h0,r0⟩:=trodAll_cons hA
 obtain ⟨v1,vs1,d1,ds1,p1,q1,rfl,rfl,rfl,h1,r1⟩:=trodAll_cons r0
 obtain ⟨v2,vs2,d2,ds2,p2,q2,rfl,rfl,rfl,h2,r2⟩:=trodAll_cons r1
 obtain ⟨v3,vs3,d3,ds3,p3,q3,rfl,rfl,rfl,h3,r3⟩:=trodAll_cons r2
 obtain ⟨rfl,rfl,rfl⟩:=trodAll_nil r3
 obtain rfl:args=#[v0,v1,v2,v3]:=by cases args;simp_all
 obtain ⟨rfl,rfl⟩:=trodVars_none hV
 have k0:=h0
 have k1:=h1
 have k2:=h2
 have k3:=h3
 have lt0:∀ x∈p0,x.block < W.heap.size:=by obtain ⟨m,hm⟩:=k0;exact DataW.trod_lt m _ _ _ hm
 have lt1:∀ x∈p1,x.block < W.heap.size:=by obtain ⟨m,hm⟩:=k1;exact DataW.trod_lt m _ _ _ hm
 have lt2:∀ x∈p2,x.block < W.heap.size:=by obtain ⟨m,hm⟩:=k2;exact DataW.trod_lt m _ _ _ hm
 have lt3:∀ x∈p3,x.block < W.heap.size:=by obtain ⟨m,hm⟩:=k3;exact DataW.trod_lt m _ _ _ hm
 obtain ⟨a0,len0,cap0,rfl⟩:=okWide_slice Tryz.underlying23 (hval 0 23 v0 rfl rfl)
 obtain ⟨cs1,rfl,_⟩:=okWide_struct Tryz.underlying25 (hval 1 25 v1 rfl rfl)
 obtain ⟨cs2,rfl,_⟩:=okWide_struct Tryz.underlying37 (hval 2 37 v2 rfl rfl)
 obtain ⟨cs3,rfl,_⟩:=okWide_struct Tryz.underlying25 (hval 3 25 v3 rfl rfl)
 obtain ⟨fuel0,hf0⟩:=h0
 obtain ⟨fuel1,hf1⟩:=h1
 obtain ⟨fuel2,hf2⟩:=h2
 obtain ⟨fuel3,hf3⟩:=h3
 obtain ⟨AE,cE,l0,e0,hcl,hl,hB0⟩:=open_values (v:= .slice a0 len0 cap0) hf0
 obtain ⟨y,B4,B5,d4,d5,e1,hy,hB1⟩:=open_value fuel1 _ _ hf1
 obtain ⟨tb,A,cn,names,e2,hc,hr,hB2⟩:=open_taken hf2
 obtain ⟨x,A4,A5,c4,c5,e3,hx,hB3⟩:=open_value fuel3 _ _ hf3
 rw [e0] at hf0 k0 hA0 hW' hval ⊢
 obtain rfl:cs1=jvc y B4 B5 d4 d5:=Array.ext' e1
 obtain rfl:cs2=#[.bool tb,.slice A names.length cn]:=Array.ext' e2
 obtain rfl:cs3=jvc x A4 A5 c4 c5:=Array.ext' e3
 clear hA0
 have hb:Rows.uptoBulkAll [d0,d1,d2,d3]≤1048576:=by
  simp only [List.append_nil] at hk
  exact of_decide_eq_true hk
 simp only [Rows.uptoBulkAll] at hb
 obtain ⟨hn0,hzl⟩:=hB0 (by simp only [LM];omega)
 have hzy:=hB1 (by simp only [LM];omega)
 have hn:=hB2 (by simp only [LM];omega)
 have hz:=hB3 (by simp only [LM];omega)
 refine (words_any W AE cE l0 y B4 B5 d4 d5 tb A cn names x A4 A5 c4 c5 hl hn0 hzl hy hzy hx hz hr hc hn).mono fun e W' ⟨he,bel⟩=> ?_
 subst he
 exact ⟨_,rfl,_,_,_,[],_,[],hW',trodAll_mk1 (shut_bool Tryz.underlying4 _),
  (trodAll_cons_mk (Below.trod laidOut c23 (of_decide_eq_true (by kernel_rfl)) k0 bel lt0) (trodAll_cons_mk (Below.trod laidOut c25' (of_decide_eq_true (by kernel_rfl)) k1 bel lt1) (trodAll_cons_mk (Below.trod laidOut c37 (of_decide_eq_true (by kernel_rfl)) k2 bel lt2) (trodAll_cons_mk (Below.trod laidOut c25' (of_decide_eq_true (by kernel_rfl)) k3 bel lt3) trodAll_mk0)))),rfl,bel.frame _,fun h=>by cases h⟩
def lay (g:Nat) (cs:Array Value) (h:Array Obj):Array Obj:=h.modify g fun
 | .cells _ t frozen=> .cells cs t frozen
 |o=>o
noncomputable def laidWorld (os:Os):World:=
 {World.holding Tryz.prog os ⟨#[],#[],[]⟩ with heap:=lay 3 #[.int .u8 0,.int .u8 1,.int .u8 56,.int .u8 2,.int .u8 57,.int .u8 49,.int .u8 28,.int .u8 3,.int .u8 61,.int .u8 58,.int .u8 42,.int .u8 50,.int .u8 38,.int .u8 29,.int .u8 17,.int .u8 4,.int .u8 62,.int .u8 47,.int .u8 59,.int .u8 36,.int .u8 45,.int .u8 43,.int .u8 51,.int .u8 22,.int .u8 53,.int .u8 39,.int .u8 33,.int .u8 30,.int .u8 24,.int .u8 18,.int .u8 12,.int .u8 5,.int .u8 63,.int .u8 55,.int .u8 48,.int .u8 27,.int .u8 60,.int .u8 41,.int .u8 37,.int .u8 16,.int .u8 46,.int .u8 35,.int .u8 44,.int .u8 21,.int .u8 52,.int .u8 32,.int .u8 23,.int .u8 11,.int .u8 54,.int .u8 26,.int .u8 40,.int .u8 15,.int .u8 34,.int .u8 20,.int .u8 31,.int .u8 10,.int .u8 25,.int .u8 14,.int .u8 19,.int .u8 9,.int .u8 13,.int .u8 8,.int .u8 7,.int .u8 6] (lay 2 #[.int .u8 0,.int .u8 1,.int .u8 28,.int .u8 2,.int .u8 29,.int .u8 14,.int .u8 24,.int .u8 3,.int .u8 30,.int .u8 22,.int .u8 20,.int .u8 15,.int .u8 25,.int .u8 17,.int .u8 4,.int .u8 8,.int .u8 31,.int .u8 27,.int .u8 13,.int .u8 23,.int .u8 21,.int .u8 19,.int .u8 16,.int .u8 7,.int .u8 26,.int .u8 12,.int .u8 18,.int .u8 6,.int .u8 11,.int .u8 5,.int .u8 10,.int .u8 9] (lay 0 #[.int .u64 1,.int .u64 10,.int .u64 100,.int .u64 1000,.int .u64 10000,.int .u64 100000,.int .u64 1000000,.int .u64 10000000,.int .u64 100000000,.int .u64 1000000000,.int .u64 10000000000,.int .u64 100000000000,.int .u64 1000000000000,.int .u64 10000000000000,.int .u64 100000000000000,.int .u64 1000000000000000,.int .u64 10000000000000000,.int .u64 100000000000000000,.int .u64 1000000000000000000,.int .u64 10000000000000000000] (World.holding Tryz.prog os ⟨#[],#[],[]⟩).heap))}
def wargs:Array Value:=#[.slice none 0 0,.agg #[.int .i64 0,.bool false,.int .i64 0,.string ⟨#[]⟩,.slice none 0 0,.slice none 0 0],.agg #[.bool false,.slice none 0 0],.agg #[.int .i64 0,.bool false,.int .i64 0,.string ⟨#[]⟩,.slice none 0 0,.slice none 0 0]]
theorem laid_met (os:Os):laidMet Tryz.prog Rows.fnJTellWordsUptoRow.laid ((laidWorld os).forCall (fun _ _=>0) ⟨#[],wargs,[]⟩).memory:=
 laidMet_of_run' 8 (by kernel_rfl) (by kernel_rfl)
theorem reads (os:Os) {H:Type} (enc:TypeId×Value→H):∃ places,DataW.whole enc Tryz.prog ((laidWorld os).forCall (fun _ _=>0) ⟨#[],wargs,[]⟩).memory Tryz.f4.params.toList Rows.fnJTellWordsSpec.vars false wargs.toList 8=
  some ([.nil,.agg [.lit (.int .i64 0),.lit (.bool false),.lit (.int .i64 0),.lit (.string []),.nil,.nil],.agg [.lit (.bool false),.nil],.agg [.lit (.int .i64 0),.lit (.bool false),.lit (.int .i64 0),.lit (.string []),.nil,.nil]],[],places):=
 ⟨[],by kernel_rfl⟩
theorem liftedUpto (os:Os) (started:os.Started) (H:Type) (enc:TypeId×Value→H) (F:Stop.Interp):
  ReturnsInHanded {} Tryz.checked os 4 .any ((Rows.OpenSpec.upto Rows.fnJTellWordsSpec).preRow enc Tryz.prog Tryz.f4 Rows.fnJTellWordsUptoRow.domain false Rows.fnJTellWordsUptoRow.laid) (((Rows.OpenSpec.upto Rows.fnJTellWordsSpec).at F).post enc Tryz.prog Tryz.f4 false true false false):=by
 obtain ⟨places,hx⟩:=reads os enc
 refine returnsInHanded_of_row (C:=Tryz.checked) (s:=Rows.OpenSpec.upto Rows.fnJTellWordsSpec) own started (by kernel_rfl) Tryz.func4
  (witness_row_at (enc:=enc) (C:=Tryz.checked) false (laidWorld os) wargs rfl (by kernel_rfl) (by kernel_rfl) (by kernel_rfl)
   (OpenSpec.preRow_of_cond 8 hx (by kernel_rfl) (fun k hk=>by cases hk;kernel_rfl) (by kernel_rfl) (laid_met os))) ?_
 intro W base args ds gs before hval hW _ hcond _ _ _ _
 exact contract H enc W base args ds gs before hval hW (hcond _ rfl)
theorem saidUpto:Rows.FnJTellWordsUptoSaid:=
 OpenClaim.holds_of_cond 4 Tryz.f4 rfl rfl rfl rfl rfl rfl rfl ⟨rfl,rfl,rfl,rfl,rfl⟩ rfl rfl rfl rfl rfl (by kernel_rfl) Tryz.func4 (by kernel_rfl)
  (of_decide_eq_true (by kernel_rfl)) (by unfold Func.isWrapper;first|(rw [if_pos (by decide +kernel)];kernel_rfl)|(rw [if_neg (by decide +kernel)];exact ⟨rfl,rfl⟩))
  (fun os started H enc _ F=>by rw [OpenClaim.pre_eq_preRow];exact liftedUpto os started H enc F)
theorem plain (f:FuncId) (fn:Func) (hf:Tryz.pinned.checked.prog.funcNamed "given.example/pub-querent/laws.FnJTellWords" =some f) (hfn:Tryz.pinned.checked.prog.funcs[f]? =some fn):
  true=Tryz.pinned.checked.prog.looks []∧∀ (j:Nat) t,fn.params[j]? =some t→Tryz.pinned.checked.prog.wantsStandIn t=false:=by
 obtain rfl:f=4:=Option.some.inj ((show Tryz.prog.funcNamed "given.example/pub-querent/laws.FnJTellWords" =some 4 by kernel_rfl).symm.trans hf) |>.symm
 obtain rfl:fn=Tryz.f4:=(Option.some.inj (Tryz.func4.symm.trans hfn)).symm
 refine ⟨by kernel_rfl,fun j t ht=> ?_⟩
 rw [Tryz.params4] at ht
 have hm:t=23∨t=25∨t=37∨t=25:=by simpa using Array.mem_of_getElem? ht
 rcases hm with rfl|rfl|rfl|rfl
 ·exact (show Tryz.prog.wantsStandIn 23=false by kernel_rfl)
 ·exact (show Tryz.prog.wantsStandIn 25=false by kernel_rfl)
 ·exact (show Tryz.prog.wantsStandIn 37=false by kernel_rfl)
 ·exact (show Tryz.prog.wantsStandIn 25=false by kernel_rfl)
theorem cardUpto:Rows.FnJTellWordsUptoCardSaid:=
 Claim7.holds_tied_plain_at .later [] _ _ _ _ saidUpto (fun _ h=>by cases h) (by kernel_rfl) (fun _ h=>by cases h) fnJTellWordsUpto_row_tie rfl ⟨rfl,rfl⟩ (by kernel_rfl) rfl plain (by kernel_rfl)
end Go.Proofs.YtkphbhncpdcbeaaGreatDoor.fnJTellWords
namespace Go.Proofs.YtkphbhncpdcbeaaGreatDoor
theorem fnJTellWords_card:Rows.FnJTellWordsUptoCardSaid:=fnJTellWords.cardUpto
#print axioms fnJTellWords_card
end Go.Proofs.YtkphbhncpdcbeaaGreatDoor
