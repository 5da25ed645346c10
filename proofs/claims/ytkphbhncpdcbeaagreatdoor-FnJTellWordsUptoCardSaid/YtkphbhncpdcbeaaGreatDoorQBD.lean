/- Part. -/
import Derived.Test.YtkphbhncpdcbeaaGreatDoorQBC
set_option linter.unusedVariables false
set_option linter.unusedSimpArgs false
set_option maxHeartbeats 8000000
set_option maxRecDepth 100000
namespace Go.Proofs.YtkphbhncpdcbeaaGreatDoor.J
open YtkphbhncpdcbeaaGreatDoorW Go.RowKit YtkphbhncpdcbeaaGreatDoorW.PrintWords YtkphbhncpdcbeaaGreatDoorW.PrintLast YtkphbhncpdcbeaaGreatDoorW.PrintMore PJT
attribute [local go_sem] tv_76
theorem one_vdc {v:Value} {ad:Addr} {a b c d:Value} (h:v.oneCell'=true) (ha:a.oneCell'=true:=by rfl) (hb:b.oneCell'=true:=by rfl) (hc:c.oneCell'=true:=by rfl) (hd:d.oneCell'=true:=by rfl):(vdc v ad a b c d).all (·.oneCell')=true:=by
 simp [vdc,h,ha,hb,hc,hd]
 exact ⟨rfl,rfl⟩
theorem sch_both (w:World) (gs:Nat) (vv:Value) (hvv:vv.oneCell'=true) (s:Sc) (hS:w.heap[gs]? =some (row s.cells 119)) (hF:∀ W,Below w.heap.size w W→Calls Tryz.prog 98 #[vv,.pointer (some ⟨gs,0,none⟩),.bool false] W fun e w'=>∃ gu,e= .returned (.pointer (some ⟨gu,0,none⟩))∧w'.heap[gu]? =some (row #[nM,nM] 263)∧W.heap.size≤gu∧Below W.heap.size W w') (Q:Ending→World→Prop) (hV:((∀ W l gv gc ad up,At w (.b gv (row (vdc vv ad (.pointer (some ⟨gs,0,none⟩)) (.pointer (some ⟨gc,0,none⟩)) up nilS) 182):: .b gc (row (#[.pointer (some ⟨gs,0,none⟩),eS,i0,nP]) 178)::l) W→w.heap.size≤gv→Calls Tryz.prog 99 #[.pointer (some ⟨gv,0,none⟩)] W fun e w'=>e= .returned (.tuple #[up,.nilIface])∧At w (.b gv (row (vdc vv ad (.pointer (some ⟨gs,0,none⟩)) (.pointer (some ⟨gc,0,none⟩)) up nilS) 182):: .b gc (row (#[.pointer (some ⟨gs,0,none⟩),eS,i0,nP]) 178)::l) w')∧∀ e w',(((rb .nilIface w)) e w')→Q e w')∨(∃ (tk:TypeId) (PY:Nat→List Blk→Prop),(∀ (v:Value) (W:World),(Instr.typeAssert (.iface tk v) 126 185 true).run Tryz.prog W= .ok (.tuple #[.pointer none,.bool false]) W)∧(∀ W l gv gc ad up,At w (.b gv (row (vdc vv ad (.pointer (some ⟨gs,0,none⟩)) (.pointer (some ⟨gc,0,none⟩)) up nilS) 182):: .b gc (row (#[.pointer (some ⟨gs,0,none⟩),eS,i0,nP]) 178)::l) W→w.heap.size≤gv→Calls Tryz.prog 99 #[.pointer (some ⟨gv,0,none⟩)] W fun e w'=>∃ ge gki Ae ce Y,e= .returned (.tuple #[nP,.iface 76 (.pointer (some ⟨ge,0,none⟩))])∧PY gki Y∧At w (.b ge (row (vec s.loc Ae ce (.iface tk (.pointer (some ⟨gki,0,none⟩))) nilS) 129)::Y) w')∧∀ e w',((fun e w'=>∃ gr gk2 gz ge gki Ae ce Y,e= .returned (.iface 76 (.pointer (some ⟨gr,0,none⟩)))∧PY gki Y∧At w (.b gr (row #[.string s.loc,nilS,.iface 187 (.pointer (some ⟨gk2,0,none⟩)),.slice (some ⟨gz,0,none⟩) 1 1] 129):: .b gk2 (row #[.string s.loc] 189):: .b gz (row #[.pointer (some ⟨ge,0,none⟩)] 76):: .b ge (row (vec s.loc Ae ce (.iface tk (.pointer (some ⟨gki,0,none⟩))) nilS) 129)::Y) w') e w')→Q e w')):
  Calls Tryz.prog 53 #[.pointer (some ⟨gs,0,none⟩),vv] w Q:=by
 have Hvv:=asd_ hvv;have hm:=cells_one hvv;unfold Value.cells at hm;clear hvv
 have HF:=asd_ hF
 have HV:=asd_ hV
 clear hF hV
 have HK:=st0_ w
 have bgs:=cel_ (blk_below hS HK.out.b)
 go_enter Tryz.func53,Tryz.ntmps53
 go_wp2_with fail
 refine st_ 12 (fun w'=>At w [] w'∧(∀ j,w'.cell? ⟨gs,j,none⟩=(s.cells:Array Value)[j]?)) [11] (fun A=>⟨A,(cel_ (blk_below hS A.b))⟩) (fun hHeld=> ?_)
 refine pu_ 0 12 1 ?_
 refine pu_ 2 14 5 ?_
 refine pu_ 3 15 13 ?_
 refine pu_ 4 16 29 ?_
 refine pu_ 6 18 93 ?_
 refine pu_ 7 19 221 ?_
 refine jo_ (σ:=Nat×Nat×Nat×Nat) 1 2047 (fun s=>[(13,.slice (some ⟨s.1,0,none⟩) 0 8),(17,.pointer (some ⟨s.2.1,0,none⟩)),(20,.pointer (some ⟨s.2.2.1,0,none⟩)),(5,.pointer (some ⟨s.2.2.2,0,none⟩)),(21,.agg #[vv,.slice (some ⟨s.1,0,none⟩) 0 8,.pointer (some ⟨gs,0,none⟩),.pointer (some ⟨s.2.1,0,none⟩),.pointer (some ⟨s.2.2.1,0,none⟩),nilS,bF])]) (fun s w'=>At w (.b s.2.2.2 (row (#[.nilIface,nilS,nP,nP,nP,nilS,bF]) 182):: .b s.2.2.1 (row #[nM,nM] 263):: .b s.2.1 (row (#[.pointer (some ⟨gs,0,none⟩),eS,i0,nP]) 178):: .b s.1 (row #[eS,eS,eS,eS,eS,eS,eS,eS] 9)::[]) w'∧w.heap.size≤s.1∧w.heap.size≤s.2.1∧w.heap.size≤s.2.2.1∧w.heap.size≤s.2.2.2) (fun hJ1_5_8_10=> ?_) ?_
 refine jo_ (σ:=Nat×Nat×Nat×Nat) 2 1023 (fun s=>[(13,.slice (some ⟨s.1,0,none⟩) 0 8),(17,.pointer (some ⟨s.2.1,0,none⟩)),(20,.pointer (some ⟨s.2.2.1,0,none⟩)),(21,.agg #[vv,.slice (some ⟨s.1,0,none⟩) 0 8,.pointer (some ⟨gs,0,none⟩),.pointer (some ⟨s.2.1,0,none⟩),.pointer (some ⟨s.2.2.1,0,none⟩),nilS,bF])]) (fun s w'=>At w (.b s.2.2.1 (row #[nM,nM] 263):: .b s.2.1 (row (#[.pointer (some ⟨gs,0,none⟩),eS,i0,nP]) 178):: .b s.1 (row #[eS,eS,eS,eS,eS,eS,eS,eS] 9)::[]) w'∧w.heap.size≤s.1∧w.heap.size≤s.2.1∧w.heap.size≤s.2.2.1) (fun hJ1_5_8=> ?_) ?_
 refine jo_ (σ:=Nat×Nat×Nat×Nat) 3 1279 (fun s=>[(13,.slice (some ⟨s.1,0,none⟩) 0 8),(17,.pointer (some ⟨s.2.1,0,none⟩)),(5,.pointer (some ⟨s.2.2.2,0,none⟩))]) (fun s w'=>At w (.b s.2.2.2 (row (#[.nilIface,nilS,nP,nP,nP,nilS,bF]) 182):: .b s.2.1 (row (#[.pointer (some ⟨gs,0,none⟩),eS,i0,nP]) 178):: .b s.1 (row #[eS,eS,eS,eS,eS,eS,eS,eS] 9)::[]) w'∧w.heap.size≤s.1∧w.heap.size≤s.2.1∧w.heap.size≤s.2.2.2) (fun hJ1_5_10=> ?_) ?_
 refine jo_ (σ:=Nat×Nat×Nat×Nat) 3 1503 (fun s=>[(13,.slice (some ⟨s.1,0,none⟩) 0 8),(20,.pointer (some ⟨s.2.2.1,0,none⟩)),(5,.pointer (some ⟨s.2.2.2,0,none⟩))]) (fun s w'=>At w (.b s.2.2.2 (row (#[.nilIface,nilS,nP,nP,nP,nilS,bF]) 182):: .b s.2.2.1 (row #[nM,nM] 263):: .b s.1 (row #[eS,eS,eS,eS,eS,eS,eS,eS] 9)::[]) w'∧w.heap.size≤s.1∧w.heap.size≤s.2.2.1∧w.heap.size≤s.2.2.2) (fun hJ1_8_10=> ?_) ?_
 refine jo_ (σ:=Nat×Nat×Nat×Nat) 3 1533 (fun s=>[(17,.pointer (some ⟨s.2.1,0,none⟩)),(20,.pointer (some ⟨s.2.2.1,0,none⟩)),(5,.pointer (some ⟨s.2.2.2,0,none⟩))]) (fun s w'=>At w (.b s.2.2.2 (row (#[.nilIface,nilS,nP,nP,nP,nilS,bF]) 182):: .b s.2.2.1 (row #[nM,nM] 263):: .b s.2.1 (row (#[.pointer (some ⟨gs,0,none⟩),eS,i0,nP]) 178)::[]) w'∧w.heap.size≤s.2.1∧w.heap.size≤s.2.2.1∧w.heap.size≤s.2.2.2) (fun hJ5_8_10=> ?_) ?_
 refine jo_ (σ:=Nat×Nat×Nat×Nat) 4 255 (fun s=>[(13,.slice (some ⟨s.1,0,none⟩) 0 8),(17,.pointer (some ⟨s.2.1,0,none⟩))]) (fun s w'=>At w (.b s.2.1 (row (#[.pointer (some ⟨gs,0,none⟩),eS,i0,nP]) 178):: .b s.1 (row #[eS,eS,eS,eS,eS,eS,eS,eS] 9)::[]) w'∧w.heap.size≤s.1∧w.heap.size≤s.2.1) (fun hJ1_5=> ?_) ?_
 refine jo_ (σ:=Nat×Nat×Nat×Nat) 4 479 (fun s=>[(13,.slice (some ⟨s.1,0,none⟩) 0 8),(20,.pointer (some ⟨s.2.2.1,0,none⟩))]) (fun s w'=>At w (.b s.2.2.1 (row #[nM,nM] 263):: .b s.1 (row #[eS,eS,eS,eS,eS,eS,eS,eS] 9)::[]) w'∧w.heap.size≤s.1∧w.heap.size≤s.2.2.1) (fun hJ1_8=> ?_) ?_
 refine jo_ (σ:=Nat×Nat×Nat×Nat) 4 1247 (fun s=>[(13,.slice (some ⟨s.1,0,none⟩) 0 8),(5,.pointer (some ⟨s.2.2.2,0,none⟩))]) (fun s w'=>At w (.b s.2.2.2 (row (#[.nilIface,nilS,nP,nP,nP,nilS,bF]) 182):: .b s.1 (row #[eS,eS,eS,eS,eS,eS,eS,eS] 9)::[]) w'∧w.heap.size≤s.1∧w.heap.size≤s.2.2.2) (fun hJ1_10=> ?_) ?_
 refine jo_ (σ:=Nat×Nat×Nat×Nat) 4 509 (fun s=>[(17,.pointer (some ⟨s.2.1,0,none⟩)),(20,.pointer (some ⟨s.2.2.1,0,none⟩))]) (fun s w'=>At w (.b s.2.2.1 (row #[nM,nM] 263):: .b s.2.1 (row (#[.pointer (some ⟨gs,0,none⟩),eS,i0,nP]) 178)::[]) w'∧w.heap.size≤s.2.1∧w.heap.size≤s.2.2.1) (fun hJ5_8=> ?_) ?_
 refine jo_ (σ:=Nat×Nat×Nat×Nat) 4 1277 (fun s=>[(17,.pointer (some ⟨s.2.1,0,none⟩)),(5,.pointer (some ⟨s.2.2.2,0,none⟩))]) (fun s w'=>At w (.b s.2.2.2 (row (#[.nilIface,nilS,nP,nP,nP,nilS,bF]) 182):: .b s.2.1 (row (#[.pointer (some ⟨gs,0,none⟩),eS,i0,nP]) 178)::[]) w'∧w.heap.size≤s.2.1∧w.heap.size≤s.2.2.2) (fun hJ5_10=> ?_) ?_
 refine jo_ (σ:=Nat×Nat×Nat×Nat) 4 1501 (fun s=>[(20,.pointer (some ⟨s.2.2.1,0,none⟩)),(5,.pointer (some ⟨s.2.2.2,0,none⟩))]) (fun s w'=>At w (.b s.2.2.2 (row (#[.nilIface,nilS,nP,nP,nP,nilS,bF]) 182):: .b s.2.2.1 (row #[nM,nM] 263)::[]) w'∧w.heap.size≤s.2.2.1∧w.heap.size≤s.2.2.2) (fun hJ8_10=> ?_) ?_
 refine jo_ (σ:=Nat×Nat×Nat×Nat) 5 223 (fun s=>[(13,.slice (some ⟨s.1,0,none⟩) 0 8)]) (fun s w'=>At w (.b s.1 (row #[eS,eS,eS,eS,eS,eS,eS,eS] 9)::[]) w'∧w.heap.size≤s.1) (fun hJ1=> ?_) ?_
 refine jo_ (σ:=Nat×Nat×Nat×Nat) 5 253 (fun s=>[(17,.pointer (some ⟨s.2.1,0,none⟩))]) (fun s w'=>At w (.b s.2.1 (row (#[.pointer (some ⟨gs,0,none⟩),eS,i0,nP]) 178)::[]) w'∧w.heap.size≤s.2.1) (fun hJ5=> ?_) ?_
 refine jo_ (σ:=Nat×Nat×Nat×Nat) 5 477 (fun s=>[(20,.pointer (some ⟨s.2.2.1,0,none⟩))]) (fun s w'=>At w (.b s.2.2.1 (row #[nM,nM] 263)::[]) w'∧w.heap.size≤s.2.2.1) (fun hJ8=> ?_) ?_
 refine jo_ (σ:=Nat×Nat×Nat×Nat) 5 1245 (fun s=>[(5,.pointer (some ⟨s.2.2.2,0,none⟩))]) (fun s w'=>At w (.b s.2.2.2 (row (#[.nilIface,nilS,nP,nP,nP,nilS,bF]) 182)::[]) w'∧w.heap.size≤s.2.2.2) (fun hJ10=> ?_) ?_
 refine fo_ 1 5 8 10 13 17 20 5 223 253 477 1245 (fun K hK=> ?_) (fun K hK=> ?_) (fun K hK=> ?_) (fun K hK=> ?_)
 ·skip
  have HE:=asd_ hHeld.1
  refine new_ HE.out (by rfl) (N:=13) (by rfl) (ob:=row #[eS,eS,eS,eS,eS,eS,eS,eS] 9) (v:=fun b=> .slice (some ⟨b,0,none⟩) 0 8) (by exact mk8 _) ?_
  intro gl w3 HE0 hgl
  replace HE:=asd_ (At.sink 0 HE0);clear HE0
  have HEc:At w (.b gl (row #[eS,eS,eS,eS,eS,eS,eS,eS] 9)::[]) w3:=HE.out
  refine hK.out _ _ ⟨HEc.drop,(cel_ (blk_below hS HEc.drop.b))⟩ (fun hHeld=> ?_)
  clear hK K
  refine nq_ 13 ?_
  exact nx_ (hJ1 (gl,0,0,0) _ ⟨HE.out,hgl⟩)
 ·skip
  have HE:=asd_ hHeld.1
  refine ne_ 17 (row (#[.pointer (some ⟨gs,0,none⟩),eS,i0,nP]) 178) (fun b=> .pointer (some ⟨b,0,none⟩)) ?_
  intro gc w3 HE0 hgc
  replace HE:=asd_ (At.sink 0 HE0);clear HE0
  have HEc:At w (.b gc (row (#[.pointer (some ⟨gs,0,none⟩),eS,i0,nP]) 178)::[]) w3:=HE.out
  refine hK.out _ _ ⟨HEc.drop,(cel_ (blk_below hS HEc.drop.b))⟩ (fun hHeld=> ?_)
  clear hK K
  refine nq_ 17 ?_
  exact nx_ (hJ5 (0,gc,0,0) _ ⟨HE.out,hgc⟩)
 ·skip
  have HE:=asd_ hHeld.1
  refine ge_ Tryz.func98 #[vv,.pointer (some ⟨gs,0,none⟩),.bool false] ?_
  with_reducible refine (HF.out _ HE.out.b).mono ?_
  rintro e w3 ⟨gu,rfl,hge,hgn,hb⟩
  refine ⟨_,rfl,?_⟩
  have HE0:=At.came HE.out hb hge hgn
  have hgu:w.heap.size≤gu:=Nat.le_trans HE.out.b.size hgn
  replace HE:=asd_ (At.sink 0 HE0);clear HE0
  have HEc:At w (.b gu (row #[nM,nM] 263)::[]) w3:=HE.out
  refine hK.out _ _ ⟨HEc.drop,(cel_ (blk_below hS HEc.drop.b))⟩ (fun hHeld=> ?_)
  clear hK K
  refine nq_ 20 ?_
  exact nx_ (hJ8 (0,0,gu,0) _ ⟨HE.out,hgu⟩)
 ·skip
  have HE:=asd_ hHeld.1
  refine ne_ 5 (row (#[.nilIface,nilS,nP,nP,nP,nilS,bF]) 182) (fun b=> .pointer (some ⟨b,0,none⟩)) ?_
  intro gv w3 HE0 hgv
  replace HE:=asd_ (At.sink 0 HE0);clear HE0
  have HEc:At w (.b gv (row (#[.nilIface,nilS,nP,nP,nP,nilS,bF]) 182)::[]) w3:=HE.out
  refine hK.out _ _ ⟨HEc.drop,(cel_ (blk_below hS HEc.drop.b))⟩ (fun hHeld=> ?_)
  clear hK K
  refine nq_ 5 ?_
  exact nx_ (hJ10 (0,0,0,gv) _ ⟨HE.out,hgv⟩)
 rintro ⟨gl,gc,gu,gv⟩ w' ⟨HE0,hgv⟩
 have HE:=asd_ HE0
 clear HE0
 have Ggv:=asd_ hgv
 have hHeld:=(show At w [] w'∧(∀ j,w'.cell? ⟨gs,j,none⟩=(s.cells:Array Value)[j]?) from ⟨HE.out.drop,(cel_ (blk_below hS HE.out.drop.b))⟩)
 refine np_ ?_
 refine th_ 1 5 8 13 17 20 1247 1277 1501 (fun K hK=> ?_) (fun K hK=> ?_) (fun K hK=> ?_)
 ·skip
  refine new_ HE.out (by rfl) (N:=13) (by rfl) (ob:=row #[eS,eS,eS,eS,eS,eS,eS,eS] 9) (v:=fun b=> .slice (some ⟨b,0,none⟩) 0 8) (by exact mk8 _) ?_
  intro gl w3 HE0 hgl
  replace HE:=asd_ (At.sink 1 HE0);clear HE0
  have HEc:At w (.b gv (row (#[.nilIface,nilS,nP,nP,nP,nilS,bF]) 182):: .b gl (row #[eS,eS,eS,eS,eS,eS,eS,eS] 9)::[]) w3:=HE.out
  refine hK.out _ _ ⟨HEc.drop.drop,(cel_ (blk_below hS HEc.drop.drop.b))⟩ (fun hHeld=> ?_)
  clear hK K
  refine nq_ 13 ?_
  exact nx_ (hJ1_10 (gl,0,0,gv) _ ⟨HE.out,hgl,hgv⟩)
 ·skip
  refine ne_ 17 (row (#[.pointer (some ⟨gs,0,none⟩),eS,i0,nP]) 178) (fun b=> .pointer (some ⟨b,0,none⟩)) ?_
  intro gc w3 HE0 hgc
  replace HE:=asd_ (At.sink 1 HE0);clear HE0
  have HEc:At w (.b gv (row (#[.nilIface,nilS,nP,nP,nP,nilS,bF]) 182):: .b gc (row (#[.pointer (some ⟨gs,0,none⟩),eS,i0,nP]) 178)::[]) w3:=HE.out
  refine hK.out _ _ ⟨HEc.drop.drop,(cel_ (blk_below hS HEc.drop.drop.b))⟩ (fun hHeld=> ?_)
  clear hK K
  refine nq_ 17 ?_
  exact nx_ (hJ5_10 (0,gc,0,gv) _ ⟨HE.out,hgc,hgv⟩)
 ·skip
  refine ge_ Tryz.func98 #[vv,.pointer (some ⟨gs,0,none⟩),.bool false] ?_
  with_reducible refine (HF.out _ HE.out.b).mono ?_
  rintro e w3 ⟨gu,rfl,hge,hgn,hb⟩
  refine ⟨_,rfl,?_⟩
  have HE0:=At.came HE.out hb hge hgn
  have hgu:w.heap.size≤gu:=Nat.le_trans HE.out.b.size hgn
  replace HE:=asd_ (At.sink 1 HE0);clear HE0
  have HEc:At w (.b gv (row (#[.nilIface,nilS,nP,nP,nP,nilS,bF]) 182):: .b gu (row #[nM,nM] 263)::[]) w3:=HE.out
  refine hK.out _ _ ⟨HEc.drop.drop,(cel_ (blk_below hS HEc.drop.drop.b))⟩ (fun hHeld=> ?_)
  clear hK K
  refine nq_ 20 ?_
  exact nx_ (hJ8_10 (0,0,gu,gv) _ ⟨HE.out,hgu,hgv⟩)
 rintro ⟨gl,gc,gu,gv⟩ w' ⟨HE0,hgu⟩
 have HE:=asd_ HE0
 clear HE0
 have Ggu:=asd_ hgu
 have hHeld:=(show At w [] w'∧(∀ j,w'.cell? ⟨gs,j,none⟩=(s.cells:Array Value)[j]?) from ⟨HE.out.drop,(cel_ (blk_below hS HE.out.drop.b))⟩)
 refine np_ ?_
 refine th_ 1 5 10 13 17 5 479 509 1501 (fun K hK=> ?_) (fun K hK=> ?_) (fun K hK=> ?_)
 ·skip
  refine new_ HE.out (by rfl) (N:=13) (by rfl) (ob:=row #[eS,eS,eS,eS,eS,eS,eS,eS] 9) (v:=fun b=> .slice (some ⟨b,0,none⟩) 0 8) (by exact mk8 _) ?_
  intro gl w3 HE0 hgl
  replace HE:=asd_ (At.sink 1 HE0);clear HE0
  have HEc:At w (.b gu (row #[nM,nM] 263):: .b gl (row #[eS,eS,eS,eS,eS,eS,eS,eS] 9)::[]) w3:=HE.out
  refine hK.out _ _ ⟨HEc.drop.drop,(cel_ (blk_below hS HEc.drop.drop.b))⟩ (fun hHeld=> ?_)
  clear hK K
  refine nq_ 13 ?_
  exact nx_ (hJ1_8 (gl,0,gu,0) _ ⟨HE.out,hgl,hgu⟩)
 ·skip
  refine ne_ 17 (row (#[.pointer (some ⟨gs,0,none⟩),eS,i0,nP]) 178) (fun b=> .pointer (some ⟨b,0,none⟩)) ?_
  intro gc w3 HE0 hgc
  replace HE:=asd_ (At.sink 1 HE0);clear HE0
  have HEc:At w (.b gu (row #[nM,nM] 263):: .b gc (row (#[.pointer (some ⟨gs,0,none⟩),eS,i0,nP]) 178)::[]) w3:=HE.out
  refine hK.out _ _ ⟨HEc.drop.drop,(cel_ (blk_below hS HEc.drop.drop.b))⟩ (fun hHeld=> ?_)
  clear hK K
  refine nq_ 17 ?_
  exact nx_ (hJ5_8 (0,gc,gu,0) _ ⟨HE.out,hgc,hgu⟩)
 ·skip
  refine ne_ 5 (row (#[.nilIface,nilS,nP,nP,nP,nilS,bF]) 182) (fun b=> .pointer (some ⟨b,0,none⟩)) ?_
  intro gv w3 HE0 hgv
  replace HE:=asd_ (At.sink 0 HE0);clear HE0
  have HEc:At w (.b gv (row (#[.nilIface,nilS,nP,nP,nP,nilS,bF]) 182):: .b gu (row #[nM,nM] 263)::[]) w3:=HE.out
  refine hK.out _ _ ⟨HEc.drop.drop,(cel_ (blk_below hS HEc.drop.drop.b))⟩ (fun hHeld=> ?_)
  clear hK K
  refine nq_ 5 ?_
  exact nx_ (hJ8_10 (0,0,gu,gv) _ ⟨HE.out,hgu,hgv⟩)
 rintro ⟨gl,gc,gu,gv⟩ w' ⟨HE0,hgc⟩
 have HE:=asd_ HE0
 clear HE0
 have Ggc:=asd_ hgc
 have hHeld:=(show At w [] w'∧(∀ j,w'.cell? ⟨gs,j,none⟩=(s.cells:Array Value)[j]?) from ⟨HE.out.drop,(cel_ (blk_below hS HE.out.drop.b))⟩)
 refine np_ ?_
 refine th_ 1 8 10 13 20 5 255 509 1277 (fun K hK=> ?_) (fun K hK=> ?_) (fun K hK=> ?_)
 ·skip
  refine new_ HE.out (by rfl) (N:=13) (by rfl) (ob:=row #[eS,eS,eS,eS,eS,eS,eS,eS] 9) (v:=fun b=> .slice (some ⟨b,0,none⟩) 0 8) (by exact mk8 _) ?_
  intro gl w3 HE0 hgl
  replace HE:=asd_ (At.sink 1 HE0);clear HE0
  have HEc:At w (.b gc (row (#[.pointer (some ⟨gs,0,none⟩),eS,i0,nP]) 178):: .b gl (row #[eS,eS,eS,eS,eS,eS,eS,eS] 9)::[]) w3:=HE.out
  refine hK.out _ _ ⟨HEc.drop.drop,(cel_ (blk_below hS HEc.drop.drop.b))⟩ (fun hHeld=> ?_)
  clear hK K
  refine nq_ 13 ?_
  exact nx_ (hJ1_5 (gl,gc,0,0) _ ⟨HE.out,hgl,hgc⟩)
 ·skip
  refine ge_ Tryz.func98 #[vv,.pointer (some ⟨gs,0,none⟩),.bool false] ?_
  with_reducible refine (HF.out _ HE.out.b).mono ?_
  rintro e w3 ⟨gu,rfl,hge,hgn,hb⟩
  refine ⟨_,rfl,?_⟩
  have HE0:=At.came HE.out hb hge hgn
  have hgu:w.heap.size≤gu:=Nat.le_trans HE.out.b.size hgn
  replace HE:=asd_ (At.sink 0 HE0);clear HE0
  have HEc:At w (.b gu (row #[nM,nM] 263):: .b gc (row (#[.pointer (some ⟨gs,0,none⟩),eS,i0,nP]) 178)::[]) w3:=HE.out
  refine hK.out _ _ ⟨HEc.drop.drop,(cel_ (blk_below hS HEc.drop.drop.b))⟩ (fun hHeld=> ?_)
  clear hK K
  refine nq_ 20 ?_
  exact nx_ (hJ5_8 (0,gc,gu,0) _ ⟨HE.out,hgc,hgu⟩)
 ·skip
  refine ne_ 5 (row (#[.nilIface,nilS,nP,nP,nP,nilS,bF]) 182) (fun b=> .pointer (some ⟨b,0,none⟩)) ?_
  intro gv w3 HE0 hgv
  replace HE:=asd_ (At.sink 0 HE0);clear HE0
  have HEc:At w (.b gv (row (#[.nilIface,nilS,nP,nP,nP,nilS,bF]) 182):: .b gc (row (#[.pointer (some ⟨gs,0,none⟩),eS,i0,nP]) 178)::[]) w3:=HE.out
  refine hK.out _ _ ⟨HEc.drop.drop,(cel_ (blk_below hS HEc.drop.drop.b))⟩ (fun hHeld=> ?_)
  clear hK K
  refine nq_ 5 ?_
  exact nx_ (hJ5_10 (0,gc,0,gv) _ ⟨HE.out,hgc,hgv⟩)
 rintro ⟨gl,gc,gu,gv⟩ w' ⟨HE0,hgl⟩
 have HE:=asd_ HE0
 clear HE0
 have Ggl:=asd_ hgl
 have hHeld:=(show At w [] w'∧(∀ j,w'.cell? ⟨gs,j,none⟩=(s.cells:Array Value)[j]?) from ⟨HE.out.drop,(cel_ (blk_below hS HE.out.drop.b))⟩)
 refine np_ ?_
 refine th_ 5 8 10 17 20 5 255 479 1247 (fun K hK=> ?_) (fun K hK=> ?_) (fun K hK=> ?_)
 ·skip
  refine ne_ 17 (row (#[.pointer (some ⟨gs,0,none⟩),eS,i0,nP]) 178) (fun b=> .pointer (some ⟨b,0,none⟩)) ?_
  intro gc w3 HE0 hgc
  replace HE:=asd_ (At.sink 0 HE0);clear HE0
  have HEc:At w (.b gc (row (#[.pointer (some ⟨gs,0,none⟩),eS,i0,nP]) 178):: .b gl (row #[eS,eS,eS,eS,eS,eS,eS,eS] 9)::[]) w3:=HE.out
  refine hK.out _ _ ⟨HEc.drop.drop,(cel_ (blk_below hS HEc.drop.drop.b))⟩ (fun hHeld=> ?_)
  clear hK K
  refine nq_ 17 ?_
  exact nx_ (hJ1_5 (gl,gc,0,0) _ ⟨HE.out,hgl,hgc⟩)
 ·skip
  refine ge_ Tryz.func98 #[vv,.pointer (some ⟨gs,0,none⟩),.bool false] ?_
  with_reducible refine (HF.out _ HE.out.b).mono ?_
  rintro e w3 ⟨gu,rfl,hge,hgn,hb⟩
  refine ⟨_,rfl,?_⟩
  have HE0:=At.came HE.out hb hge hgn
  have hgu:w.heap.size≤gu:=Nat.le_trans HE.out.b.size hgn
  replace HE:=asd_ (At.sink 0 HE0);clear HE0
  have HEc:At w (.b gu (row #[nM,nM] 263):: .b gl (row #[eS,eS,eS,eS,eS,eS,eS,eS] 9)::[]) w3:=HE.out
  refine hK.out _ _ ⟨HEc.drop.drop,(cel_ (blk_below hS HEc.drop.drop.b))⟩ (fun hHeld=> ?_)
  clear hK K
  refine nq_ 20 ?_
  exact nx_ (hJ1_8 (gl,0,gu,0) _ ⟨HE.out,hgl,hgu⟩)
 ·skip
  refine ne_ 5 (row (#[.nilIface,nilS,nP,nP,nP,nilS,bF]) 182) (fun b=> .pointer (some ⟨b,0,none⟩)) ?_
  intro gv w3 HE0 hgv
  replace HE:=asd_ (At.sink 0 HE0);clear HE0
  have HEc:At w (.b gv (row (#[.nilIface,nilS,nP,nP,nP,nilS,bF]) 182):: .b gl (row #[eS,eS,eS,eS,eS,eS,eS,eS] 9)::[]) w3:=HE.out
  refine hK.out _ _ ⟨HEc.drop.drop,(cel_ (blk_below hS HEc.drop.drop.b))⟩ (fun hHeld=> ?_)
  clear hK K
  refine nq_ 5 ?_
  exact nx_ (hJ1_10 (gl,0,0,gv) _ ⟨HE.out,hgl,hgv⟩)
 rintro ⟨gl,gc,gu,gv⟩ w' ⟨HE0,hgu,hgv⟩
 have HE:=asd_ HE0
 clear HE0
 have Ggu:=asd_ hgu
 have Ggv:=asd_ hgv
 have hHeld:=(show At w [] w'∧(∀ j,w'.cell? ⟨gs,j,none⟩=(s.cells:Array Value)[j]?) from ⟨HE.out.drop.drop,(cel_ (blk_below hS HE.out.drop.drop.b))⟩)
 refine np_ ?_
 refine tw_ 1 5 13 17 1503 1533 (fun K hK=> ?_) (fun K hK=> ?_)
 ·skip
  refine new_ HE.out (by rfl) (N:=13) (by rfl) (ob:=row #[eS,eS,eS,eS,eS,eS,eS,eS] 9) (v:=fun b=> .slice (some ⟨b,0,none⟩) 0 8) (by exact mk8 _) ?_
  intro gl w3 HE0 hgl
  replace HE:=asd_ (At.sink 2 HE0);clear HE0
  have HEc:At w (.b gv (row (#[.nilIface,nilS,nP,nP,nP,nilS,bF]) 182):: .b gu (row #[nM,nM] 263):: .b gl (row #[eS,eS,eS,eS,eS,eS,eS,eS] 9)::[]) w3:=HE.out
  refine hK.out _ _ ⟨HEc.drop.drop.drop,(cel_ (blk_below hS HEc.drop.drop.drop.b))⟩ (fun hHeld=> ?_)
  clear hK K
  refine nq_ 13 ?_
  exact nx_ (hJ1_8_10 (gl,0,gu,gv) _ ⟨HE.out,hgl,hgu,hgv⟩)
 ·skip
  refine ne_ 17 (row (#[.pointer (some ⟨gs,0,none⟩),eS,i0,nP]) 178) (fun b=> .pointer (some ⟨b,0,none⟩)) ?_
  intro gc w3 HE0 hgc
  replace HE:=asd_ (At.sink 2 HE0);clear HE0
  have HEc:At w (.b gv (row (#[.nilIface,nilS,nP,nP,nP,nilS,bF]) 182):: .b gu (row #[nM,nM] 263):: .b gc (row (#[.pointer (some ⟨gs,0,none⟩),eS,i0,nP]) 178)::[]) w3:=HE.out
  refine hK.out _ _ ⟨HEc.drop.drop.drop,(cel_ (blk_below hS HEc.drop.drop.drop.b))⟩ (fun hHeld=> ?_)
  clear hK K
  refine nq_ 17 ?_
  exact nx_ (hJ5_8_10 (0,gc,gu,gv) _ ⟨HE.out,hgc,hgu,hgv⟩)
 rintro ⟨gl,gc,gu,gv⟩ w' ⟨HE0,hgc,hgv⟩
 have HE:=asd_ HE0
 clear HE0
 have Ggc:=asd_ hgc
 have Ggv:=asd_ hgv
 have hHeld:=(show At w [] w'∧(∀ j,w'.cell? ⟨gs,j,none⟩=(s.cells:Array Value)[j]?) from ⟨HE.out.drop.drop,(cel_ (blk_below hS HE.out.drop.drop.b))⟩)
 refine np_ ?_
 refine tw_ 1 8 13 20 1279 1533 (fun K hK=> ?_) (fun K hK=> ?_)
 ·skip
  refine new_ HE.out (by rfl) (N:=13) (by rfl) (ob:=row #[eS,eS,eS,eS,eS,eS,eS,eS] 9) (v:=fun b=> .slice (some ⟨b,0,none⟩) 0 8) (by exact mk8 _) ?_
  intro gl w3 HE0 hgl
  replace HE:=asd_ (At.sink 2 HE0);clear HE0
  have HEc:At w (.b gv (row (#[.nilIface,nilS,nP,nP,nP,nilS,bF]) 182):: .b gc (row (#[.pointer (some ⟨gs,0,none⟩),eS,i0,nP]) 178):: .b gl (row #[eS,eS,eS,eS,eS,eS,eS,eS] 9)::[]) w3:=HE.out
  refine hK.out _ _ ⟨HEc.drop.drop.drop,(cel_ (blk_below hS HEc.drop.drop.drop.b))⟩ (fun hHeld=> ?_)
  clear hK K
  refine nq_ 13 ?_
  exact nx_ (hJ1_5_10 (gl,gc,0,gv) _ ⟨HE.out,hgl,hgc,hgv⟩)
 ·skip
  refine ge_ Tryz.func98 #[vv,.pointer (some ⟨gs,0,none⟩),.bool false] ?_
  with_reducible refine (HF.out _ HE.out.b).mono ?_
  rintro e w3 ⟨gu,rfl,hge,hgn,hb⟩
  refine ⟨_,rfl,?_⟩
  have HE0:=At.came HE.out hb hge hgn
  have hgu:w.heap.size≤gu:=Nat.le_trans HE.out.b.size hgn
  replace HE:=asd_ (At.sink 1 HE0);clear HE0
  have HEc:At w (.b gv (row (#[.nilIface,nilS,nP,nP,nP,nilS,bF]) 182):: .b gu (row #[nM,nM] 263):: .b gc (row (#[.pointer (some ⟨gs,0,none⟩),eS,i0,nP]) 178)::[]) w3:=HE.out
  refine hK.out _ _ ⟨HEc.drop.drop.drop,(cel_ (blk_below hS HEc.drop.drop.drop.b))⟩ (fun hHeld=> ?_)
  clear hK K
  refine nq_ 20 ?_
  exact nx_ (hJ5_8_10 (0,gc,gu,gv) _ ⟨HE.out,hgc,hgu,hgv⟩)
 rintro ⟨gl,gc,gu,gv⟩ w' ⟨HE0,hgc,hgu⟩
 have HE:=asd_ HE0
 clear HE0
 have Ggc:=asd_ hgc
 have Ggu:=asd_ hgu
 have hHeld:=(show At w [] w'∧(∀ j,w'.cell? ⟨gs,j,none⟩=(s.cells:Array Value)[j]?) from ⟨HE.out.drop.drop,(cel_ (blk_below hS HE.out.drop.drop.b))⟩)
 refine np_ ?_
 refine tw_ 1 10 13 5 511 1533 (fun K hK=> ?_) (fun K hK=> ?_)
 ·skip
  refine new_ HE.out (by rfl) (N:=13) (by rfl) (ob:=row #[eS,eS,eS,eS,eS,eS,eS,eS] 9) (v:=fun b=> .slice (some ⟨b,0,none⟩) 0 8) (by exact mk8 _) ?_
  intro gl w3 HE0 hgl
  replace HE:=asd_ (At.sink 2 HE0);clear HE0
  have HEc:At w (.b gu (row #[nM,nM] 263):: .b gc (row (#[.pointer (some ⟨gs,0,none⟩),eS,i0,nP]) 178):: .b gl (row #[eS,eS,eS,eS,eS,eS,eS,eS] 9)::[]) w3:=HE.out
  refine hK.out _ _ ⟨HEc.drop.drop.drop,(cel_ (blk_below hS HEc.drop.drop.drop.b))⟩ (fun hHeld=> ?_)
  clear hK K
  refine nq_ 13 ?_
  refine pu_ 9 21 1023 ?_
  exact nx_ (hJ1_5_8 (gl,gc,gu,0) _ ⟨HE.out,hgl,hgc,hgu⟩)
 ·skip
  refine ne_ 5 (row (#[.nilIface,nilS,nP,nP,nP,nilS,bF]) 182) (fun b=> .pointer (some ⟨b,0,none⟩)) ?_
  intro gv w3 HE0 hgv
  replace HE:=asd_ (At.sink 0 HE0);clear HE0
  have HEc:At w (.b gv (row (#[.nilIface,nilS,nP,nP,nP,nilS,bF]) 182):: .b gu (row #[nM,nM] 263):: .b gc (row (#[.pointer (some ⟨gs,0,none⟩),eS,i0,nP]) 178)::[]) w3:=HE.out
  refine hK.out _ _ ⟨HEc.drop.drop.drop,(cel_ (blk_below hS HEc.drop.drop.drop.b))⟩ (fun hHeld=> ?_)
  clear hK K
  refine nq_ 5 ?_
  exact nx_ (hJ5_8_10 (0,gc,gu,gv) _ ⟨HE.out,hgc,hgu,hgv⟩)
 rintro ⟨gl,gc,gu,gv⟩ w' ⟨HE0,hgl,hgv⟩
 have HE:=asd_ HE0
 clear HE0
 have Ggl:=asd_ hgl
 have Ggv:=asd_ hgv
 have hHeld:=(show At w [] w'∧(∀ j,w'.cell? ⟨gs,j,none⟩=(s.cells:Array Value)[j]?) from ⟨HE.out.drop.drop,(cel_ (blk_below hS HE.out.drop.drop.b))⟩)
 refine np_ ?_
 refine tw_ 5 8 17 20 1279 1503 (fun K hK=> ?_) (fun K hK=> ?_)
 ·skip
  refine ne_ 17 (row (#[.pointer (some ⟨gs,0,none⟩),eS,i0,nP]) 178) (fun b=> .pointer (some ⟨b,0,none⟩)) ?_
  intro gc w3 HE0 hgc
  replace HE:=asd_ (At.sink 1 HE0);clear HE0
  have HEc:At w (.b gv (row (#[.nilIface,nilS,nP,nP,nP,nilS,bF]) 182):: .b gc (row (#[.pointer (some ⟨gs,0,none⟩),eS,i0,nP]) 178):: .b gl (row #[eS,eS,eS,eS,eS,eS,eS,eS] 9)::[]) w3:=HE.out
  refine hK.out _ _ ⟨HEc.drop.drop.drop,(cel_ (blk_below hS HEc.drop.drop.drop.b))⟩ (fun hHeld=> ?_)
  clear hK K
  refine nq_ 17 ?_
  exact nx_ (hJ1_5_10 (gl,gc,0,gv) _ ⟨HE.out,hgl,hgc,hgv⟩)
 ·skip
  refine ge_ Tryz.func98 #[vv,.pointer (some ⟨gs,0,none⟩),.bool false] ?_
  with_reducible refine (HF.out _ HE.out.b).mono ?_
  rintro e w3 ⟨gu,rfl,hge,hgn,hb⟩
  refine ⟨_,rfl,?_⟩
  have HE0:=At.came HE.out hb hge hgn
  have hgu:w.heap.size≤gu:=Nat.le_trans HE.out.b.size hgn
  replace HE:=asd_ (At.sink 1 HE0);clear HE0
  have HEc:At w (.b gv (row (#[.nilIface,nilS,nP,nP,nP,nilS,bF]) 182):: .b gu (row #[nM,nM] 263):: .b gl (row #[eS,eS,eS,eS,eS,eS,eS,eS] 9)::[]) w3:=HE.out
  refine hK.out _ _ ⟨HEc.drop.drop.drop,(cel_ (blk_below hS HEc.drop.drop.drop.b))⟩ (fun hHeld=> ?_)
  clear hK K
  refine nq_ 20 ?_
  exact nx_ (hJ1_8_10 (gl,0,gu,gv) _ ⟨HE.out,hgl,hgu,hgv⟩)
 rintro ⟨gl,gc,gu,gv⟩ w' ⟨HE0,hgl,hgu⟩
 have HE:=asd_ HE0
 clear HE0
 have Ggl:=asd_ hgl
 have Ggu:=asd_ hgu
 have hHeld:=(show At w [] w'∧(∀ j,w'.cell? ⟨gs,j,none⟩=(s.cells:Array Value)[j]?) from ⟨HE.out.drop.drop,(cel_ (blk_below hS HE.out.drop.drop.b))⟩)
 refine np_ ?_
 refine tw_ 5 10 17 5 511 1503 (fun K hK=> ?_) (fun K hK=> ?_)
 ·skip
  refine ne_ 17 (row (#[.pointer (some ⟨gs,0,none⟩),eS,i0,nP]) 178) (fun b=> .pointer (some ⟨b,0,none⟩)) ?_
  intro gc w3 HE0 hgc
  replace HE:=asd_ (At.sink 1 HE0);clear HE0
  have HEc:At w (.b gu (row #[nM,nM] 263):: .b gc (row (#[.pointer (some ⟨gs,0,none⟩),eS,i0,nP]) 178):: .b gl (row #[eS,eS,eS,eS,eS,eS,eS,eS] 9)::[]) w3:=HE.out
  refine hK.out _ _ ⟨HEc.drop.drop.drop,(cel_ (blk_below hS HEc.drop.drop.drop.b))⟩ (fun hHeld=> ?_)
  clear hK K
  refine nq_ 17 ?_
  refine pu_ 9 21 1023 ?_
  exact nx_ (hJ1_5_8 (gl,gc,gu,0) _ ⟨HE.out,hgl,hgc,hgu⟩)
 ·skip
  refine ne_ 5 (row (#[.nilIface,nilS,nP,nP,nP,nilS,bF]) 182) (fun b=> .pointer (some ⟨b,0,none⟩)) ?_
  intro gv w3 HE0 hgv
  replace HE:=asd_ (At.sink 0 HE0);clear HE0
  have HEc:At w (.b gv (row (#[.nilIface,nilS,nP,nP,nP,nilS,bF]) 182):: .b gu (row #[nM,nM] 263):: .b gl (row #[eS,eS,eS,eS,eS,eS,eS,eS] 9)::[]) w3:=HE.out
  refine hK.out _ _ ⟨HEc.drop.drop.drop,(cel_ (blk_below hS HEc.drop.drop.drop.b))⟩ (fun hHeld=> ?_)
  clear hK K
  refine nq_ 5 ?_
  exact nx_ (hJ1_8_10 (gl,0,gu,gv) _ ⟨HE.out,hgl,hgu,hgv⟩)
 rintro ⟨gl,gc,gu,gv⟩ w' ⟨HE0,hgl,hgc⟩
 have HE:=asd_ HE0
 clear HE0
 have Ggl:=asd_ hgl
 have Ggc:=asd_ hgc
 have hHeld:=(show At w [] w'∧(∀ j,w'.cell? ⟨gs,j,none⟩=(s.cells:Array Value)[j]?) from ⟨HE.out.drop.drop,(cel_ (blk_below hS HE.out.drop.drop.b))⟩)
 refine np_ ?_
 refine tw_ 8 10 20 5 511 1279 (fun K hK=> ?_) (fun K hK=> ?_)
 ·skip
  refine ge_ Tryz.func98 #[vv,.pointer (some ⟨gs,0,none⟩),.bool false] ?_
  with_reducible refine (HF.out _ HE.out.b).mono ?_
  rintro e w3 ⟨gu,rfl,hge,hgn,hb⟩
  refine ⟨_,rfl,?_⟩
  have HE0:=At.came HE.out hb hge hgn
  have hgu:w.heap.size≤gu:=Nat.le_trans HE.out.b.size hgn
  replace HE:=asd_ (At.sink 0 HE0);clear HE0
  have HEc:At w (.b gu (row #[nM,nM] 263):: .b gc (row (#[.pointer (some ⟨gs,0,none⟩),eS,i0,nP]) 178):: .b gl (row #[eS,eS,eS,eS,eS,eS,eS,eS] 9)::[]) w3:=HE.out
  refine hK.out _ _ ⟨HEc.drop.drop.drop,(cel_ (blk_below hS HEc.drop.drop.drop.b))⟩ (fun hHeld=> ?_)
  clear hK K
  refine nq_ 20 ?_
  refine pu_ 9 21 1023 ?_
  exact nx_ (hJ1_5_8 (gl,gc,gu,0) _ ⟨HE.out,hgl,hgc,hgu⟩)
 ·skip
  refine ne_ 5 (row (#[.nilIface,nilS,nP,nP,nP,nilS,bF]) 182) (fun b=> .pointer (some ⟨b,0,none⟩)) ?_
  intro gv w3 HE0 hgv
  replace HE:=asd_ (At.sink 0 HE0);clear HE0
  have HEc:At w (.b gv (row (#[.nilIface,nilS,nP,nP,nP,nilS,bF]) 182):: .b gc (row (#[.pointer (some ⟨gs,0,none⟩),eS,i0,nP]) 178):: .b gl (row #[eS,eS,eS,eS,eS,eS,eS,eS] 9)::[]) w3:=HE.out
  refine hK.out _ _ ⟨HEc.drop.drop.drop,(cel_ (blk_below hS HEc.drop.drop.drop.b))⟩ (fun hHeld=> ?_)
  clear hK K
  refine nq_ 5 ?_
  exact nx_ (hJ1_5_10 (gl,gc,0,gv) _ ⟨HE.out,hgl,hgc,hgv⟩)
 rintro ⟨gl,gc,gu,gv⟩ w' ⟨HE0,hgc,hgu,hgv⟩
 have HE:=asd_ HE0
 clear HE0
 have Ggc:=asd_ hgc
 have Ggu:=asd_ hgu
 have Ggv:=asd_ hgv
 have hHeld:=(show At w [] w'∧(∀ j,w'.cell? ⟨gs,j,none⟩=(s.cells:Array Value)[j]?) from ⟨HE.out.drop.drop.drop,(cel_ (blk_below hS HE.out.drop.drop.drop.b))⟩)
 refine np_ ?_
 refine on_ 1 13 1535 (fun K hK=> ?_)
 refine new_ HE.out (by rfl) (N:=13) (by rfl) (ob:=row #[eS,eS,eS,eS,eS,eS,eS,eS] 9) (v:=fun b=> .slice (some ⟨b,0,none⟩) 0 8) (by exact mk8 _) ?_
 intro gl w3 HE0 hgl
 replace HE:=asd_ (At.sink 3 HE0);clear HE0
 have HEc:At w (.b gv (row (#[.nilIface,nilS,nP,nP,nP,nilS,bF]) 182):: .b gu (row #[nM,nM] 263):: .b gc (row (#[.pointer (some ⟨gs,0,none⟩),eS,i0,nP]) 178):: .b gl (row #[eS,eS,eS,eS,eS,eS,eS,eS] 9)::[]) w3:=HE.out
 refine hK.out _ _ ⟨HEc.drop.drop.drop.drop,(cel_ (blk_below hS HEc.drop.drop.drop.drop.b))⟩ (fun hHeld=> ?_)
 clear hK K
 refine nq_ 13 ?_
 refine pu_ 9 21 2047 ?_
 exact nx_ (hJ1_5_8_10 (gl,gc,gu,gv) _ ⟨HE.out,hgl,hgc,hgu,hgv⟩)
 rintro ⟨gl,gc,gu,gv⟩ w' ⟨HE0,hgl,hgu,hgv⟩
 have HE:=asd_ HE0
 clear HE0
 have Ggl:=asd_ hgl
 have Ggu:=asd_ hgu
 have Ggv:=asd_ hgv
 have hHeld:=(show At w [] w'∧(∀ j,w'.cell? ⟨gs,j,none⟩=(s.cells:Array Value)[j]?) from ⟨HE.out.drop.drop.drop,(cel_ (blk_below hS HE.out.drop.drop.drop.b))⟩)
 refine np_ ?_
 refine on_ 5 17 1535 (fun K hK=> ?_)
 refine ne_ 17 (row (#[.pointer (some ⟨gs,0,none⟩),eS,i0,nP]) 178) (fun b=> .pointer (some ⟨b,0,none⟩)) ?_
 intro gc w3 HE0 hgc
 replace HE:=asd_ (At.sink 2 HE0);clear HE0
 have HEc:At w (.b gv (row (#[.nilIface,nilS,nP,nP,nP,nilS,bF]) 182):: .b gu (row #[nM,nM] 263):: .b gc (row (#[.pointer (some ⟨gs,0,none⟩),eS,i0,nP]) 178):: .b gl (row #[eS,eS,eS,eS,eS,eS,eS,eS] 9)::[]) w3:=HE.out
 refine hK.out _ _ ⟨HEc.drop.drop.drop.drop,(cel_ (blk_below hS HEc.drop.drop.drop.drop.b))⟩ (fun hHeld=> ?_)
 clear hK K
 refine nq_ 17 ?_
 refine pu_ 9 21 2047 ?_
 exact nx_ (hJ1_5_8_10 (gl,gc,gu,gv) _ ⟨HE.out,hgl,hgc,hgu,hgv⟩)
 rintro ⟨gl,gc,gu,gv⟩ w' ⟨HE0,hgl,hgc,hgv⟩
 have HE:=asd_ HE0
 clear HE0
 have Ggl:=asd_ hgl
 have Ggc:=asd_ hgc
 have Ggv:=asd_ hgv
 have hHeld:=(show At w [] w'∧(∀ j,w'.cell? ⟨gs,j,none⟩=(s.cells:Array Value)[j]?) from ⟨HE.out.drop.drop.drop,(cel_ (blk_below hS HE.out.drop.drop.drop.b))⟩)
 refine np_ ?_
 refine on_ 8 20 1535 (fun K hK=> ?_)
 refine ge_ Tryz.func98 #[vv,.pointer (some ⟨gs,0,none⟩),.bool false] ?_
 with_reducible refine (HF.out _ HE.out.b).mono ?_
 rintro e w3 ⟨gu,rfl,hge,hgn,hb⟩
 refine ⟨_,rfl,?_⟩
 have HE0:=At.came HE.out hb hge hgn
 have hgu:w.heap.size≤gu:=Nat.le_trans HE.out.b.size hgn
 replace HE:=asd_ (At.sink 1 HE0);clear HE0
 have HEc:At w (.b gv (row (#[.nilIface,nilS,nP,nP,nP,nilS,bF]) 182):: .b gu (row #[nM,nM] 263):: .b gc (row (#[.pointer (some ⟨gs,0,none⟩),eS,i0,nP]) 178):: .b gl (row #[eS,eS,eS,eS,eS,eS,eS,eS] 9)::[]) w3:=HE.out
 refine hK.out _ _ ⟨HEc.drop.drop.drop.drop,(cel_ (blk_below hS HEc.drop.drop.drop.drop.b))⟩ (fun hHeld=> ?_)
 clear hK K
 refine nq_ 20 ?_
 refine pu_ 9 21 2047 ?_
 exact nx_ (hJ1_5_8_10 (gl,gc,gu,gv) _ ⟨HE.out,hgl,hgc,hgu,hgv⟩)
 rintro ⟨gl,gc,gu,gv⟩ w' ⟨HE0,hgl,hgc,hgu⟩
 have HE:=asd_ HE0
 clear HE0
 have Ggl:=asd_ hgl
 have Ggc:=asd_ hgc
 have Ggu:=asd_ hgu
 have hHeld:=(show At w [] w'∧(∀ j,w'.cell? ⟨gs,j,none⟩=(s.cells:Array Value)[j]?) from ⟨HE.out.drop.drop.drop,(cel_ (blk_below hS HE.out.drop.drop.drop.b))⟩)
 refine np_ ?_
 refine on_ 10 5 2047 (fun K hK=> ?_)
 refine ne_ 5 (row (#[.nilIface,nilS,nP,nP,nP,nilS,bF]) 182) (fun b=> .pointer (some ⟨b,0,none⟩)) ?_
 intro gv w3 HE0 hgv
 replace HE:=asd_ (At.sink 0 HE0);clear HE0
 have HEc:At w (.b gv (row (#[.nilIface,nilS,nP,nP,nP,nilS,bF]) 182):: .b gu (row #[nM,nM] 263):: .b gc (row (#[.pointer (some ⟨gs,0,none⟩),eS,i0,nP]) 178):: .b gl (row #[eS,eS,eS,eS,eS,eS,eS,eS] 9)::[]) w3:=HE.out
 refine hK.out _ _ ⟨HEc.drop.drop.drop.drop,(cel_ (blk_below hS HEc.drop.drop.drop.drop.b))⟩ (fun hHeld=> ?_)
 clear hK K
 refine nq_ 5 ?_
 exact nx_ (hJ1_5_8_10 (gl,gc,gu,gv) _ ⟨HE.out,hgl,hgc,hgu,hgv⟩)
 rintro ⟨gl,gc,gu,gv⟩ w' ⟨HE0,hgl,hgc,hgu,hgv⟩
 have HE:=asd_ HE0
 clear HE0
 have Ggl:=asd_ hgl
 have Ggc:=asd_ hgc
 have Ggu:=asd_ hgu
 have Ggv:=asd_ hgv
 have hHeld:=(show At w [] w'∧(∀ j,w'.cell? ⟨gs,j,none⟩=(s.cells:Array Value)[j]?) from ⟨HE.out.drop.drop.drop.drop,(cel_ (blk_below hS HE.out.drop.drop.drop.drop.b))⟩)
 refine np_ ?_
 refine lz_ 11 4095 (fun K hK=> ?_)
 refine storerow_ (cs:=#[.nilIface,nilS,nP,nP,nP,nilS,bF]) (g:=gv) 0 (vdc vv ⟨gl,0,none⟩ (.pointer (some ⟨gs,0,none⟩)) (.pointer (some ⟨gc,0,none⟩)) (.pointer (some ⟨gu,0,none⟩)) nilS) HE.out rfl Ggv.out rfl (by rfl) rfl rfl rfl rfl kr_ rfl (one_vdc Hvv.out) ?_
 intro w3 HE0
 replace HE:=asd_ HE0;clear HE0
 refine hK.out _ _ ?_
 clear hK K
 refine done_ kr_ ?_
 clear HK;have HK:=HE;clear HE
 clear hHeld
 clear bgs
 replace Bc:=ce1_ HK 0
 have bgs:=cel_ (blk_below hS HK.out.b)
 rcases HV.out with ⟨hV1,hQ⟩|⟨tk,PY,hta,hV1,hQ⟩
 ·have HV1:=asd_ hV1;have HQ:=asd_ hQ;clear hV1 hQ
  go_wp2_with (first|((with_reducible refine gd_ 23 ?_);refine call_to #[.pointer (some ⟨gv,0,none⟩)] (.tuple #[.pointer (some ⟨gu,0,none⟩),.nilIface]) _ rfl Tryz.func99 kr_ rfl rfl ar_ (HV1.out _ _ gv gc ⟨gl,0,none⟩ (.pointer (some ⟨gu,0,none⟩)) (At.front 1 (At.front 2 HK.out rfl) rfl) Ggv.out) ?_;intro wc23 HK1;replace HK:=asd_ HK1;clear HK1;clear bgs;replace Bc:=ce1_ HK 0;have bgs:=cel_ (blk_below hS HK.out.b)))
  exact HQ.out _ _ ⟨rfl,HK.out.b⟩
 ·have HV1:=asd_ hV1;have HQ:=asd_ hQ;clear hV1 hQ
  go_wp2_with (first|((with_reducible refine gd_ 23 ?_);refine goesL_ _ rfl rfl Tryz.func99 kr_ rfl #[.pointer (some ⟨gv,0,none⟩)] rfl ar_ ((HV1.out _ _ gv gc ⟨gl,0,none⟩ (.pointer (some ⟨gu,0,none⟩)) (At.front 1 (At.front 2 HK.out rfl) rfl) Ggv.out).mono ?_);rintro e wc23 ⟨ge,gki,Ae,ce,Y,rfl,hY,HK1⟩;refine ⟨_,rfl,?_⟩;have HY:=asd_ hY;clear hY;replace HK:=asd_ HK1;clear HK1;clear bgs;replace Bc:=ce1_ HK 0;have bgs:=cel_ (blk_below hS HK.out.b))|((with_reducible refine gd_ 44 ?_);refine new_at at_ rfl (N:=44) rfl (ob:=row #[.pointer (some ⟨ge,0,none⟩)] 76) (v:=(fun b=> .slice (some ⟨b,0,none⟩) 1 1)) (by exact lit1_run Tryz.underlying127 info76 rfl rfl rfl rfl) ?_;intro gz wb44 HK1 hggz;have Ggz:=asd_ hggz;clear hggz;replace HK:=asd_ HK1;clear HK1;clear bgs;replace Bc:=ce1_ HK 1;have bgs:=cel_ (blk_below hS HK.out.b)))
  refine st_ 16 (fun w'=>At w (.b gz (row #[.pointer (some ⟨ge,0,none⟩)] 76):: .b ge (row (vec s.loc Ae ce (.iface tk (.pointer (some ⟨gki,0,none⟩))) nilS) 129)::Y) w'∧(∀ j,w'.cell? ⟨ge,j,none⟩=(vec s.loc Ae ce (.iface tk (.pointer (some ⟨gki,0,none⟩))) nilS:Array Value)[j]?)∧(∀ j,w'.cell? ⟨gs,j,none⟩=(s.cells:Array Value)[j]?)) [] (fun A=>⟨A,(cA_ A 1),(cel_ (blk_below hS A.b))⟩) (fun hHeld=> ?_)
  refine pu_ 0 45 1 ?_
  refine pu_ 1 46 3 ?_
  refine pu_ 2 47 7 ?_
  refine pu_ 4 49 23 ?_
  refine pu_ 5 50 55 ?_
  refine pu_ 6 51 119 ?_
  refine pu_ 11 56 2167 ?_
  refine ta3_ 3 48 2175 hHeld ?_
  refine ta3_ 7 52 2303 hHeld ?_
  refine pu_ 8 53 2559 ?_
  refine on_ 9 54 3071 (fun K hK=> ?_)
  have HE:=asd_ (hHeld.1)
  refine ne_ 54 (row #[.string s.loc] 189) ((fun b=> .pointer (some ⟨b,0,none⟩))) ?_
  intro gk2 w3 HE0 hggk2
  have Ggk2:=asd_ hggk2
  clear hggk2
  replace HE:=asd_ HE0;clear HE0
  refine hK.out _ _ ⟨HE.out.drop,(cel_ HE.out.drop.k.2.1),(cel_ (blk_below hS HE.out.drop.b))⟩ (fun hHeld=> ?_)
  clear hK K
  refine nq_ 54 ?_
  refine pu_ 10 55 4095 ?_
  refine pu_ 12 57 8191 ?_
  refine on_ 13 58 16383 (fun K hK=> ?_)
  refine ne_ 58 (row #[.string s.loc,nilS,.iface 187 (.pointer (some ⟨gk2,0,none⟩)),.slice (some ⟨gz,0,none⟩) 1 1] 129) ((fun b=> .pointer (some ⟨b,0,none⟩))) ?_
  intro gr w3 HE0 hggr
  have Ggr:=asd_ hggr
  clear hggr
  replace HE:=asd_ HE0;clear HE0
  refine hK.out _ _ ⟨HE.out.drop.drop,(cel_ HE.out.drop.drop.k.2.1),(cel_ (blk_below hS HE.out.drop.drop.b))⟩ (fun hHeld=> ?_)
  clear hK K
  refine nq_ 58 ?_
  refine pu_ 14 59 32767 ?_
  refine pu_ 15 4 65535 ?_
  refine done_ kr_ ?_
  clear HK;have HK:=HE;clear HE
  clear hHeld
  clear bgs
  replace Bc:=ce1_ HK 3
  have bgs:=cel_ (blk_below hS HK.out.b)
  go_wp2_with fail
  exact HQ.out _ _ ⟨gr,gk2,gz,ge,gki,Ae,ce,Y,rfl,HY.out,HK.out⟩
theorem sch_none (w:World) (gs:Nat) (vv:Value) (hvv:vv.oneCell'=true) (s:Sc) (hS:w.heap[gs]? =some (row s.cells 119)) (hF:∀ W,Below w.heap.size w W→Calls Tryz.prog 98 #[vv,.pointer (some ⟨gs,0,none⟩),.bool false] W fun e w'=>∃ gu,e= .returned (.pointer (some ⟨gu,0,none⟩))∧w'.heap[gu]? =some (row #[nM,nM] 263)∧W.heap.size≤gu∧Below W.heap.size W w') (hV:∀ W l gv gc ad up,At w (.b gv (row (vdc vv ad (.pointer (some ⟨gs,0,none⟩)) (.pointer (some ⟨gc,0,none⟩)) up nilS) 182):: .b gc (row (#[.pointer (some ⟨gs,0,none⟩),eS,i0,nP]) 178)::l) W→w.heap.size≤gv→Calls Tryz.prog 99 #[.pointer (some ⟨gv,0,none⟩)] W fun e w'=>e= .returned (.tuple #[up,.nilIface])∧At w (.b gv (row (vdc vv ad (.pointer (some ⟨gs,0,none⟩)) (.pointer (some ⟨gc,0,none⟩)) up nilS) 182):: .b gc (row (#[.pointer (some ⟨gs,0,none⟩),eS,i0,nP]) 178)::l) w'):
  Calls Tryz.prog 53 #[.pointer (some ⟨gs,0,none⟩),vv] w (rb .nilIface w):=
 sch_both w gs vv hvv s hS hF _ (Or.inl ⟨hV,fun _ _ h=>h⟩)
theorem sch_some (w:World) (gs:Nat) (vv:Value) (hvv:vv.oneCell'=true) (s:Sc) (hS:w.heap[gs]? =some (row s.cells 119)) (hF:∀ W,Below w.heap.size w W→Calls Tryz.prog 98 #[vv,.pointer (some ⟨gs,0,none⟩),.bool false] W fun e w'=>∃ gu,e= .returned (.pointer (some ⟨gu,0,none⟩))∧w'.heap[gu]? =some (row #[nM,nM] 263)∧W.heap.size≤gu∧Below W.heap.size W w') (tk:TypeId) (PY:Nat→List Blk→Prop) (hta:∀ (v:Value) (W:World),(Instr.typeAssert (.iface tk v) 126 185 true).run Tryz.prog W= .ok (.tuple #[.pointer none,.bool false]) W) (hV:∀ W l gv gc ad up,At w (.b gv (row (vdc vv ad (.pointer (some ⟨gs,0,none⟩)) (.pointer (some ⟨gc,0,none⟩)) up nilS) 182):: .b gc (row (#[.pointer (some ⟨gs,0,none⟩),eS,i0,nP]) 178)::l) W→w.heap.size≤gv→Calls Tryz.prog 99 #[.pointer (some ⟨gv,0,none⟩)] W fun e w'=>∃ ge gki Ae ce Y,e= .returned (.tuple #[nP,.iface 76 (.pointer (some ⟨ge,0,none⟩))])∧PY gki Y∧At w (.b ge (row (vec s.loc Ae ce (.iface tk (.pointer (some ⟨gki,0,none⟩))) nilS) 129)::Y) w'):
  Calls Tryz.prog 53 #[.pointer (some ⟨gs,0,none⟩),vv] w fun e w'=>∃ gr gk2 gz ge gki Ae ce Y,e= .returned (.iface 76 (.pointer (some ⟨gr,0,none⟩)))∧PY gki Y∧At w (.b gr (row #[.string s.loc,nilS,.iface 187 (.pointer (some ⟨gk2,0,none⟩)),.slice (some ⟨gz,0,none⟩) 1 1] 129):: .b gk2 (row #[.string s.loc] 189):: .b gz (row #[.pointer (some ⟨ge,0,none⟩)] 76):: .b ge (row (vec s.loc Ae ce (.iface tk (.pointer (some ⟨gki,0,none⟩))) nilS) 129)::Y) w':=
 sch_both w gs vv hvv s hS hF _ (Or.inr ⟨tk,PY,hta,hV,fun _ _ h=>h⟩)
end Go.Proofs.YtkphbhncpdcbeaaGreatDoor.J
namespace Go.Proofs.YtkphbhncpdcbeaaGreatDoor.J
open Go.RowKit YtkphbhncpdcbeaaGreatDoorW.PrintWords YtkphbhncpdcbeaaGreatDoorW.PrintLast YtkphbhncpdcbeaaGreatDoorW.PrintMore PJT
theorem val28_none {W:World} {gs:Nat} {v:Value} (h:Calls Tryz.prog 53 #[.pointer (some ⟨gs,0,none⟩),v] W (rb .nilIface W)):
  Calls Tryz.prog 28 #[.pointer (some ⟨gs,0,none⟩),v] W (rb .nilIface W):=by
 refine (validate_same W gs v (fun u w'=>u= .nilIface∧Below W.heap.size W w') (h.mono ?_)).mono ?_
 ·rintro e w' ⟨rfl,hb⟩
  exact ⟨_,rfl,rfl,hb⟩
 ·rintro e w' ⟨u,rfl,rfl,hb⟩
  exact ⟨rfl,hb⟩
section
variable (W0:World) (gs:Nat) (loc:ByteArray) (req props pats deps dreq dsch:Value) (hS:W0.heap[gs]? =some (row (Sc.cells ⟨2020,loc,nP,nP,nP,nP,req,props,pats,deps,dreq,dsch,.nilIface⟩) 119))
include hS
theorem quiet_kinds {x:S25} {v:Value} (hO:Out x v W0) (hk:x.f0≠5):Calls Tryz.prog 28 #[.pointer (some ⟨gs,0,none⟩),v] W0 (rb .nilIface W0):=by
 refine val28_none ?_
 cases hO with
 |null k e=>
  subst e
  exact sch_none W0 gs .nilIface rfl ⟨2020,loc,nP,nP,nP,nP,req,props,pats,deps,dreq,dsch,.nilIface⟩ hS (fun W hb=>from_null W gs ⟨2020,loc,nP,nP,nP,nP,req,props,pats,deps,dreq,dsch,.nilIface⟩ (blk_below hS hb)) (fun W l gv gc ad up H hgv=>val_null W W0 l gv gs gc ad up loc req props pats deps dreq dsch H hgv hS)
 |bool k e=>
  subst e
  exact sch_none W0 gs (.iface 4 _) rfl ⟨2020,loc,nP,nP,nP,nP,req,props,pats,deps,dreq,dsch,.nilIface⟩ hS (fun W hb=>from_bool W gs _ ⟨2020,loc,nP,nP,nP,nP,req,props,pats,deps,dreq,dsch,.nilIface⟩ (blk_below hS hb)) (fun W l gv gc ad up H hgv=>val_bool W W0 l gv gs gc _ ad up loc req props pats deps dreq dsch H hgv hS)
 |text k e=>
  subst e
  exact sch_none W0 gs (.iface 9 _) rfl ⟨2020,loc,nP,nP,nP,nP,req,props,pats,deps,dreq,dsch,.nilIface⟩ hS (fun W hb=>from_text W gs _ ⟨2020,loc,nP,nP,nP,nP,req,props,pats,deps,dreq,dsch,.nilIface⟩ (blk_below hS hb)) (fun W l gv gc ad up H hgv=>val_text W W0 l gv gs gc _ ad up loc req props pats deps dreq dsch H hgv hS)
 |array k A c e=>
  subst e
  exact sch_none W0 gs (.iface 117 _) rfl ⟨2020,loc,nP,nP,nP,nP,req,props,pats,deps,dreq,dsch,.nilIface⟩ hS (fun W hb=>from_array W gs _ _ _ ⟨2020,loc,nP,nP,nP,nP,req,props,pats,deps,dreq,dsch,.nilIface⟩ (blk_below hS hb)) (fun W l gv gc ad up H hgv=>val_array W W0 l gv gs gc _ _ _ ad up loc req props pats deps dreq dsch H hgv hS)
 |object k=>exact absurd k hk
theorem quiet_obj (g:Nat) (hO:∀ W l gv ad cp up,At W0 (.b gv (row (vdc (.iface 113 (.map (some g))) ad (.pointer (some ⟨gs,0,none⟩)) cp up nilS) 182)::l) W→W0.heap.size≤gv→Calls Tryz.prog 147 #[.pointer (some ⟨gv,0,none⟩),.map (some g)] W fun e w'=>e= .returned (.tuple #[])∧At W0 (.b gv (row (vdc (.iface 113 (.map (some g))) ad (.pointer (some ⟨gs,0,none⟩)) cp up nilS) 182)::l) w'):
  Calls Tryz.prog 28 #[.pointer (some ⟨gs,0,none⟩),.iface 113 (.map (some g))] W0 (rb .nilIface W0):=
 val28_none (sch_none W0 gs (.iface 113 _) rfl ⟨2020,loc,nP,nP,nP,nP,req,props,pats,deps,dreq,dsch,.nilIface⟩ hS (fun W hb=>from_object W gs _ ⟨2020,loc,nP,nP,nP,nP,req,props,pats,deps,dreq,dsch,.nilIface⟩ (blk_below hS hb)) (fun W l gv gc ad up H hgv=>val_object W W0 l gv gs gc g ad up loc req props pats deps dreq dsch H hgv hS (fun W l H=>hO W l gv ad _ up H hgv)))
def Left (loc:ByteArray) (tk:TypeId) (PK:Nat→World→Prop) (gr:Nat) (W:World):Prop:=
 ∃ gk2 adc ge gki Ae ce,W.heap[gr]? =some (row #[.string loc,nilS,.iface 187 (.pointer (some ⟨gk2,0,none⟩)),.slice (some adc) 1 1] 129)∧W.cell? adc=some (.pointer (some ⟨ge,0,none⟩))∧W.heap[ge]? =some (row (vec loc Ae ce (.iface tk (.pointer (some ⟨gki,0,none⟩))) nilS) 129)∧PK gki W
omit hS in
theorem left_of {w w':World} {loc:ByteArray} {tk:TypeId} {PK:Nat→World→Prop} {gr gk2 gz ge gki:Nat} {Ae:Option Addr} {ce:Nat} {Y:List Blk} (hP:Keeps Y w'→PK gki w')
  (H:At w (.b gr (row #[.string loc,nilS,.iface 187 (.pointer (some ⟨gk2,0,none⟩)),.slice (some ⟨gz,0,none⟩) 1 1] 129):: .b gk2 (row #[.string loc] 189):: .b gz (row #[.pointer (some ⟨ge,0,none⟩)] 76):: .b ge (row (vec loc Ae ce (.iface tk (.pointer (some ⟨gki,0,none⟩))) nilS) 129)::Y) w'):Left loc tk PK gr w':=
 ⟨gk2,⟨gz,0,none⟩,ge,gki,Ae,ce,H.k.1,blk_cell H.k.2.2.1 0,H.k.2.2.2.1,hP H.k.2.2.2.2⟩
end
end Go.Proofs.YtkphbhncpdcbeaaGreatDoor.J
namespace Go.Proofs.YtkphbhncpdcbeaaGreatDoor.J
open Go.RowKit YtkphbhncpdcbeaaGreatDoorW.PrintWords YtkphbhncpdcbeaaGreatDoorW.PrintLast YtkphbhncpdcbeaaGreatDoorW.PrintMore PJT
theorem small_1 (w:World):Calls Tryz.prog 169 #[.int .i64 1] w (rb (.string ⟨#[49]⟩) w):=by
 have HK:=st0_ w
 go_enter Tryz.func169,Tryz.ntmps169
 go_wp2_with fail
 go_ret
 exact ⟨by kernel_rfl,be_⟩
theorem format_1 (w:World):Calls Tryz.prog 135 #[.int .i64 1,.int .i64 10] w (rb (.string ⟨#[49]⟩) w):=by
 have HK:=st0_ w
 go_enter Tryz.func135,Tryz.ntmps135
 go_wp2_with (first|((with_reducible refine gd_ 19 ?_);refine cl_ #[.int .i64 1] (.string ⟨#[49]⟩) Tryz.func169 (small_1 _) ?_;intro wc19 HK1;replace HK:=asd_ HK1;clear HK1;skip))
 go_ret
 exact ⟨rfl,be_⟩
theorem itoa_in (w:World):Calls Tryz.prog 97 #[.int .i64 1] w (rb (.string ⟨#[49]⟩) w):=by
 have HK:=st0_ w
 go_enter Tryz.func97,Tryz.ntmps97
 go_wp2_with (first|((with_reducible refine gd_ 4 ?_);refine cl_ #[.int .i64 1,.int .i64 10] (.string ⟨#[49]⟩) Tryz.func135 (format_1 _) ?_;intro wc4 HK1;replace HK:=asd_ HK1;clear HK1;skip))
 go_ret
 exact ⟨rfl,be_⟩
theorem itoa_one (w:World):Calls Tryz.prog 50 #[.int .i64 1] w (rb (.string ⟨#[49]⟩) w):=by
 have HK:=st0_ w
 go_enter Tryz.func50,Tryz.ntmps50
 go_wp2_with (first|((with_reducible refine gd_ 4 ?_);refine cl_ #[.int .i64 1] (.string ⟨#[49]⟩) Tryz.func97 (itoa_in _) ?_;intro wc4 HK1;replace HK:=asd_ HK1;clear HK1;skip))
 go_ret
 exact ⟨rfl,be_⟩
theorem at_one (w:World) (ad:Addr) (c:Nat) (p:Option Addr) (hp:w.cell? ad=some (.pointer p)):Calls Tryz.prog 52 #[.slice (some ad) 1 c,.int .i64 1,i0] w (rb (.pointer p) w):=by
 have HK:=st0_ w
 go_enter Tryz.func52,Tryz.ntmps52
 go_wp2_with fail
 go_ret
 exact ⟨rfl,be_⟩
theorem itoa_w (w:World):Calls Tryz.prog 50 #[.int .i64 (wrap64 (0 + 1))] w (rb (.string ⟨#[49]⟩) w):=by
 have e:wrap64 (0 + 1)=1:=by unfold wrap64;omega
 rw [e]
 exact itoa_one w
theorem older_none (w w0:World) (l:List Blk) (gs:Nat) (lv:Value) (own:Int) (n:Nd) (s:Sc) (H:At w0 (.b gs (row (Sc.cells ⟨s.draft,s.loc,s.bool,s.enum,s.const,s.format,s.req,s.props,s.pats,s.deps,s.dreq,s.dsch,s.pat⟩) 119)::l) w) (hgs:w0.heap.size≤gs):
  Calls Tryz.prog 96 #[lv,.pointer (some ⟨gs,0,none⟩),.agg n.cells,.int .i64 own] w fun e w'=>e= .returned (.tuple #[])∧∃ gm,w0.heap.size≤gm∧At w0 (.b gm (.map #[] 0):: .b gs (row (Sc.cells ⟨s.draft,s.loc,s.bool,s.enum,s.const,s.format,s.req,s.props,s.pats,(.map (some gm)),s.dreq,s.dsch,s.pat⟩) 119)::l) w':=by
 have hmm:= @run_makeMap Tryz.prog
 have Ggs:=asd_ hgs
 have HK:=asd_ H
 clear H
 replace Bc:=ce1_ HK 0;replace Bf:=fe1_ HK 0
 go_enter Tryz.func96,Tryz.ntmps96
 go_wp2_with (first|refine wp_loop_once ?_|((with_reducible refine gd_ 6 ?_);refine bx_ n.cells 45 ?_;clear HK;intro g6 wb6 HK Gg6;replace Bc:=ce2_ HK 1 0;replace Bf:=fe1_ HK 1)|((with_reducible refine gd_ 41 ?_);refine nw_ (.map #[] 0) (fun b=> .map (some b)) ?_;clear HK;intro gm wb41 HK Ggm;replace Bc:=ce2_ HK 2 1;replace Bf:=fe1_ HK 2)|((first|((with_reducible refine gd_ 15 ?_);refine cl_ #[lv,i0,i0] (nP) Tryz.func52 (at_zero _ _ _ (Int.le_refl 0)) ?_)|((with_reducible refine gd_ 37 ?_);refine cl_ #[lv,.agg #[i0,i0]] (.nilIface) Tryz.func95 (lmore_none _ _) ?_)|((with_reducible refine gate_ (.store 20 (.tmp 39) (.tmp 37)) rfl ?_);refine store_at (t:=20) (p:=39) (g:=gs) (i:=38) (v:= .nilIface) 1 (Sc.cells ⟨s.draft,s.loc,s.bool,s.enum,s.const,s.format,s.req,s.props,s.pats,s.deps,s.dreq,s.dsch,s.pat⟩) rfl at_ rfl Ggs.out rfl rfl rfl rfl gs_ ?_));intro wc15 HK1;replace HK:=asd_ HK1;clear HK1;replace Bc:=ce2_ HK 1 0;replace Bf:=fe1_ HK 1)|((with_reducible refine gate_ (.store 113 (.tmp 43) (.tmp 41)) rfl ?_);refine store_at (t:=113) (p:=43) (g:=gs) (i:=27) (v:= .map (some gm)) 2 (Sc.cells ⟨s.draft,s.loc,s.bool,s.enum,s.const,s.format,s.req,s.props,s.pats,(.map (some gm)),s.dreq,s.dsch,s.pat⟩) rfl at_ rfl Ggs.out rfl rfl rfl rfl gs_ ?_;intro ws2 HK1;replace HK:=asd_ HK1;clear HK1;replace Bc:=ce2_ HK 2 1;replace Bf:=fe1_ HK 2))
 go_end0
 exact ⟨rfl,gm,Ggm.out,At.sub HK.out (.cons_cons _ (.cons _ (List.Sublist.refl _)))⟩
end Go.Proofs.YtkphbhncpdcbeaaGreatDoor.J
