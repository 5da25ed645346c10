/- Part of a proof. -/
import Derived.Test.YtkphbhncpdcbeaaGreatDoorQE
import Derived.Test.YtkphbhncpdcbeaaGreatDoorQH
namespace Go.Proofs.YtkphbhncpdcbeaaGreatDoor.J
open Go.Proofs.YtkphbhncpdcbeaaGreatDoorW Go.RowKit Go.Proofs.YtkphbhncpdcbeaaGreatDoorW.PrintWords Go.Proofs.YtkphbhncpdcbeaaGreatDoorW.PrintLast Go.Proofs.YtkphbhncpdcbeaaGreatDoorW.PrintMore Go.Proofs.YtkphbhncpdcbeaaGreatDoor.PJT
attribute [local go_sem] Nd.csize Sc.csize Nd.c0 Nd.c1 Nd.c2 Nd.c3 Nd.c4 Nd.c5 Nd.c6 Nd.c7 Nd.c8 Nd.c9 Nd.c10 Nd.c11 Nd.c12 Nd.c13 Nd.c14 Nd.c15 Nd.c16 Nd.c17 Nd.c18 Nd.c19 Nd.c20 Nd.c21 Nd.c22 Nd.c23 Nd.c24 Nd.c25 Nd.c26 Nd.c27 Nd.c28 Nd.c29 Nd.c30 Nd.c31 Nd.c32 Nd.c33 Nd.c34 Nd.c35 Nd.c36 Nd.c37 Nd.c38 Nd.c39 Nd.c40 Nd.c41 Nd.c42 Nd.c43 Nd.c44 Nd.c45 Nd.c46 Nd.c47 Nd.c48 Nd.c49 Nd.c50 Nd.c51 Nd.c52 Sc.c0 Sc.c1 Sc.c2 Sc.c3 Sc.c4 Sc.c5 Sc.c6 Sc.c7 Sc.c8 Sc.c9 Sc.c10 Sc.c11 Sc.c12 Sc.c13 Sc.c14 Sc.c15 Sc.c16 Sc.c17 Sc.c18 Sc.c19 Sc.c20 Sc.c21 Sc.c22 Sc.c23 Sc.c24 Sc.c25 Sc.c26 Sc.c27 Sc.c28 Sc.c29 Sc.c30 Sc.c31 Sc.c32 Sc.c33 Sc.c34 Sc.c35 Sc.c36 Sc.c37 Sc.c38 Sc.c39 Sc.c40 Sc.c41 Sc.c42 Sc.c43 Sc.c44 Sc.c45 Sc.c46 Sc.c47 Sc.c48 Sc.c49 Sc.c50 Sc.c51 Sc.c52
set_option linter.unusedVariables false
set_option linter.unusedSimpArgs false
theorem mk8 {o : Oper} {a : Act} (W : World) (ho : o.op = .makeSlice 22 (.const (.int .i64 0)) (.const (.int .i64 8)) := by rfl) : (execOp a.eval o).run Tryz.prog W = .ok (.value (.slice (some ⟨W.heap.size, 0, none⟩) 0 8)) (W.alloc (.cells #[eS, eS, eS, eS, eS, eS, eS, eS] 9)) := by
 have h : (Instr.makeSlice 22 (.int .i64 0) (.int .i64 8)).run Tryz.prog W = .ok (.slice (some ⟨W.heap.size, 0, none⟩) 0 8) (W.alloc (.cells #[eS, eS, eS, eS, eS, eS, eS, eS] 9)) := by kernel_rfl
 unfold execOp
 simp [ho, Act.eval, h, Result.andThen]
def ins : Nat → Blk → List Blk → List Blk
 | 0, b, l => b :: l
 | _ + 1, b, [] => [b]
 | k + 1, b, c :: l => c :: ins k b l
theorem ins_perm (b : Blk) : ∀ (k : Nat) (l : List Blk), (b :: l).Perm (ins k b l)
 | 0, l => List.Perm.refl _
 | _ + 1, [] => List.Perm.refl _
 | k + 1, c :: l => (List.Perm.swap c b l).trans ((ins_perm b k l).cons c)
theorem At.sink {w W : World} {b : Blk} {l : List Blk} (k : Nat) (h : At w (b :: l) W) : At w (ins k b l) W := h.perm (ins_perm b k l)
end Go.Proofs.YtkphbhncpdcbeaaGreatDoor.J
namespace Go.Proofs.YtkphbhncpdcbeaaGreatDoor.J
open Go.Proofs.YtkphbhncpdcbeaaGreatDoorW Go.RowKit Go.Proofs.YtkphbhncpdcbeaaGreatDoorW.PrintWords Go.Proofs.YtkphbhncpdcbeaaGreatDoorW.PrintLast Go.Proofs.YtkphbhncpdcbeaaGreatDoorW.PrintMore Go.Proofs.YtkphbhncpdcbeaaGreatDoor.PJT
attribute [local go_sem] Nd.csize Sc.csize Nd.c0 Nd.c1 Nd.c2 Nd.c3 Nd.c4 Nd.c5 Nd.c6 Nd.c7 Nd.c8 Nd.c9 Nd.c10 Nd.c11 Nd.c12 Nd.c13 Nd.c14 Nd.c15 Nd.c16 Nd.c17 Nd.c18 Nd.c19 Nd.c20 Nd.c21 Nd.c22 Nd.c23 Nd.c24 Nd.c25 Nd.c26 Nd.c27 Nd.c28 Nd.c29 Nd.c30 Nd.c31 Nd.c32 Nd.c33 Nd.c34 Nd.c35 Nd.c36 Nd.c37 Nd.c38 Nd.c39 Nd.c40 Nd.c41 Nd.c42 Nd.c43 Nd.c44 Nd.c45 Nd.c46 Nd.c47 Nd.c48 Nd.c49 Nd.c50 Nd.c51 Nd.c52 Sc.c0 Sc.c1 Sc.c2 Sc.c3 Sc.c4 Sc.c5 Sc.c6 Sc.c7 Sc.c8 Sc.c9 Sc.c10 Sc.c11 Sc.c12 Sc.c13 Sc.c14 Sc.c15 Sc.c16 Sc.c17 Sc.c18 Sc.c19 Sc.c20 Sc.c21 Sc.c22 Sc.c23 Sc.c24 Sc.c25 Sc.c26 Sc.c27 Sc.c28 Sc.c29 Sc.c30 Sc.c31 Sc.c32 Sc.c33 Sc.c34 Sc.c35 Sc.c36 Sc.c37 Sc.c38 Sc.c39 Sc.c40 Sc.c41 Sc.c42 Sc.c43 Sc.c44 Sc.c45 Sc.c46 Sc.c47 Sc.c48 Sc.c49 Sc.c50 Sc.c51 Sc.c52
set_option linter.unusedVariables false
set_option linter.unusedSimpArgs false
attribute [local go_sem] tv_76
theorem one_vdc {v : Value} {ad : Addr} {a b c d : Value} (h : v.oneCell' = true) (ha : a.oneCell' = true := by rfl) (hb : b.oneCell' = true := by rfl) (hc : c.oneCell' = true := by rfl) (hd : d.oneCell' = true := by rfl) : (vdc v ad a b c d).all (·.oneCell') = true := by
 simp [vdc, h, ha, hb, hc, hd]
 exact ⟨rfl, rfl⟩
set_option maxHeartbeats 4000000 in
set_option maxRecDepth 100000 in
theorem sch_none (w : World) (gs : Nat) (vv : Value) (hvv : vv.oneCell' = true) (s : Sc) (hS : w.heap[gs]? = some (row s.cells 119)) (hF : ∀ W, Below w.heap.size w W → Calls Tryz.prog 98 #[vv, .pointer (some ⟨gs, 0, none⟩), .bool false] W fun e w' => ∃ gu, e = .returned (.pointer (some ⟨gu, 0, none⟩)) ∧ w'.heap[gu]? = some (row #[nM, nM] 263) ∧ W.heap.size ≤ gu ∧ Below W.heap.size W w') (hV : ∀ W l gv gc ad up, At w (.b gv (row (vdc vv ad (.pointer (some ⟨gs, 0, none⟩)) (.pointer (some ⟨gc, 0, none⟩)) up nilS) 182) :: .b gc (row (#[.pointer (some ⟨gs, 0, none⟩), eS, i0, nP]) 178) :: l) W → w.heap.size ≤ gv → Calls Tryz.prog 99 #[.pointer (some ⟨gv, 0, none⟩)] W fun e w' => e = .returned (.tuple #[up, .nilIface]) ∧ At w (.b gv (row (vdc vv ad (.pointer (some ⟨gs, 0, none⟩)) (.pointer (some ⟨gc, 0, none⟩)) up nilS) 182) :: .b gc (row (#[.pointer (some ⟨gs, 0, none⟩), eS, i0, nP]) 178) :: l) w') :
  Calls Tryz.prog 53 #[.pointer (some ⟨gs, 0, none⟩), vv] w fun e w' => e = .returned .nilIface ∧ Below w.heap.size w w' := by
 have Hvv := asd_ hvv; have hm := cells_one hvv; unfold Value.cells at hm; clear hvv
 have HF := asd_ hF
 have HV := asd_ hV
 clear hF hV
 have HK : Aside0 (At w [] w) := asd_ (At.start w)
 have bgs := cel_ (blk_below hS HK.out.b)
 go_enter Tryz.func53, Tryz.ntmps53
 go_wp2_with fail
 refine st_ 12 (fun w' => At w [] w' ∧ (∀ j, w'.cell? ⟨gs, j, none⟩ = (s.cells : Array Value)[j]?)) [11] (fun A => ⟨A, (cel_ (blk_below hS A.b))⟩) (fun hHeld => ?_)
 refine pu_ 0 12 1 ?_
 refine pu_ 2 14 5 ?_
 refine pu_ 3 15 13 ?_
 refine pu_ 4 16 29 ?_
 refine pu_ 6 18 93 ?_
 refine pu_ 7 19 221 ?_
 refine jo_ (σ := Nat × Nat × Nat × Nat) 1 2047 (fun s => [(13, .slice (some ⟨s.1, 0, none⟩) 0 8), (17, .pointer (some ⟨s.2.1, 0, none⟩)), (20, .pointer (some ⟨s.2.2.1, 0, none⟩)), (5, .pointer (some ⟨s.2.2.2, 0, none⟩)), (21, .agg #[vv, .slice (some ⟨s.1, 0, none⟩) 0 8, .pointer (some ⟨gs, 0, none⟩), .pointer (some ⟨s.2.1, 0, none⟩), .pointer (some ⟨s.2.2.1, 0, none⟩), nilS, bF])]) (fun s w' => At w (.b s.2.2.2 (row (#[.nilIface, nilS, nP, nP, nP, nilS, bF]) 182) :: .b s.2.2.1 (row #[nM, nM] 263) :: .b s.2.1 (row (#[.pointer (some ⟨gs, 0, none⟩), eS, i0, nP]) 178) :: .b s.1 (row #[eS, eS, eS, eS, eS, eS, eS, eS] 9) :: []) w' ∧ w.heap.size ≤ s.1 ∧ w.heap.size ≤ s.2.1 ∧ w.heap.size ≤ s.2.2.1 ∧ w.heap.size ≤ s.2.2.2) (fun hJ1_5_8_10 => ?_) ?_
 refine jo_ (σ := Nat × Nat × Nat × Nat) 2 1023 (fun s => [(13, .slice (some ⟨s.1, 0, none⟩) 0 8), (17, .pointer (some ⟨s.2.1, 0, none⟩)), (20, .pointer (some ⟨s.2.2.1, 0, none⟩)), (21, .agg #[vv, .slice (some ⟨s.1, 0, none⟩) 0 8, .pointer (some ⟨gs, 0, none⟩), .pointer (some ⟨s.2.1, 0, none⟩), .pointer (some ⟨s.2.2.1, 0, none⟩), nilS, bF])]) (fun s w' => At w (.b s.2.2.1 (row #[nM, nM] 263) :: .b s.2.1 (row (#[.pointer (some ⟨gs, 0, none⟩), eS, i0, nP]) 178) :: .b s.1 (row #[eS, eS, eS, eS, eS, eS, eS, eS] 9) :: []) w' ∧ w.heap.size ≤ s.1 ∧ w.heap.size ≤ s.2.1 ∧ w.heap.size ≤ s.2.2.1) (fun hJ1_5_8 => ?_) ?_
 refine jo_ (σ := Nat × Nat × Nat × Nat) 3 1279 (fun s => [(13, .slice (some ⟨s.1, 0, none⟩) 0 8), (17, .pointer (some ⟨s.2.1, 0, none⟩)), (5, .pointer (some ⟨s.2.2.2, 0, none⟩))]) (fun s w' => At w (.b s.2.2.2 (row (#[.nilIface, nilS, nP, nP, nP, nilS, bF]) 182) :: .b s.2.1 (row (#[.pointer (some ⟨gs, 0, none⟩), eS, i0, nP]) 178) :: .b s.1 (row #[eS, eS, eS, eS, eS, eS, eS, eS] 9) :: []) w' ∧ w.heap.size ≤ s.1 ∧ w.heap.size ≤ s.2.1 ∧ w.heap.size ≤ s.2.2.2) (fun hJ1_5_10 => ?_) ?_
 refine jo_ (σ := Nat × Nat × Nat × Nat) 3 1503 (fun s => [(13, .slice (some ⟨s.1, 0, none⟩) 0 8), (20, .pointer (some ⟨s.2.2.1, 0, none⟩)), (5, .pointer (some ⟨s.2.2.2, 0, none⟩))]) (fun s w' => At w (.b s.2.2.2 (row (#[.nilIface, nilS, nP, nP, nP, nilS, bF]) 182) :: .b s.2.2.1 (row #[nM, nM] 263) :: .b s.1 (row #[eS, eS, eS, eS, eS, eS, eS, eS] 9) :: []) w' ∧ w.heap.size ≤ s.1 ∧ w.heap.size ≤ s.2.2.1 ∧ w.heap.size ≤ s.2.2.2) (fun hJ1_8_10 => ?_) ?_
 refine jo_ (σ := Nat × Nat × Nat × Nat) 3 1533 (fun s => [(17, .pointer (some ⟨s.2.1, 0, none⟩)), (20, .pointer (some ⟨s.2.2.1, 0, none⟩)), (5, .pointer (some ⟨s.2.2.2, 0, none⟩))]) (fun s w' => At w (.b s.2.2.2 (row (#[.nilIface, nilS, nP, nP, nP, nilS, bF]) 182) :: .b s.2.2.1 (row #[nM, nM] 263) :: .b s.2.1 (row (#[.pointer (some ⟨gs, 0, none⟩), eS, i0, nP]) 178) :: []) w' ∧ w.heap.size ≤ s.2.1 ∧ w.heap.size ≤ s.2.2.1 ∧ w.heap.size ≤ s.2.2.2) (fun hJ5_8_10 => ?_) ?_
 refine jo_ (σ := Nat × Nat × Nat × Nat) 4 255 (fun s => [(13, .slice (some ⟨s.1, 0, none⟩) 0 8), (17, .pointer (some ⟨s.2.1, 0, none⟩))]) (fun s w' => At w (.b s.2.1 (row (#[.pointer (some ⟨gs, 0, none⟩), eS, i0, nP]) 178) :: .b s.1 (row #[eS, eS, eS, eS, eS, eS, eS, eS] 9) :: []) w' ∧ w.heap.size ≤ s.1 ∧ w.heap.size ≤ s.2.1) (fun hJ1_5 => ?_) ?_
 refine jo_ (σ := Nat × Nat × Nat × Nat) 4 479 (fun s => [(13, .slice (some ⟨s.1, 0, none⟩) 0 8), (20, .pointer (some ⟨s.2.2.1, 0, none⟩))]) (fun s w' => At w (.b s.2.2.1 (row #[nM, nM] 263) :: .b s.1 (row #[eS, eS, eS, eS, eS, eS, eS, eS] 9) :: []) w' ∧ w.heap.size ≤ s.1 ∧ w.heap.size ≤ s.2.2.1) (fun hJ1_8 => ?_) ?_
 refine jo_ (σ := Nat × Nat × Nat × Nat) 4 1247 (fun s => [(13, .slice (some ⟨s.1, 0, none⟩) 0 8), (5, .pointer (some ⟨s.2.2.2, 0, none⟩))]) (fun s w' => At w (.b s.2.2.2 (row (#[.nilIface, nilS, nP, nP, nP, nilS, bF]) 182) :: .b s.1 (row #[eS, eS, eS, eS, eS, eS, eS, eS] 9) :: []) w' ∧ w.heap.size ≤ s.1 ∧ w.heap.size ≤ s.2.2.2) (fun hJ1_10 => ?_) ?_
 refine jo_ (σ := Nat × Nat × Nat × Nat) 4 509 (fun s => [(17, .pointer (some ⟨s.2.1, 0, none⟩)), (20, .pointer (some ⟨s.2.2.1, 0, none⟩))]) (fun s w' => At w (.b s.2.2.1 (row #[nM, nM] 263) :: .b s.2.1 (row (#[.pointer (some ⟨gs, 0, none⟩), eS, i0, nP]) 178) :: []) w' ∧ w.heap.size ≤ s.2.1 ∧ w.heap.size ≤ s.2.2.1) (fun hJ5_8 => ?_) ?_
 refine jo_ (σ := Nat × Nat × Nat × Nat) 4 1277 (fun s => [(17, .pointer (some ⟨s.2.1, 0, none⟩)), (5, .pointer (some ⟨s.2.2.2, 0, none⟩))]) (fun s w' => At w (.b s.2.2.2 (row (#[.nilIface, nilS, nP, nP, nP, nilS, bF]) 182) :: .b s.2.1 (row (#[.pointer (some ⟨gs, 0, none⟩), eS, i0, nP]) 178) :: []) w' ∧ w.heap.size ≤ s.2.1 ∧ w.heap.size ≤ s.2.2.2) (fun hJ5_10 => ?_) ?_
 refine jo_ (σ := Nat × Nat × Nat × Nat) 4 1501 (fun s => [(20, .pointer (some ⟨s.2.2.1, 0, none⟩)), (5, .pointer (some ⟨s.2.2.2, 0, none⟩))]) (fun s w' => At w (.b s.2.2.2 (row (#[.nilIface, nilS, nP, nP, nP, nilS, bF]) 182) :: .b s.2.2.1 (row #[nM, nM] 263) :: []) w' ∧ w.heap.size ≤ s.2.2.1 ∧ w.heap.size ≤ s.2.2.2) (fun hJ8_10 => ?_) ?_
 refine jo_ (σ := Nat × Nat × Nat × Nat) 5 223 (fun s => [(13, .slice (some ⟨s.1, 0, none⟩) 0 8)]) (fun s w' => At w (.b s.1 (row #[eS, eS, eS, eS, eS, eS, eS, eS] 9) :: []) w' ∧ w.heap.size ≤ s.1) (fun hJ1 => ?_) ?_
 refine jo_ (σ := Nat × Nat × Nat × Nat) 5 253 (fun s => [(17, .pointer (some ⟨s.2.1, 0, none⟩))]) (fun s w' => At w (.b s.2.1 (row (#[.pointer (some ⟨gs, 0, none⟩), eS, i0, nP]) 178) :: []) w' ∧ w.heap.size ≤ s.2.1) (fun hJ5 => ?_) ?_
 refine jo_ (σ := Nat × Nat × Nat × Nat) 5 477 (fun s => [(20, .pointer (some ⟨s.2.2.1, 0, none⟩))]) (fun s w' => At w (.b s.2.2.1 (row #[nM, nM] 263) :: []) w' ∧ w.heap.size ≤ s.2.2.1) (fun hJ8 => ?_) ?_
 refine jo_ (σ := Nat × Nat × Nat × Nat) 5 1245 (fun s => [(5, .pointer (some ⟨s.2.2.2, 0, none⟩))]) (fun s w' => At w (.b s.2.2.2 (row (#[.nilIface, nilS, nP, nP, nP, nilS, bF]) 182) :: []) w' ∧ w.heap.size ≤ s.2.2.2) (fun hJ10 => ?_) ?_
 refine fo_ 1 5 8 10 13 17 20 5 223 253 477 1245 (fun K hK => ?_) (fun K hK => ?_) (fun K hK => ?_) (fun K hK => ?_)
 ·skip
  have HE := asd_ hHeld.1
  refine new_ HE.out (by rfl) (N := 13) (by rfl) (ob := row #[eS, eS, eS, eS, eS, eS, eS, eS] 9) (v := fun b => .slice (some ⟨b, 0, none⟩) 0 8) (by exact mk8 _) ?_
  intro gl w3 HE0 hgl
  replace HE := asd_ (At.sink 0 HE0); clear HE0
  have HEc : At w (.b gl (row #[eS, eS, eS, eS, eS, eS, eS, eS] 9) :: []) w3 := HE.out
  refine hK.out _ _ ⟨HEc.drop, (cel_ (blk_below hS HEc.drop.b))⟩ (fun hHeld => ?_)
  clear hK K
  refine nq_ 13 ?_
  exact nx_ (hJ1 (gl, 0, 0, 0) _ ⟨HE.out, hgl⟩)
 ·skip
  have HE := asd_ hHeld.1
  refine ne_ 17 (row (#[.pointer (some ⟨gs, 0, none⟩), eS, i0, nP]) 178) (fun b => .pointer (some ⟨b, 0, none⟩)) ?_
  intro gc w3 HE0 hgc
  replace HE := asd_ (At.sink 0 HE0); clear HE0
  have HEc : At w (.b gc (row (#[.pointer (some ⟨gs, 0, none⟩), eS, i0, nP]) 178) :: []) w3 := HE.out
  refine hK.out _ _ ⟨HEc.drop, (cel_ (blk_below hS HEc.drop.b))⟩ (fun hHeld => ?_)
  clear hK K
  refine nq_ 17 ?_
  exact nx_ (hJ5 (0, gc, 0, 0) _ ⟨HE.out, hgc⟩)
 ·skip
  have HE := asd_ hHeld.1
  refine ge_ Tryz.func98 #[vv, .pointer (some ⟨gs, 0, none⟩), .bool false] ?_
  with_reducible refine (HF.out _ HE.out.b).mono ?_
  rintro e w3 ⟨gu, rfl, hge, hgn, hb⟩
  refine ⟨_, rfl, ?_⟩
  have HE0 := At.came HE.out hb hge hgn
  have hgu : w.heap.size ≤ gu := Nat.le_trans HE.out.b.size hgn
  replace HE := asd_ (At.sink 0 HE0); clear HE0
  have HEc : At w (.b gu (row #[nM, nM] 263) :: []) w3 := HE.out
  refine hK.out _ _ ⟨HEc.drop, (cel_ (blk_below hS HEc.drop.b))⟩ (fun hHeld => ?_)
  clear hK K
  refine nq_ 20 ?_
  exact nx_ (hJ8 (0, 0, gu, 0) _ ⟨HE.out, hgu⟩)
 ·skip
  have HE := asd_ hHeld.1
  refine ne_ 5 (row (#[.nilIface, nilS, nP, nP, nP, nilS, bF]) 182) (fun b => .pointer (some ⟨b, 0, none⟩)) ?_
  intro gv w3 HE0 hgv
  replace HE := asd_ (At.sink 0 HE0); clear HE0
  have HEc : At w (.b gv (row (#[.nilIface, nilS, nP, nP, nP, nilS, bF]) 182) :: []) w3 := HE.out
  refine hK.out _ _ ⟨HEc.drop, (cel_ (blk_below hS HEc.drop.b))⟩ (fun hHeld => ?_)
  clear hK K
  refine nq_ 5 ?_
  exact nx_ (hJ10 (0, 0, 0, gv) _ ⟨HE.out, hgv⟩)
 rintro ⟨gl, gc, gu, gv⟩ w' ⟨HE0, hgv⟩
 have HE := asd_ HE0
 clear HE0
 have Ggv := asd_ hgv
 have hHeld := (show At w [] w' ∧ (∀ j, w'.cell? ⟨gs, j, none⟩ = (s.cells : Array Value)[j]?) from ⟨HE.out.drop, (cel_ (blk_below hS HE.out.drop.b))⟩)
 refine np_ ?_
 refine th_ 1 5 8 13 17 20 1247 1277 1501 (fun K hK => ?_) (fun K hK => ?_) (fun K hK => ?_)
 ·skip
  refine new_ HE.out (by rfl) (N := 13) (by rfl) (ob := row #[eS, eS, eS, eS, eS, eS, eS, eS] 9) (v := fun b => .slice (some ⟨b, 0, none⟩) 0 8) (by exact mk8 _) ?_
  intro gl w3 HE0 hgl
  replace HE := asd_ (At.sink 1 HE0); clear HE0
  have HEc : At w (.b gv (row (#[.nilIface, nilS, nP, nP, nP, nilS, bF]) 182) :: .b gl (row #[eS, eS, eS, eS, eS, eS, eS, eS] 9) :: []) w3 := HE.out
  refine hK.out _ _ ⟨HEc.drop.drop, (cel_ (blk_below hS HEc.drop.drop.b))⟩ (fun hHeld => ?_)
  clear hK K
  refine nq_ 13 ?_
  exact nx_ (hJ1_10 (gl, 0, 0, gv) _ ⟨HE.out, hgl, hgv⟩)
 ·skip
  refine ne_ 17 (row (#[.pointer (some ⟨gs, 0, none⟩), eS, i0, nP]) 178) (fun b => .pointer (some ⟨b, 0, none⟩)) ?_
  intro gc w3 HE0 hgc
  replace HE := asd_ (At.sink 1 HE0); clear HE0
  have HEc : At w (.b gv (row (#[.nilIface, nilS, nP, nP, nP, nilS, bF]) 182) :: .b gc (row (#[.pointer (some ⟨gs, 0, none⟩), eS, i0, nP]) 178) :: []) w3 := HE.out
  refine hK.out _ _ ⟨HEc.drop.drop, (cel_ (blk_below hS HEc.drop.drop.b))⟩ (fun hHeld => ?_)
  clear hK K
  refine nq_ 17 ?_
  exact nx_ (hJ5_10 (0, gc, 0, gv) _ ⟨HE.out, hgc, hgv⟩)
 ·skip
  refine ge_ Tryz.func98 #[vv, .pointer (some ⟨gs, 0, none⟩), .bool false] ?_
  with_reducible refine (HF.out _ HE.out.b).mono ?_
  rintro e w3 ⟨gu, rfl, hge, hgn, hb⟩
  refine ⟨_, rfl, ?_⟩
  have HE0 := At.came HE.out hb hge hgn
  have hgu : w.heap.size ≤ gu := Nat.le_trans HE.out.b.size hgn
  replace HE := asd_ (At.sink 1 HE0); clear HE0
  have HEc : At w (.b gv (row (#[.nilIface, nilS, nP, nP, nP, nilS, bF]) 182) :: .b gu (row #[nM, nM] 263) :: []) w3 := HE.out
  refine hK.out _ _ ⟨HEc.drop.drop, (cel_ (blk_below hS HEc.drop.drop.b))⟩ (fun hHeld => ?_)
  clear hK K
  refine nq_ 20 ?_
  exact nx_ (hJ8_10 (0, 0, gu, gv) _ ⟨HE.out, hgu, hgv⟩)
 rintro ⟨gl, gc, gu, gv⟩ w' ⟨HE0, hgu⟩
 have HE := asd_ HE0
 clear HE0
 have Ggu := asd_ hgu
 have hHeld := (show At w [] w' ∧ (∀ j, w'.cell? ⟨gs, j, none⟩ = (s.cells : Array Value)[j]?) from ⟨HE.out.drop, (cel_ (blk_below hS HE.out.drop.b))⟩)
 refine np_ ?_
 refine th_ 1 5 10 13 17 5 479 509 1501 (fun K hK => ?_) (fun K hK => ?_) (fun K hK => ?_)
 ·skip
  refine new_ HE.out (by rfl) (N := 13) (by rfl) (ob := row #[eS, eS, eS, eS, eS, eS, eS, eS] 9) (v := fun b => .slice (some ⟨b, 0, none⟩) 0 8) (by exact mk8 _) ?_
  intro gl w3 HE0 hgl
  replace HE := asd_ (At.sink 1 HE0); clear HE0
  have HEc : At w (.b gu (row #[nM, nM] 263) :: .b gl (row #[eS, eS, eS, eS, eS, eS, eS, eS] 9) :: []) w3 := HE.out
  refine hK.out _ _ ⟨HEc.drop.drop, (cel_ (blk_below hS HEc.drop.drop.b))⟩ (fun hHeld => ?_)
  clear hK K
  refine nq_ 13 ?_
  exact nx_ (hJ1_8 (gl, 0, gu, 0) _ ⟨HE.out, hgl, hgu⟩)
 ·skip
  refine ne_ 17 (row (#[.pointer (some ⟨gs, 0, none⟩), eS, i0, nP]) 178) (fun b => .pointer (some ⟨b, 0, none⟩)) ?_
  intro gc w3 HE0 hgc
  replace HE := asd_ (At.sink 1 HE0); clear HE0
  have HEc : At w (.b gu (row #[nM, nM] 263) :: .b gc (row (#[.pointer (some ⟨gs, 0, none⟩), eS, i0, nP]) 178) :: []) w3 := HE.out
  refine hK.out _ _ ⟨HEc.drop.drop, (cel_ (blk_below hS HEc.drop.drop.b))⟩ (fun hHeld => ?_)
  clear hK K
  refine nq_ 17 ?_
  exact nx_ (hJ5_8 (0, gc, gu, 0) _ ⟨HE.out, hgc, hgu⟩)
 ·skip
  refine ne_ 5 (row (#[.nilIface, nilS, nP, nP, nP, nilS, bF]) 182) (fun b => .pointer (some ⟨b, 0, none⟩)) ?_
  intro gv w3 HE0 hgv
  replace HE := asd_ (At.sink 0 HE0); clear HE0
  have HEc : At w (.b gv (row (#[.nilIface, nilS, nP, nP, nP, nilS, bF]) 182) :: .b gu (row #[nM, nM] 263) :: []) w3 := HE.out
  refine hK.out _ _ ⟨HEc.drop.drop, (cel_ (blk_below hS HEc.drop.drop.b))⟩ (fun hHeld => ?_)
  clear hK K
  refine nq_ 5 ?_
  exact nx_ (hJ8_10 (0, 0, gu, gv) _ ⟨HE.out, hgu, hgv⟩)
 rintro ⟨gl, gc, gu, gv⟩ w' ⟨HE0, hgc⟩
 have HE := asd_ HE0
 clear HE0
 have Ggc := asd_ hgc
 have hHeld := (show At w [] w' ∧ (∀ j, w'.cell? ⟨gs, j, none⟩ = (s.cells : Array Value)[j]?) from ⟨HE.out.drop, (cel_ (blk_below hS HE.out.drop.b))⟩)
 refine np_ ?_
 refine th_ 1 8 10 13 20 5 255 509 1277 (fun K hK => ?_) (fun K hK => ?_) (fun K hK => ?_)
 ·skip
  refine new_ HE.out (by rfl) (N := 13) (by rfl) (ob := row #[eS, eS, eS, eS, eS, eS, eS, eS] 9) (v := fun b => .slice (some ⟨b, 0, none⟩) 0 8) (by exact mk8 _) ?_
  intro gl w3 HE0 hgl
  replace HE := asd_ (At.sink 1 HE0); clear HE0
  have HEc : At w (.b gc (row (#[.pointer (some ⟨gs, 0, none⟩), eS, i0, nP]) 178) :: .b gl (row #[eS, eS, eS, eS, eS, eS, eS, eS] 9) :: []) w3 := HE.out
  refine hK.out _ _ ⟨HEc.drop.drop, (cel_ (blk_below hS HEc.drop.drop.b))⟩ (fun hHeld => ?_)
  clear hK K
  refine nq_ 13 ?_
  exact nx_ (hJ1_5 (gl, gc, 0, 0) _ ⟨HE.out, hgl, hgc⟩)
 ·skip
  refine ge_ Tryz.func98 #[vv, .pointer (some ⟨gs, 0, none⟩), .bool false] ?_
  with_reducible refine (HF.out _ HE.out.b).mono ?_
  rintro e w3 ⟨gu, rfl, hge, hgn, hb⟩
  refine ⟨_, rfl, ?_⟩
  have HE0 := At.came HE.out hb hge hgn
  have hgu : w.heap.size ≤ gu := Nat.le_trans HE.out.b.size hgn
  replace HE := asd_ (At.sink 0 HE0); clear HE0
  have HEc : At w (.b gu (row #[nM, nM] 263) :: .b gc (row (#[.pointer (some ⟨gs, 0, none⟩), eS, i0, nP]) 178) :: []) w3 := HE.out
  refine hK.out _ _ ⟨HEc.drop.drop, (cel_ (blk_below hS HEc.drop.drop.b))⟩ (fun hHeld => ?_)
  clear hK K
  refine nq_ 20 ?_
  exact nx_ (hJ5_8 (0, gc, gu, 0) _ ⟨HE.out, hgc, hgu⟩)
 ·skip
  refine ne_ 5 (row (#[.nilIface, nilS, nP, nP, nP, nilS, bF]) 182) (fun b => .pointer (some ⟨b, 0, none⟩)) ?_
  intro gv w3 HE0 hgv
  replace HE := asd_ (At.sink 0 HE0); clear HE0
  have HEc : At w (.b gv (row (#[.nilIface, nilS, nP, nP, nP, nilS, bF]) 182) :: .b gc (row (#[.pointer (some ⟨gs, 0, none⟩), eS, i0, nP]) 178) :: []) w3 := HE.out
  refine hK.out _ _ ⟨HEc.drop.drop, (cel_ (blk_below hS HEc.drop.drop.b))⟩ (fun hHeld => ?_)
  clear hK K
  refine nq_ 5 ?_
  exact nx_ (hJ5_10 (0, gc, 0, gv) _ ⟨HE.out, hgc, hgv⟩)
 rintro ⟨gl, gc, gu, gv⟩ w' ⟨HE0, hgl⟩
 have HE := asd_ HE0
 clear HE0
 have Ggl := asd_ hgl
 have hHeld := (show At w [] w' ∧ (∀ j, w'.cell? ⟨gs, j, none⟩ = (s.cells : Array Value)[j]?) from ⟨HE.out.drop, (cel_ (blk_below hS HE.out.drop.b))⟩)
 refine np_ ?_
 refine th_ 5 8 10 17 20 5 255 479 1247 (fun K hK => ?_) (fun K hK => ?_) (fun K hK => ?_)
 ·skip
  refine ne_ 17 (row (#[.pointer (some ⟨gs, 0, none⟩), eS, i0, nP]) 178) (fun b => .pointer (some ⟨b, 0, none⟩)) ?_
  intro gc w3 HE0 hgc
  replace HE := asd_ (At.sink 0 HE0); clear HE0
  have HEc : At w (.b gc (row (#[.pointer (some ⟨gs, 0, none⟩), eS, i0, nP]) 178) :: .b gl (row #[eS, eS, eS, eS, eS, eS, eS, eS] 9) :: []) w3 := HE.out
  refine hK.out _ _ ⟨HEc.drop.drop, (cel_ (blk_below hS HEc.drop.drop.b))⟩ (fun hHeld => ?_)
  clear hK K
  refine nq_ 17 ?_
  exact nx_ (hJ1_5 (gl, gc, 0, 0) _ ⟨HE.out, hgl, hgc⟩)
 ·skip
  refine ge_ Tryz.func98 #[vv, .pointer (some ⟨gs, 0, none⟩), .bool false] ?_
  with_reducible refine (HF.out _ HE.out.b).mono ?_
  rintro e w3 ⟨gu, rfl, hge, hgn, hb⟩
  refine ⟨_, rfl, ?_⟩
  have HE0 := At.came HE.out hb hge hgn
  have hgu : w.heap.size ≤ gu := Nat.le_trans HE.out.b.size hgn
  replace HE := asd_ (At.sink 0 HE0); clear HE0
  have HEc : At w (.b gu (row #[nM, nM] 263) :: .b gl (row #[eS, eS, eS, eS, eS, eS, eS, eS] 9) :: []) w3 := HE.out
  refine hK.out _ _ ⟨HEc.drop.drop, (cel_ (blk_below hS HEc.drop.drop.b))⟩ (fun hHeld => ?_)
  clear hK K
  refine nq_ 20 ?_
  exact nx_ (hJ1_8 (gl, 0, gu, 0) _ ⟨HE.out, hgl, hgu⟩)
 ·skip
  refine ne_ 5 (row (#[.nilIface, nilS, nP, nP, nP, nilS, bF]) 182) (fun b => .pointer (some ⟨b, 0, none⟩)) ?_
  intro gv w3 HE0 hgv
  replace HE := asd_ (At.sink 0 HE0); clear HE0
  have HEc : At w (.b gv (row (#[.nilIface, nilS, nP, nP, nP, nilS, bF]) 182) :: .b gl (row #[eS, eS, eS, eS, eS, eS, eS, eS] 9) :: []) w3 := HE.out
  refine hK.out _ _ ⟨HEc.drop.drop, (cel_ (blk_below hS HEc.drop.drop.b))⟩ (fun hHeld => ?_)
  clear hK K
  refine nq_ 5 ?_
  exact nx_ (hJ1_10 (gl, 0, 0, gv) _ ⟨HE.out, hgl, hgv⟩)
 rintro ⟨gl, gc, gu, gv⟩ w' ⟨HE0, hgu, hgv⟩
 have HE := asd_ HE0
 clear HE0
 have Ggu := asd_ hgu
 have Ggv := asd_ hgv
 have hHeld := (show At w [] w' ∧ (∀ j, w'.cell? ⟨gs, j, none⟩ = (s.cells : Array Value)[j]?) from ⟨HE.out.drop.drop, (cel_ (blk_below hS HE.out.drop.drop.b))⟩)
 refine np_ ?_
 refine tw_ 1 5 13 17 1503 1533 (fun K hK => ?_) (fun K hK => ?_)
 ·skip
  refine new_ HE.out (by rfl) (N := 13) (by rfl) (ob := row #[eS, eS, eS, eS, eS, eS, eS, eS] 9) (v := fun b => .slice (some ⟨b, 0, none⟩) 0 8) (by exact mk8 _) ?_
  intro gl w3 HE0 hgl
  replace HE := asd_ (At.sink 2 HE0); clear HE0
  have HEc : At w (.b gv (row (#[.nilIface, nilS, nP, nP, nP, nilS, bF]) 182) :: .b gu (row #[nM, nM] 263) :: .b gl (row #[eS, eS, eS, eS, eS, eS, eS, eS] 9) :: []) w3 := HE.out
  refine hK.out _ _ ⟨HEc.drop.drop.drop, (cel_ (blk_below hS HEc.drop.drop.drop.b))⟩ (fun hHeld => ?_)
  clear hK K
  refine nq_ 13 ?_
  exact nx_ (hJ1_8_10 (gl, 0, gu, gv) _ ⟨HE.out, hgl, hgu, hgv⟩)
 ·skip
  refine ne_ 17 (row (#[.pointer (some ⟨gs, 0, none⟩), eS, i0, nP]) 178) (fun b => .pointer (some ⟨b, 0, none⟩)) ?_
  intro gc w3 HE0 hgc
  replace HE := asd_ (At.sink 2 HE0); clear HE0
  have HEc : At w (.b gv (row (#[.nilIface, nilS, nP, nP, nP, nilS, bF]) 182) :: .b gu (row #[nM, nM] 263) :: .b gc (row (#[.pointer (some ⟨gs, 0, none⟩), eS, i0, nP]) 178) :: []) w3 := HE.out
  refine hK.out _ _ ⟨HEc.drop.drop.drop, (cel_ (blk_below hS HEc.drop.drop.drop.b))⟩ (fun hHeld => ?_)
  clear hK K
  refine nq_ 17 ?_
  exact nx_ (hJ5_8_10 (0, gc, gu, gv) _ ⟨HE.out, hgc, hgu, hgv⟩)
 rintro ⟨gl, gc, gu, gv⟩ w' ⟨HE0, hgc, hgv⟩
 have HE := asd_ HE0
 clear HE0
 have Ggc := asd_ hgc
 have Ggv := asd_ hgv
 have hHeld := (show At w [] w' ∧ (∀ j, w'.cell? ⟨gs, j, none⟩ = (s.cells : Array Value)[j]?) from ⟨HE.out.drop.drop, (cel_ (blk_below hS HE.out.drop.drop.b))⟩)
 refine np_ ?_
 refine tw_ 1 8 13 20 1279 1533 (fun K hK => ?_) (fun K hK => ?_)
 ·skip
  refine new_ HE.out (by rfl) (N := 13) (by rfl) (ob := row #[eS, eS, eS, eS, eS, eS, eS, eS] 9) (v := fun b => .slice (some ⟨b, 0, none⟩) 0 8) (by exact mk8 _) ?_
  intro gl w3 HE0 hgl
  replace HE := asd_ (At.sink 2 HE0); clear HE0
  have HEc : At w (.b gv (row (#[.nilIface, nilS, nP, nP, nP, nilS, bF]) 182) :: .b gc (row (#[.pointer (some ⟨gs, 0, none⟩), eS, i0, nP]) 178) :: .b gl (row #[eS, eS, eS, eS, eS, eS, eS, eS] 9) :: []) w3 := HE.out
  refine hK.out _ _ ⟨HEc.drop.drop.drop, (cel_ (blk_below hS HEc.drop.drop.drop.b))⟩ (fun hHeld => ?_)
  clear hK K
  refine nq_ 13 ?_
  exact nx_ (hJ1_5_10 (gl, gc, 0, gv) _ ⟨HE.out, hgl, hgc, hgv⟩)
 ·skip
  refine ge_ Tryz.func98 #[vv, .pointer (some ⟨gs, 0, none⟩), .bool false] ?_
  with_reducible refine (HF.out _ HE.out.b).mono ?_
  rintro e w3 ⟨gu, rfl, hge, hgn, hb⟩
  refine ⟨_, rfl, ?_⟩
  have HE0 := At.came HE.out hb hge hgn
  have hgu : w.heap.size ≤ gu := Nat.le_trans HE.out.b.size hgn
  replace HE := asd_ (At.sink 1 HE0); clear HE0
  have HEc : At w (.b gv (row (#[.nilIface, nilS, nP, nP, nP, nilS, bF]) 182) :: .b gu (row #[nM, nM] 263) :: .b gc (row (#[.pointer (some ⟨gs, 0, none⟩), eS, i0, nP]) 178) :: []) w3 := HE.out
  refine hK.out _ _ ⟨HEc.drop.drop.drop, (cel_ (blk_below hS HEc.drop.drop.drop.b))⟩ (fun hHeld => ?_)
  clear hK K
  refine nq_ 20 ?_
  exact nx_ (hJ5_8_10 (0, gc, gu, gv) _ ⟨HE.out, hgc, hgu, hgv⟩)
 rintro ⟨gl, gc, gu, gv⟩ w' ⟨HE0, hgc, hgu⟩
 have HE := asd_ HE0
 clear HE0
 have Ggc := asd_ hgc
 have Ggu := asd_ hgu
 have hHeld := (show At w [] w' ∧ (∀ j, w'.cell? ⟨gs, j, none⟩ = (s.cells : Array Value)[j]?) from ⟨HE.out.drop.drop, (cel_ (blk_below hS HE.out.drop.drop.b))⟩)
 refine np_ ?_
 refine tw_ 1 10 13 5 511 1533 (fun K hK => ?_) (fun K hK => ?_)
 ·skip
  refine new_ HE.out (by rfl) (N := 13) (by rfl) (ob := row #[eS, eS, eS, eS, eS, eS, eS, eS] 9) (v := fun b => .slice (some ⟨b, 0, none⟩) 0 8) (by exact mk8 _) ?_
  intro gl w3 HE0 hgl
  replace HE := asd_ (At.sink 2 HE0); clear HE0
  have HEc : At w (.b gu (row #[nM, nM] 263) :: .b gc (row (#[.pointer (some ⟨gs, 0, none⟩), eS, i0, nP]) 178) :: .b gl (row #[eS, eS, eS, eS, eS, eS, eS, eS] 9) :: []) w3 := HE.out
  refine hK.out _ _ ⟨HEc.drop.drop.drop, (cel_ (blk_below hS HEc.drop.drop.drop.b))⟩ (fun hHeld => ?_)
  clear hK K
  refine nq_ 13 ?_
  refine pu_ 9 21 1023 ?_
  exact nx_ (hJ1_5_8 (gl, gc, gu, 0) _ ⟨HE.out, hgl, hgc, hgu⟩)
 ·skip
  refine ne_ 5 (row (#[.nilIface, nilS, nP, nP, nP, nilS, bF]) 182) (fun b => .pointer (some ⟨b, 0, none⟩)) ?_
  intro gv w3 HE0 hgv
  replace HE := asd_ (At.sink 0 HE0); clear HE0
  have HEc : At w (.b gv (row (#[.nilIface, nilS, nP, nP, nP, nilS, bF]) 182) :: .b gu (row #[nM, nM] 263) :: .b gc (row (#[.pointer (some ⟨gs, 0, none⟩), eS, i0, nP]) 178) :: []) w3 := HE.out
  refine hK.out _ _ ⟨HEc.drop.drop.drop, (cel_ (blk_below hS HEc.drop.drop.drop.b))⟩ (fun hHeld => ?_)
  clear hK K
  refine nq_ 5 ?_
  exact nx_ (hJ5_8_10 (0, gc, gu, gv) _ ⟨HE.out, hgc, hgu, hgv⟩)
 rintro ⟨gl, gc, gu, gv⟩ w' ⟨HE0, hgl, hgv⟩
 have HE := asd_ HE0
 clear HE0
 have Ggl := asd_ hgl
 have Ggv := asd_ hgv
 have hHeld := (show At w [] w' ∧ (∀ j, w'.cell? ⟨gs, j, none⟩ = (s.cells : Array Value)[j]?) from ⟨HE.out.drop.drop, (cel_ (blk_below hS HE.out.drop.drop.b))⟩)
 refine np_ ?_
 refine tw_ 5 8 17 20 1279 1503 (fun K hK => ?_) (fun K hK => ?_)
 ·skip
  refine ne_ 17 (row (#[.pointer (some ⟨gs, 0, none⟩), eS, i0, nP]) 178) (fun b => .pointer (some ⟨b, 0, none⟩)) ?_
  intro gc w3 HE0 hgc
  replace HE := asd_ (At.sink 1 HE0); clear HE0
  have HEc : At w (.b gv (row (#[.nilIface, nilS, nP, nP, nP, nilS, bF]) 182) :: .b gc (row (#[.pointer (some ⟨gs, 0, none⟩), eS, i0, nP]) 178) :: .b gl (row #[eS, eS, eS, eS, eS, eS, eS, eS] 9) :: []) w3 := HE.out
  refine hK.out _ _ ⟨HEc.drop.drop.drop, (cel_ (blk_below hS HEc.drop.drop.drop.b))⟩ (fun hHeld => ?_)
  clear hK K
  refine nq_ 17 ?_
  exact nx_ (hJ1_5_10 (gl, gc, 0, gv) _ ⟨HE.out, hgl, hgc, hgv⟩)
 ·skip
  refine ge_ Tryz.func98 #[vv, .pointer (some ⟨gs, 0, none⟩), .bool false] ?_
  with_reducible refine (HF.out _ HE.out.b).mono ?_
  rintro e w3 ⟨gu, rfl, hge, hgn, hb⟩
  refine ⟨_, rfl, ?_⟩
  have HE0 := At.came HE.out hb hge hgn
  have hgu : w.heap.size ≤ gu := Nat.le_trans HE.out.b.size hgn
  replace HE := asd_ (At.sink 1 HE0); clear HE0
  have HEc : At w (.b gv (row (#[.nilIface, nilS, nP, nP, nP, nilS, bF]) 182) :: .b gu (row #[nM, nM] 263) :: .b gl (row #[eS, eS, eS, eS, eS, eS, eS, eS] 9) :: []) w3 := HE.out
  refine hK.out _ _ ⟨HEc.drop.drop.drop, (cel_ (blk_below hS HEc.drop.drop.drop.b))⟩ (fun hHeld => ?_)
  clear hK K
  refine nq_ 20 ?_
  exact nx_ (hJ1_8_10 (gl, 0, gu, gv) _ ⟨HE.out, hgl, hgu, hgv⟩)
 rintro ⟨gl, gc, gu, gv⟩ w' ⟨HE0, hgl, hgu⟩
 have HE := asd_ HE0
 clear HE0
 have Ggl := asd_ hgl
 have Ggu := asd_ hgu
 have hHeld := (show At w [] w' ∧ (∀ j, w'.cell? ⟨gs, j, none⟩ = (s.cells : Array Value)[j]?) from ⟨HE.out.drop.drop, (cel_ (blk_below hS HE.out.drop.drop.b))⟩)
 refine np_ ?_
 refine tw_ 5 10 17 5 511 1503 (fun K hK => ?_) (fun K hK => ?_)
 ·skip
  refine ne_ 17 (row (#[.pointer (some ⟨gs, 0, none⟩), eS, i0, nP]) 178) (fun b => .pointer (some ⟨b, 0, none⟩)) ?_
  intro gc w3 HE0 hgc
  replace HE := asd_ (At.sink 1 HE0); clear HE0
  have HEc : At w (.b gu (row #[nM, nM] 263) :: .b gc (row (#[.pointer (some ⟨gs, 0, none⟩), eS, i0, nP]) 178) :: .b gl (row #[eS, eS, eS, eS, eS, eS, eS, eS] 9) :: []) w3 := HE.out
  refine hK.out _ _ ⟨HEc.drop.drop.drop, (cel_ (blk_below hS HEc.drop.drop.drop.b))⟩ (fun hHeld => ?_)
  clear hK K
  refine nq_ 17 ?_
  refine pu_ 9 21 1023 ?_
  exact nx_ (hJ1_5_8 (gl, gc, gu, 0) _ ⟨HE.out, hgl, hgc, hgu⟩)
 ·skip
  refine ne_ 5 (row (#[.nilIface, nilS, nP, nP, nP, nilS, bF]) 182) (fun b => .pointer (some ⟨b, 0, none⟩)) ?_
  intro gv w3 HE0 hgv
  replace HE := asd_ (At.sink 0 HE0); clear HE0
  have HEc : At w (.b gv (row (#[.nilIface, nilS, nP, nP, nP, nilS, bF]) 182) :: .b gu (row #[nM, nM] 263) :: .b gl (row #[eS, eS, eS, eS, eS, eS, eS, eS] 9) :: []) w3 := HE.out
  refine hK.out _ _ ⟨HEc.drop.drop.drop, (cel_ (blk_below hS HEc.drop.drop.drop.b))⟩ (fun hHeld => ?_)
  clear hK K
  refine nq_ 5 ?_
  exact nx_ (hJ1_8_10 (gl, 0, gu, gv) _ ⟨HE.out, hgl, hgu, hgv⟩)
 rintro ⟨gl, gc, gu, gv⟩ w' ⟨HE0, hgl, hgc⟩
 have HE := asd_ HE0
 clear HE0
 have Ggl := asd_ hgl
 have Ggc := asd_ hgc
 have hHeld := (show At w [] w' ∧ (∀ j, w'.cell? ⟨gs, j, none⟩ = (s.cells : Array Value)[j]?) from ⟨HE.out.drop.drop, (cel_ (blk_below hS HE.out.drop.drop.b))⟩)
 refine np_ ?_
 refine tw_ 8 10 20 5 511 1279 (fun K hK => ?_) (fun K hK => ?_)
 ·skip
  refine ge_ Tryz.func98 #[vv, .pointer (some ⟨gs, 0, none⟩), .bool false] ?_
  with_reducible refine (HF.out _ HE.out.b).mono ?_
  rintro e w3 ⟨gu, rfl, hge, hgn, hb⟩
  refine ⟨_, rfl, ?_⟩
  have HE0 := At.came HE.out hb hge hgn
  have hgu : w.heap.size ≤ gu := Nat.le_trans HE.out.b.size hgn
  replace HE := asd_ (At.sink 0 HE0); clear HE0
  have HEc : At w (.b gu (row #[nM, nM] 263) :: .b gc (row (#[.pointer (some ⟨gs, 0, none⟩), eS, i0, nP]) 178) :: .b gl (row #[eS, eS, eS, eS, eS, eS, eS, eS] 9) :: []) w3 := HE.out
  refine hK.out _ _ ⟨HEc.drop.drop.drop, (cel_ (blk_below hS HEc.drop.drop.drop.b))⟩ (fun hHeld => ?_)
  clear hK K
  refine nq_ 20 ?_
  refine pu_ 9 21 1023 ?_
  exact nx_ (hJ1_5_8 (gl, gc, gu, 0) _ ⟨HE.out, hgl, hgc, hgu⟩)
 ·skip
  refine ne_ 5 (row (#[.nilIface, nilS, nP, nP, nP, nilS, bF]) 182) (fun b => .pointer (some ⟨b, 0, none⟩)) ?_
  intro gv w3 HE0 hgv
  replace HE := asd_ (At.sink 0 HE0); clear HE0
  have HEc : At w (.b gv (row (#[.nilIface, nilS, nP, nP, nP, nilS, bF]) 182) :: .b gc (row (#[.pointer (some ⟨gs, 0, none⟩), eS, i0, nP]) 178) :: .b gl (row #[eS, eS, eS, eS, eS, eS, eS, eS] 9) :: []) w3 := HE.out
  refine hK.out _ _ ⟨HEc.drop.drop.drop, (cel_ (blk_below hS HEc.drop.drop.drop.b))⟩ (fun hHeld => ?_)
  clear hK K
  refine nq_ 5 ?_
  exact nx_ (hJ1_5_10 (gl, gc, 0, gv) _ ⟨HE.out, hgl, hgc, hgv⟩)
 rintro ⟨gl, gc, gu, gv⟩ w' ⟨HE0, hgc, hgu, hgv⟩
 have HE := asd_ HE0
 clear HE0
 have Ggc := asd_ hgc
 have Ggu := asd_ hgu
 have Ggv := asd_ hgv
 have hHeld := (show At w [] w' ∧ (∀ j, w'.cell? ⟨gs, j, none⟩ = (s.cells : Array Value)[j]?) from ⟨HE.out.drop.drop.drop, (cel_ (blk_below hS HE.out.drop.drop.drop.b))⟩)
 refine np_ ?_
 refine on_ 1 13 1535 (fun K hK => ?_)
 refine new_ HE.out (by rfl) (N := 13) (by rfl) (ob := row #[eS, eS, eS, eS, eS, eS, eS, eS] 9) (v := fun b => .slice (some ⟨b, 0, none⟩) 0 8) (by exact mk8 _) ?_
 intro gl w3 HE0 hgl
 replace HE := asd_ (At.sink 3 HE0); clear HE0
 have HEc : At w (.b gv (row (#[.nilIface, nilS, nP, nP, nP, nilS, bF]) 182) :: .b gu (row #[nM, nM] 263) :: .b gc (row (#[.pointer (some ⟨gs, 0, none⟩), eS, i0, nP]) 178) :: .b gl (row #[eS, eS, eS, eS, eS, eS, eS, eS] 9) :: []) w3 := HE.out
 refine hK.out _ _ ⟨HEc.drop.drop.drop.drop, (cel_ (blk_below hS HEc.drop.drop.drop.drop.b))⟩ (fun hHeld => ?_)
 clear hK K
 refine nq_ 13 ?_
 refine pu_ 9 21 2047 ?_
 exact nx_ (hJ1_5_8_10 (gl, gc, gu, gv) _ ⟨HE.out, hgl, hgc, hgu, hgv⟩)
 rintro ⟨gl, gc, gu, gv⟩ w' ⟨HE0, hgl, hgu, hgv⟩
 have HE := asd_ HE0
 clear HE0
 have Ggl := asd_ hgl
 have Ggu := asd_ hgu
 have Ggv := asd_ hgv
 have hHeld := (show At w [] w' ∧ (∀ j, w'.cell? ⟨gs, j, none⟩ = (s.cells : Array Value)[j]?) from ⟨HE.out.drop.drop.drop, (cel_ (blk_below hS HE.out.drop.drop.drop.b))⟩)
 refine np_ ?_
 refine on_ 5 17 1535 (fun K hK => ?_)
 refine ne_ 17 (row (#[.pointer (some ⟨gs, 0, none⟩), eS, i0, nP]) 178) (fun b => .pointer (some ⟨b, 0, none⟩)) ?_
 intro gc w3 HE0 hgc
 replace HE := asd_ (At.sink 2 HE0); clear HE0
 have HEc : At w (.b gv (row (#[.nilIface, nilS, nP, nP, nP, nilS, bF]) 182) :: .b gu (row #[nM, nM] 263) :: .b gc (row (#[.pointer (some ⟨gs, 0, none⟩), eS, i0, nP]) 178) :: .b gl (row #[eS, eS, eS, eS, eS, eS, eS, eS] 9) :: []) w3 := HE.out
 refine hK.out _ _ ⟨HEc.drop.drop.drop.drop, (cel_ (blk_below hS HEc.drop.drop.drop.drop.b))⟩ (fun hHeld => ?_)
 clear hK K
 refine nq_ 17 ?_
 refine pu_ 9 21 2047 ?_
 exact nx_ (hJ1_5_8_10 (gl, gc, gu, gv) _ ⟨HE.out, hgl, hgc, hgu, hgv⟩)
 rintro ⟨gl, gc, gu, gv⟩ w' ⟨HE0, hgl, hgc, hgv⟩
 have HE := asd_ HE0
 clear HE0
 have Ggl := asd_ hgl
 have Ggc := asd_ hgc
 have Ggv := asd_ hgv
 have hHeld := (show At w [] w' ∧ (∀ j, w'.cell? ⟨gs, j, none⟩ = (s.cells : Array Value)[j]?) from ⟨HE.out.drop.drop.drop, (cel_ (blk_below hS HE.out.drop.drop.drop.b))⟩)
 refine np_ ?_
 refine on_ 8 20 1535 (fun K hK => ?_)
 refine ge_ Tryz.func98 #[vv, .pointer (some ⟨gs, 0, none⟩), .bool false] ?_
 with_reducible refine (HF.out _ HE.out.b).mono ?_
 rintro e w3 ⟨gu, rfl, hge, hgn, hb⟩
 refine ⟨_, rfl, ?_⟩
 have HE0 := At.came HE.out hb hge hgn
 have hgu : w.heap.size ≤ gu := Nat.le_trans HE.out.b.size hgn
 replace HE := asd_ (At.sink 1 HE0); clear HE0
 have HEc : At w (.b gv (row (#[.nilIface, nilS, nP, nP, nP, nilS, bF]) 182) :: .b gu (row #[nM, nM] 263) :: .b gc (row (#[.pointer (some ⟨gs, 0, none⟩), eS, i0, nP]) 178) :: .b gl (row #[eS, eS, eS, eS, eS, eS, eS, eS] 9) :: []) w3 := HE.out
 refine hK.out _ _ ⟨HEc.drop.drop.drop.drop, (cel_ (blk_below hS HEc.drop.drop.drop.drop.b))⟩ (fun hHeld => ?_)
 clear hK K
 refine nq_ 20 ?_
 refine pu_ 9 21 2047 ?_
 exact nx_ (hJ1_5_8_10 (gl, gc, gu, gv) _ ⟨HE.out, hgl, hgc, hgu, hgv⟩)
 rintro ⟨gl, gc, gu, gv⟩ w' ⟨HE0, hgl, hgc, hgu⟩
 have HE := asd_ HE0
 clear HE0
 have Ggl := asd_ hgl
 have Ggc := asd_ hgc
 have Ggu := asd_ hgu
 have hHeld := (show At w [] w' ∧ (∀ j, w'.cell? ⟨gs, j, none⟩ = (s.cells : Array Value)[j]?) from ⟨HE.out.drop.drop.drop, (cel_ (blk_below hS HE.out.drop.drop.drop.b))⟩)
 refine np_ ?_
 refine on_ 10 5 2047 (fun K hK => ?_)
 refine ne_ 5 (row (#[.nilIface, nilS, nP, nP, nP, nilS, bF]) 182) (fun b => .pointer (some ⟨b, 0, none⟩)) ?_
 intro gv w3 HE0 hgv
 replace HE := asd_ (At.sink 0 HE0); clear HE0
 have HEc : At w (.b gv (row (#[.nilIface, nilS, nP, nP, nP, nilS, bF]) 182) :: .b gu (row #[nM, nM] 263) :: .b gc (row (#[.pointer (some ⟨gs, 0, none⟩), eS, i0, nP]) 178) :: .b gl (row #[eS, eS, eS, eS, eS, eS, eS, eS] 9) :: []) w3 := HE.out
 refine hK.out _ _ ⟨HEc.drop.drop.drop.drop, (cel_ (blk_below hS HEc.drop.drop.drop.drop.b))⟩ (fun hHeld => ?_)
 clear hK K
 refine nq_ 5 ?_
 exact nx_ (hJ1_5_8_10 (gl, gc, gu, gv) _ ⟨HE.out, hgl, hgc, hgu, hgv⟩)
 rintro ⟨gl, gc, gu, gv⟩ w' ⟨HE0, hgl, hgc, hgu, hgv⟩
 have HE := asd_ HE0
 clear HE0
 have Ggl := asd_ hgl
 have Ggc := asd_ hgc
 have Ggu := asd_ hgu
 have Ggv := asd_ hgv
 have hHeld := (show At w [] w' ∧ (∀ j, w'.cell? ⟨gs, j, none⟩ = (s.cells : Array Value)[j]?) from ⟨HE.out.drop.drop.drop.drop, (cel_ (blk_below hS HE.out.drop.drop.drop.drop.b))⟩)
 refine np_ ?_
 refine lz_ 11 4095 (fun K hK => ?_)
 refine storerow_ (cs := #[.nilIface, nilS, nP, nP, nP, nilS, bF]) (g := gv) 0 (vdc vv ⟨gl, 0, none⟩ (.pointer (some ⟨gs, 0, none⟩)) (.pointer (some ⟨gc, 0, none⟩)) (.pointer (some ⟨gu, 0, none⟩)) nilS) HE.out rfl Ggv.out rfl (by rfl) rfl rfl rfl rfl kr_ rfl (one_vdc Hvv.out) ?_
 intro w3 HE0
 replace HE := asd_ HE0; clear HE0
 refine hK.out _ _ ?_
 clear hK K
 refine done_ kr_ ?_
 clear HK; have HK := HE; clear HE
 clear hHeld
 clear bgs
 have bgv := cE HK 0
 have bgs := cel_ (blk_below hS HK.out.b)
 go_wp2_with (first | ((with_reducible refine gd_ 23 ?_); refine call_to #[.pointer (some ⟨gv, 0, none⟩)] (.tuple #[.pointer (some ⟨gu, 0, none⟩), .nilIface]) _ rfl Tryz.func99 kr_ rfl rfl ar_ (HV.out _ _ gv gc ⟨gl, 0, none⟩ (.pointer (some ⟨gu, 0, none⟩)) (At.front 1 (At.front 2 HK.out rfl) rfl) Ggv.out) ?_; intro wc23 HK1; replace HK := asd_ HK1; clear HK1; clear bgv bgs; have bgv := cE HK 0; have bgs := cel_ (blk_below hS HK.out.b)))
 go_ret
 exact ⟨rfl, HK.out.b⟩
set_option maxHeartbeats 4000000 in
set_option maxRecDepth 100000 in
theorem sch_some (w : World) (gs : Nat) (vv : Value) (hvv : vv.oneCell' = true) (s : Sc) (hS : w.heap[gs]? = some (row s.cells 119)) (hF : ∀ W, Below w.heap.size w W → Calls Tryz.prog 98 #[vv, .pointer (some ⟨gs, 0, none⟩), .bool false] W fun e w' => ∃ gu, e = .returned (.pointer (some ⟨gu, 0, none⟩)) ∧ w'.heap[gu]? = some (row #[nM, nM] 263) ∧ W.heap.size ≤ gu ∧ Below W.heap.size W w') (tk : TypeId) (PY : Nat → List Blk → Prop) (hta : ∀ (v : Value) (W : World), (Instr.typeAssert (.iface tk v) 126 185 true).run Tryz.prog W = .ok (.tuple #[.pointer none, .bool false]) W) (hV : ∀ W l gv gc ad up, At w (.b gv (row (vdc vv ad (.pointer (some ⟨gs, 0, none⟩)) (.pointer (some ⟨gc, 0, none⟩)) up nilS) 182) :: .b gc (row (#[.pointer (some ⟨gs, 0, none⟩), eS, i0, nP]) 178) :: l) W → w.heap.size ≤ gv → Calls Tryz.prog 99 #[.pointer (some ⟨gv, 0, none⟩)] W fun e w' => ∃ ge gki Ae ce Y, e = .returned (.tuple #[nP, .iface 76 (.pointer (some ⟨ge, 0, none⟩))]) ∧ PY gki Y ∧ At w (.b ge (row (vec s.loc Ae ce (.iface tk (.pointer (some ⟨gki, 0, none⟩))) nilS) 129) :: Y) w') :
  Calls Tryz.prog 53 #[.pointer (some ⟨gs, 0, none⟩), vv] w fun e w' => ∃ gr gk2 gz ge gki Ae ce Y, e = .returned (.iface 76 (.pointer (some ⟨gr, 0, none⟩))) ∧ PY gki Y ∧ At w (.b gr (row #[.string s.loc, nilS, .iface 187 (.pointer (some ⟨gk2, 0, none⟩)), .slice (some ⟨gz, 0, none⟩) 1 1] 129) :: .b gk2 (row #[.string s.loc] 189) :: .b gz (row #[.pointer (some ⟨ge, 0, none⟩)] 76) :: .b ge (row (vec s.loc Ae ce (.iface tk (.pointer (some ⟨gki, 0, none⟩))) nilS) 129) :: Y) w' := by
 have Hvv := asd_ hvv; have hm := cells_one hvv; unfold Value.cells at hm; clear hvv
 have HF := asd_ hF
 have HV := asd_ hV
 clear hF hV
 have HK : Aside0 (At w [] w) := asd_ (At.start w)
 have bgs := cel_ (blk_below hS HK.out.b)
 go_enter Tryz.func53, Tryz.ntmps53
 go_wp2_with fail
 refine st_ 12 (fun w' => At w [] w' ∧ (∀ j, w'.cell? ⟨gs, j, none⟩ = (s.cells : Array Value)[j]?)) [11] (fun A => ⟨A, (cel_ (blk_below hS A.b))⟩) (fun hHeld => ?_)
 refine pu_ 0 12 1 ?_
 refine pu_ 2 14 5 ?_
 refine pu_ 3 15 13 ?_
 refine pu_ 4 16 29 ?_
 refine pu_ 6 18 93 ?_
 refine pu_ 7 19 221 ?_
 refine jo_ (σ := Nat × Nat × Nat × Nat) 1 2047 (fun s => [(13, .slice (some ⟨s.1, 0, none⟩) 0 8), (17, .pointer (some ⟨s.2.1, 0, none⟩)), (20, .pointer (some ⟨s.2.2.1, 0, none⟩)), (5, .pointer (some ⟨s.2.2.2, 0, none⟩)), (21, .agg #[vv, .slice (some ⟨s.1, 0, none⟩) 0 8, .pointer (some ⟨gs, 0, none⟩), .pointer (some ⟨s.2.1, 0, none⟩), .pointer (some ⟨s.2.2.1, 0, none⟩), nilS, bF])]) (fun s w' => At w (.b s.2.2.2 (row (#[.nilIface, nilS, nP, nP, nP, nilS, bF]) 182) :: .b s.2.2.1 (row #[nM, nM] 263) :: .b s.2.1 (row (#[.pointer (some ⟨gs, 0, none⟩), eS, i0, nP]) 178) :: .b s.1 (row #[eS, eS, eS, eS, eS, eS, eS, eS] 9) :: []) w' ∧ w.heap.size ≤ s.1 ∧ w.heap.size ≤ s.2.1 ∧ w.heap.size ≤ s.2.2.1 ∧ w.heap.size ≤ s.2.2.2) (fun hJ1_5_8_10 => ?_) ?_
 refine jo_ (σ := Nat × Nat × Nat × Nat) 2 1023 (fun s => [(13, .slice (some ⟨s.1, 0, none⟩) 0 8), (17, .pointer (some ⟨s.2.1, 0, none⟩)), (20, .pointer (some ⟨s.2.2.1, 0, none⟩)), (21, .agg #[vv, .slice (some ⟨s.1, 0, none⟩) 0 8, .pointer (some ⟨gs, 0, none⟩), .pointer (some ⟨s.2.1, 0, none⟩), .pointer (some ⟨s.2.2.1, 0, none⟩), nilS, bF])]) (fun s w' => At w (.b s.2.2.1 (row #[nM, nM] 263) :: .b s.2.1 (row (#[.pointer (some ⟨gs, 0, none⟩), eS, i0, nP]) 178) :: .b s.1 (row #[eS, eS, eS, eS, eS, eS, eS, eS] 9) :: []) w' ∧ w.heap.size ≤ s.1 ∧ w.heap.size ≤ s.2.1 ∧ w.heap.size ≤ s.2.2.1) (fun hJ1_5_8 => ?_) ?_
 refine jo_ (σ := Nat × Nat × Nat × Nat) 3 1279 (fun s => [(13, .slice (some ⟨s.1, 0, none⟩) 0 8), (17, .pointer (some ⟨s.2.1, 0, none⟩)), (5, .pointer (some ⟨s.2.2.2, 0, none⟩))]) (fun s w' => At w (.b s.2.2.2 (row (#[.nilIface, nilS, nP, nP, nP, nilS, bF]) 182) :: .b s.2.1 (row (#[.pointer (some ⟨gs, 0, none⟩), eS, i0, nP]) 178) :: .b s.1 (row #[eS, eS, eS, eS, eS, eS, eS, eS] 9) :: []) w' ∧ w.heap.size ≤ s.1 ∧ w.heap.size ≤ s.2.1 ∧ w.heap.size ≤ s.2.2.2) (fun hJ1_5_10 => ?_) ?_
 refine jo_ (σ := Nat × Nat × Nat × Nat) 3 1503 (fun s => [(13, .slice (some ⟨s.1, 0, none⟩) 0 8), (20, .pointer (some ⟨s.2.2.1, 0, none⟩)), (5, .pointer (some ⟨s.2.2.2, 0, none⟩))]) (fun s w' => At w (.b s.2.2.2 (row (#[.nilIface, nilS, nP, nP, nP, nilS, bF]) 182) :: .b s.2.2.1 (row #[nM, nM] 263) :: .b s.1 (row #[eS, eS, eS, eS, eS, eS, eS, eS] 9) :: []) w' ∧ w.heap.size ≤ s.1 ∧ w.heap.size ≤ s.2.2.1 ∧ w.heap.size ≤ s.2.2.2) (fun hJ1_8_10 => ?_) ?_
 refine jo_ (σ := Nat × Nat × Nat × Nat) 3 1533 (fun s => [(17, .pointer (some ⟨s.2.1, 0, none⟩)), (20, .pointer (some ⟨s.2.2.1, 0, none⟩)), (5, .pointer (some ⟨s.2.2.2, 0, none⟩))]) (fun s w' => At w (.b s.2.2.2 (row (#[.nilIface, nilS, nP, nP, nP, nilS, bF]) 182) :: .b s.2.2.1 (row #[nM, nM] 263) :: .b s.2.1 (row (#[.pointer (some ⟨gs, 0, none⟩), eS, i0, nP]) 178) :: []) w' ∧ w.heap.size ≤ s.2.1 ∧ w.heap.size ≤ s.2.2.1 ∧ w.heap.size ≤ s.2.2.2) (fun hJ5_8_10 => ?_) ?_
 refine jo_ (σ := Nat × Nat × Nat × Nat) 4 255 (fun s => [(13, .slice (some ⟨s.1, 0, none⟩) 0 8), (17, .pointer (some ⟨s.2.1, 0, none⟩))]) (fun s w' => At w (.b s.2.1 (row (#[.pointer (some ⟨gs, 0, none⟩), eS, i0, nP]) 178) :: .b s.1 (row #[eS, eS, eS, eS, eS, eS, eS, eS] 9) :: []) w' ∧ w.heap.size ≤ s.1 ∧ w.heap.size ≤ s.2.1) (fun hJ1_5 => ?_) ?_
 refine jo_ (σ := Nat × Nat × Nat × Nat) 4 479 (fun s => [(13, .slice (some ⟨s.1, 0, none⟩) 0 8), (20, .pointer (some ⟨s.2.2.1, 0, none⟩))]) (fun s w' => At w (.b s.2.2.1 (row #[nM, nM] 263) :: .b s.1 (row #[eS, eS, eS, eS, eS, eS, eS, eS] 9) :: []) w' ∧ w.heap.size ≤ s.1 ∧ w.heap.size ≤ s.2.2.1) (fun hJ1_8 => ?_) ?_
 refine jo_ (σ := Nat × Nat × Nat × Nat) 4 1247 (fun s => [(13, .slice (some ⟨s.1, 0, none⟩) 0 8), (5, .pointer (some ⟨s.2.2.2, 0, none⟩))]) (fun s w' => At w (.b s.2.2.2 (row (#[.nilIface, nilS, nP, nP, nP, nilS, bF]) 182) :: .b s.1 (row #[eS, eS, eS, eS, eS, eS, eS, eS] 9) :: []) w' ∧ w.heap.size ≤ s.1 ∧ w.heap.size ≤ s.2.2.2) (fun hJ1_10 => ?_) ?_
 refine jo_ (σ := Nat × Nat × Nat × Nat) 4 509 (fun s => [(17, .pointer (some ⟨s.2.1, 0, none⟩)), (20, .pointer (some ⟨s.2.2.1, 0, none⟩))]) (fun s w' => At w (.b s.2.2.1 (row #[nM, nM] 263) :: .b s.2.1 (row (#[.pointer (some ⟨gs, 0, none⟩), eS, i0, nP]) 178) :: []) w' ∧ w.heap.size ≤ s.2.1 ∧ w.heap.size ≤ s.2.2.1) (fun hJ5_8 => ?_) ?_
 refine jo_ (σ := Nat × Nat × Nat × Nat) 4 1277 (fun s => [(17, .pointer (some ⟨s.2.1, 0, none⟩)), (5, .pointer (some ⟨s.2.2.2, 0, none⟩))]) (fun s w' => At w (.b s.2.2.2 (row (#[.nilIface, nilS, nP, nP, nP, nilS, bF]) 182) :: .b s.2.1 (row (#[.pointer (some ⟨gs, 0, none⟩), eS, i0, nP]) 178) :: []) w' ∧ w.heap.size ≤ s.2.1 ∧ w.heap.size ≤ s.2.2.2) (fun hJ5_10 => ?_) ?_
 refine jo_ (σ := Nat × Nat × Nat × Nat) 4 1501 (fun s => [(20, .pointer (some ⟨s.2.2.1, 0, none⟩)), (5, .pointer (some ⟨s.2.2.2, 0, none⟩))]) (fun s w' => At w (.b s.2.2.2 (row (#[.nilIface, nilS, nP, nP, nP, nilS, bF]) 182) :: .b s.2.2.1 (row #[nM, nM] 263) :: []) w' ∧ w.heap.size ≤ s.2.2.1 ∧ w.heap.size ≤ s.2.2.2) (fun hJ8_10 => ?_) ?_
 refine jo_ (σ := Nat × Nat × Nat × Nat) 5 223 (fun s => [(13, .slice (some ⟨s.1, 0, none⟩) 0 8)]) (fun s w' => At w (.b s.1 (row #[eS, eS, eS, eS, eS, eS, eS, eS] 9) :: []) w' ∧ w.heap.size ≤ s.1) (fun hJ1 => ?_) ?_
 refine jo_ (σ := Nat × Nat × Nat × Nat) 5 253 (fun s => [(17, .pointer (some ⟨s.2.1, 0, none⟩))]) (fun s w' => At w (.b s.2.1 (row (#[.pointer (some ⟨gs, 0, none⟩), eS, i0, nP]) 178) :: []) w' ∧ w.heap.size ≤ s.2.1) (fun hJ5 => ?_) ?_
 refine jo_ (σ := Nat × Nat × Nat × Nat) 5 477 (fun s => [(20, .pointer (some ⟨s.2.2.1, 0, none⟩))]) (fun s w' => At w (.b s.2.2.1 (row #[nM, nM] 263) :: []) w' ∧ w.heap.size ≤ s.2.2.1) (fun hJ8 => ?_) ?_
 refine jo_ (σ := Nat × Nat × Nat × Nat) 5 1245 (fun s => [(5, .pointer (some ⟨s.2.2.2, 0, none⟩))]) (fun s w' => At w (.b s.2.2.2 (row (#[.nilIface, nilS, nP, nP, nP, nilS, bF]) 182) :: []) w' ∧ w.heap.size ≤ s.2.2.2) (fun hJ10 => ?_) ?_
 refine fo_ 1 5 8 10 13 17 20 5 223 253 477 1245 (fun K hK => ?_) (fun K hK => ?_) (fun K hK => ?_) (fun K hK => ?_)
 ·skip
  have HE := asd_ hHeld.1
  refine new_ HE.out (by rfl) (N := 13) (by rfl) (ob := row #[eS, eS, eS, eS, eS, eS, eS, eS] 9) (v := fun b => .slice (some ⟨b, 0, none⟩) 0 8) (by exact mk8 _) ?_
  intro gl w3 HE0 hgl
  replace HE := asd_ (At.sink 0 HE0); clear HE0
  have HEc : At w (.b gl (row #[eS, eS, eS, eS, eS, eS, eS, eS] 9) :: []) w3 := HE.out
  refine hK.out _ _ ⟨HEc.drop, (cel_ (blk_below hS HEc.drop.b))⟩ (fun hHeld => ?_)
  clear hK K
  refine nq_ 13 ?_
  exact nx_ (hJ1 (gl, 0, 0, 0) _ ⟨HE.out, hgl⟩)
 ·skip
  have HE := asd_ hHeld.1
  refine ne_ 17 (row (#[.pointer (some ⟨gs, 0, none⟩), eS, i0, nP]) 178) (fun b => .pointer (some ⟨b, 0, none⟩)) ?_
  intro gc w3 HE0 hgc
  replace HE := asd_ (At.sink 0 HE0); clear HE0
  have HEc : At w (.b gc (row (#[.pointer (some ⟨gs, 0, none⟩), eS, i0, nP]) 178) :: []) w3 := HE.out
  refine hK.out _ _ ⟨HEc.drop, (cel_ (blk_below hS HEc.drop.b))⟩ (fun hHeld => ?_)
  clear hK K
  refine nq_ 17 ?_
  exact nx_ (hJ5 (0, gc, 0, 0) _ ⟨HE.out, hgc⟩)
 ·skip
  have HE := asd_ hHeld.1
  refine ge_ Tryz.func98 #[vv, .pointer (some ⟨gs, 0, none⟩), .bool false] ?_
  with_reducible refine (HF.out _ HE.out.b).mono ?_
  rintro e w3 ⟨gu, rfl, hge, hgn, hb⟩
  refine ⟨_, rfl, ?_⟩
  have HE0 := At.came HE.out hb hge hgn
  have hgu : w.heap.size ≤ gu := Nat.le_trans HE.out.b.size hgn
  replace HE := asd_ (At.sink 0 HE0); clear HE0
  have HEc : At w (.b gu (row #[nM, nM] 263) :: []) w3 := HE.out
  refine hK.out _ _ ⟨HEc.drop, (cel_ (blk_below hS HEc.drop.b))⟩ (fun hHeld => ?_)
  clear hK K
  refine nq_ 20 ?_
  exact nx_ (hJ8 (0, 0, gu, 0) _ ⟨HE.out, hgu⟩)
 ·skip
  have HE := asd_ hHeld.1
  refine ne_ 5 (row (#[.nilIface, nilS, nP, nP, nP, nilS, bF]) 182) (fun b => .pointer (some ⟨b, 0, none⟩)) ?_
  intro gv w3 HE0 hgv
  replace HE := asd_ (At.sink 0 HE0); clear HE0
  have HEc : At w (.b gv (row (#[.nilIface, nilS, nP, nP, nP, nilS, bF]) 182) :: []) w3 := HE.out
  refine hK.out _ _ ⟨HEc.drop, (cel_ (blk_below hS HEc.drop.b))⟩ (fun hHeld => ?_)
  clear hK K
  refine nq_ 5 ?_
  exact nx_ (hJ10 (0, 0, 0, gv) _ ⟨HE.out, hgv⟩)
 rintro ⟨gl, gc, gu, gv⟩ w' ⟨HE0, hgv⟩
 have HE := asd_ HE0
 clear HE0
 have Ggv := asd_ hgv
 have hHeld := (show At w [] w' ∧ (∀ j, w'.cell? ⟨gs, j, none⟩ = (s.cells : Array Value)[j]?) from ⟨HE.out.drop, (cel_ (blk_below hS HE.out.drop.b))⟩)
 refine np_ ?_
 refine th_ 1 5 8 13 17 20 1247 1277 1501 (fun K hK => ?_) (fun K hK => ?_) (fun K hK => ?_)
 ·skip
  refine new_ HE.out (by rfl) (N := 13) (by rfl) (ob := row #[eS, eS, eS, eS, eS, eS, eS, eS] 9) (v := fun b => .slice (some ⟨b, 0, none⟩) 0 8) (by exact mk8 _) ?_
  intro gl w3 HE0 hgl
  replace HE := asd_ (At.sink 1 HE0); clear HE0
  have HEc : At w (.b gv (row (#[.nilIface, nilS, nP, nP, nP, nilS, bF]) 182) :: .b gl (row #[eS, eS, eS, eS, eS, eS, eS, eS] 9) :: []) w3 := HE.out
  refine hK.out _ _ ⟨HEc.drop.drop, (cel_ (blk_below hS HEc.drop.drop.b))⟩ (fun hHeld => ?_)
  clear hK K
  refine nq_ 13 ?_
  exact nx_ (hJ1_10 (gl, 0, 0, gv) _ ⟨HE.out, hgl, hgv⟩)
 ·skip
  refine ne_ 17 (row (#[.pointer (some ⟨gs, 0, none⟩), eS, i0, nP]) 178) (fun b => .pointer (some ⟨b, 0, none⟩)) ?_
  intro gc w3 HE0 hgc
  replace HE := asd_ (At.sink 1 HE0); clear HE0
  have HEc : At w (.b gv (row (#[.nilIface, nilS, nP, nP, nP, nilS, bF]) 182) :: .b gc (row (#[.pointer (some ⟨gs, 0, none⟩), eS, i0, nP]) 178) :: []) w3 := HE.out
  refine hK.out _ _ ⟨HEc.drop.drop, (cel_ (blk_below hS HEc.drop.drop.b))⟩ (fun hHeld => ?_)
  clear hK K
  refine nq_ 17 ?_
  exact nx_ (hJ5_10 (0, gc, 0, gv) _ ⟨HE.out, hgc, hgv⟩)
 ·skip
  refine ge_ Tryz.func98 #[vv, .pointer (some ⟨gs, 0, none⟩), .bool false] ?_
  with_reducible refine (HF.out _ HE.out.b).mono ?_
  rintro e w3 ⟨gu, rfl, hge, hgn, hb⟩
  refine ⟨_, rfl, ?_⟩
  have HE0 := At.came HE.out hb hge hgn
  have hgu : w.heap.size ≤ gu := Nat.le_trans HE.out.b.size hgn
  replace HE := asd_ (At.sink 1 HE0); clear HE0
  have HEc : At w (.b gv (row (#[.nilIface, nilS, nP, nP, nP, nilS, bF]) 182) :: .b gu (row #[nM, nM] 263) :: []) w3 := HE.out
  refine hK.out _ _ ⟨HEc.drop.drop, (cel_ (blk_below hS HEc.drop.drop.b))⟩ (fun hHeld => ?_)
  clear hK K
  refine nq_ 20 ?_
  exact nx_ (hJ8_10 (0, 0, gu, gv) _ ⟨HE.out, hgu, hgv⟩)
 rintro ⟨gl, gc, gu, gv⟩ w' ⟨HE0, hgu⟩
 have HE := asd_ HE0
 clear HE0
 have Ggu := asd_ hgu
 have hHeld := (show At w [] w' ∧ (∀ j, w'.cell? ⟨gs, j, none⟩ = (s.cells : Array Value)[j]?) from ⟨HE.out.drop, (cel_ (blk_below hS HE.out.drop.b))⟩)
 refine np_ ?_
 refine th_ 1 5 10 13 17 5 479 509 1501 (fun K hK => ?_) (fun K hK => ?_) (fun K hK => ?_)
 ·skip
  refine new_ HE.out (by rfl) (N := 13) (by rfl) (ob := row #[eS, eS, eS, eS, eS, eS, eS, eS] 9) (v := fun b => .slice (some ⟨b, 0, none⟩) 0 8) (by exact mk8 _) ?_
  intro gl w3 HE0 hgl
  replace HE := asd_ (At.sink 1 HE0); clear HE0
  have HEc : At w (.b gu (row #[nM, nM] 263) :: .b gl (row #[eS, eS, eS, eS, eS, eS, eS, eS] 9) :: []) w3 := HE.out
  refine hK.out _ _ ⟨HEc.drop.drop, (cel_ (blk_below hS HEc.drop.drop.b))⟩ (fun hHeld => ?_)
  clear hK K
  refine nq_ 13 ?_
  exact nx_ (hJ1_8 (gl, 0, gu, 0) _ ⟨HE.out, hgl, hgu⟩)
 ·skip
  refine ne_ 17 (row (#[.pointer (some ⟨gs, 0, none⟩), eS, i0, nP]) 178) (fun b => .pointer (some ⟨b, 0, none⟩)) ?_
  intro gc w3 HE0 hgc
  replace HE := asd_ (At.sink 1 HE0); clear HE0
  have HEc : At w (.b gu (row #[nM, nM] 263) :: .b gc (row (#[.pointer (some ⟨gs, 0, none⟩), eS, i0, nP]) 178) :: []) w3 := HE.out
  refine hK.out _ _ ⟨HEc.drop.drop, (cel_ (blk_below hS HEc.drop.drop.b))⟩ (fun hHeld => ?_)
  clear hK K
  refine nq_ 17 ?_
  exact nx_ (hJ5_8 (0, gc, gu, 0) _ ⟨HE.out, hgc, hgu⟩)
 ·skip
  refine ne_ 5 (row (#[.nilIface, nilS, nP, nP, nP, nilS, bF]) 182) (fun b => .pointer (some ⟨b, 0, none⟩)) ?_
  intro gv w3 HE0 hgv
  replace HE := asd_ (At.sink 0 HE0); clear HE0
  have HEc : At w (.b gv (row (#[.nilIface, nilS, nP, nP, nP, nilS, bF]) 182) :: .b gu (row #[nM, nM] 263) :: []) w3 := HE.out
  refine hK.out _ _ ⟨HEc.drop.drop, (cel_ (blk_below hS HEc.drop.drop.b))⟩ (fun hHeld => ?_)
  clear hK K
  refine nq_ 5 ?_
  exact nx_ (hJ8_10 (0, 0, gu, gv) _ ⟨HE.out, hgu, hgv⟩)
 rintro ⟨gl, gc, gu, gv⟩ w' ⟨HE0, hgc⟩
 have HE := asd_ HE0
 clear HE0
 have Ggc := asd_ hgc
 have hHeld := (show At w [] w' ∧ (∀ j, w'.cell? ⟨gs, j, none⟩ = (s.cells : Array Value)[j]?) from ⟨HE.out.drop, (cel_ (blk_below hS HE.out.drop.b))⟩)
 refine np_ ?_
 refine th_ 1 8 10 13 20 5 255 509 1277 (fun K hK => ?_) (fun K hK => ?_) (fun K hK => ?_)
 ·skip
  refine new_ HE.out (by rfl) (N := 13) (by rfl) (ob := row #[eS, eS, eS, eS, eS, eS, eS, eS] 9) (v := fun b => .slice (some ⟨b, 0, none⟩) 0 8) (by exact mk8 _) ?_
  intro gl w3 HE0 hgl
  replace HE := asd_ (At.sink 1 HE0); clear HE0
  have HEc : At w (.b gc (row (#[.pointer (some ⟨gs, 0, none⟩), eS, i0, nP]) 178) :: .b gl (row #[eS, eS, eS, eS, eS, eS, eS, eS] 9) :: []) w3 := HE.out
  refine hK.out _ _ ⟨HEc.drop.drop, (cel_ (blk_below hS HEc.drop.drop.b))⟩ (fun hHeld => ?_)
  clear hK K
  refine nq_ 13 ?_
  exact nx_ (hJ1_5 (gl, gc, 0, 0) _ ⟨HE.out, hgl, hgc⟩)
 ·skip
  refine ge_ Tryz.func98 #[vv, .pointer (some ⟨gs, 0, none⟩), .bool false] ?_
  with_reducible refine (HF.out _ HE.out.b).mono ?_
  rintro e w3 ⟨gu, rfl, hge, hgn, hb⟩
  refine ⟨_, rfl, ?_⟩
  have HE0 := At.came HE.out hb hge hgn
  have hgu : w.heap.size ≤ gu := Nat.le_trans HE.out.b.size hgn
  replace HE := asd_ (At.sink 0 HE0); clear HE0
  have HEc : At w (.b gu (row #[nM, nM] 263) :: .b gc (row (#[.pointer (some ⟨gs, 0, none⟩), eS, i0, nP]) 178) :: []) w3 := HE.out
  refine hK.out _ _ ⟨HEc.drop.drop, (cel_ (blk_below hS HEc.drop.drop.b))⟩ (fun hHeld => ?_)
  clear hK K
  refine nq_ 20 ?_
  exact nx_ (hJ5_8 (0, gc, gu, 0) _ ⟨HE.out, hgc, hgu⟩)
 ·skip
  refine ne_ 5 (row (#[.nilIface, nilS, nP, nP, nP, nilS, bF]) 182) (fun b => .pointer (some ⟨b, 0, none⟩)) ?_
  intro gv w3 HE0 hgv
  replace HE := asd_ (At.sink 0 HE0); clear HE0
  have HEc : At w (.b gv (row (#[.nilIface, nilS, nP, nP, nP, nilS, bF]) 182) :: .b gc (row (#[.pointer (some ⟨gs, 0, none⟩), eS, i0, nP]) 178) :: []) w3 := HE.out
  refine hK.out _ _ ⟨HEc.drop.drop, (cel_ (blk_below hS HEc.drop.drop.b))⟩ (fun hHeld => ?_)
  clear hK K
  refine nq_ 5 ?_
  exact nx_ (hJ5_10 (0, gc, 0, gv) _ ⟨HE.out, hgc, hgv⟩)
 rintro ⟨gl, gc, gu, gv⟩ w' ⟨HE0, hgl⟩
 have HE := asd_ HE0
 clear HE0
 have Ggl := asd_ hgl
 have hHeld := (show At w [] w' ∧ (∀ j, w'.cell? ⟨gs, j, none⟩ = (s.cells : Array Value)[j]?) from ⟨HE.out.drop, (cel_ (blk_below hS HE.out.drop.b))⟩)
 refine np_ ?_
 refine th_ 5 8 10 17 20 5 255 479 1247 (fun K hK => ?_) (fun K hK => ?_) (fun K hK => ?_)
 ·skip
  refine ne_ 17 (row (#[.pointer (some ⟨gs, 0, none⟩), eS, i0, nP]) 178) (fun b => .pointer (some ⟨b, 0, none⟩)) ?_
  intro gc w3 HE0 hgc
  replace HE := asd_ (At.sink 0 HE0); clear HE0
  have HEc : At w (.b gc (row (#[.pointer (some ⟨gs, 0, none⟩), eS, i0, nP]) 178) :: .b gl (row #[eS, eS, eS, eS, eS, eS, eS, eS] 9) :: []) w3 := HE.out
  refine hK.out _ _ ⟨HEc.drop.drop, (cel_ (blk_below hS HEc.drop.drop.b))⟩ (fun hHeld => ?_)
  clear hK K
  refine nq_ 17 ?_
  exact nx_ (hJ1_5 (gl, gc, 0, 0) _ ⟨HE.out, hgl, hgc⟩)
 ·skip
  refine ge_ Tryz.func98 #[vv, .pointer (some ⟨gs, 0, none⟩), .bool false] ?_
  with_reducible refine (HF.out _ HE.out.b).mono ?_
  rintro e w3 ⟨gu, rfl, hge, hgn, hb⟩
  refine ⟨_, rfl, ?_⟩
  have HE0 := At.came HE.out hb hge hgn
  have hgu : w.heap.size ≤ gu := Nat.le_trans HE.out.b.size hgn
  replace HE := asd_ (At.sink 0 HE0); clear HE0
  have HEc : At w (.b gu (row #[nM, nM] 263) :: .b gl (row #[eS, eS, eS, eS, eS, eS, eS, eS] 9) :: []) w3 := HE.out
  refine hK.out _ _ ⟨HEc.drop.drop, (cel_ (blk_below hS HEc.drop.drop.b))⟩ (fun hHeld => ?_)
  clear hK K
  refine nq_ 20 ?_
  exact nx_ (hJ1_8 (gl, 0, gu, 0) _ ⟨HE.out, hgl, hgu⟩)
 ·skip
  refine ne_ 5 (row (#[.nilIface, nilS, nP, nP, nP, nilS, bF]) 182) (fun b => .pointer (some ⟨b, 0, none⟩)) ?_
  intro gv w3 HE0 hgv
  replace HE := asd_ (At.sink 0 HE0); clear HE0
  have HEc : At w (.b gv (row (#[.nilIface, nilS, nP, nP, nP, nilS, bF]) 182) :: .b gl (row #[eS, eS, eS, eS, eS, eS, eS, eS] 9) :: []) w3 := HE.out
  refine hK.out _ _ ⟨HEc.drop.drop, (cel_ (blk_below hS HEc.drop.drop.b))⟩ (fun hHeld => ?_)
  clear hK K
  refine nq_ 5 ?_
  exact nx_ (hJ1_10 (gl, 0, 0, gv) _ ⟨HE.out, hgl, hgv⟩)
 rintro ⟨gl, gc, gu, gv⟩ w' ⟨HE0, hgu, hgv⟩
 have HE := asd_ HE0
 clear HE0
 have Ggu := asd_ hgu
 have Ggv := asd_ hgv
 have hHeld := (show At w [] w' ∧ (∀ j, w'.cell? ⟨gs, j, none⟩ = (s.cells : Array Value)[j]?) from ⟨HE.out.drop.drop, (cel_ (blk_below hS HE.out.drop.drop.b))⟩)
 refine np_ ?_
 refine tw_ 1 5 13 17 1503 1533 (fun K hK => ?_) (fun K hK => ?_)
 ·skip
  refine new_ HE.out (by rfl) (N := 13) (by rfl) (ob := row #[eS, eS, eS, eS, eS, eS, eS, eS] 9) (v := fun b => .slice (some ⟨b, 0, none⟩) 0 8) (by exact mk8 _) ?_
  intro gl w3 HE0 hgl
  replace HE := asd_ (At.sink 2 HE0); clear HE0
  have HEc : At w (.b gv (row (#[.nilIface, nilS, nP, nP, nP, nilS, bF]) 182) :: .b gu (row #[nM, nM] 263) :: .b gl (row #[eS, eS, eS, eS, eS, eS, eS, eS] 9) :: []) w3 := HE.out
  refine hK.out _ _ ⟨HEc.drop.drop.drop, (cel_ (blk_below hS HEc.drop.drop.drop.b))⟩ (fun hHeld => ?_)
  clear hK K
  refine nq_ 13 ?_
  exact nx_ (hJ1_8_10 (gl, 0, gu, gv) _ ⟨HE.out, hgl, hgu, hgv⟩)
 ·skip
  refine ne_ 17 (row (#[.pointer (some ⟨gs, 0, none⟩), eS, i0, nP]) 178) (fun b => .pointer (some ⟨b, 0, none⟩)) ?_
  intro gc w3 HE0 hgc
  replace HE := asd_ (At.sink 2 HE0); clear HE0
  have HEc : At w (.b gv (row (#[.nilIface, nilS, nP, nP, nP, nilS, bF]) 182) :: .b gu (row #[nM, nM] 263) :: .b gc (row (#[.pointer (some ⟨gs, 0, none⟩), eS, i0, nP]) 178) :: []) w3 := HE.out
  refine hK.out _ _ ⟨HEc.drop.drop.drop, (cel_ (blk_below hS HEc.drop.drop.drop.b))⟩ (fun hHeld => ?_)
  clear hK K
  refine nq_ 17 ?_
  exact nx_ (hJ5_8_10 (0, gc, gu, gv) _ ⟨HE.out, hgc, hgu, hgv⟩)
 rintro ⟨gl, gc, gu, gv⟩ w' ⟨HE0, hgc, hgv⟩
 have HE := asd_ HE0
 clear HE0
 have Ggc := asd_ hgc
 have Ggv := asd_ hgv
 have hHeld := (show At w [] w' ∧ (∀ j, w'.cell? ⟨gs, j, none⟩ = (s.cells : Array Value)[j]?) from ⟨HE.out.drop.drop, (cel_ (blk_below hS HE.out.drop.drop.b))⟩)
 refine np_ ?_
 refine tw_ 1 8 13 20 1279 1533 (fun K hK => ?_) (fun K hK => ?_)
 ·skip
  refine new_ HE.out (by rfl) (N := 13) (by rfl) (ob := row #[eS, eS, eS, eS, eS, eS, eS, eS] 9) (v := fun b => .slice (some ⟨b, 0, none⟩) 0 8) (by exact mk8 _) ?_
  intro gl w3 HE0 hgl
  replace HE := asd_ (At.sink 2 HE0); clear HE0
  have HEc : At w (.b gv (row (#[.nilIface, nilS, nP, nP, nP, nilS, bF]) 182) :: .b gc (row (#[.pointer (some ⟨gs, 0, none⟩), eS, i0, nP]) 178) :: .b gl (row #[eS, eS, eS, eS, eS, eS, eS, eS] 9) :: []) w3 := HE.out
  refine hK.out _ _ ⟨HEc.drop.drop.drop, (cel_ (blk_below hS HEc.drop.drop.drop.b))⟩ (fun hHeld => ?_)
  clear hK K
  refine nq_ 13 ?_
  exact nx_ (hJ1_5_10 (gl, gc, 0, gv) _ ⟨HE.out, hgl, hgc, hgv⟩)
 ·skip
  refine ge_ Tryz.func98 #[vv, .pointer (some ⟨gs, 0, none⟩), .bool false] ?_
  with_reducible refine (HF.out _ HE.out.b).mono ?_
  rintro e w3 ⟨gu, rfl, hge, hgn, hb⟩
  refine ⟨_, rfl, ?_⟩
  have HE0 := At.came HE.out hb hge hgn
  have hgu : w.heap.size ≤ gu := Nat.le_trans HE.out.b.size hgn
  replace HE := asd_ (At.sink 1 HE0); clear HE0
  have HEc : At w (.b gv (row (#[.nilIface, nilS, nP, nP, nP, nilS, bF]) 182) :: .b gu (row #[nM, nM] 263) :: .b gc (row (#[.pointer (some ⟨gs, 0, none⟩), eS, i0, nP]) 178) :: []) w3 := HE.out
  refine hK.out _ _ ⟨HEc.drop.drop.drop, (cel_ (blk_below hS HEc.drop.drop.drop.b))⟩ (fun hHeld => ?_)
  clear hK K
  refine nq_ 20 ?_
  exact nx_ (hJ5_8_10 (0, gc, gu, gv) _ ⟨HE.out, hgc, hgu, hgv⟩)
 rintro ⟨gl, gc, gu, gv⟩ w' ⟨HE0, hgc, hgu⟩
 have HE := asd_ HE0
 clear HE0
 have Ggc := asd_ hgc
 have Ggu := asd_ hgu
 have hHeld := (show At w [] w' ∧ (∀ j, w'.cell? ⟨gs, j, none⟩ = (s.cells : Array Value)[j]?) from ⟨HE.out.drop.drop, (cel_ (blk_below hS HE.out.drop.drop.b))⟩)
 refine np_ ?_
 refine tw_ 1 10 13 5 511 1533 (fun K hK => ?_) (fun K hK => ?_)
 ·skip
  refine new_ HE.out (by rfl) (N := 13) (by rfl) (ob := row #[eS, eS, eS, eS, eS, eS, eS, eS] 9) (v := fun b => .slice (some ⟨b, 0, none⟩) 0 8) (by exact mk8 _) ?_
  intro gl w3 HE0 hgl
  replace HE := asd_ (At.sink 2 HE0); clear HE0
  have HEc : At w (.b gu (row #[nM, nM] 263) :: .b gc (row (#[.pointer (some ⟨gs, 0, none⟩), eS, i0, nP]) 178) :: .b gl (row #[eS, eS, eS, eS, eS, eS, eS, eS] 9) :: []) w3 := HE.out
  refine hK.out _ _ ⟨HEc.drop.drop.drop, (cel_ (blk_below hS HEc.drop.drop.drop.b))⟩ (fun hHeld => ?_)
  clear hK K
  refine nq_ 13 ?_
  refine pu_ 9 21 1023 ?_
  exact nx_ (hJ1_5_8 (gl, gc, gu, 0) _ ⟨HE.out, hgl, hgc, hgu⟩)
 ·skip
  refine ne_ 5 (row (#[.nilIface, nilS, nP, nP, nP, nilS, bF]) 182) (fun b => .pointer (some ⟨b, 0, none⟩)) ?_
  intro gv w3 HE0 hgv
  replace HE := asd_ (At.sink 0 HE0); clear HE0
  have HEc : At w (.b gv (row (#[.nilIface, nilS, nP, nP, nP, nilS, bF]) 182) :: .b gu (row #[nM, nM] 263) :: .b gc (row (#[.pointer (some ⟨gs, 0, none⟩), eS, i0, nP]) 178) :: []) w3 := HE.out
  refine hK.out _ _ ⟨HEc.drop.drop.drop, (cel_ (blk_below hS HEc.drop.drop.drop.b))⟩ (fun hHeld => ?_)
  clear hK K
  refine nq_ 5 ?_
  exact nx_ (hJ5_8_10 (0, gc, gu, gv) _ ⟨HE.out, hgc, hgu, hgv⟩)
 rintro ⟨gl, gc, gu, gv⟩ w' ⟨HE0, hgl, hgv⟩
 have HE := asd_ HE0
 clear HE0
 have Ggl := asd_ hgl
 have Ggv := asd_ hgv
 have hHeld := (show At w [] w' ∧ (∀ j, w'.cell? ⟨gs, j, none⟩ = (s.cells : Array Value)[j]?) from ⟨HE.out.drop.drop, (cel_ (blk_below hS HE.out.drop.drop.b))⟩)
 refine np_ ?_
 refine tw_ 5 8 17 20 1279 1503 (fun K hK => ?_) (fun K hK => ?_)
 ·skip
  refine ne_ 17 (row (#[.pointer (some ⟨gs, 0, none⟩), eS, i0, nP]) 178) (fun b => .pointer (some ⟨b, 0, none⟩)) ?_
  intro gc w3 HE0 hgc
  replace HE := asd_ (At.sink 1 HE0); clear HE0
  have HEc : At w (.b gv (row (#[.nilIface, nilS, nP, nP, nP, nilS, bF]) 182) :: .b gc (row (#[.pointer (some ⟨gs, 0, none⟩), eS, i0, nP]) 178) :: .b gl (row #[eS, eS, eS, eS, eS, eS, eS, eS] 9) :: []) w3 := HE.out
  refine hK.out _ _ ⟨HEc.drop.drop.drop, (cel_ (blk_below hS HEc.drop.drop.drop.b))⟩ (fun hHeld => ?_)
  clear hK K
  refine nq_ 17 ?_
  exact nx_ (hJ1_5_10 (gl, gc, 0, gv) _ ⟨HE.out, hgl, hgc, hgv⟩)
 ·skip
  refine ge_ Tryz.func98 #[vv, .pointer (some ⟨gs, 0, none⟩), .bool false] ?_
  with_reducible refine (HF.out _ HE.out.b).mono ?_
  rintro e w3 ⟨gu, rfl, hge, hgn, hb⟩
  refine ⟨_, rfl, ?_⟩
  have HE0 := At.came HE.out hb hge hgn
  have hgu : w.heap.size ≤ gu := Nat.le_trans HE.out.b.size hgn
  replace HE := asd_ (At.sink 1 HE0); clear HE0
  have HEc : At w (.b gv (row (#[.nilIface, nilS, nP, nP, nP, nilS, bF]) 182) :: .b gu (row #[nM, nM] 263) :: .b gl (row #[eS, eS, eS, eS, eS, eS, eS, eS] 9) :: []) w3 := HE.out
  refine hK.out _ _ ⟨HEc.drop.drop.drop, (cel_ (blk_below hS HEc.drop.drop.drop.b))⟩ (fun hHeld => ?_)
  clear hK K
  refine nq_ 20 ?_
  exact nx_ (hJ1_8_10 (gl, 0, gu, gv) _ ⟨HE.out, hgl, hgu, hgv⟩)
 rintro ⟨gl, gc, gu, gv⟩ w' ⟨HE0, hgl, hgu⟩
 have HE := asd_ HE0
 clear HE0
 have Ggl := asd_ hgl
 have Ggu := asd_ hgu
 have hHeld := (show At w [] w' ∧ (∀ j, w'.cell? ⟨gs, j, none⟩ = (s.cells : Array Value)[j]?) from ⟨HE.out.drop.drop, (cel_ (blk_below hS HE.out.drop.drop.b))⟩)
 refine np_ ?_
 refine tw_ 5 10 17 5 511 1503 (fun K hK => ?_) (fun K hK => ?_)
 ·skip
  refine ne_ 17 (row (#[.pointer (some ⟨gs, 0, none⟩), eS, i0, nP]) 178) (fun b => .pointer (some ⟨b, 0, none⟩)) ?_
  intro gc w3 HE0 hgc
  replace HE := asd_ (At.sink 1 HE0); clear HE0
  have HEc : At w (.b gu (row #[nM, nM] 263) :: .b gc (row (#[.pointer (some ⟨gs, 0, none⟩), eS, i0, nP]) 178) :: .b gl (row #[eS, eS, eS, eS, eS, eS, eS, eS] 9) :: []) w3 := HE.out
  refine hK.out _ _ ⟨HEc.drop.drop.drop, (cel_ (blk_below hS HEc.drop.drop.drop.b))⟩ (fun hHeld => ?_)
  clear hK K
  refine nq_ 17 ?_
  refine pu_ 9 21 1023 ?_
  exact nx_ (hJ1_5_8 (gl, gc, gu, 0) _ ⟨HE.out, hgl, hgc, hgu⟩)
 ·skip
  refine ne_ 5 (row (#[.nilIface, nilS, nP, nP, nP, nilS, bF]) 182) (fun b => .pointer (some ⟨b, 0, none⟩)) ?_
  intro gv w3 HE0 hgv
  replace HE := asd_ (At.sink 0 HE0); clear HE0
  have HEc : At w (.b gv (row (#[.nilIface, nilS, nP, nP, nP, nilS, bF]) 182) :: .b gu (row #[nM, nM] 263) :: .b gl (row #[eS, eS, eS, eS, eS, eS, eS, eS] 9) :: []) w3 := HE.out
  refine hK.out _ _ ⟨HEc.drop.drop.drop, (cel_ (blk_below hS HEc.drop.drop.drop.b))⟩ (fun hHeld => ?_)
  clear hK K
  refine nq_ 5 ?_
  exact nx_ (hJ1_8_10 (gl, 0, gu, gv) _ ⟨HE.out, hgl, hgu, hgv⟩)
 rintro ⟨gl, gc, gu, gv⟩ w' ⟨HE0, hgl, hgc⟩
 have HE := asd_ HE0
 clear HE0
 have Ggl := asd_ hgl
 have Ggc := asd_ hgc
 have hHeld := (show At w [] w' ∧ (∀ j, w'.cell? ⟨gs, j, none⟩ = (s.cells : Array Value)[j]?) from ⟨HE.out.drop.drop, (cel_ (blk_below hS HE.out.drop.drop.b))⟩)
 refine np_ ?_
 refine tw_ 8 10 20 5 511 1279 (fun K hK => ?_) (fun K hK => ?_)
 ·skip
  refine ge_ Tryz.func98 #[vv, .pointer (some ⟨gs, 0, none⟩), .bool false] ?_
  with_reducible refine (HF.out _ HE.out.b).mono ?_
  rintro e w3 ⟨gu, rfl, hge, hgn, hb⟩
  refine ⟨_, rfl, ?_⟩
  have HE0 := At.came HE.out hb hge hgn
  have hgu : w.heap.size ≤ gu := Nat.le_trans HE.out.b.size hgn
  replace HE := asd_ (At.sink 0 HE0); clear HE0
  have HEc : At w (.b gu (row #[nM, nM] 263) :: .b gc (row (#[.pointer (some ⟨gs, 0, none⟩), eS, i0, nP]) 178) :: .b gl (row #[eS, eS, eS, eS, eS, eS, eS, eS] 9) :: []) w3 := HE.out
  refine hK.out _ _ ⟨HEc.drop.drop.drop, (cel_ (blk_below hS HEc.drop.drop.drop.b))⟩ (fun hHeld => ?_)
  clear hK K
  refine nq_ 20 ?_
  refine pu_ 9 21 1023 ?_
  exact nx_ (hJ1_5_8 (gl, gc, gu, 0) _ ⟨HE.out, hgl, hgc, hgu⟩)
 ·skip
  refine ne_ 5 (row (#[.nilIface, nilS, nP, nP, nP, nilS, bF]) 182) (fun b => .pointer (some ⟨b, 0, none⟩)) ?_
  intro gv w3 HE0 hgv
  replace HE := asd_ (At.sink 0 HE0); clear HE0
  have HEc : At w (.b gv (row (#[.nilIface, nilS, nP, nP, nP, nilS, bF]) 182) :: .b gc (row (#[.pointer (some ⟨gs, 0, none⟩), eS, i0, nP]) 178) :: .b gl (row #[eS, eS, eS, eS, eS, eS, eS, eS] 9) :: []) w3 := HE.out
  refine hK.out _ _ ⟨HEc.drop.drop.drop, (cel_ (blk_below hS HEc.drop.drop.drop.b))⟩ (fun hHeld => ?_)
  clear hK K
  refine nq_ 5 ?_
  exact nx_ (hJ1_5_10 (gl, gc, 0, gv) _ ⟨HE.out, hgl, hgc, hgv⟩)
 rintro ⟨gl, gc, gu, gv⟩ w' ⟨HE0, hgc, hgu, hgv⟩
 have HE := asd_ HE0
 clear HE0
 have Ggc := asd_ hgc
 have Ggu := asd_ hgu
 have Ggv := asd_ hgv
 have hHeld := (show At w [] w' ∧ (∀ j, w'.cell? ⟨gs, j, none⟩ = (s.cells : Array Value)[j]?) from ⟨HE.out.drop.drop.drop, (cel_ (blk_below hS HE.out.drop.drop.drop.b))⟩)
 refine np_ ?_
 refine on_ 1 13 1535 (fun K hK => ?_)
 refine new_ HE.out (by rfl) (N := 13) (by rfl) (ob := row #[eS, eS, eS, eS, eS, eS, eS, eS] 9) (v := fun b => .slice (some ⟨b, 0, none⟩) 0 8) (by exact mk8 _) ?_
 intro gl w3 HE0 hgl
 replace HE := asd_ (At.sink 3 HE0); clear HE0
 have HEc : At w (.b gv (row (#[.nilIface, nilS, nP, nP, nP, nilS, bF]) 182) :: .b gu (row #[nM, nM] 263) :: .b gc (row (#[.pointer (some ⟨gs, 0, none⟩), eS, i0, nP]) 178) :: .b gl (row #[eS, eS, eS, eS, eS, eS, eS, eS] 9) :: []) w3 := HE.out
 refine hK.out _ _ ⟨HEc.drop.drop.drop.drop, (cel_ (blk_below hS HEc.drop.drop.drop.drop.b))⟩ (fun hHeld => ?_)
 clear hK K
 refine nq_ 13 ?_
 refine pu_ 9 21 2047 ?_
 exact nx_ (hJ1_5_8_10 (gl, gc, gu, gv) _ ⟨HE.out, hgl, hgc, hgu, hgv⟩)
 rintro ⟨gl, gc, gu, gv⟩ w' ⟨HE0, hgl, hgu, hgv⟩
 have HE := asd_ HE0
 clear HE0
 have Ggl := asd_ hgl
 have Ggu := asd_ hgu
 have Ggv := asd_ hgv
 have hHeld := (show At w [] w' ∧ (∀ j, w'.cell? ⟨gs, j, none⟩ = (s.cells : Array Value)[j]?) from ⟨HE.out.drop.drop.drop, (cel_ (blk_below hS HE.out.drop.drop.drop.b))⟩)
 refine np_ ?_
 refine on_ 5 17 1535 (fun K hK => ?_)
 refine ne_ 17 (row (#[.pointer (some ⟨gs, 0, none⟩), eS, i0, nP]) 178) (fun b => .pointer (some ⟨b, 0, none⟩)) ?_
 intro gc w3 HE0 hgc
 replace HE := asd_ (At.sink 2 HE0); clear HE0
 have HEc : At w (.b gv (row (#[.nilIface, nilS, nP, nP, nP, nilS, bF]) 182) :: .b gu (row #[nM, nM] 263) :: .b gc (row (#[.pointer (some ⟨gs, 0, none⟩), eS, i0, nP]) 178) :: .b gl (row #[eS, eS, eS, eS, eS, eS, eS, eS] 9) :: []) w3 := HE.out
 refine hK.out _ _ ⟨HEc.drop.drop.drop.drop, (cel_ (blk_below hS HEc.drop.drop.drop.drop.b))⟩ (fun hHeld => ?_)
 clear hK K
 refine nq_ 17 ?_
 refine pu_ 9 21 2047 ?_
 exact nx_ (hJ1_5_8_10 (gl, gc, gu, gv) _ ⟨HE.out, hgl, hgc, hgu, hgv⟩)
 rintro ⟨gl, gc, gu, gv⟩ w' ⟨HE0, hgl, hgc, hgv⟩
 have HE := asd_ HE0
 clear HE0
 have Ggl := asd_ hgl
 have Ggc := asd_ hgc
 have Ggv := asd_ hgv
 have hHeld := (show At w [] w' ∧ (∀ j, w'.cell? ⟨gs, j, none⟩ = (s.cells : Array Value)[j]?) from ⟨HE.out.drop.drop.drop, (cel_ (blk_below hS HE.out.drop.drop.drop.b))⟩)
 refine np_ ?_
 refine on_ 8 20 1535 (fun K hK => ?_)
 refine ge_ Tryz.func98 #[vv, .pointer (some ⟨gs, 0, none⟩), .bool false] ?_
 with_reducible refine (HF.out _ HE.out.b).mono ?_
 rintro e w3 ⟨gu, rfl, hge, hgn, hb⟩
 refine ⟨_, rfl, ?_⟩
 have HE0 := At.came HE.out hb hge hgn
 have hgu : w.heap.size ≤ gu := Nat.le_trans HE.out.b.size hgn
 replace HE := asd_ (At.sink 1 HE0); clear HE0
 have HEc : At w (.b gv (row (#[.nilIface, nilS, nP, nP, nP, nilS, bF]) 182) :: .b gu (row #[nM, nM] 263) :: .b gc (row (#[.pointer (some ⟨gs, 0, none⟩), eS, i0, nP]) 178) :: .b gl (row #[eS, eS, eS, eS, eS, eS, eS, eS] 9) :: []) w3 := HE.out
 refine hK.out _ _ ⟨HEc.drop.drop.drop.drop, (cel_ (blk_below hS HEc.drop.drop.drop.drop.b))⟩ (fun hHeld => ?_)
 clear hK K
 refine nq_ 20 ?_
 refine pu_ 9 21 2047 ?_
 exact nx_ (hJ1_5_8_10 (gl, gc, gu, gv) _ ⟨HE.out, hgl, hgc, hgu, hgv⟩)
 rintro ⟨gl, gc, gu, gv⟩ w' ⟨HE0, hgl, hgc, hgu⟩
 have HE := asd_ HE0
 clear HE0
 have Ggl := asd_ hgl
 have Ggc := asd_ hgc
 have Ggu := asd_ hgu
 have hHeld := (show At w [] w' ∧ (∀ j, w'.cell? ⟨gs, j, none⟩ = (s.cells : Array Value)[j]?) from ⟨HE.out.drop.drop.drop, (cel_ (blk_below hS HE.out.drop.drop.drop.b))⟩)
 refine np_ ?_
 refine on_ 10 5 2047 (fun K hK => ?_)
 refine ne_ 5 (row (#[.nilIface, nilS, nP, nP, nP, nilS, bF]) 182) (fun b => .pointer (some ⟨b, 0, none⟩)) ?_
 intro gv w3 HE0 hgv
 replace HE := asd_ (At.sink 0 HE0); clear HE0
 have HEc : At w (.b gv (row (#[.nilIface, nilS, nP, nP, nP, nilS, bF]) 182) :: .b gu (row #[nM, nM] 263) :: .b gc (row (#[.pointer (some ⟨gs, 0, none⟩), eS, i0, nP]) 178) :: .b gl (row #[eS, eS, eS, eS, eS, eS, eS, eS] 9) :: []) w3 := HE.out
 refine hK.out _ _ ⟨HEc.drop.drop.drop.drop, (cel_ (blk_below hS HEc.drop.drop.drop.drop.b))⟩ (fun hHeld => ?_)
 clear hK K
 refine nq_ 5 ?_
 exact nx_ (hJ1_5_8_10 (gl, gc, gu, gv) _ ⟨HE.out, hgl, hgc, hgu, hgv⟩)
 rintro ⟨gl, gc, gu, gv⟩ w' ⟨HE0, hgl, hgc, hgu, hgv⟩
 have HE := asd_ HE0
 clear HE0
 have Ggl := asd_ hgl
 have Ggc := asd_ hgc
 have Ggu := asd_ hgu
 have Ggv := asd_ hgv
 have hHeld := (show At w [] w' ∧ (∀ j, w'.cell? ⟨gs, j, none⟩ = (s.cells : Array Value)[j]?) from ⟨HE.out.drop.drop.drop.drop, (cel_ (blk_below hS HE.out.drop.drop.drop.drop.b))⟩)
 refine np_ ?_
 refine lz_ 11 4095 (fun K hK => ?_)
 refine storerow_ (cs := #[.nilIface, nilS, nP, nP, nP, nilS, bF]) (g := gv) 0 (vdc vv ⟨gl, 0, none⟩ (.pointer (some ⟨gs, 0, none⟩)) (.pointer (some ⟨gc, 0, none⟩)) (.pointer (some ⟨gu, 0, none⟩)) nilS) HE.out rfl Ggv.out rfl (by rfl) rfl rfl rfl rfl kr_ rfl (one_vdc Hvv.out) ?_
 intro w3 HE0
 replace HE := asd_ HE0; clear HE0
 refine hK.out _ _ ?_
 clear hK K
 refine done_ kr_ ?_
 clear HK; have HK := HE; clear HE
 clear hHeld
 clear bgs
 have bgv := cE HK 0
 have bgs := cel_ (blk_below hS HK.out.b)
 go_wp2_with (first | ((with_reducible refine gd_ 23 ?_); refine goesL_ _ rfl rfl Tryz.func99 kr_ rfl #[.pointer (some ⟨gv, 0, none⟩)] rfl ar_ ((HV.out _ _ gv gc ⟨gl, 0, none⟩ (.pointer (some ⟨gu, 0, none⟩)) (At.front 1 (At.front 2 HK.out rfl) rfl) Ggv.out).mono ?_); rintro e wc23 ⟨ge, gki, Ae, ce, Y, rfl, hY, HK1⟩; refine ⟨_, rfl, ?_⟩; have HY := asd_ hY; clear hY; replace HK := asd_ HK1; clear HK1; clear bgv bgs; have bge := cE HK 0; have bgs := cel_ (blk_below hS HK.out.b)) | ((with_reducible refine gd_ 44 ?_); refine new_at at_ rfl (N := 44) rfl (ob := row #[.pointer (some ⟨ge, 0, none⟩)] 76) (v := (fun b => .slice (some ⟨b, 0, none⟩) 1 1)) (by exact lit1_run Tryz.underlying127 info76 rfl rfl rfl rfl) ?_; intro gz wb44 HK1 hggz; have Ggz := asd_ hggz; clear hggz; replace HK := asd_ HK1; clear HK1; clear bge bgs; have bge := cE HK 1; have bgs := cel_ (blk_below hS HK.out.b)))
 refine st_ 16 (fun w' => At w (.b gz (row #[.pointer (some ⟨ge, 0, none⟩)] 76) :: .b ge (row (vec s.loc Ae ce (.iface tk (.pointer (some ⟨gki, 0, none⟩))) nilS) 129) :: Y) w' ∧ (∀ j, w'.cell? ⟨ge, j, none⟩ = (vec s.loc Ae ce (.iface tk (.pointer (some ⟨gki, 0, none⟩))) nilS : Array Value)[j]?) ∧ (∀ j, w'.cell? ⟨gs, j, none⟩ = (s.cells : Array Value)[j]?)) [] (fun A => ⟨A, (cA A 1), (cel_ (blk_below hS A.b))⟩) (fun hHeld => ?_)
 refine pu_ 0 45 1 ?_
 refine pu_ 1 46 3 ?_
 refine pu_ 2 47 7 ?_
 refine pu_ 4 49 23 ?_
 refine pu_ 5 50 55 ?_
 refine pu_ 6 51 119 ?_
 refine pu_ 11 56 2167 ?_
 refine ta3_ 3 48 2175 hHeld ?_
 refine ta3_ 7 52 2303 hHeld ?_
 refine pu_ 8 53 2559 ?_
 refine on_ 9 54 3071 (fun K hK => ?_)
 have HE := asd_ (hHeld.1)
 refine ne_ 54 (row #[.string s.loc] 189) ((fun b => .pointer (some ⟨b, 0, none⟩))) ?_
 intro gk2 w3 HE0 hggk2
 have Ggk2 := asd_ hggk2
 clear hggk2
 replace HE := asd_ HE0; clear HE0
 refine hK.out _ _ ⟨HE.out.drop, (cel_ HE.out.drop.k.2.1), (cel_ (blk_below hS HE.out.drop.b))⟩ (fun hHeld => ?_)
 clear hK K
 refine nq_ 54 ?_
 refine pu_ 10 55 4095 ?_
 refine pu_ 12 57 8191 ?_
 refine on_ 13 58 16383 (fun K hK => ?_)
 refine ne_ 58 (row #[.string s.loc, nilS, .iface 187 (.pointer (some ⟨gk2, 0, none⟩)), .slice (some ⟨gz, 0, none⟩) 1 1] 129) ((fun b => .pointer (some ⟨b, 0, none⟩))) ?_
 intro gr w3 HE0 hggr
 have Ggr := asd_ hggr
 clear hggr
 replace HE := asd_ HE0; clear HE0
 refine hK.out _ _ ⟨HE.out.drop.drop, (cel_ HE.out.drop.drop.k.2.1), (cel_ (blk_below hS HE.out.drop.drop.b))⟩ (fun hHeld => ?_)
 clear hK K
 refine nq_ 58 ?_
 refine pu_ 14 59 32767 ?_
 refine pu_ 15 4 65535 ?_
 refine done_ kr_ ?_
 clear HK; have HK := HE; clear HE
 clear hHeld
 clear bge bgs
 have bge := cE HK 3
 have bgs := cel_ (blk_below hS HK.out.b)
 go_wp2_with fail
 go_ret
 exact ⟨gr, gk2, gz, ge, gki, Ae, ce, Y, rfl, HY.out, HK.out⟩
end Go.Proofs.YtkphbhncpdcbeaaGreatDoor.J
