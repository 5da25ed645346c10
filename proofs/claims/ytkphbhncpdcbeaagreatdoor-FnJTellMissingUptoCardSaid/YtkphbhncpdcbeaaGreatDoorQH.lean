/- Part of a proof. -/
import Derived.Test.YtkphbhncpdcbeaaGreatDoorQE
import Derived.Test.YtkphbhncpdcbeaaGreatDoorQC
import Derived.Test.YtkphbhncpdcbeaaGreatDoorQK
import Derived.Test.YtkphbhncpdcbeaaGreatDoorQF
namespace Go.Proofs.YtkphbhncpdcbeaaGreatDoor.J
open Go.RowKit Go.Proofs.YtkphbhncpdcbeaaGreatDoorW.PrintWords Go.Proofs.YtkphbhncpdcbeaaGreatDoorW.PrintLast Go.Proofs.YtkphbhncpdcbeaaGreatDoorW.PrintMore Go.Proofs.YtkphbhncpdcbeaaGreatDoor.PJT
set_option maxHeartbeats 4000000 in
set_option maxRecDepth 100000 in
theorem clone_ok (w : World) (ad : Addr) (c : Nat) (l0 : List ByteArray) (hr : Kd.C Kd.string w (some ad) l0.length l0) (hl : l0.length < 8796093022208) :
  Calls Tryz.prog 207 #[.slice (some ad) l0.length c] w fun e w' => ∃ v, e = .returned v ∧ (Fact.strs v l0).P w' ∧ Below w.heap.size w w' := by
 have hne : ∀ W : World, (binOp BinOp.eql 22 (Value.slice (some ad) l0.length c) (Value.slice none 0 0)).run Tryz.prog W = .ok (.bool false) W := fun W => by first | rfl | kernel_rfl | simp [binOp, go_sem]
 have HB := asd_ (Below.refl w.heap.size w)
 have HR0 := asd_ hr
 clear hr
 go_enter Tryz.func207, Tryz.ntmps207
 go_wp2_with (first | ((with_reducible refine gd_ 5 ?_); refine Kd.R_lit Kd.string _ 9 ?hg (N := 5) ?hd (xs := ([] : List ByteArray)) (inner := []) (ok := fun _ => True) (okp := fun _ => True) ?hr ?hp (fun _ hk => hk) trivial (Below.refl _ _) (Nat.le_refl _) (by simp) ?_; (case hd => rfl); (case hg => rfl); (case hr => first | (go_simp; done) | (go_simp; rfl)); (case hp => exact (Reps.none _ _)); intro v181 w3 ho4 hb hg_ hnew_; clear hg_ hnew_; have n0_ := asd_ (Kd.R_lower ho4 (below_size HB.out)); have n1_ := asd_ (below_step HB.out hb); clear HB; have HO182 := n0_; have HB := n1_; clear n0_ n1_; clear hb ho4) | ((with_reducible refine gate_builtin (b := .append) (xs := #[.tmp 5, .tmp 6]) rfl ?_); at_builtin; refine Kd.R_append_rows Kd.string (w0 := w) w.heap.size rfl (.tmp 5) (.tmp 6) 22 9 (.string ⟨#[]⟩) 16 rfl Tryz.underlying22 info9 rfl (by decide) (by omega) v181 ([] : List ByteArray) l0 _ _ _ (fun _ => True) (fun _ => False) rfl rfl ?aO ?aR (fun _ _ h => h) (fun _ h => h.elim) ?aF ?aB ?aS ?aL ?_; (case aR => exact (Kd.C_below HR0.out HB.out)); (case aB => exact HB.out); (case aF => exact (fun _ _ => trivial)); (case aO => exact HO182.out); (case aS => exact (below_size HB.out)); (case aL => have := hl; simp; omega); intro v184 w5 ho hb hg hat; have n0_ := asd_ (hb); have n1_ := asd_ (ho); clear HB; clear HO182; have HB := n0_; have HO185 := n1_; clear n0_ n1_; clear ho hb hg hat))
 go_ret
 exact ⟨_, rfl, Kd.R_lower HO185.out (Nat.zero_le _), HB.out⟩
end Go.Proofs.YtkphbhncpdcbeaaGreatDoor.J
namespace Go.Proofs.YtkphbhncpdcbeaaGreatDoor.J
open Go.RowKit Go.Proofs.YtkphbhncpdcbeaaGreatDoorW.PrintWords Go.Proofs.YtkphbhncpdcbeaaGreatDoorW.PrintLast Go.Proofs.YtkphbhncpdcbeaaGreatDoorW.PrintMore Go.Proofs.YtkphbhncpdcbeaaGreatDoor.PJT
attribute [local go_sem] Nd.csize Sc.csize Nd.c0 Nd.c1 Nd.c2 Nd.c3 Nd.c4 Nd.c5 Nd.c6 Nd.c7 Nd.c8 Nd.c9 Nd.c10 Nd.c11 Nd.c12 Nd.c13 Nd.c14 Nd.c15 Nd.c16 Nd.c17 Nd.c18 Nd.c19 Nd.c20 Nd.c21 Nd.c22 Nd.c23 Nd.c24 Nd.c25 Nd.c26 Nd.c27 Nd.c28 Nd.c29 Nd.c30 Nd.c31 Nd.c32 Nd.c33 Nd.c34 Nd.c35 Nd.c36 Nd.c37 Nd.c38 Nd.c39 Nd.c40 Nd.c41 Nd.c42 Nd.c43 Nd.c44 Nd.c45 Nd.c46 Nd.c47 Nd.c48 Nd.c49 Nd.c50 Nd.c51 Nd.c52 Sc.c0 Sc.c1 Sc.c2 Sc.c3 Sc.c4 Sc.c5 Sc.c6 Sc.c7 Sc.c8 Sc.c9 Sc.c10 Sc.c11 Sc.c12 Sc.c13 Sc.c14 Sc.c15 Sc.c16 Sc.c17 Sc.c18 Sc.c19 Sc.c20 Sc.c21 Sc.c22 Sc.c23 Sc.c24 Sc.c25 Sc.c26 Sc.c27 Sc.c28 Sc.c29 Sc.c30 Sc.c31 Sc.c32 Sc.c33 Sc.c34 Sc.c35 Sc.c36 Sc.c37 Sc.c38 Sc.c39 Sc.c40 Sc.c41 Sc.c42 Sc.c43 Sc.c44 Sc.c45 Sc.c46 Sc.c47 Sc.c48 Sc.c49 Sc.c50 Sc.c51 Sc.c52
set_option linter.unusedVariables false
set_option linter.unusedSimpArgs false
set_option maxHeartbeats 4000000 in
set_option maxRecDepth 100000 in
theorem place_ok (w : World) (gv : Nat) (vv sp cp up er : Value) (ad : Addr) (c : Nat) (l0 : List ByteArray) (hr : Kd.C Kd.string w (some ad) l0.length l0) (hl : l0.length < 8796093022208) (hv : w.heap[gv]? = some (row (#[vv, .slice (some ad) l0.length c, sp, cp, up, er, .bool false]) 182)) :
  Calls Tryz.prog 173 #[.pointer (some ⟨gv, 0, none⟩)] w fun e w' => ∃ v, e = .returned v ∧ (Fact.strs v l0).P w' ∧ Below w.heap.size w w' := by
 have HK : Aside0 (At w [.b gv (row (#[vv, .slice (some ad) l0.length c, sp, cp, up, er, .bool false]) 182)] w) := asd_ (At.hold (At.start w) hv (by simp [nums]))
 have bgv := cE HK 0
 go_enter Tryz.func173, Tryz.ntmps173
 go_wp2_with (first | ((with_reducible refine gd_ 7 ?_); refine cw_ #[.slice (some ad) l0.length c] Tryz.func207 (clone_ok _ ad c l0 (Kd.C_below hr HK.out.b) hl) ?_; intro v7 wc7 HK0 hF hB; have HK1 := At.fact (Fact.strs v7 l0) HK0 hF; clear HK0 hF hB; replace HK := asd_ HK1; clear HK1; clear bgv; have bgv := cE HK 1))
 go_ret
 exact ⟨_, rfl, HK.out.k.1, HK.out.b⟩
abbrev vec (loc : ByteArray) (A : Option Addr) (c : Nat) (kd ca : Value) : Array Value := #[.string loc, .slice A 0 c, kd, ca]
theorem At.top {w W : World} {g : Nat} {o : Obj} {l : List Blk} (h : At w (.b g o :: l) W) : W.heap[g]? = some o := h.k.1
theorem E76 : ∀ q, q ∈ 76 :: kPtr.E → datT q = true := by
 intro q hq
 have : q = 76 := by simpa [kPtr, Kd.scalar] using hq
 rw [this]; rfl
theorem info76 : (Tryz.prog.info? 76).map (fun i => (i.zero, i.size, i.bytes)) = some (some (.pointer none), 1, 8) := by kernel_rfl
theorem place_nil (w : World) (gv : Nat) (vv : Value) (ad : Addr) (sp cp up er : Value) (hv : w.heap[gv]? = some (row (vdc vv ad sp cp up er) 182)) :
  Calls Tryz.prog 173 #[.pointer (some ⟨gv, 0, none⟩)] w fun e w' => ∃ A c, e = .returned (.slice A 0 c) ∧ Below w.heap.size w w' := by
 refine (place_ok w gv vv sp cp up er ad 8 [] ⟨rfl, by simp, fun h => absurd h (Nat.lt_irrefl _)⟩ (by simp) hv).mono ?_
 rintro e w' ⟨v, rfl, hF, hb⟩
 obtain ⟨A, c, e⟩ := Kd.R_slice (show Kd.R Kd.string 9 _ _ _ v [] from hF)
 exact ⟨A, c, congrArg _ e, hb⟩
set_option maxHeartbeats 4000000 in
set_option maxRecDepth 100000 in
theorem error_ok (w : World) (gv gs gk : Nat) (tk : TypeId) (vv : Value) (ad : Addr) (cp up : Value) (s : Sc) (hv : w.heap[gv]? = some (row (vdc vv ad (.pointer (some ⟨gs, 0, none⟩)) cp up nilS) 182)) (hS : w.heap[gs]? = some (row s.cells 119)) :
  Calls Tryz.prog 136 #[.pointer (some ⟨gv, 0, none⟩), .iface tk (.pointer (some ⟨gk, 0, none⟩))] w fun e w' => ∃ ge Ae ce, e = .returned (.pointer (some ⟨ge, 0, none⟩)) ∧ w'.heap[ge]? = some (row (vec s.loc Ae ce (.iface tk (.pointer (some ⟨gk, 0, none⟩))) nilS) 129) ∧ w.heap.size ≤ ge ∧ Below w.heap.size w w' := by
 have HK : Aside0 (At w [.b gv (row (vdc vv ad (.pointer (some ⟨gs, 0, none⟩)) cp up nilS) 182)] w) := asd_ (At.hold (At.start w) hv (by simp [nums]))
 have bgv := cE HK 0; have bgs := cel_ (blk_below hS HK.out.b)
 go_enter Tryz.func136, Tryz.ntmps136
 go_wp2_with fail
 refine st_ 13 (fun w' => At w [.b gv (row (vdc vv ad (.pointer (some ⟨gs, 0, none⟩)) cp up nilS) 182)] w' ∧ (∀ j, w'.cell? ⟨gv, j, none⟩ = (vdc vv ad (.pointer (some ⟨gs, 0, none⟩)) cp up nilS : Array Value)[j]?) ∧ (∀ j, w'.cell? ⟨gs, j, none⟩ = (s.cells : Array Value)[j]?)) [] (fun A => ⟨A, (cA A 0), (cel_ (blk_below hS A.b))⟩) (fun hHeld => ?_)
 refine pu_ 0 11 1 ?_
 refine pu_ 1 12 3 ?_
 refine pu_ 2 13 7 ?_
 refine pu_ 7 18 135 ?_
 refine pu_ 9 20 647 ?_
 refine ta3_ 3 14 655 hHeld ?_
 refine pu_ 4 15 671 ?_
 refine pu_ 5 16 703 ?_
 refine ta3_ 6 17 767 hHeld ?_
 refine on_ 8 19 1023 (fun K hK => ?_)
 have HE := asd_ (hHeld.1)
 refine ge_ Tryz.func173 #[.pointer (some ⟨gv, 0, none⟩)] ?_
 with_reducible refine (place_nil _ gv vv ad (.pointer (some ⟨gs, 0, none⟩)) cp up nilS (blk_below hv HE.out.b)).mono ?_
 rintro e w3 ⟨Ae, ce, rfl, hb⟩
 refine ⟨_, rfl, ?_⟩
 have HE0 := At.step HE.out hb
 replace HE := asd_ HE0; clear HE0
 refine hK.out _ _ ⟨HE.out, (cE HE 0), (cel_ (blk_below hS HE.out.b))⟩ (fun hHeld => ?_)
 clear hK K
 refine nq_ 19 ?_
 refine pu_ 10 21 2047 ?_
 refine on_ 11 22 4095 (fun K hK => ?_)
 refine ne_ 22 (row (vec s.loc Ae ce (.iface tk (.pointer (some ⟨gk, 0, none⟩))) nilS) 129) ((fun b => .pointer (some ⟨b, 0, none⟩))) ?_
 intro ge w3 HE0 hgge
 have Gge := asd_ hgge
 clear hgge
 replace HE := asd_ HE0; clear HE0
 refine hK.out _ _ ⟨HE.out.drop, (cel_ HE.out.drop.k.1), (cel_ (blk_below hS HE.out.drop.b))⟩ (fun hHeld => ?_)
 clear hK K
 refine nq_ 22 ?_
 refine pu_ 12 4 8191 ?_
 refine done_ kr_ ?_
 clear HK; have HK := HE; clear HE
 clear hHeld
 clear bgv bgs
 have bgv := cE HK 1
 have bgs := cel_ (blk_below hS HK.out.b)
 go_wp2_with fail
 go_ret
 exact ⟨ge, Ae, ce, rfl, HK.out.k.1, Gge.out, HK.out.b⟩
theorem results_tmp4 {fn : Func} {t u v x : Tmp} (h : fn.results = #[.tmp t, .tmp u, .tmp v, .tmp x]) (tmps : Array Value) (P : Program) (w : World) :
  (results fn tmps).run P w = .ok (.tuple #[tmps.getD t undef, tmps.getD u undef, tmps.getD v undef, tmps.getD x undef]) w := by
 simp [results, h]
theorem copied_ok {w : World} {A : Option Addr} {names : List ByteArray} {c : Nat} (hr : Kd.C Kd.string w A names.length names) (hc : names.length ≤ c) (hlen : names.length < 8796093022208) :
  Calls Tryz.prog 55 #[.slice A names.length c] w fun e w' => ∃ v, e = .returned v ∧ (∃ A' c', v = .slice A' names.length c' ∧ (Fact.strs (.slice A' names.length c') names).P w') ∧ Below w.heap.size w w' := by
 refine (impl_copied.calls A c names names w hr hc (by simp [impl_copied.f, hlen])).mono ?_
 rintro e w' ⟨v, rfl, hR, hb⟩
 obtain ⟨A', c', rfl, _⟩ := Kd.R_reads hR
 exact ⟨_, rfl, ⟨A', c', rfl, Kd.R_lower hR (Nat.zero_le _)⟩, hb⟩
theorem reads_nil (W : World) : Kd.C Kd.string W none 0 ([] : List ByteArray) := ⟨rfl, by omega, fun h => absurd h (Nat.lt_irrefl _)⟩
theorem reads_two {W : World} {g : Nat} {p q : ByteArray} (h : W.heap[g]? = some (row #[.string p, .string q] 9)) : Kd.C Kd.string W (some ⟨g, 0, none⟩) 2 [p, q] := by
 refine ⟨rfl, by omega, fun _ => ⟨_, rfl, fun j x hj => ?_⟩⟩
 match j, hj with
 | 0, hj =>
  obtain rfl : p = x := by simpa using hj
  refine ⟨[.string p], rfl, rfl, fun i u hu => ?_⟩
  match i, hu with
  | 0, hu =>
   obtain rfl : Value.string p = u := by simpa using hu
   exact blk_cell h 0
 | 1, hj =>
  obtain rfl : q = x := by simpa using hj
  refine ⟨[.string q], rfl, rfl, fun i u hu => ?_⟩
  match i, hu with
  | 0, hu =>
   obtain rfl : Value.string q = u := by simpa using hu
   exact blk_cell h 1
theorem tk_req_190 (v : Value) (W : World) : (Instr.typeAssert (.iface 193 v) 126 190 true).run Tryz.prog W = .ok (.tuple #[.pointer none, .bool false]) W := by kernel_rfl
theorem tk_req_193 (v : Value) (W : World) : (Instr.typeAssert (.iface 193 v) 126 193 true).run Tryz.prog W = .ok (.tuple #[v, .bool true]) W := by kernel_rfl
theorem tk_req_185 (v : Value) (W : World) : (Instr.typeAssert (.iface 193 v) 126 185 true).run Tryz.prog W = .ok (.tuple #[.pointer none, .bool false]) W := by kernel_rfl
theorem tk_dep_190 (v : Value) (W : World) : (Instr.typeAssert (.iface 199 v) 126 190 true).run Tryz.prog W = .ok (.tuple #[.pointer none, .bool false]) W := by kernel_rfl
theorem tk_dep_193 (v : Value) (W : World) : (Instr.typeAssert (.iface 199 v) 126 193 true).run Tryz.prog W = .ok (.tuple #[.pointer none, .bool false]) W := by kernel_rfl
theorem tk_dep_196 (v : Value) (W : World) : (Instr.typeAssert (.iface 199 v) 126 196 true).run Tryz.prog W = .ok (.tuple #[.pointer none, .bool false]) W := by kernel_rfl
theorem tk_dep_199 (v : Value) (W : World) : (Instr.typeAssert (.iface 199 v) 126 199 true).run Tryz.prog W = .ok (.tuple #[v, .bool true]) W := by kernel_rfl
theorem tk_dep_185 (v : Value) (W : World) : (Instr.typeAssert (.iface 199 v) 126 185 true).run Tryz.prog W = .ok (.tuple #[.pointer none, .bool false]) W := by kernel_rfl
theorem tk_false_190 (v : Value) (W : World) : (Instr.typeAssert (.iface 267 v) 126 190 true).run Tryz.prog W = .ok (.tuple #[.pointer none, .bool false]) W := by kernel_rfl
theorem tk_false_193 (v : Value) (W : World) : (Instr.typeAssert (.iface 267 v) 126 193 true).run Tryz.prog W = .ok (.tuple #[.pointer none, .bool false]) W := by kernel_rfl
theorem tk_false_196 (v : Value) (W : World) : (Instr.typeAssert (.iface 267 v) 126 196 true).run Tryz.prog W = .ok (.tuple #[.pointer none, .bool false]) W := by kernel_rfl
theorem tk_false_199 (v : Value) (W : World) : (Instr.typeAssert (.iface 267 v) 126 199 true).run Tryz.prog W = .ok (.tuple #[.pointer none, .bool false]) W := by kernel_rfl
theorem tk_false_201 (v : Value) (W : World) : (Instr.typeAssert (.iface 267 v) 126 201 true).run Tryz.prog W = .ok (.tuple #[.pointer none, .bool false]) W := by kernel_rfl
theorem tk_false_205 (v : Value) (W : World) : (Instr.typeAssert (.iface 267 v) 126 205 true).run Tryz.prog W = .ok (.tuple #[.pointer none, .bool false]) W := by kernel_rfl
theorem tk_false_208 (v : Value) (W : World) : (Instr.typeAssert (.iface 267 v) 126 208 true).run Tryz.prog W = .ok (.tuple #[.pointer none, .bool false]) W := by kernel_rfl
theorem tk_false_211 (v : Value) (W : World) : (Instr.typeAssert (.iface 267 v) 126 211 true).run Tryz.prog W = .ok (.tuple #[.pointer none, .bool false]) W := by kernel_rfl
theorem tk_false_215 (v : Value) (W : World) : (Instr.typeAssert (.iface 267 v) 126 215 true).run Tryz.prog W = .ok (.tuple #[.pointer none, .bool false]) W := by kernel_rfl
theorem tk_false_219 (v : Value) (W : World) : (Instr.typeAssert (.iface 267 v) 126 219 true).run Tryz.prog W = .ok (.tuple #[.pointer none, .bool false]) W := by kernel_rfl
theorem tk_false_222 (v : Value) (W : World) : (Instr.typeAssert (.iface 267 v) 126 222 true).run Tryz.prog W = .ok (.tuple #[.pointer none, .bool false]) W := by kernel_rfl
theorem tk_false_225 (v : Value) (W : World) : (Instr.typeAssert (.iface 267 v) 126 225 true).run Tryz.prog W = .ok (.tuple #[.pointer none, .bool false]) W := by kernel_rfl
theorem tk_false_298 (v : Value) (W : World) : (Instr.typeAssert (.iface 267 v) 126 298 true).run Tryz.prog W = .ok (.tuple #[.pointer none, .bool false]) W := by kernel_rfl
theorem tk_false_301 (v : Value) (W : World) : (Instr.typeAssert (.iface 267 v) 126 301 true).run Tryz.prog W = .ok (.tuple #[.pointer none, .bool false]) W := by kernel_rfl
theorem tk_false_303 (v : Value) (W : World) : (Instr.typeAssert (.iface 267 v) 126 303 true).run Tryz.prog W = .ok (.tuple #[.pointer none, .bool false]) W := by kernel_rfl
theorem tk_false_305 (v : Value) (W : World) : (Instr.typeAssert (.iface 267 v) 126 305 true).run Tryz.prog W = .ok (.tuple #[.pointer none, .bool false]) W := by kernel_rfl
theorem tk_false_307 (v : Value) (W : World) : (Instr.typeAssert (.iface 267 v) 126 307 true).run Tryz.prog W = .ok (.tuple #[.pointer none, .bool false]) W := by kernel_rfl
theorem tk_false_309 (v : Value) (W : World) : (Instr.typeAssert (.iface 267 v) 126 309 true).run Tryz.prog W = .ok (.tuple #[.pointer none, .bool false]) W := by kernel_rfl
theorem tk_false_275 (v : Value) (W : World) : (Instr.typeAssert (.iface 267 v) 126 275 true).run Tryz.prog W = .ok (.tuple #[.pointer none, .bool false]) W := by kernel_rfl
theorem tk_false_187 (v : Value) (W : World) : (Instr.typeAssert (.iface 267 v) 126 187 true).run Tryz.prog W = .ok (.tuple #[.pointer none, .bool false]) W := by kernel_rfl
theorem tk_false_185 (v : Value) (W : World) : (Instr.typeAssert (.iface 267 v) 126 185 true).run Tryz.prog W = .ok (.tuple #[.pointer none, .bool false]) W := by kernel_rfl
theorem tk_false_311 (v : Value) (W : World) : (Instr.typeAssert (.iface 267 v) 126 311 true).run Tryz.prog W = .ok (.tuple #[.pointer none, .bool false]) W := by kernel_rfl
theorem tk_false_312 (v : Value) (W : World) : (Instr.typeAssert (.iface 267 v) 126 312 true).run Tryz.prog W = .ok (.tuple #[.pointer none, .bool false]) W := by kernel_rfl
theorem tk_false_313 (v : Value) (W : World) : (Instr.typeAssert (.iface 267 v) 126 313 true).run Tryz.prog W = .ok (.tuple #[.pointer none, .bool false]) W := by kernel_rfl
theorem tk_false_267 (v : Value) (W : World) : (Instr.typeAssert (.iface 267 v) 126 267 true).run Tryz.prog W = .ok (.tuple #[v, .bool true]) W := by kernel_rfl
theorem tk_schema_190 (v : Value) (W : World) : (Instr.typeAssert (.iface 187 v) 126 190 true).run Tryz.prog W = .ok (.tuple #[.pointer none, .bool false]) W := by kernel_rfl
theorem tk_schema_193 (v : Value) (W : World) : (Instr.typeAssert (.iface 187 v) 126 193 true).run Tryz.prog W = .ok (.tuple #[.pointer none, .bool false]) W := by kernel_rfl
theorem tk_schema_196 (v : Value) (W : World) : (Instr.typeAssert (.iface 187 v) 126 196 true).run Tryz.prog W = .ok (.tuple #[.pointer none, .bool false]) W := by kernel_rfl
theorem tk_schema_199 (v : Value) (W : World) : (Instr.typeAssert (.iface 187 v) 126 199 true).run Tryz.prog W = .ok (.tuple #[.pointer none, .bool false]) W := by kernel_rfl
theorem tk_schema_201 (v : Value) (W : World) : (Instr.typeAssert (.iface 187 v) 126 201 true).run Tryz.prog W = .ok (.tuple #[.pointer none, .bool false]) W := by kernel_rfl
theorem tk_schema_205 (v : Value) (W : World) : (Instr.typeAssert (.iface 187 v) 126 205 true).run Tryz.prog W = .ok (.tuple #[.pointer none, .bool false]) W := by kernel_rfl
theorem tk_schema_208 (v : Value) (W : World) : (Instr.typeAssert (.iface 187 v) 126 208 true).run Tryz.prog W = .ok (.tuple #[.pointer none, .bool false]) W := by kernel_rfl
theorem tk_schema_211 (v : Value) (W : World) : (Instr.typeAssert (.iface 187 v) 126 211 true).run Tryz.prog W = .ok (.tuple #[.pointer none, .bool false]) W := by kernel_rfl
theorem tk_schema_215 (v : Value) (W : World) : (Instr.typeAssert (.iface 187 v) 126 215 true).run Tryz.prog W = .ok (.tuple #[.pointer none, .bool false]) W := by kernel_rfl
theorem tk_schema_219 (v : Value) (W : World) : (Instr.typeAssert (.iface 187 v) 126 219 true).run Tryz.prog W = .ok (.tuple #[.pointer none, .bool false]) W := by kernel_rfl
theorem tk_schema_222 (v : Value) (W : World) : (Instr.typeAssert (.iface 187 v) 126 222 true).run Tryz.prog W = .ok (.tuple #[.pointer none, .bool false]) W := by kernel_rfl
theorem tk_schema_225 (v : Value) (W : World) : (Instr.typeAssert (.iface 187 v) 126 225 true).run Tryz.prog W = .ok (.tuple #[.pointer none, .bool false]) W := by kernel_rfl
theorem tk_schema_298 (v : Value) (W : World) : (Instr.typeAssert (.iface 187 v) 126 298 true).run Tryz.prog W = .ok (.tuple #[.pointer none, .bool false]) W := by kernel_rfl
theorem tk_schema_301 (v : Value) (W : World) : (Instr.typeAssert (.iface 187 v) 126 301 true).run Tryz.prog W = .ok (.tuple #[.pointer none, .bool false]) W := by kernel_rfl
theorem tk_schema_303 (v : Value) (W : World) : (Instr.typeAssert (.iface 187 v) 126 303 true).run Tryz.prog W = .ok (.tuple #[.pointer none, .bool false]) W := by kernel_rfl
theorem tk_schema_305 (v : Value) (W : World) : (Instr.typeAssert (.iface 187 v) 126 305 true).run Tryz.prog W = .ok (.tuple #[.pointer none, .bool false]) W := by kernel_rfl
theorem tk_schema_307 (v : Value) (W : World) : (Instr.typeAssert (.iface 187 v) 126 307 true).run Tryz.prog W = .ok (.tuple #[.pointer none, .bool false]) W := by kernel_rfl
theorem tk_schema_309 (v : Value) (W : World) : (Instr.typeAssert (.iface 187 v) 126 309 true).run Tryz.prog W = .ok (.tuple #[.pointer none, .bool false]) W := by kernel_rfl
theorem tk_schema_275 (v : Value) (W : World) : (Instr.typeAssert (.iface 187 v) 126 275 true).run Tryz.prog W = .ok (.tuple #[.pointer none, .bool false]) W := by kernel_rfl
theorem tk_schema_187 (v : Value) (W : World) : (Instr.typeAssert (.iface 187 v) 126 187 true).run Tryz.prog W = .ok (.tuple #[v, .bool true]) W := by kernel_rfl
theorem tv_76 (v : Value) (W : World) : (Instr.typeAssert (.iface 76 v) 79 76 false).run Tryz.prog W = .ok v W := by kernel_rfl
theorem tv_76t (v : Value) (W : World) : (Instr.typeAssert (.iface 76 v) 79 76 true).run Tryz.prog W = .ok (.tuple #[v, .bool true]) W := by kernel_rfl
theorem tv_nilt (W : World) : (Instr.typeAssert .nilIface 79 76 true).run Tryz.prog W = .ok (.tuple #[.pointer none, .bool false]) W := by kernel_rfl
end Go.Proofs.YtkphbhncpdcbeaaGreatDoor.J
namespace Go.Proofs.YtkphbhncpdcbeaaGreatDoor.J
open Go.RowKit Go.Proofs.YtkphbhncpdcbeaaGreatDoorW.PrintWords Go.Proofs.YtkphbhncpdcbeaaGreatDoorW.PrintLast Go.Proofs.YtkphbhncpdcbeaaGreatDoorW.PrintMore Go.Proofs.YtkphbhncpdcbeaaGreatDoor.PJT
attribute [local go_sem] Nd.csize Sc.csize Nd.c0 Nd.c1 Nd.c2 Nd.c3 Nd.c4 Nd.c5 Nd.c6 Nd.c7 Nd.c8 Nd.c9 Nd.c10 Nd.c11 Nd.c12 Nd.c13 Nd.c14 Nd.c15 Nd.c16 Nd.c17 Nd.c18 Nd.c19 Nd.c20 Nd.c21 Nd.c22 Nd.c23 Nd.c24 Nd.c25 Nd.c26 Nd.c27 Nd.c28 Nd.c29 Nd.c30 Nd.c31 Nd.c32 Nd.c33 Nd.c34 Nd.c35 Nd.c36 Nd.c37 Nd.c38 Nd.c39 Nd.c40 Nd.c41 Nd.c42 Nd.c43 Nd.c44 Nd.c45 Nd.c46 Nd.c47 Nd.c48 Nd.c49 Nd.c50 Nd.c51 Nd.c52 Sc.c0 Sc.c1 Sc.c2 Sc.c3 Sc.c4 Sc.c5 Sc.c6 Sc.c7 Sc.c8 Sc.c9 Sc.c10 Sc.c11 Sc.c12 Sc.c13 Sc.c14 Sc.c15 Sc.c16 Sc.c17 Sc.c18 Sc.c19 Sc.c20 Sc.c21 Sc.c22 Sc.c23 Sc.c24 Sc.c25 Sc.c26 Sc.c27 Sc.c28 Sc.c29 Sc.c30 Sc.c31 Sc.c32 Sc.c33 Sc.c34 Sc.c35 Sc.c36 Sc.c37 Sc.c38 Sc.c39 Sc.c40 Sc.c41 Sc.c42 Sc.c43 Sc.c44 Sc.c45 Sc.c46 Sc.c47 Sc.c48 Sc.c49 Sc.c50 Sc.c51 Sc.c52
set_option linter.unusedVariables false
set_option linter.unusedSimpArgs false
attribute [local go_sem] tk_req_190 tk_req_193 tk_req_185 tk_dep_190 tk_dep_193 tk_dep_196 tk_dep_199 tk_dep_185 tk_false_190 tk_false_193 tk_false_196 tk_false_199 tk_false_201 tk_false_205 tk_false_208 tk_false_211 tk_false_215 tk_false_219 tk_false_222 tk_false_225 tk_false_298 tk_false_301 tk_false_303 tk_false_305 tk_false_307 tk_false_309 tk_false_275 tk_false_187 tk_false_185 tk_false_311 tk_false_312 tk_false_313 tk_false_267 tk_schema_190 tk_schema_193 tk_schema_196 tk_schema_199 tk_schema_201 tk_schema_205 tk_schema_208 tk_schema_211 tk_schema_215 tk_schema_219 tk_schema_222 tk_schema_225 tk_schema_298 tk_schema_301 tk_schema_303 tk_schema_305 tk_schema_307 tk_schema_309 tk_schema_275 tk_schema_187 tv_76 tv_76t tv_nilt
set_option maxHeartbeats 4000000 in
set_option maxRecDepth 100000 in
theorem count_false (w : World) (gk : Nat) :
  Calls Tryz.prog 102 #[.iface 267 (.pointer (some ⟨gk, 0, none⟩))] w fun e w' => e = .returned (.tuple #[eS, i0, i0, bF]) ∧ Below w.heap.size w w' := by
 have HK : Aside0 (At w [] w) := asd_ (At.start w)
 go_enter Tryz.func102, Tryz.ntmps102
 go_wp2_with fail
 ((try simp only [Exit.inBlock, Exit.then]); refine bodyPost_ret (results_tmp4 rfl _ _ _) rfl ?_)
 exact ⟨rfl, be_⟩
set_option maxHeartbeats 4000000 in
set_option maxRecDepth 100000 in
theorem count_schema (w : World) (gk : Nat) :
  Calls Tryz.prog 102 #[.iface 187 (.pointer (some ⟨gk, 0, none⟩))] w fun e w' => e = .returned (.tuple #[eS, i0, i0, bF]) ∧ Below w.heap.size w w' := by
 have HK : Aside0 (At w [] w) := asd_ (At.start w)
 go_enter Tryz.func102, Tryz.ntmps102
 go_wp2_with fail
 ((try simp only [Exit.inBlock, Exit.then]); refine bodyPost_ret (results_tmp4 rfl _ _ _) rfl ?_)
 exact ⟨rfl, be_⟩
set_option maxHeartbeats 4000000 in
set_option maxRecDepth 100000 in
theorem plain_false (w : World) (gk : Nat) :
  Calls Tryz.prog 103 #[.iface 267 (.pointer (some ⟨gk, 0, none⟩))] w fun e w' => e = .returned (.string ⟨#[70, 97, 108, 115, 101, 83, 99, 104, 101, 109, 97]⟩) ∧ Below w.heap.size w w' := by
 have HK : Aside0 (At w [] w) := asd_ (At.start w)
 go_enter Tryz.func103, Tryz.ntmps103
 go_wp2_with fail
 go_ret
 exact ⟨rfl, be_⟩
set_option maxHeartbeats 4000000 in
set_option maxRecDepth 100000 in
theorem plain_schema (w : World) (gk : Nat) :
  Calls Tryz.prog 103 #[.iface 187 (.pointer (some ⟨gk, 0, none⟩))] w fun e w' => e = .returned (.string ⟨#[83, 99, 104, 101, 109, 97]⟩) ∧ Below w.heap.size w w' := by
 have HK : Aside0 (At w [] w) := asd_ (At.start w)
 go_enter Tryz.func103, Tryz.ntmps103
 go_wp2_with fail
 go_ret
 exact ⟨rfl, be_⟩
set_option maxHeartbeats 4000000 in
set_option maxRecDepth 100000 in
theorem path_req (w : World) (gk : Nat)  :
  Calls Tryz.prog 243 #[.pointer (some ⟨gk, 0, none⟩)] w fun e w' => ∃ A c, e = .returned (.slice A 1 c) ∧ 1 ≤ c ∧ Kd.C Kd.string w' A 1 ([⟨#[114, 101, 113, 117, 105, 114, 101, 100]⟩] : List ByteArray) ∧ Below w.heap.size w w' := by
 have HK : Aside0 (At w [] w) := asd_ (At.start w)
 skip
 go_enter Tryz.func243, Tryz.ntmps243
 go_wp2_with (first | ((with_reducible refine gd_ 3 ?_); refine nw_ (row #[.string ⟨#[114, 101, 113, 117, 105, 114, 101, 100]⟩] 9) (fun b => .slice (some ⟨b, 0, none⟩) 1 1) ?_; clear HK; intro g3 wb3 HK Gg3; skip))
 go_ret
 exact ⟨_, _, rfl, Nat.le_refl _, reads_one (enc := Value.string) HK.out.k.1, HK.out.b⟩
set_option maxHeartbeats 4000000 in
set_option maxRecDepth 100000 in
theorem path_dep (w : World) (gk : Nat) (name : ByteArray) (A : Option Addr) (c : Nat) (xs : List ByteArray) (hk : w.heap[gk]? = some (row (#[.string name, .slice A xs.length c]) 200)) :
  Calls Tryz.prog 245 #[.pointer (some ⟨gk, 0, none⟩)] w fun e w' => ∃ A c, e = .returned (.slice A 2 c) ∧ 2 ≤ c ∧ Kd.C Kd.string w' A 2 ([⟨#[100, 101, 112, 101, 110, 100, 101, 110, 116, 82, 101, 113, 117, 105, 114, 101, 100]⟩, name] : List ByteArray) ∧ Below w.heap.size w w' := by
 have HK : Aside0 (At w [] w) := asd_ (At.start w)
 have bgk := cel_ (blk_below hk HK.out.b)
 go_enter Tryz.func245, Tryz.ntmps245
 go_wp2_with (first | ((with_reducible refine gd_ 7 ?_); refine nw_ (row #[.string ⟨#[100, 101, 112, 101, 110, 100, 101, 110, 116, 82, 101, 113, 117, 105, 114, 101, 100]⟩, .string name] 9) (fun b => .slice (some ⟨b, 0, none⟩) 2 2) ?_; clear HK bgk; intro g7 wb7 HK Gg7; have bgk := cel_ (blk_below hk HK.out.b)))
 go_ret
 exact ⟨_, _, rfl, Nat.le_refl _, reads_two HK.out.k.1, HK.out.b⟩
set_option maxHeartbeats 4000000 in
set_option maxRecDepth 100000 in
theorem path_false (w : World) (gk : Nat)  :
  Calls Tryz.prog 254 #[.pointer (some ⟨gk, 0, none⟩)] w fun e w' => ∃ A c, e = .returned (.slice A 0 c) ∧ 0 ≤ c ∧ Kd.C Kd.string w' A 0 ([] : List ByteArray) ∧ Below w.heap.size w w' := by
 have HK : Aside0 (At w [] w) := asd_ (At.start w)
 skip
 go_enter Tryz.func254, Tryz.ntmps254
 go_wp2_with fail
 go_ret
 exact ⟨_, _, rfl, Nat.le_refl _, reads_nil _, be_⟩
set_option maxHeartbeats 4000000 in
set_option maxRecDepth 100000 in
theorem path_schema (w : World) (gk : Nat)  :
  Calls Tryz.prog 241 #[.pointer (some ⟨gk, 0, none⟩)] w fun e w' => ∃ A c, e = .returned (.slice A 0 c) ∧ 0 ≤ c ∧ Kd.C Kd.string w' A 0 ([] : List ByteArray) ∧ Below w.heap.size w w' := by
 have HK : Aside0 (At w [] w) := asd_ (At.start w)
 skip
 go_enter Tryz.func241, Tryz.ntmps241
 go_wp2_with fail
 go_ret
 exact ⟨_, _, rfl, Nat.le_refl _, reads_nil _, be_⟩
set_option maxHeartbeats 4000000 in
set_option maxRecDepth 100000 in
theorem kind_req (w : World) (gk : Nat) (A : Option Addr) (c : Nat) (xs : List ByteArray) (hr : Kd.C Kd.string w A xs.length xs) (hc : xs.length ≤ c) (hn : xs.length ≤ LM) (hk : w.heap[gk]? = some (row (#[.slice A xs.length c]) 195)) :
  Calls Tryz.prog 56 #[.iface 193 (.pointer (some ⟨gk, 0, none⟩))] w fun e w' => ∃ A2 c2, e = .returned (.tuple #[.string ⟨#[82, 101, 113, 117, 105, 114, 101, 100]⟩, eS, .slice A2 xs.length c2, nilS]) ∧ (Fact.strs (.slice A2 xs.length c2) xs).P w' ∧ Below w.heap.size w w' := by
 have Hr := asd_ hr
 clear hr
 have HK : Aside0 (At w [] w) := asd_ (At.start w)
 have bgk := cel_ (blk_below hk HK.out.b)
 go_enter Tryz.func56, Tryz.ntmps56
 go_wp2_with (first | ((with_reducible refine gd_ 43 ?_); refine cw_ #[.slice A xs.length c] Tryz.func55 (copied_ok (Kd.C_below Hr.out HK.out.b) hc (Nat.lt_of_le_of_lt hn (by decide))) ?_; rintro v43 wc43 HK0 ⟨A2, c2, rfl, hF⟩ hB; have HK1 := At.fact (Fact.strs (.slice A2 xs.length c2) xs) HK0 hF; clear HK0 hF hB; replace HK := asd_ HK1; clear HK1; clear bgk; have bgk := cel_ (blk_below hk HK.out.b)))
 ((try simp only [Exit.inBlock, Exit.then]); refine bodyPost_ret (results_tmp4 rfl _ _ _) rfl ?_)
 exact ⟨A2, c2, rfl, HK.out.k.1, HK.out.b⟩
set_option maxHeartbeats 4000000 in
set_option maxRecDepth 100000 in
theorem kind_dep (w : World) (gk : Nat) (name : ByteArray) (A : Option Addr) (c : Nat) (xs : List ByteArray) (hr : Kd.C Kd.string w A xs.length xs) (hc : xs.length ≤ c) (hn : xs.length ≤ LM) (hk : w.heap[gk]? = some (row (#[.string name, .slice A xs.length c]) 200)) :
  Calls Tryz.prog 56 #[.iface 199 (.pointer (some ⟨gk, 0, none⟩))] w fun e w' => ∃ A2 c2, e = .returned (.tuple #[.string ⟨#[68, 101, 112, 101, 110, 100, 101, 110, 116, 82, 101, 113, 117, 105, 114, 101, 100]⟩, .string name, .slice A2 xs.length c2, nilS]) ∧ (Fact.strs (.slice A2 xs.length c2) xs).P w' ∧ Below w.heap.size w w' := by
 have Hr := asd_ hr
 clear hr
 have HK : Aside0 (At w [] w) := asd_ (At.start w)
 have bgk := cel_ (blk_below hk HK.out.b)
 go_enter Tryz.func56, Tryz.ntmps56
 go_wp2_with fail
 refine st_ 13 (fun w' => At w [] w' ∧ (∀ j, w'.cell? ⟨gk, j, none⟩ = (#[.string name, .slice A xs.length c] : Array Value)[j]?)) [] (fun A => ⟨A, (cel_ (blk_below hk A.b))⟩) (fun hHeld => ?_)
 refine pu_ 0 59 1 ?_
 refine pu_ 1 60 3 ?_
 refine pu_ 2 61 7 ?_
 refine pu_ 4 63 23 ?_
 refine pu_ 5 64 55 ?_
 refine pu_ 6 65 119 ?_
 refine ta2_ 3 62 127 hHeld ?_
 refine ta2_ 7 66 255 hHeld ?_
 refine on_ 8 67 511 (fun K hK => ?_)
 have HE := asd_ (hHeld.1)
 refine ge_ Tryz.func55 #[.slice A xs.length c] ?_
 with_reducible refine (copied_ok (Kd.C_below Hr.out HE.out.b) hc (Nat.lt_of_le_of_lt hn (by decide))).mono ?_
 rintro e w3 ⟨v, rfl, ⟨A2, c2, rfl, hF⟩, hb⟩
 refine ⟨_, rfl, ?_⟩
 have HE0 := At.step HE.out hb
 have HE1 := asd_ (At.fact (Fact.strs (.slice A2 xs.length c2) xs) HE0 hF)
 clear hF
 clear HE0
 clear HE; have HE := HE1; clear HE1
 refine hK.out _ _ ⟨HE.out.drop, (cel_ (blk_below hk HE.out.drop.b))⟩ (fun hHeld => ?_)
 clear hK K
 refine nq_ 67 ?_
 refine pu_ 9 2 1023 ?_
 refine pu_ 10 3 2047 ?_
 refine pu_ 11 4 4095 ?_
 refine pu_ 12 5 8191 ?_
 refine done_ kr_ ?_
 clear HK; have HK := HE; clear HE
 clear hHeld
 clear bgk
 have bgk := cel_ (blk_below hk HK.out.b)
 go_wp2_with fail
 ((try simp only [Exit.inBlock, Exit.then]); refine bodyPost_ret (results_tmp4 rfl _ _ _) rfl ?_)
 exact ⟨A2, c2, rfl, HK.out.k.1, HK.out.b⟩
set_option maxHeartbeats 4000000 in
set_option maxRecDepth 100000 in
theorem kind_false (w : World) (gk : Nat) :
  Calls Tryz.prog 56 #[.iface 267 (.pointer (some ⟨gk, 0, none⟩))] w fun e w' => e = .returned (.tuple #[.string ⟨#[70, 97, 108, 115, 101, 83, 99, 104, 101, 109, 97]⟩, eS, nilS, nilS]) ∧ Below w.heap.size w w' := by
 have HK : Aside0 (At w [] w) := asd_ (At.start w)
 skip
 go_enter Tryz.func56, Tryz.ntmps56
 go_wp2_with (first | ((with_reducible refine gd_ 151 ?_); refine cl_ #[.iface 267 (.pointer (some ⟨gk, 0, none⟩))] (.tuple #[eS, i0, i0, bF]) Tryz.func102 (count_false _ gk) ?_; intro wc151 HK1; replace HK := asd_ HK1; clear HK1; skip) | ((with_reducible refine gd_ 162 ?_); refine cl_ #[.iface 267 (.pointer (some ⟨gk, 0, none⟩))] (.string ⟨#[70, 97, 108, 115, 101, 83, 99, 104, 101, 109, 97]⟩) Tryz.func103 (plain_false _ gk) ?_; intro wc162 HK1; replace HK := asd_ HK1; clear HK1; skip))
 ((try simp only [Exit.inBlock, Exit.then]); refine bodyPost_ret (results_tmp4 rfl _ _ _) rfl ?_)
 exact ⟨rfl, be_⟩
set_option maxHeartbeats 4000000 in
set_option maxRecDepth 100000 in
theorem kind_schema (w : World) (gk : Nat) :
  Calls Tryz.prog 56 #[.iface 187 (.pointer (some ⟨gk, 0, none⟩))] w fun e w' => e = .returned (.tuple #[.string ⟨#[83, 99, 104, 101, 109, 97]⟩, eS, nilS, nilS]) ∧ Below w.heap.size w w' := by
 have HK : Aside0 (At w [] w) := asd_ (At.start w)
 skip
 go_enter Tryz.func56, Tryz.ntmps56
 go_wp2_with (first | ((with_reducible refine gd_ 151 ?_); refine cl_ #[.iface 187 (.pointer (some ⟨gk, 0, none⟩))] (.tuple #[eS, i0, i0, bF]) Tryz.func102 (count_schema _ gk) ?_; intro wc151 HK1; replace HK := asd_ HK1; clear HK1; skip) | ((with_reducible refine gd_ 162 ?_); refine cl_ #[.iface 187 (.pointer (some ⟨gk, 0, none⟩))] (.string ⟨#[83, 99, 104, 101, 109, 97]⟩) Tryz.func103 (plain_schema _ gk) ?_; intro wc162 HK1; replace HK := asd_ HK1; clear HK1; skip))
 ((try simp only [Exit.inBlock, Exit.then]); refine bodyPost_ret (results_tmp4 rfl _ _ _) rfl ?_)
 exact ⟨rfl, be_⟩
end Go.Proofs.YtkphbhncpdcbeaaGreatDoor.J
namespace Go.Proofs.YtkphbhncpdcbeaaGreatDoor.J
open Go.RowKit Go.Proofs.YtkphbhncpdcbeaaGreatDoorW.PrintWords Go.Proofs.YtkphbhncpdcbeaaGreatDoorW.PrintLast Go.Proofs.YtkphbhncpdcbeaaGreatDoorW.PrintMore Go.Proofs.YtkphbhncpdcbeaaGreatDoor.PJT
attribute [local go_sem] Nd.csize Sc.csize Nd.c0 Nd.c1 Nd.c2 Nd.c3 Nd.c4 Nd.c5 Nd.c6 Nd.c7 Nd.c8 Nd.c9 Nd.c10 Nd.c11 Nd.c12 Nd.c13 Nd.c14 Nd.c15 Nd.c16 Nd.c17 Nd.c18 Nd.c19 Nd.c20 Nd.c21 Nd.c22 Nd.c23 Nd.c24 Nd.c25 Nd.c26 Nd.c27 Nd.c28 Nd.c29 Nd.c30 Nd.c31 Nd.c32 Nd.c33 Nd.c34 Nd.c35 Nd.c36 Nd.c37 Nd.c38 Nd.c39 Nd.c40 Nd.c41 Nd.c42 Nd.c43 Nd.c44 Nd.c45 Nd.c46 Nd.c47 Nd.c48 Nd.c49 Nd.c50 Nd.c51 Nd.c52 Sc.c0 Sc.c1 Sc.c2 Sc.c3 Sc.c4 Sc.c5 Sc.c6 Sc.c7 Sc.c8 Sc.c9 Sc.c10 Sc.c11 Sc.c12 Sc.c13 Sc.c14 Sc.c15 Sc.c16 Sc.c17 Sc.c18 Sc.c19 Sc.c20 Sc.c21 Sc.c22 Sc.c23 Sc.c24 Sc.c25 Sc.c26 Sc.c27 Sc.c28 Sc.c29 Sc.c30 Sc.c31 Sc.c32 Sc.c33 Sc.c34 Sc.c35 Sc.c36 Sc.c37 Sc.c38 Sc.c39 Sc.c40 Sc.c41 Sc.c42 Sc.c43 Sc.c44 Sc.c45 Sc.c46 Sc.c47 Sc.c48 Sc.c49 Sc.c50 Sc.c51 Sc.c52
set_option linter.unusedVariables false
set_option linter.unusedSimpArgs false
set_option maxHeartbeats 4000000 in
set_option maxRecDepth 100000 in
theorem len64_0 (w : World)  : Calls Tryz.prog 162 #[.int .u64 0] w fun e w' => e = .returned (.int .i64 0) ∧ Below w.heap.size w w' := by
 have HK : Aside0 (At w [] w) := asd_ (At.start w)
 go_enter Tryz.func162, Tryz.ntmps162
 go_wp2_with fail
 go_ret
 exact ⟨by kernel_rfl, be_⟩
set_option maxHeartbeats 4000000 in
set_option maxRecDepth 100000 in
theorem len_0 (w : World)  : Calls Tryz.prog 105 #[.int .u64 0] w fun e w' => e = .returned (.int .i64 0) ∧ Below w.heap.size w w' := by
 have HK : Aside0 (At w [] w) := asd_ (At.start w)
 go_enter Tryz.func105, Tryz.ntmps105
 go_wp2_with (first | ((with_reducible refine gd_ 7 ?_); refine cl_ #[.int .u64 0] (.int .i64 0) Tryz.func162 (len64_0 _) ?_; intro wc7 HK1; replace HK := asd_ HK1; clear HK1; skip))
 go_ret
 exact ⟨rfl, be_⟩
set_option maxHeartbeats 4000000 in
set_option maxRecDepth 100000 in
theorem insert_0 (w : World) (A : Option Addr) (c : Nat) (fv : Value) : Calls Tryz.prog 153 #[.slice A 0 c, i0, .int .i64 0, fv] w fun e w' => e = .returned (.tuple #[]) ∧ Below w.heap.size w w' := by
 have HK : Aside0 (At w [] w) := asd_ (At.start w)
 go_enter Tryz.func153, Tryz.ntmps153
 go_wp2_with fail
 refine wp_loop_once ?_
 go_wp2_with fail
 go_end0
 exact ⟨rfl, be_⟩
set_option maxHeartbeats 4000000 in
set_option maxRecDepth 100000 in
theorem pdq_0 (w : World) (A : Option Addr) (c : Nat) (fv : Value) : Calls Tryz.prog 104 #[.slice A 0 c, i0, .int .i64 0, .int .i64 0, fv] w fun e w' => e = .returned (.tuple #[]) ∧ Below w.heap.size w w' := by
 have HK : Aside0 (At w [] w) := asd_ (At.start w)
 go_enter Tryz.func104, Tryz.ntmps104
 go_wp2_with (first | ((with_reducible refine gd_ 30 ?_); refine cl_ #[.slice A 0 c, i0, .int .i64 0, fv] (.tuple #[]) Tryz.func153 (insert_0 _ A c fv) ?_; intro wc30 HK1; replace HK := asd_ HK1; clear HK1; skip))
 refine wp_loop_once ?_
 go_wp2_with (first | ((with_reducible refine gd_ 30 ?_); refine cl_ #[.slice A 0 c, i0, .int .i64 0, fv] (.tuple #[]) Tryz.func153 (insert_0 _ A c fv) ?_; intro wc30 HK1; replace HK := asd_ HK1; clear HK1; skip))
 go_frame
 ((try simp only [Exit.inBlock, Exit.then]); refine bodyPost_ret (results_none rfl _ _ _) rfl ?_)
 exact ⟨rfl, be_⟩
set_option maxHeartbeats 4000000 in
set_option maxRecDepth 100000 in
theorem sort_0 (w : World) (A : Option Addr) (c : Nat) (fv : Value) : Calls Tryz.prog 57 #[.slice A 0 c, fv] w fun e w' => e = .returned (.tuple #[]) ∧ Below w.heap.size w w' := by
 have HK : Aside0 (At w [] w) := asd_ (At.start w)
 go_enter Tryz.func57, Tryz.ntmps57
 go_wp2_with (first | ((with_reducible refine gd_ 11 ?_); refine cl_ #[.int .u64 0] (.int .i64 0) Tryz.func105 (len_0 _) ?_; intro wc11 HK1; replace HK := asd_ HK1; clear HK1; skip) | ((with_reducible refine gd_ 13 ?_); refine cl_ #[.slice A 0 c, i0, .int .i64 0, .int .i64 0, fv] (.tuple #[]) Tryz.func104 (pdq_0 _ A c fv) ?_; intro wc13 HK1; replace HK := asd_ HK1; clear HK1; skip))
 go_end0
 exact ⟨rfl, be_⟩
set_option maxHeartbeats 4000000 in
set_option maxRecDepth 100000 in
theorem len64_1 (w : World)  : Calls Tryz.prog 162 #[.int .u64 1] w fun e w' => e = .returned (.int .i64 1) ∧ Below w.heap.size w w' := by
 have HK : Aside0 (At w [] w) := asd_ (At.start w)
 go_enter Tryz.func162, Tryz.ntmps162
 go_wp2_with fail
 go_ret
 exact ⟨by kernel_rfl, be_⟩
set_option maxHeartbeats 4000000 in
set_option maxRecDepth 100000 in
theorem len_1 (w : World)  : Calls Tryz.prog 105 #[.int .u64 1] w fun e w' => e = .returned (.int .i64 1) ∧ Below w.heap.size w w' := by
 have HK : Aside0 (At w [] w) := asd_ (At.start w)
 go_enter Tryz.func105, Tryz.ntmps105
 go_wp2_with (first | ((with_reducible refine gd_ 7 ?_); refine cl_ #[.int .u64 1] (.int .i64 1) Tryz.func162 (len64_1 _) ?_; intro wc7 HK1; replace HK := asd_ HK1; clear HK1; skip))
 go_ret
 exact ⟨rfl, be_⟩
set_option maxHeartbeats 4000000 in
set_option maxRecDepth 100000 in
theorem insert_1 (w : World) (A : Option Addr) (c : Nat) (fv : Value) : Calls Tryz.prog 153 #[.slice A 1 c, i0, .int .i64 1, fv] w fun e w' => e = .returned (.tuple #[]) ∧ Below w.heap.size w w' := by
 have HK : Aside0 (At w [] w) := asd_ (At.start w)
 go_enter Tryz.func153, Tryz.ntmps153
 go_wp2_with fail
 refine wp_loop_once ?_
 go_wp2_with fail
 go_end0
 exact ⟨rfl, be_⟩
set_option maxHeartbeats 4000000 in
set_option maxRecDepth 100000 in
theorem pdq_1 (w : World) (A : Option Addr) (c : Nat) (fv : Value) : Calls Tryz.prog 104 #[.slice A 1 c, i0, .int .i64 1, .int .i64 1, fv] w fun e w' => e = .returned (.tuple #[]) ∧ Below w.heap.size w w' := by
 have HK : Aside0 (At w [] w) := asd_ (At.start w)
 go_enter Tryz.func104, Tryz.ntmps104
 go_wp2_with (first | ((with_reducible refine gd_ 30 ?_); refine cl_ #[.slice A 1 c, i0, .int .i64 1, fv] (.tuple #[]) Tryz.func153 (insert_1 _ A c fv) ?_; intro wc30 HK1; replace HK := asd_ HK1; clear HK1; skip))
 refine wp_loop_once ?_
 go_wp2_with (first | ((with_reducible refine gd_ 30 ?_); refine cl_ #[.slice A 1 c, i0, .int .i64 1, fv] (.tuple #[]) Tryz.func153 (insert_1 _ A c fv) ?_; intro wc30 HK1; replace HK := asd_ HK1; clear HK1; skip))
 go_frame
 ((try simp only [Exit.inBlock, Exit.then]); refine bodyPost_ret (results_none rfl _ _ _) rfl ?_)
 exact ⟨rfl, be_⟩
set_option maxHeartbeats 4000000 in
set_option maxRecDepth 100000 in
theorem sort_1 (w : World) (A : Option Addr) (c : Nat) (fv : Value) : Calls Tryz.prog 57 #[.slice A 1 c, fv] w fun e w' => e = .returned (.tuple #[]) ∧ Below w.heap.size w w' := by
 have HK : Aside0 (At w [] w) := asd_ (At.start w)
 go_enter Tryz.func57, Tryz.ntmps57
 go_wp2_with (first | ((with_reducible refine gd_ 11 ?_); refine cl_ #[.int .u64 1] (.int .i64 1) Tryz.func105 (len_1 _) ?_; intro wc11 HK1; replace HK := asd_ HK1; clear HK1; skip) | ((with_reducible refine gd_ 13 ?_); refine cl_ #[.slice A 1 c, i0, .int .i64 1, .int .i64 1, fv] (.tuple #[]) Tryz.func104 (pdq_1 _ A c fv) ?_; intro wc13 HK1; replace HK := asd_ HK1; clear HK1; skip))
 go_end0
 exact ⟨rfl, be_⟩
end Go.Proofs.YtkphbhncpdcbeaaGreatDoor.J
namespace Go.Proofs.YtkphbhncpdcbeaaGreatDoor.J
open Go.Proofs.YtkphbhncpdcbeaaGreatDoorW Go.RowKit Go.Proofs.YtkphbhncpdcbeaaGreatDoorW.PrintWords Go.Proofs.YtkphbhncpdcbeaaGreatDoorW.PrintLast Go.Proofs.YtkphbhncpdcbeaaGreatDoorW.PrintMore Go.Proofs.YtkphbhncpdcbeaaGreatDoor.PJT
attribute [local go_sem] Nd.csize Sc.csize Nd.c0 Nd.c1 Nd.c2 Nd.c3 Nd.c4 Nd.c5 Nd.c6 Nd.c7 Nd.c8 Nd.c9 Nd.c10 Nd.c11 Nd.c12 Nd.c13 Nd.c14 Nd.c15 Nd.c16 Nd.c17 Nd.c18 Nd.c19 Nd.c20 Nd.c21 Nd.c22 Nd.c23 Nd.c24 Nd.c25 Nd.c26 Nd.c27 Nd.c28 Nd.c29 Nd.c30 Nd.c31 Nd.c32 Nd.c33 Nd.c34 Nd.c35 Nd.c36 Nd.c37 Nd.c38 Nd.c39 Nd.c40 Nd.c41 Nd.c42 Nd.c43 Nd.c44 Nd.c45 Nd.c46 Nd.c47 Nd.c48 Nd.c49 Nd.c50 Nd.c51 Nd.c52 Sc.c0 Sc.c1 Sc.c2 Sc.c3 Sc.c4 Sc.c5 Sc.c6 Sc.c7 Sc.c8 Sc.c9 Sc.c10 Sc.c11 Sc.c12 Sc.c13 Sc.c14 Sc.c15 Sc.c16 Sc.c17 Sc.c18 Sc.c19 Sc.c20 Sc.c21 Sc.c22 Sc.c23 Sc.c24 Sc.c25 Sc.c26 Sc.c27 Sc.c28 Sc.c29 Sc.c30 Sc.c31 Sc.c32 Sc.c33 Sc.c34 Sc.c35 Sc.c36 Sc.c37 Sc.c38 Sc.c39 Sc.c40 Sc.c41 Sc.c42 Sc.c43 Sc.c44 Sc.c45 Sc.c46 Sc.c47 Sc.c48 Sc.c49 Sc.c50 Sc.c51 Sc.c52
set_option linter.unusedVariables false
set_option linter.unusedSimpArgs false
def Leafed (loc K : ByteArray) (T : Value) (path names : List ByteArray) (w : World) (e : Ending) (w' : World) : Prop :=
 ∃ Ap cp Aa ca An cn, e = .returned (.agg #[.string loc, .string K, .slice Ap path.length cp, .slice Aa 0 ca, T, .slice An names.length cn, nilS, nilS]) ∧ (Fact.strs (.slice Ap path.length cp) path).P w' ∧ (Fact.strs (.slice An names.length cn) names).P w' ∧ Below w.heap.size w w'
theorem reads0 (W : World) (A : Option Addr) : Kd.C Kd.string W A 0 ([] : List ByteArray) := ⟨rfl, by omega, fun h => absurd h (Nat.lt_irrefl _)⟩
theorem copied_nil (w : World) (A : Option Addr) (c : Nat) : Calls Tryz.prog 55 #[.slice A 0 c] w fun e w' => ∃ v, e = .returned v ∧ (∃ A' c', v = .slice A' 0 c' ∧ (Fact.strs (.slice A' 0 c') []).P w') ∧ Below w.heap.size w w' :=
 copied_ok (names := []) (reads0 w A) (Nat.zero_le _) (by simp)
theorem kind_form {args : Array Value} {W : World} {K : ByteArray} {T : Value} {xs : List ByteArray} (h : Calls Tryz.prog 56 args W fun e w' => ∃ A2 c2, e = .returned (.tuple #[.string K, T, .slice A2 xs.length c2, nilS]) ∧ (Fact.strs (.slice A2 xs.length c2) xs).P w' ∧ Below W.heap.size W w') :
  Calls Tryz.prog 56 args W fun e w' => ∃ v, e = .returned v ∧ (∃ A2 c2, v = .tuple #[.string K, T, .slice A2 xs.length c2, nilS] ∧ (Fact.strs (.slice A2 xs.length c2) xs).P w') ∧ Below W.heap.size W w' := by
 refine h.mono ?_
 rintro e w' ⟨A2, c2, rfl, hF, hb⟩
 exact ⟨_, rfl, ⟨A2, c2, rfl, hF⟩, hb⟩
theorem mk_req (v : Value) (W : World) : (method 513 193 v "KeywordPath").run Tryz.prog W = .ok (243, v) W := by kernel_rfl
theorem mk_dep (v : Value) (W : World) : (method 513 199 v "KeywordPath").run Tryz.prog W = .ok (245, v) W := by kernel_rfl
theorem mk_false (v : Value) (W : World) : (method 513 267 v "KeywordPath").run Tryz.prog W = .ok (254, v) W := by kernel_rfl
theorem mk_schema (v : Value) (W : World) : (method 513 187 v "KeywordPath").run Tryz.prog W = .ok (241, v) W := by kernel_rfl
attribute [local go_sem] mk_req mk_dep mk_false mk_schema
set_option maxHeartbeats 4000000 in
set_option maxRecDepth 100000 in
theorem leaf_req (w : World) (ge gk : Nat) (loc : ByteArray) (A0 : Option Addr) (c0 : Nat) (hge : w.heap[ge]? = some (row (vec loc A0 c0 (.iface 193 (.pointer (some ⟨gk, 0, none⟩))) nilS) 129)) (A : Option Addr) (c : Nat) (xs : List ByteArray) (hr : Kd.C Kd.string w A xs.length xs) (hc : xs.length ≤ c) (hn : xs.length ≤ LM) (hk : w.heap[gk]? = some (row (#[.slice A xs.length c]) 195)) :
  Calls Tryz.prog 30 #[.pointer (some ⟨ge, 0, none⟩)] w fun e w' => Leafed loc ⟨#[82, 101, 113, 117, 105, 114, 101, 100]⟩ eS [⟨#[114, 101, 113, 117, 105, 114, 101, 100]⟩] xs w e w' := by
 have Hr := asd_ hr
 clear hr
 have HK : Aside0 (At w [] w) := asd_ (At.start w)
 have bge := cel_ (blk_below hge HK.out.b); have bgk := cel_ (blk_below hk HK.out.b)
 go_enter Tryz.func30, Tryz.ntmps30
 go_wp2_with (first | ((with_reducible refine gd_ 2 ?_); refine bx_ #[eS, eS, nilS, nilS, eS, nilS, nilS, nilS] 54 ?_; clear HK bge bgk; intro g2 wb2 HK Gg2; have bg2 := cE HK 0; have bge := cel_ (blk_below hge HK.out.b); have bgk := cel_ (blk_below hk HK.out.b)))
 refine st_ 12 (fun w' => At w [.b g2 (row (#[eS, eS, nilS, nilS, eS, nilS, nilS, nilS]) 54)] w' ∧ (∀ j, w'.cell? ⟨g2, j, none⟩ = (#[eS, eS, nilS, nilS, eS, nilS, nilS, nilS] : Array Value)[j]?) ∧ (∀ j, w'.cell? ⟨ge, j, none⟩ = (vec loc A0 c0 (.iface 193 (.pointer (some ⟨gk, 0, none⟩))) nilS : Array Value)[j]?) ∧ (∀ j, w'.cell? ⟨gk, j, none⟩ = (#[.slice A xs.length c] : Array Value)[j]?)) [11] (fun A => ⟨A, (cA A 0), (cel_ (blk_below hge A.b)), (cel_ (blk_below hk A.b))⟩) (fun hHeld => ?_)
 refine pu_ 0 6 1 ?_
 refine pu_ 1 7 3 ?_
 refine pu_ 2 8 7 ?_
 refine pu_ 4 10 23 ?_
 refine pu_ 5 11 55 ?_
 refine pu_ 6 12 119 ?_
 refine ta4_ 3 9 127 hHeld ?_
 refine ta4_ 7 13 255 hHeld ?_
 refine jo_ (σ := Option Addr × Nat × Nat) 1 2047 (fun s => [(14, .slice s.1 0 s.2.1), (15, .agg #[.string loc, eS, nilS, .slice s.1 0 s.2.1, eS, nilS, nilS, nilS]), (3, .pointer (some ⟨s.2.2, 0, none⟩))]) (fun s w' => At w (.b s.2.2 (row (#[eS, eS, nilS, nilS, eS, nilS, nilS, nilS]) 54) :: [.b g2 (row (#[eS, eS, nilS, nilS, eS, nilS, nilS, nilS]) 54)]) w' ∧ w.heap.size ≤ s.2.2) (fun hCont => ?_) ?_
 refine tw_ 8 10 14 3 511 1279 (fun K hK => ?_) (fun K hK => ?_)
 ·skip
  have HE := asd_ hHeld.1
  refine ge_ Tryz.func55 #[.slice A0 0 c0] ?_
  with_reducible refine (copied_nil _ A0 c0).mono ?_
  rintro e w3 ⟨v, rfl, ⟨Aa, ca, rfl, hFa⟩, hb⟩
  refine ⟨_, rfl, ?_⟩
  replace HE := asd_ (At.step HE.out hb)
  refine hK.out _ _ ⟨HE.out, (cE HE 0), (cel_ (blk_below hge HE.out.b)), (cel_ (blk_below hk HE.out.b))⟩ (fun hHeld => ?_)
  clear hK K
  refine nq_ 14 ?_
  refine pu_ 9 15 1023 ?_
  refine on_ 10 3 2047 (fun K hK => ?_)
  refine ne_ 3 (row (#[eS, eS, nilS, nilS, eS, nilS, nilS, nilS]) 54) (fun b => .pointer (some ⟨b, 0, none⟩)) ?_
  intro g3 w3 HE0 hg3
  replace HE := asd_ HE0; clear HE0
  refine hK.out _ _ ⟨HE.out.drop, (cel_ HE.out.drop.k.1), (cel_ (blk_below hge HE.out.drop.b)), (cel_ (blk_below hk HE.out.drop.b))⟩ (fun hHeld => ?_)
  clear hK K
  refine nq_ 3 ?_
  exact nx_ (hCont (Aa, ca, g3) _ ⟨HE.out, hg3⟩)
 ·skip
  have HE := asd_ hHeld.1
  refine ne_ 3 (row (#[eS, eS, nilS, nilS, eS, nilS, nilS, nilS]) 54) (fun b => .pointer (some ⟨b, 0, none⟩)) ?_
  intro g3 w3 HE0 hg3
  replace HE := asd_ HE0; clear HE0
  refine hK.out _ _ ⟨HE.out.drop, (cel_ HE.out.drop.k.1), (cel_ (blk_below hge HE.out.drop.b)), (cel_ (blk_below hk HE.out.drop.b))⟩ (fun hHeld => ?_)
  clear hK K
  refine nq_ 3 ?_
  refine on_ 8 14 1535 (fun K hK => ?_)
  refine ge_ Tryz.func55 #[.slice A0 0 c0] ?_
  with_reducible refine (copied_nil _ A0 c0).mono ?_
  rintro e w3 ⟨v, rfl, ⟨Aa, ca, rfl, hFa⟩, hb⟩
  refine ⟨_, rfl, ?_⟩
  replace HE := asd_ (At.step HE.out hb)
  have hFa' := hFa
  refine hK.out _ _ ⟨HE.out.drop, (cel_ HE.out.drop.k.1), (cel_ (blk_below hge HE.out.drop.b)), (cel_ (blk_below hk HE.out.drop.b))⟩ (fun hHeld => ?_)
  clear hK K
  refine nq_ 14 ?_
  refine pu_ 9 15 2047 ?_
  exact nx_ (hCont (Aa, ca, g3) _ ⟨HE.out, hg3⟩)
 rintro ⟨Aa, ca, g3⟩ w' ⟨HE0, hg3⟩
 have HE := asd_ HE0
 clear HE0
 have Gg3 := asd_ hg3
 clear hg3
 have hHeld := (show At w [.b g2 (row (#[eS, eS, nilS, nilS, eS, nilS, nilS, nilS]) 54)] w' ∧ (∀ j, w'.cell? ⟨g2, j, none⟩ = (#[eS, eS, nilS, nilS, eS, nilS, nilS, nilS] : Array Value)[j]?) ∧ (∀ j, w'.cell? ⟨ge, j, none⟩ = (vec loc A0 c0 (.iface 193 (.pointer (some ⟨gk, 0, none⟩))) nilS : Array Value)[j]?) ∧ (∀ j, w'.cell? ⟨gk, j, none⟩ = (#[.slice A xs.length c] : Array Value)[j]?) from ⟨HE.out.drop, (cel_ HE.out.drop.k.1), (cel_ (blk_below hge HE.out.drop.b)), (cel_ (blk_below hk HE.out.drop.b))⟩)
 refine np_ ?_
 refine lz_ 11 4095 (fun K hK => ?_)
 refine storerow_ (cs := #[eS, eS, nilS, nilS, eS, nilS, nilS, nilS]) (g := g3) 0 (#[.string loc, eS, nilS, .slice Aa 0 ca, eS, nilS, nilS, nilS]) HE.out rfl Gg3.out rfl (by rfl) rfl rfl rfl rfl kr_ rfl (by simp [Value.oneCell']) ?_
 intro w3 HE0
 replace HE := asd_ HE0; clear HE0
 refine hK.out _ _ ?_
 clear hK K
 refine done_ kr_ ?_
 clear HK; have HK := HE; clear HE
 clear hHeld
 clear bg2 bge bgk
 have bg2 := cE HK 1
 have bg3 := cE HK 0
 have fg3 := fE HK 0
 have bge := cel_ (blk_below hge HK.out.b)
 have bgk := cel_ (blk_below hk HK.out.b)
 go_wp2_with (first | (go_at_call 243; refine (path_req _ gk).mono ?_; rintro e wp ⟨Ap, cp, rfl, hcp, hP, hb⟩; have HK1 := At.step at_ hb; have HP := asd_ (And.intro hcp hP); clear hcp hP hb; replace HK := asd_ HK1; clear HK1; clear bg2 bg3 fg3 bge bgk; have bg2 := cE HK 1; have bg3 := cE HK 0; have fg3 := fE HK 0; have bge := cel_ (blk_below hge HK.out.b); have bgk := cel_ (blk_below hk HK.out.b)) | ((with_reducible refine gd_ 26 ?_); refine cw_ #[.slice Ap 1 cp] Tryz.func55 (copied_ok (names := [⟨#[114, 101, 113, 117, 105, 114, 101, 100]⟩]) (Kd.C_below HP.out.2 (by repeat (first | exact HK.out.b | exact Below.refl _ _ | apply below_alloc | apply pw_below_drewN | apply below_drew1))) HP.out.1 (by simp)) ?_; rintro v26 wc26 HK0 ⟨Aq, cq, rfl, hF⟩ hB; have HK1 := At.fact (Fact.strs (.slice Aq 1 cq) [⟨#[114, 101, 113, 117, 105, 114, 101, 100]⟩]) HK0 hF; clear HK0 hF hB; replace HK := asd_ HK1; clear HK1; clear bg2 bg3 fg3 bge bgk; have bg2 := cE HK 2; have bg3 := cE HK 1; have fg3 := fE HK 1; have bge := cel_ (blk_below hge HK.out.b); have bgk := cel_ (blk_below hk HK.out.b)) | ((with_reducible refine gate_ (.store 22 (.tmp 27) (.tmp 26)) rfl ?_); refine store_at (t := 22) (p := 27) (g := g3) (i := 2) (v := .slice Aq 1 cq) 1 (#[.string loc, eS, .slice Aq 1 cq, .slice Aa 0 ca, eS, nilS, nilS, nilS]) rfl at_ rfl Gg3.out rfl rfl rfl rfl gs_ ?_; intro ws1 HK1; replace HK := asd_ HK1; clear HK1; clear bg2 bg3 fg3 bge bgk; have bg2 := cE HK 2; have bg3 := cE HK 1; have fg3 := fE HK 1; have bge := cel_ (blk_below hge HK.out.b); have bgk := cel_ (blk_below hk HK.out.b)) | ((with_reducible refine gd_ 33 ?_); refine cw_ #[.iface 193 (.pointer (some ⟨gk, 0, none⟩))] Tryz.func56 (kind_form (kind_req _ gk A c xs (Kd.C_below Hr.out HK.out.b) hc hn (blk_below hk HK.out.b))) ?_; rintro v33 wc33 HK0 ⟨An, cn, rfl, hF⟩ hB; have HK1 := At.fact (Fact.strs (.slice An xs.length cn) xs) HK0 hF; clear HK0 hF hB; replace HK := asd_ HK1; clear HK1; clear bg2 bg3 fg3 bge bgk; have bg2 := cE HK 3; have bg3 := cE HK 2; have fg3 := fE HK 2; have bge := cel_ (blk_below hge HK.out.b); have bgk := cel_ (blk_below hk HK.out.b)) | ((with_reducible refine gate_ (.store 9 (.tmp 38) (.tmp 34)) rfl ?_); refine store_at (t := 9) (p := 38) (g := g3) (i := 1) (v := .string ⟨#[82, 101, 113, 117, 105, 114, 101, 100]⟩) 2 (#[.string loc, .string ⟨#[82, 101, 113, 117, 105, 114, 101, 100]⟩, .slice Aq 1 cq, .slice Aa 0 ca, eS, nilS, nilS, nilS]) rfl at_ rfl Gg3.out rfl rfl rfl rfl gs_ ?_; intro ws2 HK1; replace HK := asd_ HK1; clear HK1; clear bg2 bg3 fg3 bge bgk; have bg2 := cE HK 3; have bg3 := cE HK 2; have fg3 := fE HK 2; have bge := cel_ (blk_below hge HK.out.b); have bgk := cel_ (blk_below hk HK.out.b)) | ((with_reducible refine gate_ (.store 9 (.tmp 39) (.tmp 35)) rfl ?_); refine store_at (t := 9) (p := 39) (g := g3) (i := 4) (v := eS) 2 (#[.string loc, .string ⟨#[82, 101, 113, 117, 105, 114, 101, 100]⟩, .slice Aq 1 cq, .slice Aa 0 ca, eS, nilS, nilS, nilS]) rfl at_ rfl Gg3.out rfl rfl rfl rfl gs_ ?_; intro ws3 HK1; replace HK := asd_ HK1; clear HK1; clear bg2 bg3 fg3 bge bgk; have bg2 := cE HK 3; have bg3 := cE HK 2; have fg3 := fE HK 2; have bge := cel_ (blk_below hge HK.out.b); have bgk := cel_ (blk_below hk HK.out.b)) | ((with_reducible refine gate_ (.store 22 (.tmp 40) (.tmp 36)) rfl ?_); refine store_at (t := 22) (p := 40) (g := g3) (i := 5) (v := .slice An xs.length cn) 2 (#[.string loc, .string ⟨#[82, 101, 113, 117, 105, 114, 101, 100]⟩, .slice Aq 1 cq, .slice Aa 0 ca, eS, .slice An xs.length cn, nilS, nilS]) rfl at_ rfl Gg3.out rfl rfl rfl rfl gs_ ?_; intro ws4 HK1; replace HK := asd_ HK1; clear HK1; clear bg2 bg3 fg3 bge bgk; have bg2 := cE HK 3; have bg3 := cE HK 2; have fg3 := fE HK 2; have bge := cel_ (blk_below hge HK.out.b); have bgk := cel_ (blk_below hk HK.out.b)) | ((with_reducible refine gate_ (.store 33 (.tmp 41) (.tmp 37)) rfl ?_); refine store_at (t := 33) (p := 41) (g := g3) (i := 6) (v := nilS) 2 (#[.string loc, .string ⟨#[82, 101, 113, 117, 105, 114, 101, 100]⟩, .slice Aq 1 cq, .slice Aa 0 ca, eS, .slice An xs.length cn, nilS, nilS]) rfl at_ rfl Gg3.out rfl rfl rfl rfl gs_ ?_; intro ws5 HK1; replace HK := asd_ HK1; clear HK1; clear bg2 bg3 fg3 bge bgk; have bg2 := cE HK 3; have bg3 := cE HK 2; have fg3 := fE HK 2; have bge := cel_ (blk_below hge HK.out.b); have bgk := cel_ (blk_below hk HK.out.b)))
 refine wp_loop_once ?_
 go_wp2_with (first | ((with_reducible refine gd_ 61 ?_); refine cl_ #[nilS, .func (.func 58) #[] #[]] (.tuple #[]) Tryz.func57 (sort_0 _ none 0 _) ?_; intro wc61 HK1; replace HK := asd_ HK1; clear HK1; clear bg2 bg3 fg3 bge bgk; have bg2 := cE HK 3; have bg3 := cE HK 2; have fg3 := fE HK 2; have bge := cel_ (blk_below hge HK.out.b); have bgk := cel_ (blk_below hk HK.out.b)) | ((with_reducible refine gd_ 62 ?_); refine lo_ 54 3 g3 (#[.string loc, .string ⟨#[82, 101, 113, 117, 105, 114, 101, 100]⟩, .slice Aq 1 cq, .slice Aa 0 ca, eS, .slice An xs.length cn, nilS, nilS]) HK.out.k.2.2.1 Tryz.underlying54 ?_) | ((with_reducible refine gate_ (.store 54 (.tmp 2) (.tmp 62)) rfl ?_); refine storerow_at (cs := #[eS, eS, nilS, nilS, eS, nilS, nilS, nilS]) (g := g2) 3 (#[.string loc, .string ⟨#[82, 101, 113, 117, 105, 114, 101, 100]⟩, .slice Aq 1 cq, .slice Aa 0 ca, eS, .slice An xs.length cn, nilS, nilS]) at_ rfl Gg2.out rfl rfl rfl rfl rfl rfl kr_ rfl (by simp [Value.oneCell']) ?_; intro wr6 HK1; replace HK := asd_ HK1; clear HK1; clear bg2 bg3 fg3 bge bgk; have bg2 := cE HK 3; have bg3 := cE HK 2; have fg3 := fE HK 2; have bge := cel_ (blk_below hge HK.out.b); have bgk := cel_ (blk_below hk HK.out.b)))
 ((try simp only [Exit.inBlock, Exit.then]); refine bodyPost_ret (results_cell_row rfl _ _ g2 54 (#[.string loc, .string ⟨#[82, 101, 113, 117, 105, 114, 101, 100]⟩, .slice Aq 1 cq, .slice Aa 0 ca, eS, .slice An xs.length cn, nilS, nilS]) (0, 0) _ rfl (HK.out.k.2.2.2.1) Tryz.underlying54 rfl kr_) rfl ?_)
 exact ⟨Aq, cq, Aa, ca, An, cn, rfl, HK.out.k.2.1, HK.out.k.1, HK.out.b⟩
end Go.Proofs.YtkphbhncpdcbeaaGreatDoor.J
namespace Go.Proofs.YtkphbhncpdcbeaaGreatDoor.J
open Go.Proofs.YtkphbhncpdcbeaaGreatDoorW Go.RowKit Go.Proofs.YtkphbhncpdcbeaaGreatDoorW.PrintWords Go.Proofs.YtkphbhncpdcbeaaGreatDoorW.PrintLast Go.Proofs.YtkphbhncpdcbeaaGreatDoorW.PrintMore Go.Proofs.YtkphbhncpdcbeaaGreatDoor.PJT
attribute [local go_sem] Nd.csize Sc.csize Nd.c0 Nd.c1 Nd.c2 Nd.c3 Nd.c4 Nd.c5 Nd.c6 Nd.c7 Nd.c8 Nd.c9 Nd.c10 Nd.c11 Nd.c12 Nd.c13 Nd.c14 Nd.c15 Nd.c16 Nd.c17 Nd.c18 Nd.c19 Nd.c20 Nd.c21 Nd.c22 Nd.c23 Nd.c24 Nd.c25 Nd.c26 Nd.c27 Nd.c28 Nd.c29 Nd.c30 Nd.c31 Nd.c32 Nd.c33 Nd.c34 Nd.c35 Nd.c36 Nd.c37 Nd.c38 Nd.c39 Nd.c40 Nd.c41 Nd.c42 Nd.c43 Nd.c44 Nd.c45 Nd.c46 Nd.c47 Nd.c48 Nd.c49 Nd.c50 Nd.c51 Nd.c52 Sc.c0 Sc.c1 Sc.c2 Sc.c3 Sc.c4 Sc.c5 Sc.c6 Sc.c7 Sc.c8 Sc.c9 Sc.c10 Sc.c11 Sc.c12 Sc.c13 Sc.c14 Sc.c15 Sc.c16 Sc.c17 Sc.c18 Sc.c19 Sc.c20 Sc.c21 Sc.c22 Sc.c23 Sc.c24 Sc.c25 Sc.c26 Sc.c27 Sc.c28 Sc.c29 Sc.c30 Sc.c31 Sc.c32 Sc.c33 Sc.c34 Sc.c35 Sc.c36 Sc.c37 Sc.c38 Sc.c39 Sc.c40 Sc.c41 Sc.c42 Sc.c43 Sc.c44 Sc.c45 Sc.c46 Sc.c47 Sc.c48 Sc.c49 Sc.c50 Sc.c51 Sc.c52
set_option linter.unusedVariables false
set_option linter.unusedSimpArgs false
attribute [local go_sem] mk_req mk_dep mk_false mk_schema
set_option maxHeartbeats 4000000 in
set_option maxRecDepth 100000 in
theorem leaf_dep (w : World) (ge gk : Nat) (loc : ByteArray) (A0 : Option Addr) (c0 : Nat) (hge : w.heap[ge]? = some (row (vec loc A0 c0 (.iface 199 (.pointer (some ⟨gk, 0, none⟩))) nilS) 129)) (name : ByteArray) (A : Option Addr) (c : Nat) (xs : List ByteArray) (hr : Kd.C Kd.string w A xs.length xs) (hc : xs.length ≤ c) (hn : xs.length ≤ LM) (hk : w.heap[gk]? = some (row (#[.string name, .slice A xs.length c]) 200)) :
  Calls Tryz.prog 30 #[.pointer (some ⟨ge, 0, none⟩)] w fun e w' => Leafed loc ⟨#[68, 101, 112, 101, 110, 100, 101, 110, 116, 82, 101, 113, 117, 105, 114, 101, 100]⟩ (.string name) [⟨#[100, 101, 112, 101, 110, 100, 101, 110, 116, 82, 101, 113, 117, 105, 114, 101, 100]⟩, name] xs w e w' := by
 have Hr := asd_ hr
 clear hr
 have HK : Aside0 (At w [] w) := asd_ (At.start w)
 have bge := cel_ (blk_below hge HK.out.b); have bgk := cel_ (blk_below hk HK.out.b)
 go_enter Tryz.func30, Tryz.ntmps30
 go_wp2_with (first | ((with_reducible refine gd_ 2 ?_); refine bx_ #[eS, eS, nilS, nilS, eS, nilS, nilS, nilS] 54 ?_; clear HK bge bgk; intro g2 wb2 HK Gg2; have bg2 := cE HK 0; have bge := cel_ (blk_below hge HK.out.b); have bgk := cel_ (blk_below hk HK.out.b)))
 refine st_ 12 (fun w' => At w [.b g2 (row (#[eS, eS, nilS, nilS, eS, nilS, nilS, nilS]) 54)] w' ∧ (∀ j, w'.cell? ⟨g2, j, none⟩ = (#[eS, eS, nilS, nilS, eS, nilS, nilS, nilS] : Array Value)[j]?) ∧ (∀ j, w'.cell? ⟨ge, j, none⟩ = (vec loc A0 c0 (.iface 199 (.pointer (some ⟨gk, 0, none⟩))) nilS : Array Value)[j]?) ∧ (∀ j, w'.cell? ⟨gk, j, none⟩ = (#[.string name, .slice A xs.length c] : Array Value)[j]?)) [11] (fun A => ⟨A, (cA A 0), (cel_ (blk_below hge A.b)), (cel_ (blk_below hk A.b))⟩) (fun hHeld => ?_)
 refine pu_ 0 6 1 ?_
 refine pu_ 1 7 3 ?_
 refine pu_ 2 8 7 ?_
 refine pu_ 4 10 23 ?_
 refine pu_ 5 11 55 ?_
 refine pu_ 6 12 119 ?_
 refine ta4_ 3 9 127 hHeld ?_
 refine ta4_ 7 13 255 hHeld ?_
 refine jo_ (σ := Option Addr × Nat × Nat) 1 2047 (fun s => [(14, .slice s.1 0 s.2.1), (15, .agg #[.string loc, eS, nilS, .slice s.1 0 s.2.1, eS, nilS, nilS, nilS]), (3, .pointer (some ⟨s.2.2, 0, none⟩))]) (fun s w' => At w (.b s.2.2 (row (#[eS, eS, nilS, nilS, eS, nilS, nilS, nilS]) 54) :: [.b g2 (row (#[eS, eS, nilS, nilS, eS, nilS, nilS, nilS]) 54)]) w' ∧ w.heap.size ≤ s.2.2) (fun hCont => ?_) ?_
 refine tw_ 8 10 14 3 511 1279 (fun K hK => ?_) (fun K hK => ?_)
 ·skip
  have HE := asd_ hHeld.1
  refine ge_ Tryz.func55 #[.slice A0 0 c0] ?_
  with_reducible refine (copied_nil _ A0 c0).mono ?_
  rintro e w3 ⟨v, rfl, ⟨Aa, ca, rfl, hFa⟩, hb⟩
  refine ⟨_, rfl, ?_⟩
  replace HE := asd_ (At.step HE.out hb)
  refine hK.out _ _ ⟨HE.out, (cE HE 0), (cel_ (blk_below hge HE.out.b)), (cel_ (blk_below hk HE.out.b))⟩ (fun hHeld => ?_)
  clear hK K
  refine nq_ 14 ?_
  refine pu_ 9 15 1023 ?_
  refine on_ 10 3 2047 (fun K hK => ?_)
  refine ne_ 3 (row (#[eS, eS, nilS, nilS, eS, nilS, nilS, nilS]) 54) (fun b => .pointer (some ⟨b, 0, none⟩)) ?_
  intro g3 w3 HE0 hg3
  replace HE := asd_ HE0; clear HE0
  refine hK.out _ _ ⟨HE.out.drop, (cel_ HE.out.drop.k.1), (cel_ (blk_below hge HE.out.drop.b)), (cel_ (blk_below hk HE.out.drop.b))⟩ (fun hHeld => ?_)
  clear hK K
  refine nq_ 3 ?_
  exact nx_ (hCont (Aa, ca, g3) _ ⟨HE.out, hg3⟩)
 ·skip
  have HE := asd_ hHeld.1
  refine ne_ 3 (row (#[eS, eS, nilS, nilS, eS, nilS, nilS, nilS]) 54) (fun b => .pointer (some ⟨b, 0, none⟩)) ?_
  intro g3 w3 HE0 hg3
  replace HE := asd_ HE0; clear HE0
  refine hK.out _ _ ⟨HE.out.drop, (cel_ HE.out.drop.k.1), (cel_ (blk_below hge HE.out.drop.b)), (cel_ (blk_below hk HE.out.drop.b))⟩ (fun hHeld => ?_)
  clear hK K
  refine nq_ 3 ?_
  refine on_ 8 14 1535 (fun K hK => ?_)
  refine ge_ Tryz.func55 #[.slice A0 0 c0] ?_
  with_reducible refine (copied_nil _ A0 c0).mono ?_
  rintro e w3 ⟨v, rfl, ⟨Aa, ca, rfl, hFa⟩, hb⟩
  refine ⟨_, rfl, ?_⟩
  replace HE := asd_ (At.step HE.out hb)
  have hFa' := hFa
  refine hK.out _ _ ⟨HE.out.drop, (cel_ HE.out.drop.k.1), (cel_ (blk_below hge HE.out.drop.b)), (cel_ (blk_below hk HE.out.drop.b))⟩ (fun hHeld => ?_)
  clear hK K
  refine nq_ 14 ?_
  refine pu_ 9 15 2047 ?_
  exact nx_ (hCont (Aa, ca, g3) _ ⟨HE.out, hg3⟩)
 rintro ⟨Aa, ca, g3⟩ w' ⟨HE0, hg3⟩
 have HE := asd_ HE0
 clear HE0
 have Gg3 := asd_ hg3
 clear hg3
 have hHeld := (show At w [.b g2 (row (#[eS, eS, nilS, nilS, eS, nilS, nilS, nilS]) 54)] w' ∧ (∀ j, w'.cell? ⟨g2, j, none⟩ = (#[eS, eS, nilS, nilS, eS, nilS, nilS, nilS] : Array Value)[j]?) ∧ (∀ j, w'.cell? ⟨ge, j, none⟩ = (vec loc A0 c0 (.iface 199 (.pointer (some ⟨gk, 0, none⟩))) nilS : Array Value)[j]?) ∧ (∀ j, w'.cell? ⟨gk, j, none⟩ = (#[.string name, .slice A xs.length c] : Array Value)[j]?) from ⟨HE.out.drop, (cel_ HE.out.drop.k.1), (cel_ (blk_below hge HE.out.drop.b)), (cel_ (blk_below hk HE.out.drop.b))⟩)
 refine np_ ?_
 refine lz_ 11 4095 (fun K hK => ?_)
 refine storerow_ (cs := #[eS, eS, nilS, nilS, eS, nilS, nilS, nilS]) (g := g3) 0 (#[.string loc, eS, nilS, .slice Aa 0 ca, eS, nilS, nilS, nilS]) HE.out rfl Gg3.out rfl (by rfl) rfl rfl rfl rfl kr_ rfl (by simp [Value.oneCell']) ?_
 intro w3 HE0
 replace HE := asd_ HE0; clear HE0
 refine hK.out _ _ ?_
 clear hK K
 refine done_ kr_ ?_
 clear HK; have HK := HE; clear HE
 clear hHeld
 clear bg2 bge bgk
 have bg2 := cE HK 1
 have bg3 := cE HK 0
 have fg3 := fE HK 0
 have bge := cel_ (blk_below hge HK.out.b)
 have bgk := cel_ (blk_below hk HK.out.b)
 go_wp2_with (first | (go_at_call 245; refine (path_dep _ gk name A c xs (blk_below hk HK.out.b)).mono ?_; rintro e wp ⟨Ap, cp, rfl, hcp, hP, hb⟩; have HK1 := At.step at_ hb; have HP := asd_ (And.intro hcp hP); clear hcp hP hb; replace HK := asd_ HK1; clear HK1; clear bg2 bg3 fg3 bge bgk; have bg2 := cE HK 1; have bg3 := cE HK 0; have fg3 := fE HK 0; have bge := cel_ (blk_below hge HK.out.b); have bgk := cel_ (blk_below hk HK.out.b)) | ((with_reducible refine gd_ 26 ?_); refine cw_ #[.slice Ap 2 cp] Tryz.func55 (copied_ok (names := [⟨#[100, 101, 112, 101, 110, 100, 101, 110, 116, 82, 101, 113, 117, 105, 114, 101, 100]⟩, name]) (Kd.C_below HP.out.2 (by repeat (first | exact HK.out.b | exact Below.refl _ _ | apply below_alloc | apply pw_below_drewN | apply below_drew1))) HP.out.1 (by simp)) ?_; rintro v26 wc26 HK0 ⟨Aq, cq, rfl, hF⟩ hB; have HK1 := At.fact (Fact.strs (.slice Aq 2 cq) [⟨#[100, 101, 112, 101, 110, 100, 101, 110, 116, 82, 101, 113, 117, 105, 114, 101, 100]⟩, name]) HK0 hF; clear HK0 hF hB; replace HK := asd_ HK1; clear HK1; clear bg2 bg3 fg3 bge bgk; have bg2 := cE HK 2; have bg3 := cE HK 1; have fg3 := fE HK 1; have bge := cel_ (blk_below hge HK.out.b); have bgk := cel_ (blk_below hk HK.out.b)) | ((with_reducible refine gate_ (.store 22 (.tmp 27) (.tmp 26)) rfl ?_); refine store_at (t := 22) (p := 27) (g := g3) (i := 2) (v := .slice Aq 2 cq) 1 (#[.string loc, eS, .slice Aq 2 cq, .slice Aa 0 ca, eS, nilS, nilS, nilS]) rfl at_ rfl Gg3.out rfl rfl rfl rfl gs_ ?_; intro ws1 HK1; replace HK := asd_ HK1; clear HK1; clear bg2 bg3 fg3 bge bgk; have bg2 := cE HK 2; have bg3 := cE HK 1; have fg3 := fE HK 1; have bge := cel_ (blk_below hge HK.out.b); have bgk := cel_ (blk_below hk HK.out.b)) | ((with_reducible refine gd_ 33 ?_); refine cw_ #[.iface 199 (.pointer (some ⟨gk, 0, none⟩))] Tryz.func56 (kind_form (kind_dep _ gk name A c xs (Kd.C_below Hr.out HK.out.b) hc hn (blk_below hk HK.out.b))) ?_; rintro v33 wc33 HK0 ⟨An, cn, rfl, hF⟩ hB; have HK1 := At.fact (Fact.strs (.slice An xs.length cn) xs) HK0 hF; clear HK0 hF hB; replace HK := asd_ HK1; clear HK1; clear bg2 bg3 fg3 bge bgk; have bg2 := cE HK 3; have bg3 := cE HK 2; have fg3 := fE HK 2; have bge := cel_ (blk_below hge HK.out.b); have bgk := cel_ (blk_below hk HK.out.b)) | ((with_reducible refine gate_ (.store 9 (.tmp 38) (.tmp 34)) rfl ?_); refine store_at (t := 9) (p := 38) (g := g3) (i := 1) (v := .string ⟨#[68, 101, 112, 101, 110, 100, 101, 110, 116, 82, 101, 113, 117, 105, 114, 101, 100]⟩) 2 (#[.string loc, .string ⟨#[68, 101, 112, 101, 110, 100, 101, 110, 116, 82, 101, 113, 117, 105, 114, 101, 100]⟩, .slice Aq 2 cq, .slice Aa 0 ca, eS, nilS, nilS, nilS]) rfl at_ rfl Gg3.out rfl rfl rfl rfl gs_ ?_; intro ws2 HK1; replace HK := asd_ HK1; clear HK1; clear bg2 bg3 fg3 bge bgk; have bg2 := cE HK 3; have bg3 := cE HK 2; have fg3 := fE HK 2; have bge := cel_ (blk_below hge HK.out.b); have bgk := cel_ (blk_below hk HK.out.b)) | ((with_reducible refine gate_ (.store 9 (.tmp 39) (.tmp 35)) rfl ?_); refine store_at (t := 9) (p := 39) (g := g3) (i := 4) (v := .string name) 2 (#[.string loc, .string ⟨#[68, 101, 112, 101, 110, 100, 101, 110, 116, 82, 101, 113, 117, 105, 114, 101, 100]⟩, .slice Aq 2 cq, .slice Aa 0 ca, .string name, nilS, nilS, nilS]) rfl at_ rfl Gg3.out rfl rfl rfl rfl gs_ ?_; intro ws3 HK1; replace HK := asd_ HK1; clear HK1; clear bg2 bg3 fg3 bge bgk; have bg2 := cE HK 3; have bg3 := cE HK 2; have fg3 := fE HK 2; have bge := cel_ (blk_below hge HK.out.b); have bgk := cel_ (blk_below hk HK.out.b)) | ((with_reducible refine gate_ (.store 22 (.tmp 40) (.tmp 36)) rfl ?_); refine store_at (t := 22) (p := 40) (g := g3) (i := 5) (v := .slice An xs.length cn) 2 (#[.string loc, .string ⟨#[68, 101, 112, 101, 110, 100, 101, 110, 116, 82, 101, 113, 117, 105, 114, 101, 100]⟩, .slice Aq 2 cq, .slice Aa 0 ca, .string name, .slice An xs.length cn, nilS, nilS]) rfl at_ rfl Gg3.out rfl rfl rfl rfl gs_ ?_; intro ws4 HK1; replace HK := asd_ HK1; clear HK1; clear bg2 bg3 fg3 bge bgk; have bg2 := cE HK 3; have bg3 := cE HK 2; have fg3 := fE HK 2; have bge := cel_ (blk_below hge HK.out.b); have bgk := cel_ (blk_below hk HK.out.b)) | ((with_reducible refine gate_ (.store 33 (.tmp 41) (.tmp 37)) rfl ?_); refine store_at (t := 33) (p := 41) (g := g3) (i := 6) (v := nilS) 2 (#[.string loc, .string ⟨#[68, 101, 112, 101, 110, 100, 101, 110, 116, 82, 101, 113, 117, 105, 114, 101, 100]⟩, .slice Aq 2 cq, .slice Aa 0 ca, .string name, .slice An xs.length cn, nilS, nilS]) rfl at_ rfl Gg3.out rfl rfl rfl rfl gs_ ?_; intro ws5 HK1; replace HK := asd_ HK1; clear HK1; clear bg2 bg3 fg3 bge bgk; have bg2 := cE HK 3; have bg3 := cE HK 2; have fg3 := fE HK 2; have bge := cel_ (blk_below hge HK.out.b); have bgk := cel_ (blk_below hk HK.out.b)))
 refine wp_loop_once ?_
 go_wp2_with (first | ((with_reducible refine gd_ 61 ?_); refine cl_ #[nilS, .func (.func 58) #[] #[]] (.tuple #[]) Tryz.func57 (sort_0 _ none 0 _) ?_; intro wc61 HK1; replace HK := asd_ HK1; clear HK1; clear bg2 bg3 fg3 bge bgk; have bg2 := cE HK 3; have bg3 := cE HK 2; have fg3 := fE HK 2; have bge := cel_ (blk_below hge HK.out.b); have bgk := cel_ (blk_below hk HK.out.b)) | ((with_reducible refine gd_ 62 ?_); refine lo_ 54 3 g3 (#[.string loc, .string ⟨#[68, 101, 112, 101, 110, 100, 101, 110, 116, 82, 101, 113, 117, 105, 114, 101, 100]⟩, .slice Aq 2 cq, .slice Aa 0 ca, .string name, .slice An xs.length cn, nilS, nilS]) HK.out.k.2.2.1 Tryz.underlying54 ?_) | ((with_reducible refine gate_ (.store 54 (.tmp 2) (.tmp 62)) rfl ?_); refine storerow_at (cs := #[eS, eS, nilS, nilS, eS, nilS, nilS, nilS]) (g := g2) 3 (#[.string loc, .string ⟨#[68, 101, 112, 101, 110, 100, 101, 110, 116, 82, 101, 113, 117, 105, 114, 101, 100]⟩, .slice Aq 2 cq, .slice Aa 0 ca, .string name, .slice An xs.length cn, nilS, nilS]) at_ rfl Gg2.out rfl rfl rfl rfl rfl rfl kr_ rfl (by simp [Value.oneCell']) ?_; intro wr6 HK1; replace HK := asd_ HK1; clear HK1; clear bg2 bg3 fg3 bge bgk; have bg2 := cE HK 3; have bg3 := cE HK 2; have fg3 := fE HK 2; have bge := cel_ (blk_below hge HK.out.b); have bgk := cel_ (blk_below hk HK.out.b)))
 ((try simp only [Exit.inBlock, Exit.then]); refine bodyPost_ret (results_cell_row rfl _ _ g2 54 (#[.string loc, .string ⟨#[68, 101, 112, 101, 110, 100, 101, 110, 116, 82, 101, 113, 117, 105, 114, 101, 100]⟩, .slice Aq 2 cq, .slice Aa 0 ca, .string name, .slice An xs.length cn, nilS, nilS]) (0, 0) _ rfl (HK.out.k.2.2.2.1) Tryz.underlying54 rfl kr_) rfl ?_)
 exact ⟨Aq, cq, Aa, ca, An, cn, rfl, HK.out.k.2.1, HK.out.k.1, HK.out.b⟩
set_option maxHeartbeats 4000000 in
set_option maxRecDepth 100000 in
theorem leaf_false (w : World) (ge gk : Nat) (loc : ByteArray) (A0 : Option Addr) (c0 : Nat) (hge : w.heap[ge]? = some (row (vec loc A0 c0 (.iface 267 (.pointer (some ⟨gk, 0, none⟩))) nilS) 129))  :
  Calls Tryz.prog 30 #[.pointer (some ⟨ge, 0, none⟩)] w fun e w' => Leafed loc ⟨#[70, 97, 108, 115, 101, 83, 99, 104, 101, 109, 97]⟩ eS [] [] w e w' := by
 skip
 skip
 have HK : Aside0 (At w [] w) := asd_ (At.start w)
 have bge := cel_ (blk_below hge HK.out.b)
 go_enter Tryz.func30, Tryz.ntmps30
 go_wp2_with (first | ((with_reducible refine gd_ 2 ?_); refine bx_ #[eS, eS, nilS, nilS, eS, nilS, nilS, nilS] 54 ?_; clear HK bge; intro g2 wb2 HK Gg2; have bg2 := cE HK 0; have bge := cel_ (blk_below hge HK.out.b)))
 refine st_ 12 (fun w' => At w [.b g2 (row (#[eS, eS, nilS, nilS, eS, nilS, nilS, nilS]) 54)] w' ∧ (∀ j, w'.cell? ⟨g2, j, none⟩ = (#[eS, eS, nilS, nilS, eS, nilS, nilS, nilS] : Array Value)[j]?) ∧ (∀ j, w'.cell? ⟨ge, j, none⟩ = (vec loc A0 c0 (.iface 267 (.pointer (some ⟨gk, 0, none⟩))) nilS : Array Value)[j]?)) [11] (fun A => ⟨A, (cA A 0), (cel_ (blk_below hge A.b))⟩) (fun hHeld => ?_)
 refine pu_ 0 6 1 ?_
 refine pu_ 1 7 3 ?_
 refine pu_ 2 8 7 ?_
 refine pu_ 4 10 23 ?_
 refine pu_ 5 11 55 ?_
 refine pu_ 6 12 119 ?_
 refine ta3_ 3 9 127 hHeld ?_
 refine ta3_ 7 13 255 hHeld ?_
 refine jo_ (σ := Option Addr × Nat × Nat) 1 2047 (fun s => [(14, .slice s.1 0 s.2.1), (15, .agg #[.string loc, eS, nilS, .slice s.1 0 s.2.1, eS, nilS, nilS, nilS]), (3, .pointer (some ⟨s.2.2, 0, none⟩))]) (fun s w' => At w (.b s.2.2 (row (#[eS, eS, nilS, nilS, eS, nilS, nilS, nilS]) 54) :: [.b g2 (row (#[eS, eS, nilS, nilS, eS, nilS, nilS, nilS]) 54)]) w' ∧ w.heap.size ≤ s.2.2) (fun hCont => ?_) ?_
 refine tw_ 8 10 14 3 511 1279 (fun K hK => ?_) (fun K hK => ?_)
 ·skip
  have HE := asd_ hHeld.1
  refine ge_ Tryz.func55 #[.slice A0 0 c0] ?_
  with_reducible refine (copied_nil _ A0 c0).mono ?_
  rintro e w3 ⟨v, rfl, ⟨Aa, ca, rfl, hFa⟩, hb⟩
  refine ⟨_, rfl, ?_⟩
  replace HE := asd_ (At.step HE.out hb)
  refine hK.out _ _ ⟨HE.out, (cE HE 0), (cel_ (blk_below hge HE.out.b))⟩ (fun hHeld => ?_)
  clear hK K
  refine nq_ 14 ?_
  refine pu_ 9 15 1023 ?_
  refine on_ 10 3 2047 (fun K hK => ?_)
  refine ne_ 3 (row (#[eS, eS, nilS, nilS, eS, nilS, nilS, nilS]) 54) (fun b => .pointer (some ⟨b, 0, none⟩)) ?_
  intro g3 w3 HE0 hg3
  replace HE := asd_ HE0; clear HE0
  refine hK.out _ _ ⟨HE.out.drop, (cel_ HE.out.drop.k.1), (cel_ (blk_below hge HE.out.drop.b))⟩ (fun hHeld => ?_)
  clear hK K
  refine nq_ 3 ?_
  exact nx_ (hCont (Aa, ca, g3) _ ⟨HE.out, hg3⟩)
 ·skip
  have HE := asd_ hHeld.1
  refine ne_ 3 (row (#[eS, eS, nilS, nilS, eS, nilS, nilS, nilS]) 54) (fun b => .pointer (some ⟨b, 0, none⟩)) ?_
  intro g3 w3 HE0 hg3
  replace HE := asd_ HE0; clear HE0
  refine hK.out _ _ ⟨HE.out.drop, (cel_ HE.out.drop.k.1), (cel_ (blk_below hge HE.out.drop.b))⟩ (fun hHeld => ?_)
  clear hK K
  refine nq_ 3 ?_
  refine on_ 8 14 1535 (fun K hK => ?_)
  refine ge_ Tryz.func55 #[.slice A0 0 c0] ?_
  with_reducible refine (copied_nil _ A0 c0).mono ?_
  rintro e w3 ⟨v, rfl, ⟨Aa, ca, rfl, hFa⟩, hb⟩
  refine ⟨_, rfl, ?_⟩
  replace HE := asd_ (At.step HE.out hb)
  have hFa' := hFa
  refine hK.out _ _ ⟨HE.out.drop, (cel_ HE.out.drop.k.1), (cel_ (blk_below hge HE.out.drop.b))⟩ (fun hHeld => ?_)
  clear hK K
  refine nq_ 14 ?_
  refine pu_ 9 15 2047 ?_
  exact nx_ (hCont (Aa, ca, g3) _ ⟨HE.out, hg3⟩)
 rintro ⟨Aa, ca, g3⟩ w' ⟨HE0, hg3⟩
 have HE := asd_ HE0
 clear HE0
 have Gg3 := asd_ hg3
 clear hg3
 have hHeld := (show At w [.b g2 (row (#[eS, eS, nilS, nilS, eS, nilS, nilS, nilS]) 54)] w' ∧ (∀ j, w'.cell? ⟨g2, j, none⟩ = (#[eS, eS, nilS, nilS, eS, nilS, nilS, nilS] : Array Value)[j]?) ∧ (∀ j, w'.cell? ⟨ge, j, none⟩ = (vec loc A0 c0 (.iface 267 (.pointer (some ⟨gk, 0, none⟩))) nilS : Array Value)[j]?) from ⟨HE.out.drop, (cel_ HE.out.drop.k.1), (cel_ (blk_below hge HE.out.drop.b))⟩)
 refine np_ ?_
 refine lz_ 11 4095 (fun K hK => ?_)
 refine storerow_ (cs := #[eS, eS, nilS, nilS, eS, nilS, nilS, nilS]) (g := g3) 0 (#[.string loc, eS, nilS, .slice Aa 0 ca, eS, nilS, nilS, nilS]) HE.out rfl Gg3.out rfl (by rfl) rfl rfl rfl rfl kr_ rfl (by simp [Value.oneCell']) ?_
 intro w3 HE0
 replace HE := asd_ HE0; clear HE0
 refine hK.out _ _ ?_
 clear hK K
 refine done_ kr_ ?_
 clear HK; have HK := HE; clear HE
 clear hHeld
 clear bg2 bge
 have bg2 := cE HK 1
 have bg3 := cE HK 0
 have fg3 := fE HK 0
 have bge := cel_ (blk_below hge HK.out.b)
 go_wp2_with (first | (go_at_call 254; refine (path_false _ gk).mono ?_; rintro e wp ⟨Ap, cp, rfl, hcp, hP, hb⟩; have HK1 := At.step at_ hb; have HP := asd_ (And.intro hcp hP); clear hcp hP hb; replace HK := asd_ HK1; clear HK1; clear bg2 bg3 fg3 bge; have bg2 := cE HK 1; have bg3 := cE HK 0; have fg3 := fE HK 0; have bge := cel_ (blk_below hge HK.out.b)) | ((with_reducible refine gd_ 26 ?_); refine cw_ #[.slice Ap 0 cp] Tryz.func55 (copied_ok (names := []) (Kd.C_below HP.out.2 (by repeat (first | exact HK.out.b | exact Below.refl _ _ | apply below_alloc | apply pw_below_drewN | apply below_drew1))) HP.out.1 (by simp)) ?_; rintro v26 wc26 HK0 ⟨Aq, cq, rfl, hF⟩ hB; have HK1 := At.fact (Fact.strs (.slice Aq 0 cq) []) HK0 hF; clear HK0 hF hB; replace HK := asd_ HK1; clear HK1; clear bg2 bg3 fg3 bge; have bg2 := cE HK 2; have bg3 := cE HK 1; have fg3 := fE HK 1; have bge := cel_ (blk_below hge HK.out.b)) | ((with_reducible refine gate_ (.store 22 (.tmp 27) (.tmp 26)) rfl ?_); refine store_at (t := 22) (p := 27) (g := g3) (i := 2) (v := .slice Aq 0 cq) 1 (#[.string loc, eS, .slice Aq 0 cq, .slice Aa 0 ca, eS, nilS, nilS, nilS]) rfl at_ rfl Gg3.out rfl rfl rfl rfl gs_ ?_; intro ws1 HK1; replace HK := asd_ HK1; clear HK1; clear bg2 bg3 fg3 bge; have bg2 := cE HK 2; have bg3 := cE HK 1; have fg3 := fE HK 1; have bge := cel_ (blk_below hge HK.out.b)) | ((with_reducible refine gd_ 33 ?_); refine cl_ #[.iface 267 (.pointer (some ⟨gk, 0, none⟩))] (.tuple #[.string ⟨#[70, 97, 108, 115, 101, 83, 99, 104, 101, 109, 97]⟩, eS, nilS, nilS]) Tryz.func56 (kind_false _ gk) ?_; intro wc33 HK1; replace HK := asd_ HK1; clear HK1; clear bg2 bg3 fg3 bge; have bg2 := cE HK 2; have bg3 := cE HK 1; have fg3 := fE HK 1; have bge := cel_ (blk_below hge HK.out.b)) | ((with_reducible refine gate_ (.store 9 (.tmp 38) (.tmp 34)) rfl ?_); refine store_at (t := 9) (p := 38) (g := g3) (i := 1) (v := .string ⟨#[70, 97, 108, 115, 101, 83, 99, 104, 101, 109, 97]⟩) 1 (#[.string loc, .string ⟨#[70, 97, 108, 115, 101, 83, 99, 104, 101, 109, 97]⟩, .slice Aq 0 cq, .slice Aa 0 ca, eS, nilS, nilS, nilS]) rfl at_ rfl Gg3.out rfl rfl rfl rfl gs_ ?_; intro ws2 HK1; replace HK := asd_ HK1; clear HK1; clear bg2 bg3 fg3 bge; have bg2 := cE HK 2; have bg3 := cE HK 1; have fg3 := fE HK 1; have bge := cel_ (blk_below hge HK.out.b)) | ((with_reducible refine gate_ (.store 9 (.tmp 39) (.tmp 35)) rfl ?_); refine store_at (t := 9) (p := 39) (g := g3) (i := 4) (v := eS) 1 (#[.string loc, .string ⟨#[70, 97, 108, 115, 101, 83, 99, 104, 101, 109, 97]⟩, .slice Aq 0 cq, .slice Aa 0 ca, eS, nilS, nilS, nilS]) rfl at_ rfl Gg3.out rfl rfl rfl rfl gs_ ?_; intro ws3 HK1; replace HK := asd_ HK1; clear HK1; clear bg2 bg3 fg3 bge; have bg2 := cE HK 2; have bg3 := cE HK 1; have fg3 := fE HK 1; have bge := cel_ (blk_below hge HK.out.b)) | ((with_reducible refine gate_ (.store 22 (.tmp 40) (.tmp 36)) rfl ?_); refine store_at (t := 22) (p := 40) (g := g3) (i := 5) (v := nilS) 1 (#[.string loc, .string ⟨#[70, 97, 108, 115, 101, 83, 99, 104, 101, 109, 97]⟩, .slice Aq 0 cq, .slice Aa 0 ca, eS, nilS, nilS, nilS]) rfl at_ rfl Gg3.out rfl rfl rfl rfl gs_ ?_; intro ws4 HK1; replace HK := asd_ HK1; clear HK1; clear bg2 bg3 fg3 bge; have bg2 := cE HK 2; have bg3 := cE HK 1; have fg3 := fE HK 1; have bge := cel_ (blk_below hge HK.out.b)) | ((with_reducible refine gate_ (.store 33 (.tmp 41) (.tmp 37)) rfl ?_); refine store_at (t := 33) (p := 41) (g := g3) (i := 6) (v := nilS) 1 (#[.string loc, .string ⟨#[70, 97, 108, 115, 101, 83, 99, 104, 101, 109, 97]⟩, .slice Aq 0 cq, .slice Aa 0 ca, eS, nilS, nilS, nilS]) rfl at_ rfl Gg3.out rfl rfl rfl rfl gs_ ?_; intro ws5 HK1; replace HK := asd_ HK1; clear HK1; clear bg2 bg3 fg3 bge; have bg2 := cE HK 2; have bg3 := cE HK 1; have fg3 := fE HK 1; have bge := cel_ (blk_below hge HK.out.b)))
 refine wp_loop_once ?_
 go_wp2_with (first | ((with_reducible refine gd_ 61 ?_); refine cl_ #[nilS, .func (.func 58) #[] #[]] (.tuple #[]) Tryz.func57 (sort_0 _ none 0 _) ?_; intro wc61 HK1; replace HK := asd_ HK1; clear HK1; clear bg2 bg3 fg3 bge; have bg2 := cE HK 2; have bg3 := cE HK 1; have fg3 := fE HK 1; have bge := cel_ (blk_below hge HK.out.b)) | ((with_reducible refine gd_ 62 ?_); refine lo_ 54 3 g3 (#[.string loc, .string ⟨#[70, 97, 108, 115, 101, 83, 99, 104, 101, 109, 97]⟩, .slice Aq 0 cq, .slice Aa 0 ca, eS, nilS, nilS, nilS]) HK.out.k.2.1 Tryz.underlying54 ?_) | ((with_reducible refine gate_ (.store 54 (.tmp 2) (.tmp 62)) rfl ?_); refine storerow_at (cs := #[eS, eS, nilS, nilS, eS, nilS, nilS, nilS]) (g := g2) 2 (#[.string loc, .string ⟨#[70, 97, 108, 115, 101, 83, 99, 104, 101, 109, 97]⟩, .slice Aq 0 cq, .slice Aa 0 ca, eS, nilS, nilS, nilS]) at_ rfl Gg2.out rfl rfl rfl rfl rfl rfl kr_ rfl (by simp [Value.oneCell']) ?_; intro wr6 HK1; replace HK := asd_ HK1; clear HK1; clear bg2 bg3 fg3 bge; have bg2 := cE HK 2; have bg3 := cE HK 1; have fg3 := fE HK 1; have bge := cel_ (blk_below hge HK.out.b)))
 ((try simp only [Exit.inBlock, Exit.then]); refine bodyPost_ret (results_cell_row rfl _ _ g2 54 (#[.string loc, .string ⟨#[70, 97, 108, 115, 101, 83, 99, 104, 101, 109, 97]⟩, .slice Aq 0 cq, .slice Aa 0 ca, eS, nilS, nilS, nilS]) (0, 0) _ rfl (HK.out.k.2.2.1) Tryz.underlying54 rfl kr_) rfl ?_)
 exact ⟨Aq, cq, Aa, ca, none, 0, rfl, HK.out.k.1, Kd.R_nil _ _ _ _ _, HK.out.b⟩
end Go.Proofs.YtkphbhncpdcbeaaGreatDoor.J
namespace Go.Proofs.YtkphbhncpdcbeaaGreatDoor.J
open Go.Proofs.YtkphbhncpdcbeaaGreatDoorW Go.RowKit Go.Proofs.YtkphbhncpdcbeaaGreatDoorW.PrintWords Go.Proofs.YtkphbhncpdcbeaaGreatDoorW.PrintLast Go.Proofs.YtkphbhncpdcbeaaGreatDoorW.PrintMore Go.Proofs.YtkphbhncpdcbeaaGreatDoor.PJT
attribute [local go_sem] Nd.csize Sc.csize Nd.c0 Nd.c1 Nd.c2 Nd.c3 Nd.c4 Nd.c5 Nd.c6 Nd.c7 Nd.c8 Nd.c9 Nd.c10 Nd.c11 Nd.c12 Nd.c13 Nd.c14 Nd.c15 Nd.c16 Nd.c17 Nd.c18 Nd.c19 Nd.c20 Nd.c21 Nd.c22 Nd.c23 Nd.c24 Nd.c25 Nd.c26 Nd.c27 Nd.c28 Nd.c29 Nd.c30 Nd.c31 Nd.c32 Nd.c33 Nd.c34 Nd.c35 Nd.c36 Nd.c37 Nd.c38 Nd.c39 Nd.c40 Nd.c41 Nd.c42 Nd.c43 Nd.c44 Nd.c45 Nd.c46 Nd.c47 Nd.c48 Nd.c49 Nd.c50 Nd.c51 Nd.c52 Sc.c0 Sc.c1 Sc.c2 Sc.c3 Sc.c4 Sc.c5 Sc.c6 Sc.c7 Sc.c8 Sc.c9 Sc.c10 Sc.c11 Sc.c12 Sc.c13 Sc.c14 Sc.c15 Sc.c16 Sc.c17 Sc.c18 Sc.c19 Sc.c20 Sc.c21 Sc.c22 Sc.c23 Sc.c24 Sc.c25 Sc.c26 Sc.c27 Sc.c28 Sc.c29 Sc.c30 Sc.c31 Sc.c32 Sc.c33 Sc.c34 Sc.c35 Sc.c36 Sc.c37 Sc.c38 Sc.c39 Sc.c40 Sc.c41 Sc.c42 Sc.c43 Sc.c44 Sc.c45 Sc.c46 Sc.c47 Sc.c48 Sc.c49 Sc.c50 Sc.c51 Sc.c52
set_option linter.unusedVariables false
set_option linter.unusedSimpArgs false
attribute [local go_sem] tk_req_190 tk_req_193 tk_req_185 tk_dep_190 tk_dep_193 tk_dep_196 tk_dep_199 tk_dep_185 tk_false_190 tk_false_193 tk_false_196 tk_false_199 tk_false_201 tk_false_205 tk_false_208 tk_false_211 tk_false_215 tk_false_219 tk_false_222 tk_false_225 tk_false_298 tk_false_301 tk_false_303 tk_false_305 tk_false_307 tk_false_309 tk_false_275 tk_false_187 tk_false_185 tk_false_311 tk_false_312 tk_false_313 tk_false_267 tk_schema_190 tk_schema_193 tk_schema_196 tk_schema_199 tk_schema_201 tk_schema_205 tk_schema_208 tk_schema_211 tk_schema_215 tk_schema_219 tk_schema_222 tk_schema_225 tk_schema_298 tk_schema_301 tk_schema_303 tk_schema_305 tk_schema_307 tk_schema_309 tk_schema_275 tk_schema_187 tv_76 tv_76t tv_nilt
attribute [local go_sem] mk_req mk_dep mk_false mk_schema
def Rooted (loc K : ByteArray) (T : Value) (path names : List ByteArray) (w : World) (e : Ending) (w' : World) : Prop :=
 ∃ Aq cq Aa ca gx cx curx Ap cp Aa2 ca2 An cn, e = .returned (.agg #[.string loc, .string ⟨#[83, 99, 104, 101, 109, 97]⟩, .slice Aq 0 cq, .slice Aa 0 ca, eS, nilS, nilS, .slice (some ⟨gx, 0, none⟩) 1 cx]) ∧ w'.heap[gx]? = some (row curx 54) ∧ w.heap.size ≤ gx ∧ 1 ≤ cx ∧ curx.toList.take 8 = [.string loc, .string K, .slice Ap path.length cp, .slice Aa2 0 ca2, T, .slice An names.length cn, nilS, nilS] ∧ (Fact.strs (.slice Ap path.length cp) path).P w' ∧ (Fact.strs (.slice An names.length cn) names).P w' ∧ Below w.heap.size w w'
theorem info54 : (Tryz.prog.info? 54).map (fun i => (i.zero, i.size, i.bytes)) = some (some (.agg #[eS, eS, nilS, nilS, eS, nilS, nilS, nilS]), 8, 168) := by kernel_rfl
theorem litrow_run {o : Oper} {a : Act} {W : World} {kc : Array Value} {x : Operand} {z : Value} {bytes : Nat} {t e : TypeId} (hu : Tryz.prog.underlying t = some (.slice e)) (hinfo : (Tryz.prog.info? e).map (fun i => (i.zero, i.size, i.bytes)) = some (some z, 8, bytes)) (hz : z.cells.size = 8)
  (ho : o.op = .buildSlice t 1 #[(0, x)]) (hx : a.eval x = .agg kc) (hk : kc.size = 8) : (execOp a.eval o).run Tryz.prog W = .ok (.value (.slice (some ⟨W.heap.size, 0, none⟩) 1 1)) (W.alloc (.cells kc e)) := by
 obtain ⟨i0, hi, hzz⟩ := Option.map_eq_some_iff.1 hinfo
 simp only [Prod.mk.injEq] at hzz
 obtain ⟨hz0, hz1, hz2⟩ := hzz
 have hr := run_buildSlice (P := Tryz.prog) W t e 1 #[(0, .agg kc)] kc i0 z hu hi hz0 (by rw [hz1]; decide) (by rw [hz1]; decide) (by
  rw [hz1]
  obtain ⟨l⟩ := kc
  match l, hk with
  | [a0, a1, a2, a3, a4, a5, a6, a7], _ =>
   have hr1 : Array.range 8 = #[0, 1, 2, 3, 4, 5, 6, 7] := by decide
   simp [Instr.fill, Value.cells, hr1])
 unfold execOp
 simp [ho, hx, hr, Result.andThen]
set_option maxHeartbeats 4000000 in
set_option maxRecDepth 100000 in
theorem root_ok (w : World) (ge gl gk : Nat) (loc kn tx : ByteArray) (path names : List ByteArray) (adc : Addr) (cc : Nat) (hge : w.heap[ge]? = some (row (#[.string loc, nilS, .iface 187 (.pointer (some ⟨gk, 0, none⟩)), .slice (some adc) 1 cc]) 129)) (hcc : w.cell? adc = some (.pointer (some ⟨gl, 0, none⟩)))
  (hL : ∀ W, Below w.heap.size w W → Calls Tryz.prog 30 #[.pointer (some ⟨gl, 0, none⟩)] W fun e w' => Leafed loc kn (.string tx) path names W e w') :
  Calls Tryz.prog 30 #[.pointer (some ⟨ge, 0, none⟩)] w fun e w' => Rooted loc kn (.string tx) path names w e w' := by
 have HL := asd_ hL
 have Hcc := asd_ hcc
 clear hL hcc
 have HK : Aside0 (At w [] w) := asd_ (At.start w)
 have bge := cel_ (blk_below hge HK.out.b)
 go_enter Tryz.func30, Tryz.ntmps30
 go_wp2_with (first | ((with_reducible refine gd_ 2 ?_); refine bx_ #[eS, eS, nilS, nilS, eS, nilS, nilS, nilS] 54 ?_; clear HK bge; intro g2 wb2 HK Gg2; have bg2 := cE HK 0; have bge := cel_ (blk_below hge HK.out.b)))
 refine st_ 12 (fun w' => At w [.b g2 (row (#[eS, eS, nilS, nilS, eS, nilS, nilS, nilS]) 54)] w' ∧ (∀ j, w'.cell? ⟨g2, j, none⟩ = (#[eS, eS, nilS, nilS, eS, nilS, nilS, nilS] : Array Value)[j]?) ∧ (∀ j, w'.cell? ⟨ge, j, none⟩ = (#[.string loc, nilS, .iface 187 (.pointer (some ⟨gk, 0, none⟩)), .slice (some adc) 1 cc] : Array Value)[j]?)) [11] (fun A => ⟨A, (cA A 0), (cel_ (blk_below hge A.b))⟩) (fun hHeld => ?_)
 refine pu_ 0 6 1 ?_
 refine pu_ 1 7 3 ?_
 refine pu_ 2 8 7 ?_
 refine pu_ 4 10 23 ?_
 refine pu_ 5 11 55 ?_
 refine pu_ 6 12 119 ?_
 refine ta3_ 3 9 127 hHeld ?_
 refine ta3_ 7 13 255 hHeld ?_
 refine jo_ (σ := Option Addr × Nat × Nat) 1 2047 (fun s => [(14, .slice s.1 0 s.2.1), (15, .agg #[.string loc, eS, nilS, .slice s.1 0 s.2.1, eS, nilS, nilS, nilS]), (3, .pointer (some ⟨s.2.2, 0, none⟩))]) (fun s w' => At w (.b s.2.2 (row (#[eS, eS, nilS, nilS, eS, nilS, nilS, nilS]) 54) :: [.b g2 (row (#[eS, eS, nilS, nilS, eS, nilS, nilS, nilS]) 54)]) w' ∧ w.heap.size ≤ s.2.2) (fun hCont => ?_) ?_
 refine tw_ 8 10 14 3 511 1279 (fun K hK => ?_) (fun K hK => ?_)
 ·skip
  have HE := asd_ hHeld.1
  refine ge_ Tryz.func55 #[nilS] ?_
  with_reducible refine (copied_nil _ none 0).mono ?_
  rintro e w3 ⟨v, rfl, ⟨Aa, ca, rfl, hFa⟩, hb⟩
  refine ⟨_, rfl, ?_⟩
  replace HE := asd_ (At.step HE.out hb)
  refine hK.out _ _ ⟨HE.out, (cE HE 0), (cel_ (blk_below hge HE.out.b))⟩ (fun hHeld => ?_)
  clear hK K
  refine nq_ 14 ?_
  refine pu_ 9 15 1023 ?_
  refine on_ 10 3 2047 (fun K hK => ?_)
  refine ne_ 3 (row (#[eS, eS, nilS, nilS, eS, nilS, nilS, nilS]) 54) (fun b => .pointer (some ⟨b, 0, none⟩)) ?_
  intro g3 w3 HE0 hg3
  replace HE := asd_ HE0; clear HE0
  refine hK.out _ _ ⟨HE.out.drop, (cel_ HE.out.drop.k.1), (cel_ (blk_below hge HE.out.drop.b))⟩ (fun hHeld => ?_)
  clear hK K
  refine nq_ 3 ?_
  exact nx_ (hCont (Aa, ca, g3) _ ⟨HE.out, hg3⟩)
 ·skip
  have HE := asd_ hHeld.1
  refine ne_ 3 (row (#[eS, eS, nilS, nilS, eS, nilS, nilS, nilS]) 54) (fun b => .pointer (some ⟨b, 0, none⟩)) ?_
  intro g3 w3 HE0 hg3
  replace HE := asd_ HE0; clear HE0
  refine hK.out _ _ ⟨HE.out.drop, (cel_ HE.out.drop.k.1), (cel_ (blk_below hge HE.out.drop.b))⟩ (fun hHeld => ?_)
  clear hK K
  refine nq_ 3 ?_
  refine on_ 8 14 1535 (fun K hK => ?_)
  refine ge_ Tryz.func55 #[nilS] ?_
  with_reducible refine (copied_nil _ none 0).mono ?_
  rintro e w3 ⟨v, rfl, ⟨Aa, ca, rfl, hFa⟩, hb⟩
  refine ⟨_, rfl, ?_⟩
  replace HE := asd_ (At.step HE.out hb)
  have hFa' := hFa
  refine hK.out _ _ ⟨HE.out.drop, (cel_ HE.out.drop.k.1), (cel_ (blk_below hge HE.out.drop.b))⟩ (fun hHeld => ?_)
  clear hK K
  refine nq_ 14 ?_
  refine pu_ 9 15 2047 ?_
  exact nx_ (hCont (Aa, ca, g3) _ ⟨HE.out, hg3⟩)
 rintro ⟨Aa, ca, g3⟩ w' ⟨HE0, hg3⟩
 have HE := asd_ HE0
 clear HE0
 have Gg3 := asd_ hg3
 clear hg3
 have hHeld := (show At w [.b g2 (row (#[eS, eS, nilS, nilS, eS, nilS, nilS, nilS]) 54)] w' ∧ (∀ j, w'.cell? ⟨g2, j, none⟩ = (#[eS, eS, nilS, nilS, eS, nilS, nilS, nilS] : Array Value)[j]?) ∧ (∀ j, w'.cell? ⟨ge, j, none⟩ = (#[.string loc, nilS, .iface 187 (.pointer (some ⟨gk, 0, none⟩)), .slice (some adc) 1 cc] : Array Value)[j]?) from ⟨HE.out.drop, (cel_ HE.out.drop.k.1), (cel_ (blk_below hge HE.out.drop.b))⟩)
 refine np_ ?_
 refine lz_ 11 4095 (fun K hK => ?_)
 refine storerow_ (cs := #[eS, eS, nilS, nilS, eS, nilS, nilS, nilS]) (g := g3) 0 (#[.string loc, eS, nilS, .slice Aa 0 ca, eS, nilS, nilS, nilS]) HE.out rfl Gg3.out rfl (by rfl) rfl rfl rfl rfl kr_ rfl (by simp [Value.oneCell']) ?_
 intro w3 HE0
 replace HE := asd_ HE0; clear HE0
 refine hK.out _ _ ?_
 clear hK K
 refine done_ kr_ ?_
 clear HK; have HK := HE; clear HE
 clear hHeld
 clear bg2 bge
 have bg2 := cE HK 1
 have bg3 := cE HK 0
 have fg3 := fE HK 0
 have bge := cel_ (blk_below hge HK.out.b)
 go_wp2_with (first | (go_at_call 241; refine (path_schema _ gk).mono ?_; rintro e wp ⟨Aw, cw, rfl, hcp, hP, hb⟩; have HK1 := At.step at_ hb; clear hcp hP hb; replace HK := asd_ HK1; clear HK1; clear bg2 bg3 fg3 bge; have bg2 := cE HK 1; have bg3 := cE HK 0; have fg3 := fE HK 0; have bge := cel_ (blk_below hge HK.out.b)) | ((with_reducible refine gd_ 26 ?_); refine cw_ #[.slice Aw 0 cw] Tryz.func55 (copied_nil _ Aw cw) ?_; rintro v26 wc26 HK1 ⟨Aq, cq, rfl, hF⟩ hB; clear hF hB; replace HK := asd_ HK1; clear HK1; clear bg2 bg3 fg3 bge; have bg2 := cE HK 1; have bg3 := cE HK 0; have fg3 := fE HK 0; have bge := cel_ (blk_below hge HK.out.b)) | ((with_reducible refine gate_ (.store 22 (.tmp 27) (.tmp 26)) rfl ?_); refine store_at (t := 22) (p := 27) (g := g3) (i := 2) (v := .slice Aq 0 cq) 0 (#[.string loc, eS, .slice Aq 0 cq, .slice Aa 0 ca, eS, nilS, nilS, nilS]) rfl at_ rfl Gg3.out rfl rfl rfl rfl gs_ ?_; intro ws1 HK1; replace HK := asd_ HK1; clear HK1; clear bg2 bg3 fg3 bge; have bg2 := cE HK 1; have bg3 := cE HK 0; have fg3 := fE HK 0; have bge := cel_ (blk_below hge HK.out.b)) | ((with_reducible refine gd_ 33 ?_); refine cl_ #[.iface 187 (.pointer (some ⟨gk, 0, none⟩))] (.tuple #[.string ⟨#[83, 99, 104, 101, 109, 97]⟩, eS, nilS, nilS]) Tryz.func56 (kind_schema _ gk) ?_; intro wc33 HK1; replace HK := asd_ HK1; clear HK1; clear bg2 bg3 fg3 bge; have bg2 := cE HK 1; have bg3 := cE HK 0; have fg3 := fE HK 0; have bge := cel_ (blk_below hge HK.out.b)) | ((with_reducible refine gate_ (.store 9 (.tmp 38) (.tmp 34)) rfl ?_); refine store_at (t := 9) (p := 38) (g := g3) (i := 1) (v := .string ⟨#[83, 99, 104, 101, 109, 97]⟩) 0 (#[.string loc, .string ⟨#[83, 99, 104, 101, 109, 97]⟩, .slice Aq 0 cq, .slice Aa 0 ca, eS, nilS, nilS, nilS]) rfl at_ rfl Gg3.out rfl rfl rfl rfl gs_ ?_; intro ws2 HK1; replace HK := asd_ HK1; clear HK1; clear bg2 bg3 fg3 bge; have bg2 := cE HK 1; have bg3 := cE HK 0; have fg3 := fE HK 0; have bge := cel_ (blk_below hge HK.out.b)) | ((with_reducible refine gate_ (.store 9 (.tmp 39) (.tmp 35)) rfl ?_); refine store_at (t := 9) (p := 39) (g := g3) (i := 4) (v := eS) 0 (#[.string loc, .string ⟨#[83, 99, 104, 101, 109, 97]⟩, .slice Aq 0 cq, .slice Aa 0 ca, eS, nilS, nilS, nilS]) rfl at_ rfl Gg3.out rfl rfl rfl rfl gs_ ?_; intro ws3 HK1; replace HK := asd_ HK1; clear HK1; clear bg2 bg3 fg3 bge; have bg2 := cE HK 1; have bg3 := cE HK 0; have fg3 := fE HK 0; have bge := cel_ (blk_below hge HK.out.b)) | ((with_reducible refine gate_ (.store 22 (.tmp 40) (.tmp 36)) rfl ?_); refine store_at (t := 22) (p := 40) (g := g3) (i := 5) (v := nilS) 0 (#[.string loc, .string ⟨#[83, 99, 104, 101, 109, 97]⟩, .slice Aq 0 cq, .slice Aa 0 ca, eS, nilS, nilS, nilS]) rfl at_ rfl Gg3.out rfl rfl rfl rfl gs_ ?_; intro ws4 HK1; replace HK := asd_ HK1; clear HK1; clear bg2 bg3 fg3 bge; have bg2 := cE HK 1; have bg3 := cE HK 0; have fg3 := fE HK 0; have bge := cel_ (blk_below hge HK.out.b)) | ((with_reducible refine gate_ (.store 33 (.tmp 41) (.tmp 37)) rfl ?_); refine store_at (t := 33) (p := 41) (g := g3) (i := 6) (v := nilS) 0 (#[.string loc, .string ⟨#[83, 99, 104, 101, 109, 97]⟩, .slice Aq 0 cq, .slice Aa 0 ca, eS, nilS, nilS, nilS]) rfl at_ rfl Gg3.out rfl rfl rfl rfl gs_ ?_; intro ws5 HK1; replace HK := asd_ HK1; clear HK1; clear bg2 bg3 fg3 bge; have bg2 := cE HK 1; have bg3 := cE HK 0; have fg3 := fE HK 0; have bge := cel_ (blk_below hge HK.out.b)))
 refine wp_loop_two ?_
 have hcx : ∀ {W : World}, Below w.heap.size w W → W.cell? adc = some (.pointer (some ⟨gl, 0, none⟩)) := fun hb => (hb.cell (World.block_lt_of_cell? _ _ Hcc.out)).trans Hcc.out
 have hc1 := hcx (by repeat (first | exact HK.out.b | exact Below.refl _ _ | apply below_alloc | apply pw_below_drewN | apply below_drew1))
 have Hcx := asd_ @hcx; clear hcx
 go_wp2_with fail
 refine st_ 8 (fun w' => At w [.b g3 (row (#[.string loc, .string ⟨#[83, 99, 104, 101, 109, 97]⟩, .slice Aq 0 cq, .slice Aa 0 ca, eS, nilS, nilS, nilS]) 54), .b g2 (row (#[eS, eS, nilS, nilS, eS, nilS, nilS, nilS]) 54)] w' ∧ (∀ j, w'.cell? ⟨g2, j, none⟩ = (#[eS, eS, nilS, nilS, eS, nilS, nilS, nilS] : Array Value)[j]?) ∧ (∀ j, w'.cell? ⟨g3, j, none⟩ = (#[.string loc, .string ⟨#[83, 99, 104, 101, 109, 97]⟩, .slice Aq 0 cq, .slice Aa 0 ca, eS, nilS, nilS, nilS] : Array Value)[j]?) ∧ (∀ j, w'.cell? ⟨ge, j, none⟩ = (#[.string loc, nilS, .iface 187 (.pointer (some ⟨gk, 0, none⟩)), .slice (some adc) 1 cc] : Array Value)[j]?)) [7] (fun A => ⟨A, (cA A 1), (cA A 0), (cel_ (blk_below hge A.b))⟩) (fun hHeld => ?_)
 refine pu_ 0 51 1 ?_
 refine pu_ 2 53 5 ?_
 refine ta4_ 1 52 7 hHeld ?_
 refine on_ 3 54 15 (fun K hK => ?_)
 have HE := asd_ (hHeld.1)
 refine ge_ Tryz.func30 #[.pointer (some ⟨gl, 0, none⟩)] ?_
 with_reducible refine (HL.out _ HE.out.b).mono ?_
 rintro e w3 ⟨Ap, cp, Aa2, ca2, An, cn, rfl, hFp, hFn, hb⟩
 refine ⟨_, rfl, ?_⟩
 have HE0 := At.step HE.out hb
 have HE1 := asd_ (At.fact (Fact.strs (.slice Ap path.length cp) path) (At.fact (Fact.strs (.slice An names.length cn) names) HE0 hFn) hFp)
 clear hFp hFn
 clear HE0
 clear HE; have HE := HE1; clear HE1
 refine hK.out _ _ ⟨HE.out.drop.drop, (cel_ HE.out.drop.drop.k.2.1), (cel_ HE.out.drop.drop.k.1), (cel_ (blk_below hge HE.out.drop.drop.b))⟩ (fun hHeld => ?_)
 clear hK K
 refine nq_ 54 ?_
 refine on_ 4 55 31 (fun K hK => ?_)
 refine new_ HE.out (by rfl) (N := 55) (by rfl) (ob := row (#[.string loc, .string kn, .slice Ap path.length cp, .slice Aa2 0 ca2, .string tx, .slice An names.length cn, nilS, nilS]) 54) (v := (fun b => .slice (some ⟨b, 0, none⟩) 1 1)) (by exact litrow_run Tryz.underlying52 info54 rfl rfl rfl rfl) ?_
 intro g55 w3 HE0 hgg55
 have Gg55 := asd_ hgg55
 clear hgg55
 replace HE := asd_ HE0; clear HE0
 refine hK.out _ _ ⟨HE.out.drop.drop.drop, (cel_ HE.out.drop.drop.drop.k.2.1), (cel_ HE.out.drop.drop.drop.k.1), (cel_ (blk_below hge HE.out.drop.drop.drop.b))⟩ (fun hHeld => ?_)
 clear hK K
 refine nq_ 55 ?_
 refine on_ 5 56 63 (fun K hK => ?_)
 refine appendrow_ (kc := #[.string loc, .string kn, .slice Ap path.length cp, .slice Aa2 0 ca2, .string tx, .slice An names.length cn, nilS, nilS]) (g := g55) (t := 52) (s := .tmp 52) (x := .tmp 55) (by simp [Value.oneCell']) (At.front 0 HE.out rfl) (by rfl) rfl Tryz.underlying52 info54 rfl (by simp) (by decide) rfl rfl (by decide) ?_
 intro gx cx curx w3 HE0 hg1 hc1 hcur
 have Ggx := asd_ hg1
 have Hc1 := asd_ hc1
 have hcur := asd_ hcur
 clear hg1 hc1
 replace HE := asd_ HE0; clear HE0
 refine hK.out _ _ ⟨HE.out.drop.drop.drop, (cel_ HE.out.drop.drop.drop.k.2.1), (cel_ HE.out.drop.drop.drop.k.1), (cel_ (blk_below hge HE.out.drop.drop.drop.b))⟩ (fun hHeld => ?_)
 clear hK K
 refine nq_ 56 ?_
 refine pu_ 6 57 127 ?_
 refine lz_ 7 255 (fun K hK => ?_)
 have fg3_ := fE HE 3
 have cg3_ := cE HE 3
 refine sk_ ?_
 replace HE := asd_ (At.store_to (i := 7) (v := .slice (some ⟨gx, 0, none⟩) 1 cx) 3 (#[.string loc, .string ⟨#[83, 99, 104, 101, 109, 97]⟩, .slice Aq 0 cq, .slice Aa 0 ca, eS, nilS, nilS, .slice (some ⟨gx, 0, none⟩) 1 cx]) HE.out rfl Gg3.out rfl rfl)
 clear fg3_ cg3_
 refine hK.out _ _ ?_
 clear hK K
 refine done_ kr_ ?_
 clear HK; have HK := HE; clear HE
 clear hHeld
 clear bg2 bg3 fg3 bge
 have bg2 := cE HK 4
 have bg3 := cE HK 3
 have fg3 := fE HK 3
 have bge := cel_ (blk_below hge HK.out.b)
 go_wp2_with (first | ((with_reducible refine gd_ 61 ?_); refine cl_ #[.slice (some ⟨gx, 0, none⟩) 1 cx, .func (.func 58) #[] #[]] (.tuple #[]) Tryz.func57 (sort_1 _ (some ⟨gx, 0, none⟩) cx _) ?_; intro wc61 HK1; replace HK := asd_ HK1; clear HK1; clear bg2 bg3 fg3 bge; have bg2 := cE HK 4; have bg3 := cE HK 3; have fg3 := fE HK 3; have bge := cel_ (blk_below hge HK.out.b)) | ((with_reducible refine gd_ 62 ?_); refine lo_ 54 3 g3 (#[.string loc, .string ⟨#[83, 99, 104, 101, 109, 97]⟩, .slice Aq 0 cq, .slice Aa 0 ca, eS, nilS, nilS, .slice (some ⟨gx, 0, none⟩) 1 cx]) HK.out.k.2.2.2.1 Tryz.underlying54 ?_) | ((with_reducible refine gate_ (.store 54 (.tmp 2) (.tmp 62)) rfl ?_); refine storerow_at (cs := #[eS, eS, nilS, nilS, eS, nilS, nilS, nilS]) (g := g2) 4 (#[.string loc, .string ⟨#[83, 99, 104, 101, 109, 97]⟩, .slice Aq 0 cq, .slice Aa 0 ca, eS, nilS, nilS, .slice (some ⟨gx, 0, none⟩) 1 cx]) at_ rfl Gg2.out rfl rfl rfl rfl rfl rfl kr_ rfl (by simp [Value.oneCell']) ?_; intro wr6 HK1; replace HK := asd_ HK1; clear HK1; clear bg2 bg3 fg3 bge; have bg2 := cE HK 4; have bg3 := cE HK 3; have fg3 := fE HK 3; have bge := cel_ (blk_below hge HK.out.b)))
 ((try simp only [Exit.inBlock, Exit.then]); refine bodyPost_ret (results_cell_row rfl _ _ g2 54 (#[.string loc, .string ⟨#[83, 99, 104, 101, 109, 97]⟩, .slice Aq 0 cq, .slice Aa 0 ca, eS, nilS, nilS, .slice (some ⟨gx, 0, none⟩) 1 cx]) (0, 0) _ rfl (HK.out.k.2.2.2.2.1) Tryz.underlying54 rfl kr_) rfl ?_)
 exact ⟨Aq, cq, Aa, ca, gx, cx, curx, Ap, cp, Aa2, ca2, An, cn, rfl, HK.out.k.1, Ggx.out, Hc1.out, hcur.out, HK.out.k.2.1, HK.out.k.2.2.1, HK.out.b⟩
end Go.Proofs.YtkphbhncpdcbeaaGreatDoor.J
