/- Part of a proof. -/
import Derived.Test.YtkphbhncpdcbeaaGreatDoorQH
import Derived.Test.YtkphbhncpdcbeaaGreatDoorQE
import Derived.Test.YtkphbhncpdcbeaaGreatDoorQK
import Derived.Test.YtkphbhncpdcbeaaGreatDoorQL
import Derived.Test.YtkphbhncpdcbeaaGreatDoorQN
import Derived.Test.YtkphbhncpdcbeaaGreatDoorQF
import Derived.Test.YtkphbhncpdcbeaaGreatDoorQI
import Derived.Test.YtkphbhncpdcbeaaGreatDoorQJ
import Derived.Test.YtkphbhncpdcbeaaGreatDoorQM
namespace Go.Proofs.YtkphbhncpdcbeaaGreatDoor.J
open Go.RowKit Go.Proofs.YtkphbhncpdcbeaaGreatDoorW.PrintWords Go.Proofs.YtkphbhncpdcbeaaGreatDoorW.PrintLast Go.Proofs.YtkphbhncpdcbeaaGreatDoorW.PrintMore Go.Proofs.YtkphbhncpdcbeaaGreatDoor.PJT
attribute [local go_sem] Nd.csize Sc.csize Nd.c0 Nd.c1 Nd.c2 Nd.c3 Nd.c4 Nd.c5 Nd.c6 Nd.c7 Nd.c8 Nd.c9 Nd.c10 Nd.c11 Nd.c12 Nd.c13 Nd.c14 Nd.c15 Nd.c16 Nd.c17 Nd.c18 Nd.c19 Nd.c20 Nd.c21 Nd.c22 Nd.c23 Nd.c24 Nd.c25 Nd.c26 Nd.c27 Nd.c28 Nd.c29 Nd.c30 Nd.c31 Nd.c32 Nd.c33 Nd.c34 Nd.c35 Nd.c36 Nd.c37 Nd.c38 Nd.c39 Nd.c40 Nd.c41 Nd.c42 Nd.c43 Nd.c44 Nd.c45 Nd.c46 Nd.c47 Nd.c48 Nd.c49 Nd.c50 Nd.c51 Nd.c52 Sc.c0 Sc.c1 Sc.c2 Sc.c3 Sc.c4 Sc.c5 Sc.c6 Sc.c7 Sc.c8 Sc.c9 Sc.c10 Sc.c11 Sc.c12 Sc.c13 Sc.c14 Sc.c15 Sc.c16 Sc.c17 Sc.c18 Sc.c19 Sc.c20 Sc.c21 Sc.c22 Sc.c23 Sc.c24 Sc.c25 Sc.c26 Sc.c27 Sc.c28 Sc.c29 Sc.c30 Sc.c31 Sc.c32 Sc.c33 Sc.c34 Sc.c35 Sc.c36 Sc.c37 Sc.c38 Sc.c39 Sc.c40 Sc.c41 Sc.c42 Sc.c43 Sc.c44 Sc.c45 Sc.c46 Sc.c47 Sc.c48 Sc.c49 Sc.c50 Sc.c51 Sc.c52
set_option linter.unusedVariables false
set_option linter.unusedSimpArgs false
attribute [local go_sem] tv_76t tv_nilt
def Told (loc kn : ByteArray) (T : Value) (path names : List ByteArray) (w : World) (e : Ending) (w' : World) : Prop :=
 ∃ Aq cq Aa ca gx cx curx Ap cp Aa2 ca2 An cn, e = .returned (.tuple #[.agg #[.string loc, .string ⟨#[83, 99, 104, 101, 109, 97]⟩, .slice Aq 0 cq, .slice Aa 0 ca, eS, nilS, nilS, .slice (some ⟨gx, 0, none⟩) 1 cx], .bool true]) ∧ w'.heap[gx]? = some (row curx 54) ∧ w.heap.size ≤ gx ∧ 1 ≤ cx ∧ curx.toList.take 8 = [.string loc, .string kn, .slice Ap path.length cp, .slice Aa2 0 ca2, T, .slice An names.length cn, nilS, nilS] ∧ (Fact.strs (.slice Ap path.length cp) path).P w' ∧ (Fact.strs (.slice An names.length cn) names).P w' ∧ Below w.heap.size w w'
theorem none_form {f : FuncId} {args : Array Value} {W : World} {v0 : Value} (h : Calls Tryz.prog f args W fun e w' => e = .returned v0 ∧ Below W.heap.size W w') :
  Calls Tryz.prog f args W fun e w' => ∃ v, e = .returned v ∧ v = v0 ∧ Below W.heap.size W w' := by
 refine h.mono ?_
 rintro e w' ⟨rfl, hb⟩
 exact ⟨_, rfl, rfl, hb⟩
theorem rooted_form {args : Array Value} {W : World} {loc kn : ByteArray} {T : Value} {path names : List ByteArray} (h : Calls Tryz.prog 30 args W fun e w' => Rooted loc kn T path names W e w') :
  Calls Tryz.prog 30 args W fun e w' => ∃ v, e = .returned v ∧ (∃ Aq cq Aa ca gx cx curx Ap cp Aa2 ca2 An cn, v = .agg #[.string loc, .string ⟨#[83, 99, 104, 101, 109, 97]⟩, .slice Aq 0 cq, .slice Aa 0 ca, eS, nilS, nilS, .slice (some ⟨gx, 0, none⟩) 1 cx] ∧ w'.heap[gx]? = some (row curx 54) ∧ W.heap.size ≤ gx ∧ 1 ≤ cx ∧ curx.toList.take 8 = [.string loc, .string kn, .slice Ap path.length cp, .slice Aa2 0 ca2, T, .slice An names.length cn, nilS, nilS] ∧ (Fact.strs (.slice Ap path.length cp) path).P w' ∧ (Fact.strs (.slice An names.length cn) names).P w') ∧ Below W.heap.size W w' := by
 refine h.mono ?_
 rintro e w' ⟨Aq, cq, Aa, ca, gx, cx, curx, Ap, cp, Aa2, ca2, An, cn, rfl, h1, h2, h3, h4, h5, h6, hb⟩
 exact ⟨_, rfl, ⟨Aq, cq, Aa, ca, gx, cx, curx, Ap, cp, Aa2, ca2, An, cn, rfl, h1, h2, h3, h4, h5, h6⟩, hb⟩
set_option maxHeartbeats 4000000 in
set_option maxRecDepth 100000 in
theorem draft_none (w : World) (gn cS : Nat) (x : S25) (A4 A5 : Option Addr) (c4 c5 : Nat) (PC : Nat → World → Prop) (hst : ∀ gs W W1, PC gs W → Below W.heap.size W W1 → PC gs W1) (hx : Rep w x A4 c4 A5 c5) (hVx : V x) (hC : ∀ W, Below w.heap.size w W → Calls Tryz.prog 27 #[.slice (some ⟨gn, 0, none⟩) 1 cS, .int .i64 2020] W fun e w' => ∃ v, e = .returned v ∧ (∃ gs, v = .pointer (some ⟨gs, 0, none⟩) ∧ PC gs w') ∧ Below W.heap.size W w') (hV : ∀ W gs v, PC gs W → Out x v W → Calls Tryz.prog 28 #[.pointer (some ⟨gs, 0, none⟩), v] W fun e w' => e = .returned .nilIface ∧ Below W.heap.size W w') :
  Calls Tryz.prog 19 #[.int .i64 2020, .slice (some ⟨gn, 0, none⟩) 1 cS, .agg (jvc x A4 A5 c4 c5)] w fun e w' => e = .returned (.tuple #[.agg #[eS, eS, nilS, nilS, eS, nilS, nilS, nilS], .bool false]) ∧ Below w.heap.size w w' := by
 have Hx := asd_ hx
 have HVx := asd_ hVx
 have HC := asd_ hC
 have HV := asd_ hV
 clear hx hVx hC hV
 have HK : Aside0 (At w [] w) := asd_ (At.start w)
 go_enter Tryz.func19, Tryz.ntmps19
 go_wp2_with (first | ((with_reducible refine gd_ 5 ?_); refine bx_ (jvc x A4 A5 c4 c5) 25 ?_; clear HK; intro g5 wb5 HK Gg5; have bg5 := cE HK 0) | ((with_reducible refine gd_ 6 ?_); refine bx_ #[eS, eS, nilS, nilS, eS, nilS, nilS, nilS] 54 ?_; clear HK bg5; intro g6 wb6 HK Gg6; have bg5 := cE HK 1; have bg6 := cE HK 0) | ((with_reducible refine gd_ 13 ?_); refine cw_ #[.slice (some ⟨gn, 0, none⟩) 1 cS, .int .i64 2020] Tryz.func27 (HC.out _ (by repeat (first | exact HK.out.b | exact Below.refl _ _ | apply below_alloc | apply pw_below_drewN | apply below_drew1))) ?_; rintro v13 wc13 HK1 ⟨gs, rfl, hPC⟩ hB; have HPC := asd_ hPC; clear hPC hB; replace HK := asd_ HK1; clear HK1; clear bg5 bg6; have bg5 := cE HK 1; have bg6 := cE HK 0) | ((with_reducible refine gd_ 19 ?_); refine lo_ 25 5 g5 (jvc x A4 A5 c4 c5) HK.out.k.2.1 Tryz.underlying25 ?_) | ((with_reducible refine gd_ 20 ?_); refine cw_ #[.agg (jvc x A4 A5 c4 c5)] Tryz.func29 (value_out _ x A4 A5 c4 c5 (Hx.out.below (by repeat (first | exact HK.out.b | exact Below.refl _ _ | apply below_alloc | apply pw_below_drewN | apply below_drew1))) HVx.out) ?_; rintro v20 wc20 HK1 hO hB; have HPC2 := asd_ (hst _ _ _ HPC.out hB); have HO := asd_ hO; clear hO hB HPC; replace HK := asd_ HK1; clear HK1; clear bg5 bg6; have bg5 := cE HK 1; have bg6 := cE HK 0) | ((with_reducible refine gd_ 21 ?_); refine cw_ #[.pointer (some ⟨gs, 0, none⟩), v20] Tryz.func28 (none_form (HV.out _ _ _ HPC2.out HO.out)) ?_; rintro v21 wc21 HK1 hv21 hB; subst hv21; clear hB HPC2 HO; replace HK := asd_ HK1; clear HK1; clear bg5 bg6; have bg5 := cE HK 1; have bg6 := cE HK 0) | ((with_reducible refine gate_ (.store 54 (.tmp 6) (.tmp 27)) rfl ?_); refine storerow_at (cs := #[eS, eS, nilS, nilS, eS, nilS, nilS, nilS]) (g := g6) 0 (#[eS, eS, nilS, nilS, eS, nilS, nilS, nilS]) at_ rfl Gg6.out rfl rfl rfl rfl rfl rfl kr_ rfl (by simp [Value.oneCell']) ?_; intro wr1 HK1; replace HK := asd_ HK1; clear HK1; clear bg5 bg6; have bg5 := cE HK 1; have bg6 := cE HK 0))
 ((try simp only [Exit.inBlock, Exit.then]); refine bodyPost_ret (results_ct rfl _ _ g6 54 (#[eS, eS, nilS, nilS, eS, nilS, nilS, nilS]) (0, 0) _ rfl (HK.out.k.1) Tryz.underlying54 rfl kr_) rfl ?_)
 exact ⟨rfl, HK.out.b⟩
set_option maxHeartbeats 4000000 in
set_option maxRecDepth 100000 in
theorem draft_some (w : World) (gn cS : Nat) (x : S25) (A4 A5 : Option Addr) (c4 c5 : Nat) (loc kn : ByteArray) (T : Value) (path names : List ByteArray) (PC : Nat → World → Prop) (hst : ∀ gs W W1, PC gs W → Below W.heap.size W W1 → PC gs W1) (hx : Rep w x A4 c4 A5 c5) (hVx : V x) (hC : ∀ W, Below w.heap.size w W → Calls Tryz.prog 27 #[.slice (some ⟨gn, 0, none⟩) 1 cS, .int .i64 2020] W fun e w' => ∃ v, e = .returned v ∧ (∃ gs, v = .pointer (some ⟨gs, 0, none⟩) ∧ PC gs w') ∧ Below W.heap.size W w') (PV : Nat → World → Prop) (hV : ∀ W gs v, PC gs W → Out x v W → Calls Tryz.prog 28 #[.pointer (some ⟨gs, 0, none⟩), v] W fun e w' => ∃ v, e = .returned v ∧ (∃ gr, v = .iface 76 (.pointer (some ⟨gr, 0, none⟩)) ∧ PV gr w') ∧ Below W.heap.size W w') (hE : ∀ W gr, PV gr W → Calls Tryz.prog 30 #[.pointer (some ⟨gr, 0, none⟩)] W fun e w' => Rooted loc kn T path names W e w') :
  Calls Tryz.prog 19 #[.int .i64 2020, .slice (some ⟨gn, 0, none⟩) 1 cS, .agg (jvc x A4 A5 c4 c5)] w fun e w' => Told loc kn T path names w e w' := by
 have Hx := asd_ hx
 have HVx := asd_ hVx
 have HC := asd_ hC
 have HV := asd_ hV
 have HE := asd_ hE
 clear hE
 clear hx hVx hC hV
 have HK : Aside0 (At w [] w) := asd_ (At.start w)
 go_enter Tryz.func19, Tryz.ntmps19
 go_wp2_with (first | ((with_reducible refine gd_ 5 ?_); refine bx_ (jvc x A4 A5 c4 c5) 25 ?_; clear HK; intro g5 wb5 HK Gg5; have bg5 := cE HK 0) | ((with_reducible refine gd_ 6 ?_); refine bx_ #[eS, eS, nilS, nilS, eS, nilS, nilS, nilS] 54 ?_; clear HK bg5; intro g6 wb6 HK Gg6; have bg5 := cE HK 1; have bg6 := cE HK 0) | ((with_reducible refine gd_ 13 ?_); refine cw_ #[.slice (some ⟨gn, 0, none⟩) 1 cS, .int .i64 2020] Tryz.func27 (HC.out _ (by repeat (first | exact HK.out.b | exact Below.refl _ _ | apply below_alloc | apply pw_below_drewN | apply below_drew1))) ?_; rintro v13 wc13 HK1 ⟨gs, rfl, hPC⟩ hB; have HPC := asd_ hPC; clear hPC hB; replace HK := asd_ HK1; clear HK1; clear bg5 bg6; have bg5 := cE HK 1; have bg6 := cE HK 0) | ((with_reducible refine gd_ 19 ?_); refine lo_ 25 5 g5 (jvc x A4 A5 c4 c5) HK.out.k.2.1 Tryz.underlying25 ?_) | ((with_reducible refine gd_ 20 ?_); refine cw_ #[.agg (jvc x A4 A5 c4 c5)] Tryz.func29 (value_out _ x A4 A5 c4 c5 (Hx.out.below (by repeat (first | exact HK.out.b | exact Below.refl _ _ | apply below_alloc | apply pw_below_drewN | apply below_drew1))) HVx.out) ?_; rintro v20 wc20 HK1 hO hB; have HPC2 := asd_ (hst _ _ _ HPC.out hB); have HO := asd_ hO; clear hO hB HPC; replace HK := asd_ HK1; clear HK1; clear bg5 bg6; have bg5 := cE HK 1; have bg6 := cE HK 0) | ((with_reducible refine gd_ 21 ?_); refine cw_ #[.pointer (some ⟨gs, 0, none⟩), v20] Tryz.func28 (HV.out _ _ _ HPC2.out HO.out) ?_; rintro v21 wc21 HK1 ⟨gr, rfl, hPV⟩ hB; have HPV := asd_ hPV; clear hB hPV HPC2 HO; replace HK := asd_ HK1; clear HK1; clear bg5 bg6; have bg5 := cE HK 1; have bg6 := cE HK 0) | ((with_reducible refine gd_ 29 ?_); refine cw_ #[.pointer (some ⟨gr, 0, none⟩)] Tryz.func30 (rooted_form (HE.out _ _ HPV.out)) ?_; rintro v29 wc29 HK0 ⟨Aq, cq, Aa, ca, gx, cx, curx, Ap, cp, Aa2, ca2, An, cn, rfl, hgx, hgxn, hcx, hcur, hFp, hFn⟩ hB; have HK1 := At.fact (Fact.strs (.slice Ap path.length cp) path) (At.fact (Fact.strs (.slice An names.length cn) names) (At.came at_ hB hgx hgxn) hFn) hFp; have Hcur := asd_ (And.intro hcx hcur); have Hgx := asd_ (Nat.le_trans (by first | exact HK.out.b.size | exact (At.b at_).size) hgxn); clear HK0 hB hgx hgxn hcx hcur hFp hFn HPV; replace HK := asd_ HK1; clear HK1; clear bg5 bg6; have bg5 := cE HK 4; have bg6 := cE HK 3) | ((with_reducible refine gate_ (.store 54 (.tmp 6) (.tmp 29)) rfl ?_); refine storerow_at (cs := #[eS, eS, nilS, nilS, eS, nilS, nilS, nilS]) (g := g6) 3 (#[.string loc, .string ⟨#[83, 99, 104, 101, 109, 97]⟩, .slice Aq 0 cq, .slice Aa 0 ca, eS, nilS, nilS, .slice (some ⟨gx, 0, none⟩) 1 cx]) at_ rfl Gg6.out rfl rfl rfl rfl rfl rfl kr_ rfl (by simp [Value.oneCell']) ?_; intro wr1 HK1; replace HK := asd_ HK1; clear HK1; clear bg5 bg6; have bg5 := cE HK 4; have bg6 := cE HK 3))
 ((try simp only [Exit.inBlock, Exit.then]); refine bodyPost_ret (results_ct rfl _ _ g6 54 (#[.string loc, .string ⟨#[83, 99, 104, 101, 109, 97]⟩, .slice Aq 0 cq, .slice Aa 0 ca, eS, nilS, nilS, .slice (some ⟨gx, 0, none⟩) 1 cx]) (0, 0) _ rfl (HK.out.k.2.2.2.1) Tryz.underlying54 rfl kr_) rfl ?_)
 exact ⟨Aq, cq, Aa, ca, gx, cx, curx, Ap, cp, Aa2, ca2, An, cn, rfl, HK.out.k.2.2.1, Hgx.out, Hcur.out.1, Hcur.out.2, HK.out.k.1, HK.out.k.2.1, HK.out.b⟩
set_option maxHeartbeats 4000000 in
set_option maxRecDepth 100000 in
theorem validate_same (w : World) (gs : Nat) (vv : Value) (F : Value → World → Prop) (hC : Calls Tryz.prog 53 #[.pointer (some ⟨gs, 0, none⟩), vv] w fun e w' => ∃ v, e = .returned v ∧ F v w') :
  Calls Tryz.prog 28 #[.pointer (some ⟨gs, 0, none⟩), vv] w fun e w' => ∃ v, e = .returned v ∧ F v w' := by
 have HC := asd_ hC
 clear hC
 have HK : Aside0 (At w [] w) := asd_ (At.start w)
 go_enter Tryz.func28, Tryz.ntmps28
 go_wp2_with (first | ((with_reducible refine gd_ 7 ?_); refine goesL_ _ rfl rfl Tryz.func53 kr_ rfl #[.pointer (some ⟨gs, 0, none⟩), vv] rfl ar_ (HC.out.mono ?_); rintro e w7 ⟨v7, rfl, hF⟩; refine ⟨_, rfl, ?_⟩))
 go_ret
 exact ⟨v7, rfl, hF⟩
end Go.Proofs.YtkphbhncpdcbeaaGreatDoor.J
namespace Go.Proofs.YtkphbhncpdcbeaaGreatDoor.J
open Go.RowKit Go.Proofs.YtkphbhncpdcbeaaGreatDoorW.PrintWords Go.Proofs.YtkphbhncpdcbeaaGreatDoorW.PrintLast Go.Proofs.YtkphbhncpdcbeaaGreatDoorW.PrintMore Go.Proofs.YtkphbhncpdcbeaaGreatDoor.PJT
attribute [local go_sem] Nd.csize Sc.csize Nd.c0 Nd.c1 Nd.c2 Nd.c3 Nd.c4 Nd.c5 Nd.c6 Nd.c7 Nd.c8 Nd.c9 Nd.c10 Nd.c11 Nd.c12 Nd.c13 Nd.c14 Nd.c15 Nd.c16 Nd.c17 Nd.c18 Nd.c19 Nd.c20 Nd.c21 Nd.c22 Nd.c23 Nd.c24 Nd.c25 Nd.c26 Nd.c27 Nd.c28 Nd.c29 Nd.c30 Nd.c31 Nd.c32 Nd.c33 Nd.c34 Nd.c35 Nd.c36 Nd.c37 Nd.c38 Nd.c39 Nd.c40 Nd.c41 Nd.c42 Nd.c43 Nd.c44 Nd.c45 Nd.c46 Nd.c47 Nd.c48 Nd.c49 Nd.c50 Nd.c51 Nd.c52 Sc.c0 Sc.c1 Sc.c2 Sc.c3 Sc.c4 Sc.c5 Sc.c6 Sc.c7 Sc.c8 Sc.c9 Sc.c10 Sc.c11 Sc.c12 Sc.c13 Sc.c14 Sc.c15 Sc.c16 Sc.c17 Sc.c18 Sc.c19 Sc.c20 Sc.c21 Sc.c22 Sc.c23 Sc.c24 Sc.c25 Sc.c26 Sc.c27 Sc.c28 Sc.c29 Sc.c30 Sc.c31 Sc.c32 Sc.c33 Sc.c34 Sc.c35 Sc.c36 Sc.c37 Sc.c38 Sc.c39 Sc.c40 Sc.c41 Sc.c42 Sc.c43 Sc.c44 Sc.c45 Sc.c46 Sc.c47 Sc.c48 Sc.c49 Sc.c50 Sc.c51 Sc.c52
set_option linter.unusedVariables false
set_option linter.unusedSimpArgs false
theorem told_form {args : Array Value} {W : World} {loc kn : ByteArray} {T : Value} {path names : List ByteArray} (h : Calls Tryz.prog 19 args W fun e w' => Told loc kn T path names W e w') :
  Calls Tryz.prog 19 args W fun e w' => ∃ v, e = .returned v ∧ (∃ Aq cq Aa ca gx cx curx Ap cp Aa2 ca2 An cn, v = .tuple #[.agg #[.string loc, .string ⟨#[83, 99, 104, 101, 109, 97]⟩, .slice Aq 0 cq, .slice Aa 0 ca, eS, nilS, nilS, .slice (some ⟨gx, 0, none⟩) 1 cx], .bool true] ∧ w'.heap[gx]? = some (row curx 54) ∧ W.heap.size ≤ gx ∧ 1 ≤ cx ∧ curx.toList.take 8 = [.string loc, .string kn, .slice Ap path.length cp, .slice Aa2 0 ca2, T, .slice An names.length cn, nilS, nilS] ∧ (Fact.strs (.slice Ap path.length cp) path).P w' ∧ (Fact.strs (.slice An names.length cn) names).P w') ∧ Below W.heap.size W w' := by
 refine h.mono ?_
 rintro e w' ⟨Aq, cq, Aa, ca, gx, cx, curx, Ap, cp, Aa2, ca2, An, cn, rfl, h1, h2, h3, h4, h5, h6, hb⟩
 exact ⟨_, rfl, ⟨Aq, cq, Aa, ca, gx, cx, curx, Ap, cp, Aa2, ca2, An, cn, rfl, h1, h2, h3, h4, h5, h6⟩, hb⟩
set_option maxHeartbeats 4000000 in
set_option maxRecDepth 100000 in
theorem errors_none (w : World) (gn cS : Nat) (x : S25) (A4 A5 : Option Addr) (c4 c5 : Nat) (hD : ∀ W, Below w.heap.size w W → Calls Tryz.prog 19 #[.int .i64 2020, .slice (some ⟨gn, 0, none⟩) 1 cS, .agg (jvc x A4 A5 c4 c5)] W fun e w' => e = .returned (.tuple #[.agg #[eS, eS, nilS, nilS, eS, nilS, nilS, nilS], .bool false]) ∧ Below W.heap.size W w') :
  Calls Tryz.prog 14 #[.slice (some ⟨gn, 0, none⟩) 1 cS, .agg (jvc x A4 A5 c4 c5)] w fun e w' => e = .returned (.tuple #[.agg #[eS, eS, nilS, nilS, eS, nilS, nilS, nilS], .bool false]) ∧ Below w.heap.size w w' := by
 have HD := asd_ hD
 clear hD
 have HK : Aside0 (At w [] w) := asd_ (At.start w)
 go_enter Tryz.func14, Tryz.ntmps14
 go_wp2_with (first | ((with_reducible refine gd_ 3 ?_); refine bx_ (jvc x A4 A5 c4 c5) 25 ?_; clear HK; intro g3 wb3 HK Gg3; have bg3 := cE HK 0) | ((with_reducible refine gd_ 4 ?_); refine bx_ #[eS, eS, nilS, nilS, eS, nilS, nilS, nilS] 54 ?_; clear HK bg3; intro g4 wb4 HK Gg4; have bg3 := cE HK 1; have bg4 := cE HK 0) | ((with_reducible refine gd_ 7 ?_); refine lo_ 25 3 g3 (jvc x A4 A5 c4 c5) HK.out.k.2.1 Tryz.underlying25 ?_) | ((with_reducible refine gd_ 8 ?_); refine cl_ #[.int .i64 2020, .slice (some ⟨gn, 0, none⟩) 1 cS, .agg (jvc x A4 A5 c4 c5)] (.tuple #[.agg #[eS, eS, nilS, nilS, eS, nilS, nilS, nilS], .bool false]) Tryz.func19 (HD.out _ (by repeat (first | exact HK.out.b | exact Below.refl _ _ | apply below_alloc | apply pw_below_drewN | apply below_drew1))) ?_; intro wc8 HK1; replace HK := asd_ HK1; clear HK1; clear bg3 bg4; have bg3 := cE HK 1; have bg4 := cE HK 0) | ((with_reducible refine gate_ (.store 54 (.tmp 4) (.tmp 9)) rfl ?_); refine storerow_at (cs := #[eS, eS, nilS, nilS, eS, nilS, nilS, nilS]) (g := g4) 0 (#[eS, eS, nilS, nilS, eS, nilS, nilS, nilS]) at_ rfl Gg4.out rfl rfl rfl rfl rfl rfl kr_ rfl (by simp [Value.oneCell']) ?_; intro wr1 HK1; replace HK := asd_ HK1; clear HK1; clear bg3 bg4; have bg3 := cE HK 1; have bg4 := cE HK 0))
 ((try simp only [Exit.inBlock, Exit.then]); refine bodyPost_ret (results_ct rfl _ _ g4 54 (#[eS, eS, nilS, nilS, eS, nilS, nilS, nilS]) (0, 0) _ rfl (HK.out.k.1) Tryz.underlying54 rfl kr_) rfl ?_)
 exact ⟨rfl, HK.out.b⟩
set_option maxHeartbeats 4000000 in
set_option maxRecDepth 100000 in
theorem errors_some (w : World) (gn cS : Nat) (x : S25) (A4 A5 : Option Addr) (c4 c5 : Nat) (loc kn : ByteArray) (T : Value) (path names : List ByteArray) (hD : ∀ W, Below w.heap.size w W → Calls Tryz.prog 19 #[.int .i64 2020, .slice (some ⟨gn, 0, none⟩) 1 cS, .agg (jvc x A4 A5 c4 c5)] W fun e w' => Told loc kn T path names W e w') :
  Calls Tryz.prog 14 #[.slice (some ⟨gn, 0, none⟩) 1 cS, .agg (jvc x A4 A5 c4 c5)] w fun e w' => Told loc kn T path names w e w' := by
 have HD := asd_ hD
 clear hD
 have HK : Aside0 (At w [] w) := asd_ (At.start w)
 go_enter Tryz.func14, Tryz.ntmps14
 go_wp2_with (first | ((with_reducible refine gd_ 3 ?_); refine bx_ (jvc x A4 A5 c4 c5) 25 ?_; clear HK; intro g3 wb3 HK Gg3; have bg3 := cE HK 0) | ((with_reducible refine gd_ 4 ?_); refine bx_ #[eS, eS, nilS, nilS, eS, nilS, nilS, nilS] 54 ?_; clear HK bg3; intro g4 wb4 HK Gg4; have bg3 := cE HK 1; have bg4 := cE HK 0) | ((with_reducible refine gd_ 7 ?_); refine lo_ 25 3 g3 (jvc x A4 A5 c4 c5) HK.out.k.2.1 Tryz.underlying25 ?_) | ((with_reducible refine gd_ 8 ?_); refine cw_ #[.int .i64 2020, .slice (some ⟨gn, 0, none⟩) 1 cS, .agg (jvc x A4 A5 c4 c5)] Tryz.func19 (told_form (HD.out _ (by repeat (first | exact HK.out.b | exact Below.refl _ _ | apply below_alloc | apply pw_below_drewN | apply below_drew1)))) ?_; rintro v8 wc8 HK0 ⟨Aq, cq, Aa, ca, gx, cx, curx, Ap, cp, Aa2, ca2, An, cn, rfl, hgx, hgxn, hcx, hcur, hFp, hFn⟩ hB; have HK1 := At.fact (Fact.strs (.slice Ap path.length cp) path) (At.fact (Fact.strs (.slice An names.length cn) names) (At.came at_ hB hgx hgxn) hFn) hFp; have Hcur := asd_ (And.intro hcx hcur); have Hgx := asd_ (Nat.le_trans (by first | exact HK.out.b.size | exact (At.b at_).size) hgxn); clear HK0 hB hgx hgxn hcx hcur hFp hFn; replace HK := asd_ HK1; clear HK1; clear bg3 bg4; have bg3 := cE HK 4; have bg4 := cE HK 3) | ((with_reducible refine gate_ (.store 54 (.tmp 4) (.tmp 9)) rfl ?_); refine storerow_at (cs := #[eS, eS, nilS, nilS, eS, nilS, nilS, nilS]) (g := g4) 3 (#[.string loc, .string ⟨#[83, 99, 104, 101, 109, 97]⟩, .slice Aq 0 cq, .slice Aa 0 ca, eS, nilS, nilS, .slice (some ⟨gx, 0, none⟩) 1 cx]) at_ rfl Gg4.out rfl rfl rfl rfl rfl rfl kr_ rfl (by simp [Value.oneCell']) ?_; intro wr1 HK1; replace HK := asd_ HK1; clear HK1; clear bg3 bg4; have bg3 := cE HK 4; have bg4 := cE HK 3))
 ((try simp only [Exit.inBlock, Exit.then]); refine bodyPost_ret (results_ct rfl _ _ g4 54 (#[.string loc, .string ⟨#[83, 99, 104, 101, 109, 97]⟩, .slice Aq 0 cq, .slice Aa 0 ca, eS, nilS, nilS, .slice (some ⟨gx, 0, none⟩) 1 cx]) (0, 0) _ rfl (HK.out.k.2.2.2.1) Tryz.underlying54 rfl kr_) rfl ?_)
 exact ⟨Aq, cq, Aa, ca, gx, cx, curx, Ap, cp, Aa2, ca2, An, cn, rfl, HK.out.k.2.2.1, Hgx.out, Hcur.out.1, Hcur.out.2, HK.out.k.1, HK.out.k.2.1, HK.out.b⟩
end Go.Proofs.YtkphbhncpdcbeaaGreatDoor.J
namespace Go.Proofs.YtkphbhncpdcbeaaGreatDoor.J
open Go.RowKit Go.Proofs.YtkphbhncpdcbeaaGreatDoorW.PrintWords Go.Proofs.YtkphbhncpdcbeaaGreatDoorW.PrintLast Go.Proofs.YtkphbhncpdcbeaaGreatDoorW.PrintMore Go.Proofs.YtkphbhncpdcbeaaGreatDoor.PJT
set_option linter.unusedVariables false
theorem val28_none {W : World} {gs : Nat} {v : Value} (h : Calls Tryz.prog 53 #[.pointer (some ⟨gs, 0, none⟩), v] W fun e w' => e = .returned .nilIface ∧ Below W.heap.size W w') :
  Calls Tryz.prog 28 #[.pointer (some ⟨gs, 0, none⟩), v] W fun e w' => e = .returned .nilIface ∧ Below W.heap.size W w' := by
 refine (validate_same W gs v (fun u w' => u = .nilIface ∧ Below W.heap.size W w') (h.mono ?_)).mono ?_
 ·rintro e w' ⟨rfl, hb⟩
  exact ⟨_, rfl, rfl, hb⟩
 ·rintro e w' ⟨u, rfl, rfl, hb⟩
  exact ⟨rfl, hb⟩
section
variable (W0 : World) (gs : Nat) (loc : ByteArray) (req props pats deps dreq dsch : Value) (hS : W0.heap[gs]? = some (row (Sc.cells ⟨2020, loc, nP, nP, nP, nP, req, props, pats, deps, dreq, dsch, .nilIface⟩) 119))
include hS
theorem quiet_kinds {x : S25} {v : Value} (hO : Out x v W0) (hk : x.f0 ≠ 5) : Calls Tryz.prog 28 #[.pointer (some ⟨gs, 0, none⟩), v] W0 fun e w' => e = .returned .nilIface ∧ Below W0.heap.size W0 w' := by
 refine val28_none ?_
 cases hO with
 | null k e =>
  subst e
  exact sch_none W0 gs .nilIface rfl ⟨2020, loc, nP, nP, nP, nP, req, props, pats, deps, dreq, dsch, .nilIface⟩ hS (fun W hb => from_null W gs ⟨2020, loc, nP, nP, nP, nP, req, props, pats, deps, dreq, dsch, .nilIface⟩ (blk_below hS hb)) (fun W l gv gc ad up H hgv => val_null W W0 l gv gs gc ad up loc req props pats deps dreq dsch H hgv hS)
 | bool k e =>
  subst e
  exact sch_none W0 gs (.iface 4 _) rfl ⟨2020, loc, nP, nP, nP, nP, req, props, pats, deps, dreq, dsch, .nilIface⟩ hS (fun W hb => from_bool W gs _ ⟨2020, loc, nP, nP, nP, nP, req, props, pats, deps, dreq, dsch, .nilIface⟩ (blk_below hS hb)) (fun W l gv gc ad up H hgv => val_bool W W0 l gv gs gc _ ad up loc req props pats deps dreq dsch H hgv hS)
 | text k e =>
  subst e
  exact sch_none W0 gs (.iface 9 _) rfl ⟨2020, loc, nP, nP, nP, nP, req, props, pats, deps, dreq, dsch, .nilIface⟩ hS (fun W hb => from_text W gs _ ⟨2020, loc, nP, nP, nP, nP, req, props, pats, deps, dreq, dsch, .nilIface⟩ (blk_below hS hb)) (fun W l gv gc ad up H hgv => val_text W W0 l gv gs gc _ ad up loc req props pats deps dreq dsch H hgv hS)
 | array k A c e =>
  subst e
  exact sch_none W0 gs (.iface 117 _) rfl ⟨2020, loc, nP, nP, nP, nP, req, props, pats, deps, dreq, dsch, .nilIface⟩ hS (fun W hb => from_array W gs _ _ _ ⟨2020, loc, nP, nP, nP, nP, req, props, pats, deps, dreq, dsch, .nilIface⟩ (blk_below hS hb)) (fun W l gv gc ad up H hgv => val_array W W0 l gv gs gc _ _ _ ad up loc req props pats deps dreq dsch H hgv hS)
 | object k => exact absurd k hk
theorem quiet_obj (g : Nat) (hO : ∀ W l gv ad cp up, At W0 (.b gv (row (vdc (.iface 113 (.map (some g))) ad (.pointer (some ⟨gs, 0, none⟩)) cp up nilS) 182) :: l) W → W0.heap.size ≤ gv → Calls Tryz.prog 147 #[.pointer (some ⟨gv, 0, none⟩), .map (some g)] W fun e w' => e = .returned (.tuple #[]) ∧ At W0 (.b gv (row (vdc (.iface 113 (.map (some g))) ad (.pointer (some ⟨gs, 0, none⟩)) cp up nilS) 182) :: l) w') :
  Calls Tryz.prog 28 #[.pointer (some ⟨gs, 0, none⟩), .iface 113 (.map (some g))] W0 fun e w' => e = .returned .nilIface ∧ Below W0.heap.size W0 w' :=
 val28_none (sch_none W0 gs (.iface 113 _) rfl ⟨2020, loc, nP, nP, nP, nP, req, props, pats, deps, dreq, dsch, .nilIface⟩ hS (fun W hb => from_object W gs _ ⟨2020, loc, nP, nP, nP, nP, req, props, pats, deps, dreq, dsch, .nilIface⟩ (blk_below hS hb)) (fun W l gv gc ad up H hgv => val_object W W0 l gv gs gc g ad up loc req props pats deps dreq dsch H hgv hS (fun W l H => hO W l gv ad _ up H hgv)))
def Left (loc : ByteArray) (tk : TypeId) (PK : Nat → World → Prop) (gr : Nat) (W : World) : Prop :=
 ∃ gk2 adc ge gki Ae ce, W.heap[gr]? = some (row #[.string loc, nilS, .iface 187 (.pointer (some ⟨gk2, 0, none⟩)), .slice (some adc) 1 1] 129) ∧ W.cell? adc = some (.pointer (some ⟨ge, 0, none⟩)) ∧ W.heap[ge]? = some (row (vec loc Ae ce (.iface tk (.pointer (some ⟨gki, 0, none⟩))) nilS) 129) ∧ PK gki W
omit hS in
theorem left_of {w w' : World} {loc : ByteArray} {tk : TypeId} {PK : Nat → World → Prop} {gr gk2 gz ge gki : Nat} {Ae : Option Addr} {ce : Nat} {Y : List Blk} (hP : Keeps Y w' → PK gki w')
  (H : At w (.b gr (row #[.string loc, nilS, .iface 187 (.pointer (some ⟨gk2, 0, none⟩)), .slice (some ⟨gz, 0, none⟩) 1 1] 129) :: .b gk2 (row #[.string loc] 189) :: .b gz (row #[.pointer (some ⟨ge, 0, none⟩)] 76) :: .b ge (row (vec loc Ae ce (.iface tk (.pointer (some ⟨gki, 0, none⟩))) nilS) 129) :: Y) w') : Left loc tk PK gr w' :=
 ⟨gk2, ⟨gz, 0, none⟩, ge, gki, Ae, ce, H.k.1, blk_cell H.k.2.2.1 0, H.k.2.2.2.1, hP H.k.2.2.2.2⟩
theorem loud_obj (g : Nat) (tk : TypeId) (PY : Nat → List Blk → Prop) (PK : Nat → World → Prop) (hPK : ∀ gki Y W, PY gki Y → Keeps Y W → PK gki W) (hta : ∀ (v : Value) (W : World), (Instr.typeAssert (.iface tk v) 126 185 true).run Tryz.prog W = .ok (.tuple #[.pointer none, .bool false]) W)
  (hO : ∀ W l gv ad cp up, At W0 (.b gv (row (vdc (.iface 113 (.map (some g))) ad (.pointer (some ⟨gs, 0, none⟩)) cp up nilS) 182) :: l) W → W0.heap.size ≤ gv → Calls Tryz.prog 147 #[.pointer (some ⟨gv, 0, none⟩), .map (some g)] W fun e w' => e = .returned (.tuple #[]) ∧ ∃ A c ge Ae ce gki Y, PY gki Y ∧ At W0 (.f (Fact.rows kPtr 76 W0.heap.size E76 (.slice A 1 c) [some ⟨ge, 0, none⟩]) :: .b ge (row (vec loc Ae ce (.iface tk (.pointer (some ⟨gki, 0, none⟩))) nilS) 129) :: .b gv (row (vdc (.iface 113 (.map (some g))) ad (.pointer (some ⟨gs, 0, none⟩)) cp up (.slice A 1 c)) 182) :: (Y ++ l)) w') :
  Calls Tryz.prog 28 #[.pointer (some ⟨gs, 0, none⟩), .iface 113 (.map (some g))] W0 fun e w' => ∃ v, e = .returned v ∧ (∃ gr, v = .iface 76 (.pointer (some ⟨gr, 0, none⟩)) ∧ Left loc tk PK gr w') ∧ Below W0.heap.size W0 w' := by
 refine validate_same W0 gs _ (fun u w' => (∃ gr, u = .iface 76 (.pointer (some ⟨gr, 0, none⟩)) ∧ Left loc tk PK gr w') ∧ Below W0.heap.size W0 w') ?_
 refine (sch_some W0 gs (.iface 113 _) rfl ⟨2020, loc, nP, nP, nP, nP, req, props, pats, deps, dreq, dsch, .nilIface⟩ hS (fun W hb => from_object W gs _ ⟨2020, loc, nP, nP, nP, nP, req, props, pats, deps, dreq, dsch, .nilIface⟩ (blk_below hS hb)) tk (fun gki Y => ∃ Y0 l0, Y = Y0 ++ l0 ∧ PY gki Y0) hta ?_).mono ?_
 ·intro W l gv gc ad up H hgv
  refine (val_some W W0 l gv gs gc g ad up loc req props pats deps dreq dsch H hgv hS (fun ge X => ∃ Ae ce gki Y0, X = .b ge (row (vec loc Ae ce (.iface tk (.pointer (some ⟨gki, 0, none⟩))) nilS) 129) :: Y0 ∧ PY gki Y0) ?_).mono ?_
  ·intro W l H
   refine (hO W l gv ad _ up H hgv).mono ?_
   rintro e w' ⟨rfl, A, c, ge, Ae, ce, gki, Y, hY, H'⟩
   exact ⟨rfl, A, c, ge, _, ⟨Ae, ce, gki, Y, rfl, hY⟩, H'.perm (List.Perm.cons _ (List.Perm.swap _ _ _))⟩
  ·rintro e w' ⟨ge, X, rfl, ⟨Ae, ce, gki, Y0, rfl, hY⟩, H'⟩
   exact ⟨ge, gki, Ae, ce, _, rfl, ⟨Y0, _, rfl, hY⟩, H'⟩
 ·rintro e w' ⟨gr, gk2, gz, ge, gki, Ae, ce, Y, rfl, ⟨Y0, l0, rfl, hY⟩, H'⟩
  exact ⟨_, rfl, ⟨gr, rfl, left_of (fun hk => hPK gki Y0 w' hY (Keeps.sub (List.sublist_append_left Y0 l0) hk)) H'⟩, H'.b⟩
end
end Go.Proofs.YtkphbhncpdcbeaaGreatDoor.J
namespace Go.Proofs.YtkphbhncpdcbeaaGreatDoor.J
open Go.RowKit Go.Proofs.YtkphbhncpdcbeaaGreatDoorW.PrintWords Go.Proofs.YtkphbhncpdcbeaaGreatDoorW.PrintLast Go.Proofs.YtkphbhncpdcbeaaGreatDoorW.PrintMore Go.Proofs.YtkphbhncpdcbeaaGreatDoor.PJT
attribute [local go_sem] Nd.csize Sc.csize Nd.c0 Nd.c1 Nd.c2 Nd.c3 Nd.c4 Nd.c5 Nd.c6 Nd.c7 Nd.c8 Nd.c9 Nd.c10 Nd.c11 Nd.c12 Nd.c13 Nd.c14 Nd.c15 Nd.c16 Nd.c17 Nd.c18 Nd.c19 Nd.c20 Nd.c21 Nd.c22 Nd.c23 Nd.c24 Nd.c25 Nd.c26 Nd.c27 Nd.c28 Nd.c29 Nd.c30 Nd.c31 Nd.c32 Nd.c33 Nd.c34 Nd.c35 Nd.c36 Nd.c37 Nd.c38 Nd.c39 Nd.c40 Nd.c41 Nd.c42 Nd.c43 Nd.c44 Nd.c45 Nd.c46 Nd.c47 Nd.c48 Nd.c49 Nd.c50 Nd.c51 Nd.c52 Sc.c0 Sc.c1 Sc.c2 Sc.c3 Sc.c4 Sc.c5 Sc.c6 Sc.c7 Sc.c8 Sc.c9 Sc.c10 Sc.c11 Sc.c12 Sc.c13 Sc.c14 Sc.c15 Sc.c16 Sc.c17 Sc.c18 Sc.c19 Sc.c20 Sc.c21 Sc.c22 Sc.c23 Sc.c24 Sc.c25 Sc.c26 Sc.c27 Sc.c28 Sc.c29 Sc.c30 Sc.c31 Sc.c32 Sc.c33 Sc.c34 Sc.c35 Sc.c36 Sc.c37 Sc.c38 Sc.c39 Sc.c40 Sc.c41 Sc.c42 Sc.c43 Sc.c44 Sc.c45 Sc.c46 Sc.c47 Sc.c48 Sc.c49 Sc.c50 Sc.c51 Sc.c52
set_option linter.unusedVariables false
set_option linter.unusedSimpArgs false
def ReqC (names : List ByteArray) (gs : Nat) (W : World) : Prop :=
 ∃ A2 c2 gm gpp gpr gds gdr, W.heap[gs]? = some (row (Sc.cells ⟨2020, ⟨#[49]⟩, nP, nP, nP, nP, (.slice A2 names.length c2), (.map (some gpr)), (.map (some gpp)), (.map (some gm)), (.map (some gdr)), (.map (some gds)), .nilIface⟩) 119) ∧ W.heap[gpr]? = some (.map #[] 0) ∧ W.heap[gpp]? = some (.map #[] 0) ∧ W.heap[gm]? = some (.map #[] 0) ∧ W.heap[gds]? = some (.map #[] 0) ∧ W.heap[gdr]? = some (.map #[] 0) ∧ (Fact.strs (.slice A2 names.length c2) names).P W
theorem ReqC.below {names : List ByteArray} {gs : Nat} {W W1 : World} (h : ReqC names gs W) (hb : Below W.heap.size W W1) : ReqC names gs W1 := by
 obtain ⟨A2, c2, gm, gpp, gpr, gds, gdr, h1, h2, h3, h4, h5, h6, h7⟩ := h
 exact ⟨A2, c2, gm, gpp, gpr, gds, gdr, blk_below h1 hb, blk_below h2 hb, blk_below h3 hb, blk_below h4 hb, blk_below h5 hb, blk_below h6 hb, (Fact.strs _ _).below h7 hb⟩
def NeedC (name : ByteArray) (names : List ByteArray) (gs : Nat) (W : World) : Prop :=
 ∃ A2 c2 A3 c3 gm gpp gpr gds gdr, W.heap[gs]? = some (row (Sc.cells ⟨2020, ⟨#[49]⟩, nP, nP, nP, nP, (.slice A2 0 c2), (.map (some gpr)), (.map (some gpp)), (.map (some gm)), (.map (some gdr)), (.map (some gds)), .nilIface⟩) 119) ∧ W.heap[gpr]? = some (.map #[] 0) ∧ W.heap[gpp]? = some (.map #[] 0) ∧ W.heap[gm]? = some (.map #[] 0) ∧ W.heap[gds]? = some (.map #[] 0) ∧ W.heap[gdr]? = some (.map #[⟨.string name, .slice A3 names.length c3, 0⟩] 1) ∧ (Fact.strs (.slice A3 names.length c3) names).P W
theorem NeedC.below {name : ByteArray} {names : List ByteArray} {gs : Nat} {W W1 : World} (h : NeedC name names gs W) (hb : Below W.heap.size W W1) : NeedC name names gs W1 := by
 obtain ⟨A2, c2, A3, c3, gm, gpp, gpr, gds, gdr, h1, h2, h3, h4, h5, h6, h7⟩ := h
 exact ⟨A2, c2, A3, c3, gm, gpp, gpr, gds, gdr, blk_below h1 hb, blk_below h2 hb, blk_below h3 hb, blk_below h4 hb, blk_below h5 hb, blk_below h6 hb, (Fact.strs _ _).below h7 hb⟩
theorem strs_C {W : World} {A : Option Addr} {n c : Nat} {xs : List ByteArray} (h : (Fact.strs (.slice A n c) xs).P W) : n = xs.length ∧ xs.length ≤ c ∧ Kd.C Kd.string W A xs.length xs := R_C (show Kd.R Kd.string 9 W 0 _ (.slice A n c) xs from h)
section
variable (w : World) (gn cS : Nat) (x : S25) (A4 A5 : Option Addr) (c4 c5 : Nat) (hx : Rep w x A4 c4 A5 c5) (hV : V x) {A : Option Addr} {c : Nat} (names : List ByteArray) (hr : Kd.C Kd.string w A names.length names) (hc : names.length ≤ c) (hn : names.length ≤ LM) (hs : ∀ s ∈ names, s.size ≤ LM)
include hr hc hn
theorem comp_req (hS : w.heap[gn]? = some (row (Nd.cells ⟨0, false, nilS, nilS, false, nilS, false, nilS, .slice A names.length c, nilS⟩) 45)) : Calls Tryz.prog 27 #[.slice (some ⟨gn, 0, none⟩) 1 cS, .int .i64 2020] w fun e w' => ∃ v, e = .returned v ∧ (∃ gs, v = .pointer (some ⟨gs, 0, none⟩) ∧ ReqC names gs w') ∧ Below w.heap.size w w' := by
 refine (compiled_req w gn cS hr hc (Nat.lt_of_le_of_lt hn (by decide)) (by simp [Nd.cells, Value.oneCell']) hS).mono ?_
 rintro e w' ⟨gs, A2, c2, gm, gpp, gpr, gds, gdr, rfl, h1, h2, h3, h4, h5, h6, h7, hb⟩
 exact ⟨_, rfl, ⟨gs, rfl, A2, c2, gm, gpp, gpr, gds, gdr, h1, h2, h3, h4, h5, h6, h7⟩, hb⟩
theorem comp_needs (gq cq : Nat) (name : ByteArray) (hq : w.heap[gq]? = some (row (#[.string name, .slice A names.length c]) 47)) (hS : w.heap[gn]? = some (row (Nd.cells ⟨0, false, nilS, nilS, false, nilS, false, nilS, nilS, .slice (some ⟨gq, 0, none⟩) 1 cq⟩) 45)) : Calls Tryz.prog 27 #[.slice (some ⟨gn, 0, none⟩) 1 cS, .int .i64 2020] w fun e w' => ∃ v, e = .returned v ∧ (∃ gs, v = .pointer (some ⟨gs, 0, none⟩) ∧ NeedC name names gs w') ∧ Below w.heap.size w w' := by
 refine (compiled_needs w gn cS gq cq name hq hr hc (Nat.lt_of_le_of_lt hn (by decide)) (by simp [Nd.cells, Value.oneCell']) hS).mono ?_
 rintro e w' ⟨gs, A2, c2, A3, c3, gm, gpp, gpr, gds, gdr, rfl, h1, h2, h3, h4, h5, h6, h7, hb⟩
 exact ⟨_, rfl, ⟨gs, rfl, A2, c2, A3, c3, gm, gpp, gpr, gds, gdr, h1, h2, h3, h4, h5, h6, h7⟩, hb⟩
include hx hV hs
theorem errors_req_none (hS : w.heap[gn]? = some (row (Nd.cells ⟨0, false, nilS, nilS, false, nilS, false, nilS, .slice A names.length c, nilS⟩) 45)) (h : x.f0 = 5 → lacks x.f4 names = []) :
  Calls Tryz.prog 14 #[.slice (some ⟨gn, 0, none⟩) 1 cS, .agg (jvc x A4 A5 c4 c5)] w fun e w' => e = .returned (.tuple #[.agg #[eS, eS, nilS, nilS, eS, nilS, nilS, nilS], .bool false]) ∧ Below w.heap.size w w' := by
 refine errors_none w gn cS x A4 A5 c4 c5 (fun W hb => draft_none W gn cS x A4 A5 c4 c5 (ReqC names) (fun _ _ _ => ReqC.below) (hx.below hb) hV (fun W1 hb1 => comp_req W1 gn cS names (Kd.C_below hr (below_step hb hb1)) hc hn (blk_below hS (below_step hb hb1))) ?_)
 intro W0 gs v hP hO
 obtain ⟨A2, c2, gm, gpp, gpr, gds, gdr, h1, h2, h3, h4, h5, h6, h7⟩ := hP
 by_cases hk : x.f0 = 5
 ·cases hO with
  | object _ g es ck e M hg =>
   subst e
   have hl := h hk
   obtain ⟨_, _, hC⟩ := strs_C h7
   refine quiet_obj W0 gs _ _ _ _ _ _ _ h1 g (fun W l gv ad cp up H hgv => ?_)
   by_cases h0 : names.length = 0
   ·have h0' : names = [] := List.length_eq_zero_iff.1 h0
    subst h0'
    exact obj_R0 W W0 l gv gs g gpr gpp gm gdr gds _ ad cp up _ es ck _ x.f4 A2 c2 [] H hgv h1 hg M h2 h3 h4 h5 h6 hC hn hs
   ·exact obj_R1 W W0 l gv gs g gpr gpp gm gdr gds _ ad cp up _ es ck _ x.f4 A2 c2 names H hgv h1 hg M h2 h3 h4 h5 h6 hC hn hs (by omega) hl
  | null k => omega
  | bool k => omega
  | text k => omega
  | array k => omega
 ·exact quiet_kinds W0 gs _ _ _ _ _ _ _ h1 hO hk
theorem errors_needs_none (gq cq : Nat) (name : ByteArray) (hns : name.size ≤ LM) (hq : w.heap[gq]? = some (row (#[.string name, .slice A names.length c]) 47)) (hS : w.heap[gn]? = some (row (Nd.cells ⟨0, false, nilS, nilS, false, nilS, false, nilS, nilS, .slice (some ⟨gq, 0, none⟩) 1 cq⟩) 45)) (h : x.f0 = 5 → mem x.f4 name → lacks x.f4 names = []) :
  Calls Tryz.prog 14 #[.slice (some ⟨gn, 0, none⟩) 1 cS, .agg (jvc x A4 A5 c4 c5)] w fun e w' => e = .returned (.tuple #[.agg #[eS, eS, nilS, nilS, eS, nilS, nilS, nilS], .bool false]) ∧ Below w.heap.size w w' := by
 refine errors_none w gn cS x A4 A5 c4 c5 (fun W hb => draft_none W gn cS x A4 A5 c4 c5 (NeedC name names) (fun _ _ _ => NeedC.below) (hx.below hb) hV (fun W1 hb1 => comp_needs W1 gn cS names (Kd.C_below hr (below_step hb hb1)) hc hn gq cq name (blk_below hq (below_step hb hb1)) (blk_below hS (below_step hb hb1))) ?_)
 intro W0 gs v hP hO
 obtain ⟨A2, c2, A3, c3, gm, gpp, gpr, gds, gdr, h1, h2, h3, h4, h5, h6, h7⟩ := hP
 by_cases hk : x.f0 = 5
 ·cases hO with
  | object _ g es ck e M hg =>
   subst e
   obtain ⟨_, _, hC⟩ := strs_C h7
   refine quiet_obj W0 gs _ _ _ _ _ _ _ h1 g (fun W l gv ad cp up H hgv => ?_)
   cases hh : Maps.has (mapOf x.f4) (lit name) with
   | false => exact obj_N0 W W0 l gv gs g gpr gpp gm gdr gds _ ad cp up _ es ck _ x.f4 A2 c2 names H hgv h1 hg M h2 h3 h4 h5 name hns A3 c3 0 1 (by decide) h6 hC hn hs hh
   | true => exact obj_N1 W W0 l gv gs g gpr gpp gm gdr gds _ ad cp up _ es ck _ x.f4 A2 c2 names H hgv h1 hg M h2 h3 h4 h5 name hns A3 c3 0 1 (by decide) h6 hC hn hs hh (h hk (mem_iff.2 ((has_mapOf _ _).1 hh)))
  | null k => omega
  | bool k => omega
  | text k => omega
  | array k => omega
 ·exact quiet_kinds W0 gs _ _ _ _ _ _ _ h1 hO hk
theorem errors_req_some (hS : w.heap[gn]? = some (row (Nd.cells ⟨0, false, nilS, nilS, false, nilS, false, nilS, .slice A names.length c, nilS⟩) 45)) (hk : x.f0 = 5) (hl : lacks x.f4 names ≠ []) :
  Calls Tryz.prog 14 #[.slice (some ⟨gn, 0, none⟩) 1 cS, .agg (jvc x A4 A5 c4 c5)] w fun e w' => Told ⟨#[49]⟩ ⟨#[82, 101, 113, 117, 105, 114, 101, 100]⟩ (.string ⟨#[]⟩) [⟨#[114, 101, 113, 117, 105, 114, 101, 100]⟩] (lacks x.f4 names) w e w' := by
 have hpos : 0 < names.length := by
  rcases Nat.eq_zero_or_pos names.length with h0 | h0
  ·have h0' : names = [] := List.length_eq_zero_iff.1 h0
   subst h0'
   exact absurd rfl hl
  ·exact h0
 refine errors_some w gn cS x A4 A5 c4 c5 _ _ _ _ _ (fun W hb => draft_some W gn cS x A4 A5 c4 c5 _ _ _ _ _ (ReqC names) (fun _ _ _ => ReqC.below) (hx.below hb) hV (fun W1 hb1 => comp_req W1 gn cS names (Kd.C_below hr (below_step hb hb1)) hc hn (blk_below hS (below_step hb hb1)))
  (Left ⟨#[49]⟩ 193 (fun gki W => ∃ ad1 c1, W.heap[gki]? = some (row #[.slice (some ad1) (lacks x.f4 names).length c1] 195) ∧ (Fact.strs (.slice (some ad1) (lacks x.f4 names).length c1) (lacks x.f4 names)).P W)) ?_ ?_)
 ·intro W0 gs v hP hO
  obtain ⟨A2, c2, gm, gpp, gpr, gds, gdr, h1, h2, h3, h4, h5, h6, h7⟩ := hP
  cases hO with
  | object _ g es ck e M hg =>
   subst e
   obtain ⟨_, _, hC⟩ := strs_C h7
   refine loud_obj W0 gs _ _ _ _ _ _ _ h1 g 193 (fun gki Y => ∃ ad1 c1, Y = [.b gki (row #[.slice (some ad1) (lacks x.f4 names).length c1] 195), .f (Fact.strs (.slice (some ad1) (lacks x.f4 names).length c1) (lacks x.f4 names))]) _ ?_ (fun v W => tk_req_185 v W) (fun W l gv ad cp up H hgv => ?_)
   ·rintro gki Y W ⟨ad1, c1, rfl⟩ hk
    exact ⟨ad1, c1, hk.1, hk.2.1⟩
   ·refine (obj_R2 W W0 l gv gs g gpr gpp gm gdr gds _ ad cp up _ es ck _ x.f4 A2 c2 names H hgv h1 hg M h2 h3 h4 h5 h6 hC hn hs hpos hl).mono ?_
    rintro e w' ⟨rfl, A13, c13, ge, Ae, ce, gki, ad1, c1, H'⟩
    exact ⟨rfl, A13, c13, ge, Ae, ce, gki, _, ⟨ad1, c1, rfl⟩, H'⟩
  | null k => omega
  | bool k => omega
  | text k => omega
  | array k => omega
 ·rintro W gr ⟨gk2, adc, ge, gki, Ae, ce, h1, h2, h3, ad1, c1, h4, h5⟩
  refine root_ok W gr ge gk2 _ _ _ _ _ adc 1 h1 h2 (fun W1 hb => ?_)
  obtain ⟨_, hcc, hC⟩ := strs_C h5
  exact leaf_req W1 ge gki _ Ae ce (blk_below h3 hb) (some ad1) c1 _ (Kd.C_below hC hb) hcc (Nat.le_trans (lacks_len _ _) hn) (blk_below h4 hb)
theorem errors_needs_some (gq cq : Nat) (name : ByteArray) (hns : name.size ≤ LM) (hq : w.heap[gq]? = some (row (#[.string name, .slice A names.length c]) 47)) (hS : w.heap[gn]? = some (row (Nd.cells ⟨0, false, nilS, nilS, false, nilS, false, nilS, nilS, .slice (some ⟨gq, 0, none⟩) 1 cq⟩) 45)) (hk : x.f0 = 5) (hm : mem x.f4 name) (hl : lacks x.f4 names ≠ []) :
  Calls Tryz.prog 14 #[.slice (some ⟨gn, 0, none⟩) 1 cS, .agg (jvc x A4 A5 c4 c5)] w fun e w' => Told ⟨#[49]⟩ ⟨#[68, 101, 112, 101, 110, 100, 101, 110, 116, 82, 101, 113, 117, 105, 114, 101, 100]⟩ (.string name) [⟨#[100, 101, 112, 101, 110, 100, 101, 110, 116, 82, 101, 113, 117, 105, 114, 101, 100]⟩, name] (lacks x.f4 names) w e w' := by
 refine errors_some w gn cS x A4 A5 c4 c5 _ _ _ _ _ (fun W hb => draft_some W gn cS x A4 A5 c4 c5 _ _ _ _ _ (NeedC name names) (fun _ _ _ => NeedC.below) (hx.below hb) hV (fun W1 hb1 => comp_needs W1 gn cS names (Kd.C_below hr (below_step hb hb1)) hc hn gq cq name (blk_below hq (below_step hb hb1)) (blk_below hS (below_step hb hb1)))
  (Left ⟨#[49]⟩ 199 (fun gki W => ∃ ad1 c1, W.heap[gki]? = some (row #[.string name, .slice (some ad1) (lacks x.f4 names).length c1] 200) ∧ (Fact.strs (.slice (some ad1) (lacks x.f4 names).length c1) (lacks x.f4 names)).P W)) ?_ ?_)
 ·intro W0 gs v hP hO
  obtain ⟨A2, c2, A3, c3, gm, gpp, gpr, gds, gdr, h1, h2, h3, h4, h5, h6, h7⟩ := hP
  cases hO with
  | object _ g es ck e M hg =>
   subst e
   obtain ⟨_, _, hC⟩ := strs_C h7
   refine loud_obj W0 gs _ _ _ _ _ _ _ h1 g 199 (fun gki Y => ∃ ad1 c1, Y = [.b gki (row #[.string name, .slice (some ad1) (lacks x.f4 names).length c1] 200), .f (Fact.strs (.slice (some ad1) (lacks x.f4 names).length c1) (lacks x.f4 names))]) _ ?_ (fun v W => tk_dep_185 v W) (fun W l gv ad cp up H hgv => ?_)
   ·rintro gki Y W ⟨ad1, c1, rfl⟩ hk
    exact ⟨ad1, c1, hk.1, hk.2.1⟩
   ·refine (obj_N2 W W0 l gv gs g gpr gpp gm gdr gds _ ad cp up _ es ck _ x.f4 A2 c2 names H hgv h1 hg M h2 h3 h4 h5 name hns A3 c3 0 1 (by decide) h6 hC hn hs ((has_mapOf _ _).2 (mem_iff.1 hm)) hl).mono ?_
    rintro e w' ⟨rfl, A13, c13, ge, Ae, ce, gki, ad1, c1, H'⟩
    exact ⟨rfl, A13, c13, ge, Ae, ce, gki, _, ⟨ad1, c1, rfl⟩, H'⟩
  | null k => omega
  | bool k => omega
  | text k => omega
  | array k => omega
 ·rintro W gr ⟨gk2, adc, ge, gki, Ae, ce, h1, h2, h3, ad1, c1, h4, h5⟩
  refine root_ok W gr ge gk2 _ _ _ _ _ adc 1 h1 h2 (fun W1 hb => ?_)
  obtain ⟨_, hcc, hC⟩ := strs_C h5
  exact leaf_dep W1 ge gki _ Ae ce (blk_below h3 hb) name (some ad1) c1 _ (Kd.C_below hC hb) hcc (Nat.le_trans (lacks_len _ _) hn) (blk_below h4 hb)
end
def FalseC (gs : Nat) (W : World) : Prop := ∃ gb, W.heap[gs]? = some (row (Sc.cells ⟨2020, ⟨#[49]⟩, .pointer (some ⟨gb, 0, none⟩), nP, nP, nP, nilS, nM, nM, nM, nM, nM, .nilIface⟩) 119) ∧ W.heap[gb]? = some (row #[bF] 4)
theorem errors_false (w : World) (gn cS : Nat) (x : S25) (A4 A5 : Option Addr) (c4 c5 : Nat) (hx : Rep w x A4 c4 A5 c5) (hV : V x) (hk : x.f0 = 0) (hS : w.heap[gn]? = some (row (Nd.cells ⟨2, false, nilS, nilS, false, nilS, false, nilS, nilS, nilS⟩) 45)) :
  Calls Tryz.prog 14 #[.slice (some ⟨gn, 0, none⟩) 1 cS, .agg (jvc x A4 A5 c4 c5)] w fun e w' => Told ⟨#[49]⟩ ⟨#[70, 97, 108, 115, 101, 83, 99, 104, 101, 109, 97]⟩ (.string ⟨#[]⟩) [] [] w e w' := by
 refine errors_some w gn cS x A4 A5 c4 c5 _ _ _ _ _ (fun W hb => draft_some W gn cS x A4 A5 c4 c5 _ _ _ _ _ FalseC (fun gs W W1 ⟨gb, h1, h2⟩ hb => ⟨gb, blk_below h1 hb, blk_below h2 hb⟩) (hx.below hb) hV (fun W1 hb1 => ?_) (Left ⟨#[49]⟩ 267 (fun _ _ => True)) ?_ ?_)
 ·refine (compiled_false W1 gn cS (by simp [Nd.cells, Value.oneCell']) (blk_below hS (below_step hb hb1))).mono ?_
  rintro e w' ⟨gs, gb, rfl, h1, h2, hb2⟩
  exact ⟨_, rfl, ⟨gs, rfl, gb, h1, h2⟩, hb2⟩
 ·rintro W0 gs v ⟨gb, h1, h2⟩ hO
  cases hO with
  | null _ e =>
   subst e
   refine validate_same W0 gs _ (fun u w' => (∃ gr, u = .iface 76 (.pointer (some ⟨gr, 0, none⟩)) ∧ Left ⟨#[49]⟩ 267 (fun _ _ => True) gr w') ∧ Below W0.heap.size W0 w') ?_
   refine (sch_some W0 gs .nilIface rfl ⟨2020, ⟨#[49]⟩, .pointer (some ⟨gb, 0, none⟩), nP, nP, nP, nilS, nM, nM, nM, nM, nM, .nilIface⟩ h1 (fun W hb => from_null W gs ⟨2020, ⟨#[49]⟩, .pointer (some ⟨gb, 0, none⟩), nP, nP, nP, nilS, nM, nM, nM, nM, nM, .nilIface⟩ (blk_below h1 hb)) 267 (fun _ _ => True) (fun v W => tk_false_185 v W) ?_).mono ?_
   ·intro W l gv gc ad up H hgv
    refine (val_false W W0 _ gv gs gc gb _ ad up _ _ _ _ _ _ _ _ _ _ _ H hgv h1 h2).mono ?_
    rintro e w' ⟨ge, gki, Ae, ce, rfl, H'⟩
    exact ⟨ge, gki, Ae, ce, _, rfl, trivial, H'⟩
   ·rintro e w' ⟨gr, gk2, gz, ge, gki, Ae, ce, Y, rfl, _, H'⟩
    exact ⟨_, rfl, ⟨gr, rfl, left_of (fun _ => trivial) H'⟩, H'.b⟩
  | bool k => omega
  | text k => omega
  | array k => omega
  | object k => omega
 ·rintro W gr ⟨gk2, adc, ge, gki, Ae, ce, h1, h2, h3, _⟩
  exact root_ok W gr ge gk2 _ _ _ _ _ adc 1 h1 h2 (fun W1 hb => leaf_false W1 ge gki _ Ae ce (blk_below h3 hb))
end Go.Proofs.YtkphbhncpdcbeaaGreatDoor.J
