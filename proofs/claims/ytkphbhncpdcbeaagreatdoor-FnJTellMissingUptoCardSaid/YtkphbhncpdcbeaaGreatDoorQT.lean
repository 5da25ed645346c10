/- Part of a proof. -/
import Derived.Test.YtkphbhncpdcbeaaGreatDoorQR
import Derived.Test.YtkphbhncpdcbeaaGreatDoorQS
import Derived.Test.YtkphbhncpdcbeaaGreatDoorQP
import Derived.Test.YtkphbhncpdcbeaaGreatDoorQN
import Derived.Test.YtkphbhncpdcbeaaGreatDoorQE
namespace Go.Proofs.YtkphbhncpdcbeaaGreatDoor.J
open Go.RowKit Go.Proofs.YtkphbhncpdcbeaaGreatDoorW.PrintWords Go.Proofs.YtkphbhncpdcbeaaGreatDoorW.PrintLast Go.Proofs.YtkphbhncpdcbeaaGreatDoorW.PrintMore Go.Proofs.YtkphbhncpdcbeaaGreatDoor.PJT
open Go.Proofs.YtkphbhncpdcbeaaGreatDoorW
attribute [local go_sem] Nd.csize Sc.csize Nd.c0 Nd.c1 Nd.c2 Nd.c3 Nd.c4 Nd.c5 Nd.c6 Nd.c7 Nd.c8 Nd.c9 Nd.c10 Nd.c11 Nd.c12 Nd.c13 Nd.c14 Nd.c15 Nd.c16 Nd.c17 Nd.c18 Nd.c19 Nd.c20 Nd.c21 Nd.c22 Nd.c23 Nd.c24 Nd.c25 Nd.c26 Nd.c27 Nd.c28 Nd.c29 Nd.c30 Nd.c31 Nd.c32 Nd.c33 Nd.c34 Nd.c35 Nd.c36 Nd.c37 Nd.c38 Nd.c39 Nd.c40 Nd.c41 Nd.c42 Nd.c43 Nd.c44 Nd.c45 Nd.c46 Nd.c47 Nd.c48 Nd.c49 Nd.c50 Nd.c51 Nd.c52 Sc.c0 Sc.c1 Sc.c2 Sc.c3 Sc.c4 Sc.c5 Sc.c6 Sc.c7 Sc.c8 Sc.c9 Sc.c10 Sc.c11 Sc.c12 Sc.c13 Sc.c14 Sc.c15 Sc.c16 Sc.c17 Sc.c18 Sc.c19 Sc.c20 Sc.c21 Sc.c22 Sc.c23 Sc.c24 Sc.c25 Sc.c26 Sc.c27 Sc.c28 Sc.c29 Sc.c30 Sc.c31 Sc.c32 Sc.c33 Sc.c34 Sc.c35 Sc.c36 Sc.c37 Sc.c38 Sc.c39 Sc.c40 Sc.c41 Sc.c42 Sc.c43 Sc.c44 Sc.c45 Sc.c46 Sc.c47 Sc.c48 Sc.c49 Sc.c50 Sc.c51 Sc.c52
set_option linter.unusedVariables false
set_option linter.unusedSimpArgs false
theorem buildr_ {P : Program} {a : Act} {w : World} {o : Oper} {t : TypeId} {parts : Array (Nat × Operand)} (cells : Array Value) (ho : o.op = .build t parts)
  (hf : P.built t (parts.map fun (i, x) => (i, a.eval x)).toList = some cells) : (execOp a.eval o).run P w = .ok (.value (.agg cells)) w := by
 unfold execOp
 simp only [ho, Sem.run_bind, run_build w t _ _ hf, Result.andThen_ok]
 rfl
set_option maxHeartbeats 4000000 in
set_option maxRecDepth 100000 in
theorem law_e (w : World) (x : S25) (A4 A5 : Option Addr) (c4 c5 : Nat) (A : Option Addr) (c : Nat) (names : List ByteArray) (name : ByteArray) (hnm : decide ((name.size : Int) > 2147483647) = false) (h4 : ∀ W, Below w.heap.size w W → Calls Tryz.prog 5 #[.slice A names.length c] W fun e w' => e = .returned (.bool true) ∧ Below W.heap.size W w') (h5 : ∀ W, Below w.heap.size w W → Calls Tryz.prog 6 #[.agg (jvc x A4 A5 c4 c5)] W fun e w' => e = .returned (.bool true) ∧ Below W.heap.size W w') (h7 : ∀ W gl, Below w.heap.size w W → W.heap[gl]? = some (row (jvc x A4 A5 c4 c5) 25) → Calls Tryz.prog 7 #[.slice (some ⟨gl, 0, none⟩) 1 1] W fun e w' => e = .returned (.bool true) ∧ Below W.heap.size W w') (hx : Rep w x A4 c4 A5 c5) (hV : V x) (hr : Kd.C Kd.string w A names.length names) (hc : names.length ≤ c) (hn : names.length ≤ LM) (hs : ∀ s ∈ names, s.size ≤ LM) (hns : name.size ≤ LM) : Calls Tryz.prog 3 #[.slice A names.length c, .string name, .agg (jvc x A4 A5 c4 c5)] w fun e w' => e = .returned (.bool true) ∧ Below w.heap.size w w' := by
 have H4 := asd_ h4
 clear h4
 have H5 := asd_ h5
 clear h5
 have H7 := asd_ h7
 clear h7
 have Hx := asd_ hx
 have HV := asd_ hV
 have Hr := asd_ hr
 have Hs := asd_ hs
 clear hx hV hr hs
 have HK : Aside0 (At w [] w) := asd_ (At.start w)
 go_enter Tryz.func3, Tryz.ntmps3
 go_wp2_with (first | ((with_reducible refine gd_ 5 ?_); refine bx_ (jvc x A4 A5 c4 c5) 25 ?_; clear HK; intro g5 wb5 HK Gg5; have bg5 := cE HK 0) | ((with_reducible refine gd_ 8 ?_); refine cl_ #[.slice A names.length c] (.bool true) Tryz.func5 (H4.out _ HK.out.b) ?_; intro wc8 HK1; replace HK := asd_ HK1; clear HK1; clear bg5; have bg5 := cE HK 0) | ((with_reducible refine gd_ 16 ?_); (try (refine gate_guard (by rfl) ?_; dsimp only)); refine lo_ 25 5 g5 (jvc x A4 A5 c4 c5) HK.out.k.1 Tryz.underlying25 ?_) | ((with_reducible refine gd_ 17 ?_); (try (refine gate_guard (by rfl) ?_; dsimp only)); refine cl_ #[.agg (jvc x A4 A5 c4 c5)] (.bool true) Tryz.func6 (H5.out _ HK.out.b) ?_; intro wc17 HK1; replace HK := asd_ HK1; clear HK1; clear bg5; have bg5 := cE HK 0) | ((with_reducible refine gd_ 20 ?_); refine lo_ 25 5 g5 (jvc x A4 A5 c4 c5) HK.out.k.1 Tryz.underlying25 ?_) | ((with_reducible refine gd_ 21 ?_); refine buildSlice_at (t := 23) (e := 25) (jvc x A4 A5 c4 c5) at_ rfl rfl rfl Tryz.underlying23 kr_ ?_; intro gl wb21 HK1 hgl; have Ggl := asd_ hgl; clear hgl; replace HK := asd_ HK1; clear HK1; clear bg5; have bg5 := cE HK 1) | ((with_reducible refine gd_ 22 ?_); refine cl_ #[.slice (some ⟨gl, 0, none⟩) 1 1] (.bool true) Tryz.func7 (H7.out _ gl HK.out.b HK.out.k.1) ?_; intro wc22 HK1; replace HK := asd_ HK1; clear HK1; clear bg5; have bg5 := cE HK 1))
 refine st_ 21 (fun w' => At w [.b gl (row (jvc x A4 A5 c4 c5) 25), .b g5 (row (jvc x A4 A5 c4 c5) 25)] w' ∧ (∀ j, w'.cell? ⟨g5, j, none⟩ = (jvc x A4 A5 c4 c5 : Array Value)[j]?)) [] (fun A => ⟨A, (cA A 1)⟩) (fun hHeld => ?_)
 refine pu_ 0 24 1 ?_
 refine pq_ 1 25 3 rfl (by intro w'; refine buildr_ (t := 45) (parts := #[(28, .tmp 24)]) (Nd.cells ⟨0, false, nilS, nilS, false, nilS, false, nilS, .slice A names.length c, nilS⟩) ?_ ?_; rfl; kernel_rfl) ?_
 refine tq_ 3 27 11 rfl hHeld (by rintro w' ⟨s0, s1⟩; exact rr_ 5 g5 (jvc x A4 A5 c4 c5) s0.k.2.1 Tryz.underlying25) ?_
 refine jo_ (σ := Nat × Nat) 16 31 (fun s => [(26, .slice (some ⟨s.1, 0, none⟩) 1 1), (28, .slice (some ⟨s.2, 0, none⟩) 1 1)]) (fun s w' => At w (.b s.2 (row #[.string ⟨#[82, 101, 113, 117, 105, 114, 101, 100]⟩] 9) :: .b s.1 (row (Nd.cells ⟨0, false, nilS, nilS, false, nilS, false, nilS, .slice A names.length c, nilS⟩) 45) :: [.b gl (row (jvc x A4 A5 c4 c5) 25), .b g5 (row (jvc x A4 A5 c4 c5) 25)]) w') (fun hJ2_4 => ?_) ?_
 refine jo_ (σ := Nat × Nat) 17 15 (fun s => [(26, .slice (some ⟨s.1, 0, none⟩) 1 1)]) (fun s w' => At w (.b s.1 (row (Nd.cells ⟨0, false, nilS, nilS, false, nilS, false, nilS, .slice A names.length c, nilS⟩) 45) :: [.b gl (row (jvc x A4 A5 c4 c5) 25), .b g5 (row (jvc x A4 A5 c4 c5) 25)]) w') (fun hJ2 => ?_) ?_
 refine jo_ (σ := Nat × Nat) 17 27 (fun s => [(28, .slice (some ⟨s.2, 0, none⟩) 1 1)]) (fun s w' => At w (.b s.2 (row #[.string ⟨#[82, 101, 113, 117, 105, 114, 101, 100]⟩] 9) :: [.b gl (row (jvc x A4 A5 c4 c5) 25), .b g5 (row (jvc x A4 A5 c4 c5) 25)]) w') (fun hJ4 => ?_) ?_
 refine tw_ 2 4 26 28 15 27 (fun K hK => ?_) (fun K hK => ?_)
 ·skip
  have HE := asd_ hHeld.1
  refine ge_ Tryz.func9 #[.agg (Nd.cells ⟨0, false, nilS, nilS, false, nilS, false, nilS, .slice A names.length c, nilS⟩)] ?_
  with_reducible refine (alone_ok _ ⟨0, false, nilS, nilS, false, nilS, false, nilS, .slice A names.length c, nilS⟩ (by simp [Nd.cells, Value.oneCell'])).mono ?_
  rintro e w3 ⟨gn1, rfl, hge, hgn, hb⟩
  refine ⟨_, rfl, ?_⟩
  have HE0 := At.came HE.out hb hge hgn
  replace HE := asd_ (At.sink 0 HE0); clear HE0
  have HEc : At w (.b gn1 (row (Nd.cells ⟨0, false, nilS, nilS, false, nilS, false, nilS, .slice A names.length c, nilS⟩) 45) :: [.b gl (row (jvc x A4 A5 c4 c5) 25), .b g5 (row (jvc x A4 A5 c4 c5) 25)]) w3 := HE.out
  refine hK.out _ _ ⟨HEc.drop, (cel_ HEc.drop.k.2.1)⟩ (fun hHeld => ?_)
  clear hK K
  refine nq_ 26 ?_
  exact nx_ (hJ2 ⟨gn1, 0⟩ _ HEc)
 ·skip
  have HE := asd_ hHeld.1
  refine ne_ 28 (row #[.string ⟨#[82, 101, 113, 117, 105, 114, 101, 100]⟩] 9) (fun b => .slice (some ⟨b, 0, none⟩) 1 1) ?_
  intro gk1 w3 HE0 hgk1
  replace HE := asd_ (At.sink 0 HE0); clear HE0
  have HEc : At w (.b gk1 (row #[.string ⟨#[82, 101, 113, 117, 105, 114, 101, 100]⟩] 9) :: [.b gl (row (jvc x A4 A5 c4 c5) 25), .b g5 (row (jvc x A4 A5 c4 c5) 25)]) w3 := HE.out
  refine hK.out _ _ ⟨HEc.drop, (cel_ HEc.drop.k.2.1)⟩ (fun hHeld => ?_)
  clear hK K
  refine nq_ 28 ?_
  exact nx_ (hJ4 ⟨0, gk1⟩ _ HEc)
 rintro ⟨gn1, gk1⟩ w' HE0
 have HE : Aside0 (At w (.b gk1 (row #[.string ⟨#[82, 101, 113, 117, 105, 114, 101, 100]⟩] 9) :: [.b gl (row (jvc x A4 A5 c4 c5) 25), .b g5 (row (jvc x A4 A5 c4 c5) 25)]) w') := asd_ HE0
 clear HE0
 have hHeld := (show At w [.b gl (row (jvc x A4 A5 c4 c5) 25), .b g5 (row (jvc x A4 A5 c4 c5) 25)] w' ∧ (∀ j, w'.cell? ⟨g5, j, none⟩ = (jvc x A4 A5 c4 c5 : Array Value)[j]?) from ⟨HE.out.drop, (cel_ HE.out.drop.k.2.1)⟩)
 refine np_ ?_
 refine on_ 2 26 31 (fun K hK => ?_)
 refine ge_ Tryz.func9 #[.agg (Nd.cells ⟨0, false, nilS, nilS, false, nilS, false, nilS, .slice A names.length c, nilS⟩)] ?_
 with_reducible refine (alone_ok _ ⟨0, false, nilS, nilS, false, nilS, false, nilS, .slice A names.length c, nilS⟩ (by simp [Nd.cells, Value.oneCell'])).mono ?_
 rintro e w3 ⟨gn1, rfl, hge, hgn, hb⟩
 refine ⟨_, rfl, ?_⟩
 have HE0 := At.came HE.out hb hge hgn
 replace HE := asd_ (At.sink 1 HE0); clear HE0
 have HEc : At w (.b gk1 (row #[.string ⟨#[82, 101, 113, 117, 105, 114, 101, 100]⟩] 9) :: .b gn1 (row (Nd.cells ⟨0, false, nilS, nilS, false, nilS, false, nilS, .slice A names.length c, nilS⟩) 45) :: [.b gl (row (jvc x A4 A5 c4 c5) 25), .b g5 (row (jvc x A4 A5 c4 c5) 25)]) w3 := HE.out
 refine hK.out _ _ ⟨HEc.drop.drop, (cel_ HEc.drop.drop.k.2.1)⟩ (fun hHeld => ?_)
 clear hK K
 refine nq_ 26 ?_
 exact nx_ (hJ2_4 ⟨gn1, gk1⟩ _ HEc)
 rintro ⟨gn1, gk1⟩ w' HE0
 have HE : Aside0 (At w (.b gn1 (row (Nd.cells ⟨0, false, nilS, nilS, false, nilS, false, nilS, .slice A names.length c, nilS⟩) 45) :: [.b gl (row (jvc x A4 A5 c4 c5) 25), .b g5 (row (jvc x A4 A5 c4 c5) 25)]) w') := asd_ HE0
 clear HE0
 have hHeld := (show At w [.b gl (row (jvc x A4 A5 c4 c5) 25), .b g5 (row (jvc x A4 A5 c4 c5) 25)] w' ∧ (∀ j, w'.cell? ⟨g5, j, none⟩ = (jvc x A4 A5 c4 c5 : Array Value)[j]?) from ⟨HE.out.drop, (cel_ HE.out.drop.k.2.1)⟩)
 refine np_ ?_
 refine on_ 4 28 31 (fun K hK => ?_)
 refine ne_ 28 (row #[.string ⟨#[82, 101, 113, 117, 105, 114, 101, 100]⟩] 9) (fun b => .slice (some ⟨b, 0, none⟩) 1 1) ?_
 intro gk1 w3 HE0 hgk1
 replace HE := asd_ (At.sink 0 HE0); clear HE0
 have HEc : At w (.b gk1 (row #[.string ⟨#[82, 101, 113, 117, 105, 114, 101, 100]⟩] 9) :: .b gn1 (row (Nd.cells ⟨0, false, nilS, nilS, false, nilS, false, nilS, .slice A names.length c, nilS⟩) 45) :: [.b gl (row (jvc x A4 A5 c4 c5) 25), .b g5 (row (jvc x A4 A5 c4 c5) 25)]) w3 := HE.out
 refine hK.out _ _ ⟨HEc.drop.drop, (cel_ HEc.drop.drop.k.2.1)⟩ (fun hHeld => ?_)
 clear hK K
 refine nq_ 28 ?_
 exact nx_ (hJ2_4 ⟨gn1, gk1⟩ _ HEc)
 rintro ⟨gn1, gk1⟩ w' HE0
 have HE : Aside0 (At w (.b gk1 (row #[.string ⟨#[82, 101, 113, 117, 105, 114, 101, 100]⟩] 9) :: .b gn1 (row (Nd.cells ⟨0, false, nilS, nilS, false, nilS, false, nilS, .slice A names.length c, nilS⟩) 45) :: [.b gl (row (jvc x A4 A5 c4 c5) 25), .b g5 (row (jvc x A4 A5 c4 c5) 25)]) w') := asd_ HE0
 clear HE0
 have hHeld := (show At w [.b gl (row (jvc x A4 A5 c4 c5) 25), .b g5 (row (jvc x A4 A5 c4 c5) 25)] w' ∧ (∀ j, w'.cell? ⟨g5, j, none⟩ = (jvc x A4 A5 c4 c5 : Array Value)[j]?) from ⟨HE.out.drop.drop, (cel_ HE.out.drop.drop.k.2.1)⟩)
 refine np_ ?_
 refine on_ 5 29 63 (fun K hK => ?_)
 have hq1 : (_ : World).heap[gk1]? = some (row #[.string ⟨#[82, 101, 113, 117, 105, 114, 101, 100]⟩] 9) := HE.out.k.1
 have hq2 : (_ : World).heap[gn1]? = some (row (Nd.cells ⟨0, false, nilS, nilS, false, nilS, false, nilS, .slice A names.length c, nilS⟩) 45) := HE.out.k.2.1
 refine ge_ Tryz.func8 #[.slice (some ⟨gn1, 0, none⟩) 1 1, .agg (jvc x A4 A5 c4 c5), .slice (some ⟨gk1, 0, none⟩) 1 1] ?_
 with_reducible refine (tells_req _ gn1 1 x A4 A5 c4 c5 (Hx.out.below HE.out.b) HV.out names (Kd.C_below Hr.out HE.out.b) hc hn Hs.out hq2 gk1 hq1).mono ?_
 rintro e w3 ⟨rfl, hb⟩
 refine ⟨_, rfl, ?_⟩
 replace HE := asd_ (At.step HE.out hb)
 refine hK.out _ _ ⟨HE.out.drop.drop, (cel_ HE.out.drop.drop.k.2.1)⟩ (fun hHeld => ?_)
 clear hK K
 refine nq_ 29 ?_
 refine pu_ 6 30 127 ?_
 refine pu_ 7 31 255 ?_
 refine pu_ 8 32 511 ?_
 refine pu_ 9 33 1023 ?_
 refine tq_ 13 37 9215 rfl hHeld (by rintro w' ⟨s0, s1⟩; exact rr_ 5 g5 (jvc x A4 A5 c4 c5) s0.k.2.1 Tryz.underlying25) ?_
 refine jo_ (σ := Nat × Nat × Nat) 6 32767 (fun s => [(34, .slice (some ⟨s.1, 0, none⟩) 1 1), (36, .slice (some ⟨s.2.1, 0, none⟩) 1 1), (38, .slice (some ⟨s.2.2, 0, none⟩) 1 1), (35, .agg (Nd.cells ⟨0, false, nilS, nilS, false, nilS, false, nilS, nilS, .slice (some ⟨s.1, 0, none⟩) 1 1⟩))]) (fun s w' => At w (.b s.2.2 (row #[.string ⟨#[68, 101, 112, 101, 110, 100, 101, 110, 116, 82, 101, 113, 117, 105, 114, 101, 100]⟩] 9) :: .b s.2.1 (row (Nd.cells ⟨0, false, nilS, nilS, false, nilS, false, nilS, nilS, .slice (some ⟨s.1, 0, none⟩) 1 1⟩) 45) :: .b s.1 (row #[.string name, .slice A names.length c] 47) :: .b gk1 (row #[.string ⟨#[82, 101, 113, 117, 105, 114, 101, 100]⟩] 9) :: .b gn1 (row (Nd.cells ⟨0, false, nilS, nilS, false, nilS, false, nilS, .slice A names.length c, nilS⟩) 45) :: [.b gl (row (jvc x A4 A5 c4 c5) 25), .b g5 (row (jvc x A4 A5 c4 c5) 25)]) w') (fun hJ10_12_14 => ?_) ?_
 refine jo_ (σ := Nat × Nat × Nat) 7 16383 (fun s => [(34, .slice (some ⟨s.1, 0, none⟩) 1 1), (36, .slice (some ⟨s.2.1, 0, none⟩) 1 1), (35, .agg (Nd.cells ⟨0, false, nilS, nilS, false, nilS, false, nilS, nilS, .slice (some ⟨s.1, 0, none⟩) 1 1⟩))]) (fun s w' => At w (.b s.2.1 (row (Nd.cells ⟨0, false, nilS, nilS, false, nilS, false, nilS, nilS, .slice (some ⟨s.1, 0, none⟩) 1 1⟩) 45) :: .b s.1 (row #[.string name, .slice A names.length c] 47) :: .b gk1 (row #[.string ⟨#[82, 101, 113, 117, 105, 114, 101, 100]⟩] 9) :: .b gn1 (row (Nd.cells ⟨0, false, nilS, nilS, false, nilS, false, nilS, .slice A names.length c, nilS⟩) 45) :: [.b gl (row (jvc x A4 A5 c4 c5) 25), .b g5 (row (jvc x A4 A5 c4 c5) 25)]) w') (fun hJ10_12 => ?_) ?_
 refine jo_ (σ := Nat × Nat × Nat) 7 28671 (fun s => [(34, .slice (some ⟨s.1, 0, none⟩) 1 1), (38, .slice (some ⟨s.2.2, 0, none⟩) 1 1), (35, .agg (Nd.cells ⟨0, false, nilS, nilS, false, nilS, false, nilS, nilS, .slice (some ⟨s.1, 0, none⟩) 1 1⟩))]) (fun s w' => At w (.b s.2.2 (row #[.string ⟨#[68, 101, 112, 101, 110, 100, 101, 110, 116, 82, 101, 113, 117, 105, 114, 101, 100]⟩] 9) :: .b s.1 (row #[.string name, .slice A names.length c] 47) :: .b gk1 (row #[.string ⟨#[82, 101, 113, 117, 105, 114, 101, 100]⟩] 9) :: .b gn1 (row (Nd.cells ⟨0, false, nilS, nilS, false, nilS, false, nilS, .slice A names.length c, nilS⟩) 45) :: [.b gl (row (jvc x A4 A5 c4 c5) 25), .b g5 (row (jvc x A4 A5 c4 c5) 25)]) w') (fun hJ10_14 => ?_) ?_
 refine jo_ (σ := Nat × Nat × Nat) 8 12287 (fun s => [(34, .slice (some ⟨s.1, 0, none⟩) 1 1), (35, .agg (Nd.cells ⟨0, false, nilS, nilS, false, nilS, false, nilS, nilS, .slice (some ⟨s.1, 0, none⟩) 1 1⟩))]) (fun s w' => At w (.b s.1 (row #[.string name, .slice A names.length c] 47) :: .b gk1 (row #[.string ⟨#[82, 101, 113, 117, 105, 114, 101, 100]⟩] 9) :: .b gn1 (row (Nd.cells ⟨0, false, nilS, nilS, false, nilS, false, nilS, .slice A names.length c, nilS⟩) 45) :: [.b gl (row (jvc x A4 A5 c4 c5) 25), .b g5 (row (jvc x A4 A5 c4 c5) 25)]) w') (fun hJ10 => ?_) ?_
 refine jo_ (σ := Nat × Nat × Nat) 9 25599 (fun s => [(38, .slice (some ⟨s.2.2, 0, none⟩) 1 1)]) (fun s w' => At w (.b s.2.2 (row #[.string ⟨#[68, 101, 112, 101, 110, 100, 101, 110, 116, 82, 101, 113, 117, 105, 114, 101, 100]⟩] 9) :: .b gk1 (row #[.string ⟨#[82, 101, 113, 117, 105, 114, 101, 100]⟩] 9) :: .b gn1 (row (Nd.cells ⟨0, false, nilS, nilS, false, nilS, false, nilS, .slice A names.length c, nilS⟩) 45) :: [.b gl (row (jvc x A4 A5 c4 c5) 25), .b g5 (row (jvc x A4 A5 c4 c5) 25)]) w') (fun hJ14 => ?_) ?_
 refine tw_ 10 14 34 38 10239 25599 (fun K hK => ?_) (fun K hK => ?_)
 ·skip
  refine ne_ 34 (row #[.string name, .slice A names.length c] 47) (fun b => .slice (some ⟨b, 0, none⟩) 1 1) ?_
  intro gq w3 HE0 hgq
  replace HE := asd_ (At.sink 0 HE0); clear HE0
  have HEc : At w (.b gq (row #[.string name, .slice A names.length c] 47) :: .b gk1 (row #[.string ⟨#[82, 101, 113, 117, 105, 114, 101, 100]⟩] 9) :: .b gn1 (row (Nd.cells ⟨0, false, nilS, nilS, false, nilS, false, nilS, .slice A names.length c, nilS⟩) 45) :: [.b gl (row (jvc x A4 A5 c4 c5) 25), .b g5 (row (jvc x A4 A5 c4 c5) 25)]) w3 := HE.out
  refine hK.out _ _ ⟨HEc.drop.drop.drop, (cel_ HEc.drop.drop.drop.k.2.1)⟩ (fun hHeld => ?_)
  clear hK K
  refine nq_ 34 ?_
  refine pq_ 11 35 12287 rfl (by intro w'; refine buildr_ (t := 45) (parts := #[(29, .tmp 34)]) (Nd.cells ⟨0, false, nilS, nilS, false, nilS, false, nilS, nilS, .slice (some ⟨gq, 0, none⟩) 1 1⟩) ?_ ?_; rfl; kernel_rfl) ?_
  exact nx_ (hJ10 ⟨gq, 0, 0⟩ _ HEc)
 ·skip
  refine ne_ 38 (row #[.string ⟨#[68, 101, 112, 101, 110, 100, 101, 110, 116, 82, 101, 113, 117, 105, 114, 101, 100]⟩] 9) (fun b => .slice (some ⟨b, 0, none⟩) 1 1) ?_
  intro gk2 w3 HE0 hgk2
  replace HE := asd_ (At.sink 0 HE0); clear HE0
  have HEc : At w (.b gk2 (row #[.string ⟨#[68, 101, 112, 101, 110, 100, 101, 110, 116, 82, 101, 113, 117, 105, 114, 101, 100]⟩] 9) :: .b gk1 (row #[.string ⟨#[82, 101, 113, 117, 105, 114, 101, 100]⟩] 9) :: .b gn1 (row (Nd.cells ⟨0, false, nilS, nilS, false, nilS, false, nilS, .slice A names.length c, nilS⟩) 45) :: [.b gl (row (jvc x A4 A5 c4 c5) 25), .b g5 (row (jvc x A4 A5 c4 c5) 25)]) w3 := HE.out
  refine hK.out _ _ ⟨HEc.drop.drop.drop, (cel_ HEc.drop.drop.drop.k.2.1)⟩ (fun hHeld => ?_)
  clear hK K
  refine nq_ 38 ?_
  exact nx_ (hJ14 ⟨0, 0, gk2⟩ _ HEc)
 rintro ⟨gq, gn2, gk2⟩ w' HE0
 have HE : Aside0 (At w (.b gk2 (row #[.string ⟨#[68, 101, 112, 101, 110, 100, 101, 110, 116, 82, 101, 113, 117, 105, 114, 101, 100]⟩] 9) :: .b gk1 (row #[.string ⟨#[82, 101, 113, 117, 105, 114, 101, 100]⟩] 9) :: .b gn1 (row (Nd.cells ⟨0, false, nilS, nilS, false, nilS, false, nilS, .slice A names.length c, nilS⟩) 45) :: [.b gl (row (jvc x A4 A5 c4 c5) 25), .b g5 (row (jvc x A4 A5 c4 c5) 25)]) w') := asd_ HE0
 clear HE0
 have hHeld := (show At w [.b gl (row (jvc x A4 A5 c4 c5) 25), .b g5 (row (jvc x A4 A5 c4 c5) 25)] w' ∧ (∀ j, w'.cell? ⟨g5, j, none⟩ = (jvc x A4 A5 c4 c5 : Array Value)[j]?) from ⟨HE.out.drop.drop.drop, (cel_ HE.out.drop.drop.drop.k.2.1)⟩)
 refine np_ ?_
 refine on_ 10 34 26623 (fun K hK => ?_)
 refine ne_ 34 (row #[.string name, .slice A names.length c] 47) (fun b => .slice (some ⟨b, 0, none⟩) 1 1) ?_
 intro gq w3 HE0 hgq
 replace HE := asd_ (At.sink 1 HE0); clear HE0
 have HEc : At w (.b gk2 (row #[.string ⟨#[68, 101, 112, 101, 110, 100, 101, 110, 116, 82, 101, 113, 117, 105, 114, 101, 100]⟩] 9) :: .b gq (row #[.string name, .slice A names.length c] 47) :: .b gk1 (row #[.string ⟨#[82, 101, 113, 117, 105, 114, 101, 100]⟩] 9) :: .b gn1 (row (Nd.cells ⟨0, false, nilS, nilS, false, nilS, false, nilS, .slice A names.length c, nilS⟩) 45) :: [.b gl (row (jvc x A4 A5 c4 c5) 25), .b g5 (row (jvc x A4 A5 c4 c5) 25)]) w3 := HE.out
 refine hK.out _ _ ⟨HEc.drop.drop.drop.drop, (cel_ HEc.drop.drop.drop.drop.k.2.1)⟩ (fun hHeld => ?_)
 clear hK K
 refine nq_ 34 ?_
 refine pq_ 11 35 28671 rfl (by intro w'; refine buildr_ (t := 45) (parts := #[(29, .tmp 34)]) (Nd.cells ⟨0, false, nilS, nilS, false, nilS, false, nilS, nilS, .slice (some ⟨gq, 0, none⟩) 1 1⟩) ?_ ?_; rfl; kernel_rfl) ?_
 exact nx_ (hJ10_14 ⟨gq, 0, gk2⟩ _ HEc)
 rintro ⟨gq, gn2, gk2⟩ w' HE0
 have HE : Aside0 (At w (.b gq (row #[.string name, .slice A names.length c] 47) :: .b gk1 (row #[.string ⟨#[82, 101, 113, 117, 105, 114, 101, 100]⟩] 9) :: .b gn1 (row (Nd.cells ⟨0, false, nilS, nilS, false, nilS, false, nilS, .slice A names.length c, nilS⟩) 45) :: [.b gl (row (jvc x A4 A5 c4 c5) 25), .b g5 (row (jvc x A4 A5 c4 c5) 25)]) w') := asd_ HE0
 clear HE0
 have hHeld := (show At w [.b gl (row (jvc x A4 A5 c4 c5) 25), .b g5 (row (jvc x A4 A5 c4 c5) 25)] w' ∧ (∀ j, w'.cell? ⟨g5, j, none⟩ = (jvc x A4 A5 c4 c5 : Array Value)[j]?) from ⟨HE.out.drop.drop.drop, (cel_ HE.out.drop.drop.drop.k.2.1)⟩)
 refine np_ ?_
 refine tw_ 12 14 36 38 16383 28671 (fun K hK => ?_) (fun K hK => ?_)
 ·skip
  refine ge_ Tryz.func9 #[.agg (Nd.cells ⟨0, false, nilS, nilS, false, nilS, false, nilS, nilS, .slice (some ⟨gq, 0, none⟩) 1 1⟩)] ?_
  with_reducible refine (alone_ok _ ⟨0, false, nilS, nilS, false, nilS, false, nilS, nilS, .slice (some ⟨gq, 0, none⟩) 1 1⟩ (by simp [Nd.cells, Value.oneCell'])).mono ?_
  rintro e w3 ⟨gn2, rfl, hge, hgn, hb⟩
  refine ⟨_, rfl, ?_⟩
  have HE0 := At.came HE.out hb hge hgn
  replace HE := asd_ (At.sink 0 HE0); clear HE0
  have HEc : At w (.b gn2 (row (Nd.cells ⟨0, false, nilS, nilS, false, nilS, false, nilS, nilS, .slice (some ⟨gq, 0, none⟩) 1 1⟩) 45) :: .b gq (row #[.string name, .slice A names.length c] 47) :: .b gk1 (row #[.string ⟨#[82, 101, 113, 117, 105, 114, 101, 100]⟩] 9) :: .b gn1 (row (Nd.cells ⟨0, false, nilS, nilS, false, nilS, false, nilS, .slice A names.length c, nilS⟩) 45) :: [.b gl (row (jvc x A4 A5 c4 c5) 25), .b g5 (row (jvc x A4 A5 c4 c5) 25)]) w3 := HE.out
  refine hK.out _ _ ⟨HEc.drop.drop.drop.drop, (cel_ HEc.drop.drop.drop.drop.k.2.1)⟩ (fun hHeld => ?_)
  clear hK K
  refine nq_ 36 ?_
  exact nx_ (hJ10_12 ⟨gq, gn2, 0⟩ _ HEc)
 ·skip
  refine ne_ 38 (row #[.string ⟨#[68, 101, 112, 101, 110, 100, 101, 110, 116, 82, 101, 113, 117, 105, 114, 101, 100]⟩] 9) (fun b => .slice (some ⟨b, 0, none⟩) 1 1) ?_
  intro gk2 w3 HE0 hgk2
  replace HE := asd_ (At.sink 0 HE0); clear HE0
  have HEc : At w (.b gk2 (row #[.string ⟨#[68, 101, 112, 101, 110, 100, 101, 110, 116, 82, 101, 113, 117, 105, 114, 101, 100]⟩] 9) :: .b gq (row #[.string name, .slice A names.length c] 47) :: .b gk1 (row #[.string ⟨#[82, 101, 113, 117, 105, 114, 101, 100]⟩] 9) :: .b gn1 (row (Nd.cells ⟨0, false, nilS, nilS, false, nilS, false, nilS, .slice A names.length c, nilS⟩) 45) :: [.b gl (row (jvc x A4 A5 c4 c5) 25), .b g5 (row (jvc x A4 A5 c4 c5) 25)]) w3 := HE.out
  refine hK.out _ _ ⟨HEc.drop.drop.drop.drop, (cel_ HEc.drop.drop.drop.drop.k.2.1)⟩ (fun hHeld => ?_)
  clear hK K
  refine nq_ 38 ?_
  exact nx_ (hJ10_14 ⟨gq, 0, gk2⟩ _ HEc)
 rintro ⟨gq, gn2, gk2⟩ w' HE0
 have HE : Aside0 (At w (.b gk2 (row #[.string ⟨#[68, 101, 112, 101, 110, 100, 101, 110, 116, 82, 101, 113, 117, 105, 114, 101, 100]⟩] 9) :: .b gq (row #[.string name, .slice A names.length c] 47) :: .b gk1 (row #[.string ⟨#[82, 101, 113, 117, 105, 114, 101, 100]⟩] 9) :: .b gn1 (row (Nd.cells ⟨0, false, nilS, nilS, false, nilS, false, nilS, .slice A names.length c, nilS⟩) 45) :: [.b gl (row (jvc x A4 A5 c4 c5) 25), .b g5 (row (jvc x A4 A5 c4 c5) 25)]) w') := asd_ HE0
 clear HE0
 have hHeld := (show At w [.b gl (row (jvc x A4 A5 c4 c5) 25), .b g5 (row (jvc x A4 A5 c4 c5) 25)] w' ∧ (∀ j, w'.cell? ⟨g5, j, none⟩ = (jvc x A4 A5 c4 c5 : Array Value)[j]?) from ⟨HE.out.drop.drop.drop.drop, (cel_ HE.out.drop.drop.drop.drop.k.2.1)⟩)
 refine np_ ?_
 refine on_ 12 36 32767 (fun K hK => ?_)
 refine ge_ Tryz.func9 #[.agg (Nd.cells ⟨0, false, nilS, nilS, false, nilS, false, nilS, nilS, .slice (some ⟨gq, 0, none⟩) 1 1⟩)] ?_
 with_reducible refine (alone_ok _ ⟨0, false, nilS, nilS, false, nilS, false, nilS, nilS, .slice (some ⟨gq, 0, none⟩) 1 1⟩ (by simp [Nd.cells, Value.oneCell'])).mono ?_
 rintro e w3 ⟨gn2, rfl, hge, hgn, hb⟩
 refine ⟨_, rfl, ?_⟩
 have HE0 := At.came HE.out hb hge hgn
 replace HE := asd_ (At.sink 1 HE0); clear HE0
 have HEc : At w (.b gk2 (row #[.string ⟨#[68, 101, 112, 101, 110, 100, 101, 110, 116, 82, 101, 113, 117, 105, 114, 101, 100]⟩] 9) :: .b gn2 (row (Nd.cells ⟨0, false, nilS, nilS, false, nilS, false, nilS, nilS, .slice (some ⟨gq, 0, none⟩) 1 1⟩) 45) :: .b gq (row #[.string name, .slice A names.length c] 47) :: .b gk1 (row #[.string ⟨#[82, 101, 113, 117, 105, 114, 101, 100]⟩] 9) :: .b gn1 (row (Nd.cells ⟨0, false, nilS, nilS, false, nilS, false, nilS, .slice A names.length c, nilS⟩) 45) :: [.b gl (row (jvc x A4 A5 c4 c5) 25), .b g5 (row (jvc x A4 A5 c4 c5) 25)]) w3 := HE.out
 refine hK.out _ _ ⟨HEc.drop.drop.drop.drop.drop, (cel_ HEc.drop.drop.drop.drop.drop.k.2.1)⟩ (fun hHeld => ?_)
 clear hK K
 refine nq_ 36 ?_
 exact nx_ (hJ10_12_14 ⟨gq, gn2, gk2⟩ _ HEc)
 rintro ⟨gq, gn2, gk2⟩ w' HE0
 have HE : Aside0 (At w (.b gn2 (row (Nd.cells ⟨0, false, nilS, nilS, false, nilS, false, nilS, nilS, .slice (some ⟨gq, 0, none⟩) 1 1⟩) 45) :: .b gq (row #[.string name, .slice A names.length c] 47) :: .b gk1 (row #[.string ⟨#[82, 101, 113, 117, 105, 114, 101, 100]⟩] 9) :: .b gn1 (row (Nd.cells ⟨0, false, nilS, nilS, false, nilS, false, nilS, .slice A names.length c, nilS⟩) 45) :: [.b gl (row (jvc x A4 A5 c4 c5) 25), .b g5 (row (jvc x A4 A5 c4 c5) 25)]) w') := asd_ HE0
 clear HE0
 have hHeld := (show At w [.b gl (row (jvc x A4 A5 c4 c5) 25), .b g5 (row (jvc x A4 A5 c4 c5) 25)] w' ∧ (∀ j, w'.cell? ⟨g5, j, none⟩ = (jvc x A4 A5 c4 c5 : Array Value)[j]?) from ⟨HE.out.drop.drop.drop.drop, (cel_ HE.out.drop.drop.drop.drop.k.2.1)⟩)
 refine np_ ?_
 refine on_ 14 38 32767 (fun K hK => ?_)
 refine ne_ 38 (row #[.string ⟨#[68, 101, 112, 101, 110, 100, 101, 110, 116, 82, 101, 113, 117, 105, 114, 101, 100]⟩] 9) (fun b => .slice (some ⟨b, 0, none⟩) 1 1) ?_
 intro gk2 w3 HE0 hgk2
 replace HE := asd_ (At.sink 0 HE0); clear HE0
 have HEc : At w (.b gk2 (row #[.string ⟨#[68, 101, 112, 101, 110, 100, 101, 110, 116, 82, 101, 113, 117, 105, 114, 101, 100]⟩] 9) :: .b gn2 (row (Nd.cells ⟨0, false, nilS, nilS, false, nilS, false, nilS, nilS, .slice (some ⟨gq, 0, none⟩) 1 1⟩) 45) :: .b gq (row #[.string name, .slice A names.length c] 47) :: .b gk1 (row #[.string ⟨#[82, 101, 113, 117, 105, 114, 101, 100]⟩] 9) :: .b gn1 (row (Nd.cells ⟨0, false, nilS, nilS, false, nilS, false, nilS, .slice A names.length c, nilS⟩) 45) :: [.b gl (row (jvc x A4 A5 c4 c5) 25), .b g5 (row (jvc x A4 A5 c4 c5) 25)]) w3 := HE.out
 refine hK.out _ _ ⟨HEc.drop.drop.drop.drop.drop, (cel_ HEc.drop.drop.drop.drop.drop.k.2.1)⟩ (fun hHeld => ?_)
 clear hK K
 refine nq_ 38 ?_
 exact nx_ (hJ10_12_14 ⟨gq, gn2, gk2⟩ _ HEc)
 rintro ⟨gq, gn2, gk2⟩ w' HE0
 have HE : Aside0 (At w (.b gk2 (row #[.string ⟨#[68, 101, 112, 101, 110, 100, 101, 110, 116, 82, 101, 113, 117, 105, 114, 101, 100]⟩] 9) :: .b gn2 (row (Nd.cells ⟨0, false, nilS, nilS, false, nilS, false, nilS, nilS, .slice (some ⟨gq, 0, none⟩) 1 1⟩) 45) :: .b gq (row #[.string name, .slice A names.length c] 47) :: .b gk1 (row #[.string ⟨#[82, 101, 113, 117, 105, 114, 101, 100]⟩] 9) :: .b gn1 (row (Nd.cells ⟨0, false, nilS, nilS, false, nilS, false, nilS, .slice A names.length c, nilS⟩) 45) :: [.b gl (row (jvc x A4 A5 c4 c5) 25), .b g5 (row (jvc x A4 A5 c4 c5) 25)]) w') := asd_ HE0
 clear HE0
 have hHeld := (show At w [.b gl (row (jvc x A4 A5 c4 c5) 25), .b g5 (row (jvc x A4 A5 c4 c5) 25)] w' ∧ (∀ j, w'.cell? ⟨g5, j, none⟩ = (jvc x A4 A5 c4 c5 : Array Value)[j]?) from ⟨HE.out.drop.drop.drop.drop.drop, (cel_ HE.out.drop.drop.drop.drop.drop.k.2.1)⟩)
 refine np_ ?_
 refine on_ 15 39 65535 (fun K hK => ?_)
 have hq1 : (_ : World).heap[gk2]? = some (row #[.string ⟨#[68, 101, 112, 101, 110, 100, 101, 110, 116, 82, 101, 113, 117, 105, 114, 101, 100]⟩] 9) := HE.out.k.1
 have hq2 : (_ : World).heap[gn2]? = some (row (Nd.cells ⟨0, false, nilS, nilS, false, nilS, false, nilS, nilS, .slice (some ⟨gq, 0, none⟩) 1 1⟩) 45) := HE.out.k.2.1
 have hq3 : (_ : World).heap[gq]? = some (row #[.string name, .slice A names.length c] 47) := HE.out.k.2.2.1
 refine ge_ Tryz.func8 #[.slice (some ⟨gn2, 0, none⟩) 1 1, .agg (jvc x A4 A5 c4 c5), .slice (some ⟨gk2, 0, none⟩) 1 1] ?_
 with_reducible refine (tells_dep _ gn2 1 x A4 A5 c4 c5 (Hx.out.below HE.out.b) HV.out names (Kd.C_below Hr.out HE.out.b) hc hn Hs.out gq 1 name hns hq3 hq2 gk2 hq1).mono ?_
 rintro e w3 ⟨rfl, hb⟩
 refine ⟨_, rfl, ?_⟩
 replace HE := asd_ (At.step HE.out hb)
 refine hK.out _ _ ⟨HE.out.drop.drop.drop.drop.drop, (cel_ HE.out.drop.drop.drop.drop.drop.k.2.1)⟩ (fun hHeld => ?_)
 clear hK K
 refine nq_ 39 ?_
 refine pu_ 16 40 131071 ?_
 refine pu_ 17 41 262143 ?_
 refine on_ 18 42 524287 (fun K hK => ?_)
 refine goes_ Tryz.func10 kr_ rfl #[] (by rfl) rfl rfl (by simp only [List.map_toArray, List.map_cons, List.map_nil]) ?_
 with_reducible refine (tells_false _).mono ?_
 rintro e w3 ⟨rfl, hb⟩
 refine ⟨_, rfl, ?_⟩
 replace HE := asd_ (At.step HE.out hb)
 refine hK.out _ _ ⟨HE.out.drop.drop.drop.drop.drop, (cel_ HE.out.drop.drop.drop.drop.drop.k.2.1)⟩ (fun hHeld => ?_)
 clear hK K
 refine nq_ 42 ?_
 refine pu_ 19 43 1048575 ?_
 refine pu_ 20 6 2097151 ?_
 refine done_ kr_ ?_
 clear HK; have HK := HE; clear HE
 clear hHeld
 clear bg5
 have bg5 := cE HK 6
 go_wp2_with fail
 go_ret
 exact ⟨by first | rfl | simp, be_⟩
end Go.Proofs.YtkphbhncpdcbeaaGreatDoor.J
namespace Go.Proofs.YtkphbhncpdcbeaaGreatDoor.J
open Go.RowKit Go.Proofs.YtkphbhncpdcbeaaGreatDoorW.PrintWords Go.Proofs.YtkphbhncpdcbeaaGreatDoorW.PrintLast Go.Proofs.YtkphbhncpdcbeaaGreatDoorW.PrintMore Go.Proofs.YtkphbhncpdcbeaaGreatDoor.PJT
attribute [local go_sem] Nd.csize Sc.csize Nd.c0 Nd.c1 Nd.c2 Nd.c3 Nd.c4 Nd.c5 Nd.c6 Nd.c7 Nd.c8 Nd.c9 Nd.c10 Nd.c11 Nd.c12 Nd.c13 Nd.c14 Nd.c15 Nd.c16 Nd.c17 Nd.c18 Nd.c19 Nd.c20 Nd.c21 Nd.c22 Nd.c23 Nd.c24 Nd.c25 Nd.c26 Nd.c27 Nd.c28 Nd.c29 Nd.c30 Nd.c31 Nd.c32 Nd.c33 Nd.c34 Nd.c35 Nd.c36 Nd.c37 Nd.c38 Nd.c39 Nd.c40 Nd.c41 Nd.c42 Nd.c43 Nd.c44 Nd.c45 Nd.c46 Nd.c47 Nd.c48 Nd.c49 Nd.c50 Nd.c51 Nd.c52 Sc.c0 Sc.c1 Sc.c2 Sc.c3 Sc.c4 Sc.c5 Sc.c6 Sc.c7 Sc.c8 Sc.c9 Sc.c10 Sc.c11 Sc.c12 Sc.c13 Sc.c14 Sc.c15 Sc.c16 Sc.c17 Sc.c18 Sc.c19 Sc.c20 Sc.c21 Sc.c22 Sc.c23 Sc.c24 Sc.c25 Sc.c26 Sc.c27 Sc.c28 Sc.c29 Sc.c30 Sc.c31 Sc.c32 Sc.c33 Sc.c34 Sc.c35 Sc.c36 Sc.c37 Sc.c38 Sc.c39 Sc.c40 Sc.c41 Sc.c42 Sc.c43 Sc.c44 Sc.c45 Sc.c46 Sc.c47 Sc.c48 Sc.c49 Sc.c50 Sc.c51 Sc.c52
set_option linter.unusedVariables false
set_option linter.unusedSimpArgs false
theorem law_any (w : World) (x : S25) (A4 A5 : Option Addr) (c4 c5 : Nat) (A : Option Addr) (c : Nat) (names : List ByteArray) (name : ByteArray) (hx : Rep w x A4 c4 A5 c5) (hz : Sz x) (hr : Kd.C Kd.string w A names.length names) (hc : names.length ≤ c) (hn : names.length ≤ LM) (hs : ∀ s ∈ names, s.size ≤ LM) (hns : name.size ≤ LM) :
  Calls Tryz.prog 3 #[.slice A names.length c, .string name, .agg (jvc x A4 A5 c4 c5)] w fun e w' => e = .returned (.bool true) ∧ Below w.heap.size w w' := by
 obtain ⟨p4, h4⟩ := fits4_ok names hn
 obtain ⟨p5, h5⟩ := fits5_ok hz
 obtain ⟨p7, hv7, h7⟩ := countless_any hz
 have H4 := fun W (h : Below w.heap.size w W) => h4 W A c (Kd.C_below hr h) hc
 have H5 := fun W (h : Below w.heap.size w W) => h5 W A4 A5 c4 c5 (hx.below h)
 have H7 := fun W gl (h : Below w.heap.size w W) hg => h7 W gl A4 A5 c4 c5 (hx.below h) hg
 cases p4 with
 | false => exact law_a w x A4 A5 c4 c5 A c names name H4
 | true =>
  cases hb : decide ((name.size : Int) > 2147483647) with
  | true => exact law_b w x A4 A5 c4 c5 A c names name hb H4
  | false =>
   cases p5 with
   | false => exact law_c w x A4 A5 c4 c5 A c names name hb H4 H5
   | true =>
    cases p7 with
    | false => exact law_d w x A4 A5 c4 c5 A c names name hb H4 H5 H7
    | true => exact law_e w x A4 A5 c4 c5 A c names name hb H4 H5 H7 hx (hv7 rfl) hr hc hn hs hns
end Go.Proofs.YtkphbhncpdcbeaaGreatDoor.J
