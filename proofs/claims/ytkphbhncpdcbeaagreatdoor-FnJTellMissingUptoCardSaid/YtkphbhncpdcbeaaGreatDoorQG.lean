/- Part of a proof. -/
import Derived.Test.YtkphbhncpdcbeaaGreatDoorQF
import Derived.Test.YtkphbhncpdcbeaaGreatDoorQE
import Derived.Test.YtkphbhncpdcbeaaGreatDoorQK
namespace Go.Proofs.YtkphbhncpdcbeaaGreatDoor.J
open Go.RowKit Go.Proofs.YtkphbhncpdcbeaaGreatDoorW.PrintWords Go.Proofs.YtkphbhncpdcbeaaGreatDoorW.PrintLast Go.Proofs.YtkphbhncpdcbeaaGreatDoorW.PrintMore Go.Proofs.YtkphbhncpdcbeaaGreatDoor.PJT
attribute [local go_sem] Nd.csize Sc.csize Nd.c0 Nd.c1 Nd.c2 Nd.c3 Nd.c4 Nd.c5 Nd.c6 Nd.c7 Nd.c8 Nd.c9 Nd.c10 Nd.c11 Nd.c12 Nd.c13 Nd.c14 Nd.c15 Nd.c16 Nd.c17 Nd.c18 Nd.c19 Nd.c20 Nd.c21 Nd.c22 Nd.c23 Nd.c24 Nd.c25 Nd.c26 Nd.c27 Nd.c28 Nd.c29 Nd.c30 Nd.c31 Nd.c32 Nd.c33 Nd.c34 Nd.c35 Nd.c36 Nd.c37 Nd.c38 Nd.c39 Nd.c40 Nd.c41 Nd.c42 Nd.c43 Nd.c44 Nd.c45 Nd.c46 Nd.c47 Nd.c48 Nd.c49 Nd.c50 Nd.c51 Nd.c52 Sc.c0 Sc.c1 Sc.c2 Sc.c3 Sc.c4 Sc.c5 Sc.c6 Sc.c7 Sc.c8 Sc.c9 Sc.c10 Sc.c11 Sc.c12 Sc.c13 Sc.c14 Sc.c15 Sc.c16 Sc.c17 Sc.c18 Sc.c19 Sc.c20 Sc.c21 Sc.c22 Sc.c23 Sc.c24 Sc.c25 Sc.c26 Sc.c27 Sc.c28 Sc.c29 Sc.c30 Sc.c31 Sc.c32 Sc.c33 Sc.c34 Sc.c35 Sc.c36 Sc.c37 Sc.c38 Sc.c39 Sc.c40 Sc.c41 Sc.c42 Sc.c43 Sc.c44 Sc.c45 Sc.c46 Sc.c47 Sc.c48 Sc.c49 Sc.c50 Sc.c51 Sc.c52
set_option linter.unusedVariables false
set_option linter.unusedSimpArgs false
theorem there_eq {args : Array Value} {W : World} {xs names : List ByteArray} {b : Bool} (hb : there xs names = b) (h : Calls Tryz.prog 116 args W fun e w' => e = .returned (.bool (there xs names)) ∧ Below W.heap.size W w') : Calls Tryz.prog 116 args W fun e w' => e = .returned (.bool b) ∧ Below W.heap.size W w' := by
 rw [hb] at h
 exact h
theorem there_nil (w : World) (x : S25) (A4 A5 : Option Addr) (c4 c5 : Nat) (hx : Rep w x A4 c4 A5 c5) (hn4 : x.f4.length ≤ LM) : Calls Tryz.prog 116 #[.agg (jvc x A4 A5 c4 c5), nilS] w fun e w' => e = .returned (.bool true) ∧ Below w.heap.size w w' :=
 there_eq (xs := x.f4) (names := []) (by simp [there]) (there_ok w x A4 A5 none c4 c5 0 [] hx ⟨rfl, by simp, fun h => absurd h (Nat.lt_irrefl _)⟩ (Nat.le_refl _) hn4 (by simp))
set_option maxHeartbeats 4000000 in
set_option maxRecDepth 100000 in
theorem needs_N0 (w : World) (gq cq : Nat) (name : ByteArray) (A : Option Addr) (c : Nat) (names : List ByteArray) (x : S25) (A4 A5 : Option Addr) (c4 c5 : Nat) (hx : Rep w x A4 c4 A5 c5) (hq : w.heap[gq]? = some (row (#[.string name, .slice A names.length c]) 47)) (hr : Kd.C Kd.string w A names.length names) (hc : names.length ≤ c) (hn4 : x.f4.length ≤ LM) (hn : names.length ≤ LM) (r : Int) (hrr : ∀ k, x.f4.length < k → spec_JMember.f k x.f0 x.f1 x.f2 x.f3 x.f4 x.f5 name = some r) (hd : decide (0 ≤ r) = false) :
  Calls Tryz.prog 75 #[.agg (Nd.cells ⟨0, false, nilS, nilS, false, nilS, false, nilS, nilS, .slice (some ⟨gq, 0, none⟩) 1 cq⟩), .agg (jvc x A4 A5 c4 c5)] w fun e w' => e = .returned (.bool true) ∧ Below w.heap.size w w' := by
 have Hx := asd_ hx
 have Hr := asd_ hr
 clear hx hr
 have HK : Aside0 (At w [] w) := asd_ (At.start w)
 go_enter Tryz.func75, Tryz.ntmps75
 go_wp2_with (first | ((with_reducible refine gd_ 2 ?_); refine bx_ (Nd.cells ⟨0, false, nilS, nilS, false, nilS, false, nilS, nilS, .slice (some ⟨gq, 0, none⟩) 1 cq⟩) 45 ?_; clear HK; intro g2 wb2 HK Gg2; have bg2 := cE HK 0; have bgq := cel_ (blk_below hq HK.out.b)) | ((with_reducible refine gd_ 3 ?_); refine bx_ (jvc x A4 A5 c4 c5) 25 ?_; clear HK bg2 bgq; intro g3 wb3 HK Gg3; have bg2 := cE HK 1; have bg3 := cE HK 0; have bgq := cel_ (blk_below hq HK.out.b)) | ((with_reducible refine gd_ 8 ?_); refine lo_ 25 3 g3 (jvc x A4 A5 c4 c5) HK.out.k.1 Tryz.underlying25 ?_) | ((with_reducible refine gd_ 11 ?_); refine cl_ #[.agg (jvc x A4 A5 c4 c5), nilS] (.bool true) Tryz.func116 (there_nil _ x A4 A5 c4 c5 (Hx.out.below HK.out.b) hn4) ?_; intro wc11 HK1; replace HK := asd_ HK1; clear HK1; clear bg2 bg3 bgq; have bg2 := cE HK 1; have bg3 := cE HK 0; have bgq := cel_ (blk_below hq HK.out.b)))
 refine wp_loop_two ?_
 go_wp2_with fail
 refine wp_loop_once ?_
 go_wp2_with fail
 refine st_ 23 (fun w' => At w [.b g3 (row (jvc x A4 A5 c4 c5) 25), .b g2 (row (Nd.cells ⟨0, false, nilS, nilS, false, nilS, false, nilS, nilS, .slice (some ⟨gq, 0, none⟩) 1 cq⟩) 45)] w' ∧ (∀ j, w'.cell? ⟨g2, j, none⟩ = (Nd.cells ⟨0, false, nilS, nilS, false, nilS, false, nilS, nilS, .slice (some ⟨gq, 0, none⟩) 1 cq⟩ : Array Value)[j]?) ∧ (∀ j, w'.cell? ⟨g3, j, none⟩ = (jvc x A4 A5 c4 c5 : Array Value)[j]?) ∧ (∀ j, w'.cell? ⟨gq, j, none⟩ = (#[.string name, .slice A names.length c] : Array Value)[j]?)) [] (fun A => ⟨A, (cA A 1), (cA A 0), (cel_ (blk_below hq A.b))⟩) (fun hHeld => ?_)
 refine pu_ 0 45 1 ?_
 refine pu_ 1 46 3 ?_
 refine pu_ 3 48 11 ?_
 refine pu_ 5 50 43 ?_
 refine ta4_ 4 49 59 hHeld ?_
 refine pu_ 6 51 123 ?_
 refine pu_ 7 52 251 ?_
 refine ta4_ 8 53 507 hHeld ?_
 refine on_ 2 47 511 (fun K hK => ?_)
 refine loadr_ (ty := 25) (x := .tmp 3) g3 (jvc x A4 A5 c4 c5) (by rfl) rfl rfl rfl hHeld.1.k.1 Tryz.underlying25 rfl kr_ ?_
 refine hK.out _ _ ⟨hHeld.1, hHeld.2.1, hHeld.2.2.1, hHeld.2.2.2⟩ (fun hHeld => ?_)
 clear hK K
 refine nq_ 47 ?_
 refine on_ 9 54 1023 (fun K hK => ?_)
 have HE := asd_ (hHeld.1)
 refine ge_ Tryz.func65 #[.agg (jvc x A4 A5 c4 c5), .string name] ?_
 with_reducible refine (member_ok _ x A4 A5 c4 c5 name r (Hx.out.below HE.out.b) hrr).mono ?_
 rintro e w3 ⟨rfl, hb⟩
 refine ⟨_, rfl, ?_⟩
 replace HE := asd_ (At.step HE.out hb)
 refine hK.out _ _ ⟨HE.out, (cE HE 1), (cE HE 0), (cel_ (blk_below hq HE.out.b))⟩ (fun hHeld => ?_)
 clear hK K
 refine nq_ 54 ?_
 refine pu_ 10 55 2047 ?_
 refine pu_ 11 56 4095 ?_
 refine pu_ 12 57 8191 ?_
 refine pn_ 13 58 16383 ?_
 refine pn_ 14 59 32767 ?_
 refine pn_ 15 60 65535 ?_
 refine pn_ 16 61 131071 ?_
 refine pn_ 17 62 262143 ?_
 refine pn_ 18 63 524287 ?_
 refine pn_ 19 64 1048575 ?_
 refine pn_ 20 65 2097151 ?_
 refine pn_ 21 66 4194303 ?_
 refine pu_ 22 67 8388607 ?_
 refine done_ kr_ ?_
 clear HK; have HK := HE; clear HE
 clear hHeld
 clear bg2 bg3 bgq
 have bg2 := cE HK 1
 have bg3 := cE HK 0
 have bgq := cel_ (blk_below hq HK.out.b)
 go_wp2_with fail
 all_goals go_ret
 all_goals exact ⟨rfl, be_⟩
set_option maxHeartbeats 4000000 in
set_option maxRecDepth 100000 in
theorem needs_N1 (w : World) (gq cq : Nat) (name : ByteArray) (A : Option Addr) (c : Nat) (names : List ByteArray) (x : S25) (A4 A5 : Option Addr) (c4 c5 : Nat) (hx : Rep w x A4 c4 A5 c5) (hq : w.heap[gq]? = some (row (#[.string name, .slice A names.length c]) 47)) (hr : Kd.C Kd.string w A names.length names) (hc : names.length ≤ c) (hn4 : x.f4.length ≤ LM) (hn : names.length ≤ LM) (r : Int) (hrr : ∀ k, x.f4.length < k → spec_JMember.f k x.f0 x.f1 x.f2 x.f3 x.f4 x.f5 name = some r) (hd : decide (0 ≤ r) = true) (hth : there x.f4 names = true) :
  Calls Tryz.prog 75 #[.agg (Nd.cells ⟨0, false, nilS, nilS, false, nilS, false, nilS, nilS, .slice (some ⟨gq, 0, none⟩) 1 cq⟩), .agg (jvc x A4 A5 c4 c5)] w fun e w' => e = .returned (.bool true) ∧ Below w.heap.size w w' := by
 have Hx := asd_ hx
 have Hr := asd_ hr
 clear hx hr
 have HK : Aside0 (At w [] w) := asd_ (At.start w)
 go_enter Tryz.func75, Tryz.ntmps75
 go_wp2_with (first | ((with_reducible refine gd_ 2 ?_); refine bx_ (Nd.cells ⟨0, false, nilS, nilS, false, nilS, false, nilS, nilS, .slice (some ⟨gq, 0, none⟩) 1 cq⟩) 45 ?_; clear HK; intro g2 wb2 HK Gg2; have bg2 := cE HK 0; have bgq := cel_ (blk_below hq HK.out.b)) | ((with_reducible refine gd_ 3 ?_); refine bx_ (jvc x A4 A5 c4 c5) 25 ?_; clear HK bg2 bgq; intro g3 wb3 HK Gg3; have bg2 := cE HK 1; have bg3 := cE HK 0; have bgq := cel_ (blk_below hq HK.out.b)) | ((with_reducible refine gd_ 8 ?_); refine lo_ 25 3 g3 (jvc x A4 A5 c4 c5) HK.out.k.1 Tryz.underlying25 ?_) | ((with_reducible refine gd_ 11 ?_); refine cl_ #[.agg (jvc x A4 A5 c4 c5), nilS] (.bool true) Tryz.func116 (there_nil _ x A4 A5 c4 c5 (Hx.out.below HK.out.b) hn4) ?_; intro wc11 HK1; replace HK := asd_ HK1; clear HK1; clear bg2 bg3 bgq; have bg2 := cE HK 1; have bg3 := cE HK 0; have bgq := cel_ (blk_below hq HK.out.b)))
 refine wp_loop_two ?_
 go_wp2_with fail
 refine wp_loop_once ?_
 go_wp2_with fail
 refine st_ 23 (fun w' => At w [.b g3 (row (jvc x A4 A5 c4 c5) 25), .b g2 (row (Nd.cells ⟨0, false, nilS, nilS, false, nilS, false, nilS, nilS, .slice (some ⟨gq, 0, none⟩) 1 cq⟩) 45)] w' ∧ (∀ j, w'.cell? ⟨g2, j, none⟩ = (Nd.cells ⟨0, false, nilS, nilS, false, nilS, false, nilS, nilS, .slice (some ⟨gq, 0, none⟩) 1 cq⟩ : Array Value)[j]?) ∧ (∀ j, w'.cell? ⟨g3, j, none⟩ = (jvc x A4 A5 c4 c5 : Array Value)[j]?) ∧ (∀ j, w'.cell? ⟨gq, j, none⟩ = (#[.string name, .slice A names.length c] : Array Value)[j]?)) [] (fun A => ⟨A, (cA A 1), (cA A 0), (cel_ (blk_below hq A.b))⟩) (fun hHeld => ?_)
 refine pu_ 0 45 1 ?_
 refine pu_ 1 46 3 ?_
 refine pu_ 3 48 11 ?_
 refine pu_ 5 50 43 ?_
 refine ta4_ 4 49 59 hHeld ?_
 refine pu_ 6 51 123 ?_
 refine pu_ 7 52 251 ?_
 refine ta4_ 8 53 507 hHeld ?_
 refine on_ 2 47 511 (fun K hK => ?_)
 refine loadr_ (ty := 25) (x := .tmp 3) g3 (jvc x A4 A5 c4 c5) (by rfl) rfl rfl rfl hHeld.1.k.1 Tryz.underlying25 rfl kr_ ?_
 refine hK.out _ _ ⟨hHeld.1, hHeld.2.1, hHeld.2.2.1, hHeld.2.2.2⟩ (fun hHeld => ?_)
 clear hK K
 refine nq_ 47 ?_
 refine on_ 9 54 1023 (fun K hK => ?_)
 have HE := asd_ (hHeld.1)
 refine ge_ Tryz.func65 #[.agg (jvc x A4 A5 c4 c5), .string name] ?_
 with_reducible refine (member_ok _ x A4 A5 c4 c5 name r (Hx.out.below HE.out.b) hrr).mono ?_
 rintro e w3 ⟨rfl, hb⟩
 refine ⟨_, rfl, ?_⟩
 replace HE := asd_ (At.step HE.out hb)
 refine hK.out _ _ ⟨HE.out, (cE HE 1), (cE HE 0), (cel_ (blk_below hq HE.out.b))⟩ (fun hHeld => ?_)
 clear hK K
 refine nq_ 54 ?_
 refine pu_ 10 55 2047 ?_
 refine pu_ 11 56 4095 ?_
 refine pu_ 12 57 8191 ?_
 refine pu_ 14 59 24575 ?_
 refine pu_ 16 61 90111 ?_
 refine ta4_ 15 60 122879 hHeld ?_
 refine pu_ 17 62 253951 ?_
 refine pu_ 18 63 516095 ?_
 refine ta4_ 19 64 1040383 hHeld ?_
 refine on_ 13 58 1048575 (fun K hK => ?_)
 refine loadr_ (ty := 25) (x := .tmp 3) g3 (jvc x A4 A5 c4 c5) (by rfl) rfl rfl rfl HE.out.k.1 Tryz.underlying25 rfl kr_ ?_
 refine hK.out _ _ ⟨hHeld.1, hHeld.2.1, hHeld.2.2.1, hHeld.2.2.2⟩ (fun hHeld => ?_)
 clear hK K
 refine nq_ 58 ?_
 refine on_ 20 65 2097151 (fun K hK => ?_)
 refine ge_ Tryz.func116 #[.agg (jvc x A4 A5 c4 c5), .slice A names.length c] ?_
 with_reducible refine (there_eq (b := true) hth (there_ok _ x A4 A5 A c4 c5 c names (Hx.out.below HE.out.b) (Kd.C_below Hr.out HE.out.b) hc hn4 hn)).mono ?_
 rintro e w3 ⟨rfl, hb⟩
 refine ⟨_, rfl, ?_⟩
 replace HE := asd_ (At.step HE.out hb)
 refine hK.out _ _ ⟨HE.out, (cE HE 1), (cE HE 0), (cel_ (blk_below hq HE.out.b))⟩ (fun hHeld => ?_)
 clear hK K
 refine nq_ 65 ?_
 refine pu_ 21 66 4194303 ?_
 refine pu_ 22 67 8388607 ?_
 refine done_ kr_ ?_
 clear HK; have HK := HE; clear HE
 clear hHeld
 clear bg2 bg3 bgq
 have bg2 := cE HK 1
 have bg3 := cE HK 0
 have bgq := cel_ (blk_below hq HK.out.b)
 go_wp2_with fail
 all_goals go_ret
 all_goals exact ⟨rfl, be_⟩
set_option maxHeartbeats 4000000 in
set_option maxRecDepth 100000 in
theorem needs_N2 (w : World) (gq cq : Nat) (name : ByteArray) (A : Option Addr) (c : Nat) (names : List ByteArray) (x : S25) (A4 A5 : Option Addr) (c4 c5 : Nat) (hx : Rep w x A4 c4 A5 c5) (hq : w.heap[gq]? = some (row (#[.string name, .slice A names.length c]) 47)) (hr : Kd.C Kd.string w A names.length names) (hc : names.length ≤ c) (hn4 : x.f4.length ≤ LM) (hn : names.length ≤ LM) (r : Int) (hrr : ∀ k, x.f4.length < k → spec_JMember.f k x.f0 x.f1 x.f2 x.f3 x.f4 x.f5 name = some r) (hd : decide (0 ≤ r) = true) (hth : there x.f4 names = false) :
  Calls Tryz.prog 75 #[.agg (Nd.cells ⟨0, false, nilS, nilS, false, nilS, false, nilS, nilS, .slice (some ⟨gq, 0, none⟩) 1 cq⟩), .agg (jvc x A4 A5 c4 c5)] w fun e w' => e = .returned (.bool false) ∧ Below w.heap.size w w' := by
 have Hx := asd_ hx
 have Hr := asd_ hr
 clear hx hr
 have HK : Aside0 (At w [] w) := asd_ (At.start w)
 go_enter Tryz.func75, Tryz.ntmps75
 go_wp2_with (first | ((with_reducible refine gd_ 2 ?_); refine bx_ (Nd.cells ⟨0, false, nilS, nilS, false, nilS, false, nilS, nilS, .slice (some ⟨gq, 0, none⟩) 1 cq⟩) 45 ?_; clear HK; intro g2 wb2 HK Gg2; have bg2 := cE HK 0; have bgq := cel_ (blk_below hq HK.out.b)) | ((with_reducible refine gd_ 3 ?_); refine bx_ (jvc x A4 A5 c4 c5) 25 ?_; clear HK bg2 bgq; intro g3 wb3 HK Gg3; have bg2 := cE HK 1; have bg3 := cE HK 0; have bgq := cel_ (blk_below hq HK.out.b)) | ((with_reducible refine gd_ 8 ?_); refine lo_ 25 3 g3 (jvc x A4 A5 c4 c5) HK.out.k.1 Tryz.underlying25 ?_) | ((with_reducible refine gd_ 11 ?_); refine cl_ #[.agg (jvc x A4 A5 c4 c5), nilS] (.bool true) Tryz.func116 (there_nil _ x A4 A5 c4 c5 (Hx.out.below HK.out.b) hn4) ?_; intro wc11 HK1; replace HK := asd_ HK1; clear HK1; clear bg2 bg3 bgq; have bg2 := cE HK 1; have bg3 := cE HK 0; have bgq := cel_ (blk_below hq HK.out.b)))
 refine wp_loop_two ?_
 go_wp2_with fail
 refine wp_loop_once ?_
 go_wp2_with fail
 refine st_ 23 (fun w' => At w [.b g3 (row (jvc x A4 A5 c4 c5) 25), .b g2 (row (Nd.cells ⟨0, false, nilS, nilS, false, nilS, false, nilS, nilS, .slice (some ⟨gq, 0, none⟩) 1 cq⟩) 45)] w' ∧ (∀ j, w'.cell? ⟨g2, j, none⟩ = (Nd.cells ⟨0, false, nilS, nilS, false, nilS, false, nilS, nilS, .slice (some ⟨gq, 0, none⟩) 1 cq⟩ : Array Value)[j]?) ∧ (∀ j, w'.cell? ⟨g3, j, none⟩ = (jvc x A4 A5 c4 c5 : Array Value)[j]?) ∧ (∀ j, w'.cell? ⟨gq, j, none⟩ = (#[.string name, .slice A names.length c] : Array Value)[j]?)) [] (fun A => ⟨A, (cA A 1), (cA A 0), (cel_ (blk_below hq A.b))⟩) (fun hHeld => ?_)
 refine pu_ 0 45 1 ?_
 refine pu_ 1 46 3 ?_
 refine pu_ 3 48 11 ?_
 refine pu_ 5 50 43 ?_
 refine ta4_ 4 49 59 hHeld ?_
 refine pu_ 6 51 123 ?_
 refine pu_ 7 52 251 ?_
 refine ta4_ 8 53 507 hHeld ?_
 refine on_ 2 47 511 (fun K hK => ?_)
 refine loadr_ (ty := 25) (x := .tmp 3) g3 (jvc x A4 A5 c4 c5) (by rfl) rfl rfl rfl hHeld.1.k.1 Tryz.underlying25 rfl kr_ ?_
 refine hK.out _ _ ⟨hHeld.1, hHeld.2.1, hHeld.2.2.1, hHeld.2.2.2⟩ (fun hHeld => ?_)
 clear hK K
 refine nq_ 47 ?_
 refine on_ 9 54 1023 (fun K hK => ?_)
 have HE := asd_ (hHeld.1)
 refine ge_ Tryz.func65 #[.agg (jvc x A4 A5 c4 c5), .string name] ?_
 with_reducible refine (member_ok _ x A4 A5 c4 c5 name r (Hx.out.below HE.out.b) hrr).mono ?_
 rintro e w3 ⟨rfl, hb⟩
 refine ⟨_, rfl, ?_⟩
 replace HE := asd_ (At.step HE.out hb)
 refine hK.out _ _ ⟨HE.out, (cE HE 1), (cE HE 0), (cel_ (blk_below hq HE.out.b))⟩ (fun hHeld => ?_)
 clear hK K
 refine nq_ 54 ?_
 refine pu_ 10 55 2047 ?_
 refine pu_ 11 56 4095 ?_
 refine pu_ 12 57 8191 ?_
 refine pu_ 14 59 24575 ?_
 refine pu_ 16 61 90111 ?_
 refine ta4_ 15 60 122879 hHeld ?_
 refine pu_ 17 62 253951 ?_
 refine pu_ 18 63 516095 ?_
 refine ta4_ 19 64 1040383 hHeld ?_
 refine on_ 13 58 1048575 (fun K hK => ?_)
 refine loadr_ (ty := 25) (x := .tmp 3) g3 (jvc x A4 A5 c4 c5) (by rfl) rfl rfl rfl HE.out.k.1 Tryz.underlying25 rfl kr_ ?_
 refine hK.out _ _ ⟨hHeld.1, hHeld.2.1, hHeld.2.2.1, hHeld.2.2.2⟩ (fun hHeld => ?_)
 clear hK K
 refine nq_ 58 ?_
 refine on_ 20 65 2097151 (fun K hK => ?_)
 refine ge_ Tryz.func116 #[.agg (jvc x A4 A5 c4 c5), .slice A names.length c] ?_
 with_reducible refine (there_eq (b := false) hth (there_ok _ x A4 A5 A c4 c5 c names (Hx.out.below HE.out.b) (Kd.C_below Hr.out HE.out.b) hc hn4 hn)).mono ?_
 rintro e w3 ⟨rfl, hb⟩
 refine ⟨_, rfl, ?_⟩
 replace HE := asd_ (At.step HE.out hb)
 refine hK.out _ _ ⟨HE.out, (cE HE 1), (cE HE 0), (cel_ (blk_below hq HE.out.b))⟩ (fun hHeld => ?_)
 clear hK K
 refine nq_ 65 ?_
 refine pu_ 21 66 4194303 ?_
 refine pu_ 22 67 8388607 ?_
 refine done_ kr_ ?_
 clear HK; have HK := HE; clear HE
 clear hHeld
 clear bg2 bg3 bgq
 have bg2 := cE HK 1
 have bg3 := cE HK 0
 have bgq := cel_ (blk_below hq HK.out.b)
 go_wp2_with fail
 all_goals go_ret
 all_goals exact ⟨rfl, be_⟩
set_option maxHeartbeats 4000000 in
set_option maxRecDepth 100000 in
theorem eqs_ne (w : World) (x y : S25) (A4 A5 B4 B5 : Option Addr) (c4 c5 d4 d5 : Nat) (hne : (x.f0 != y.f0) = true) :
  Calls Tryz.prog 61 #[.agg (jvc x A4 A5 c4 c5), .agg (jvc y B4 B5 d4 d5)] w fun e w' => ∃ r : Bool, e = .returned (.bool r) ∧ Below w.heap.size w w' := by
 have HK : Aside0 (At w [] w) := asd_ (At.start w)
 go_enter Tryz.func61, Tryz.ntmps61
 go_wp2_with (first | ((with_reducible refine gd_ 2 ?_); refine bx_ (jvc x A4 A5 c4 c5) 25 ?_; clear HK; intro g2 wb2 HK Gg2; have bg2 := cE HK 0) | ((with_reducible refine gd_ 3 ?_); refine bx_ (jvc y B4 B5 d4 d5) 25 ?_; clear HK bg2; intro g3 wb3 HK Gg3; have bg2 := cE HK 1; have bg3 := cE HK 0))
 go_ret
 exact ⟨_, rfl, be_⟩
set_option maxHeartbeats 4000000 in
set_option maxRecDepth 100000 in
theorem eqs_null (w : World) (x y : S25) (A4 A5 B4 B5 : Option Addr) (c4 c5 d4 d5 : Nat) (hne : (x.f0 != y.f0) = false) (k1 : (x.f0 == 1) = false) (k2 : (x.f0 == 2) = false) (k3 : (x.f0 == 3) = false) (k4 : (x.f0 == 4) = false) (k5 : (x.f0 == 5) = false) :
  Calls Tryz.prog 61 #[.agg (jvc x A4 A5 c4 c5), .agg (jvc y B4 B5 d4 d5)] w fun e w' => ∃ r : Bool, e = .returned (.bool r) ∧ Below w.heap.size w w' := by
 have HK : Aside0 (At w [] w) := asd_ (At.start w)
 go_enter Tryz.func61, Tryz.ntmps61
 go_wp2_with (first | ((with_reducible refine gd_ 2 ?_); refine bx_ (jvc x A4 A5 c4 c5) 25 ?_; clear HK; intro g2 wb2 HK Gg2; have bg2 := cE HK 0) | ((with_reducible refine gd_ 3 ?_); refine bx_ (jvc y B4 B5 d4 d5) 25 ?_; clear HK bg2; intro g3 wb3 HK Gg3; have bg2 := cE HK 1; have bg3 := cE HK 0))
 go_ret
 exact ⟨_, rfl, be_⟩
set_option maxHeartbeats 4000000 in
set_option maxRecDepth 100000 in
theorem eqs_bool (w : World) (x y : S25) (A4 A5 B4 B5 : Option Addr) (c4 c5 d4 d5 : Nat) (hne : (x.f0 != y.f0) = false) (k1 : (x.f0 == 1) = true) :
  Calls Tryz.prog 61 #[.agg (jvc x A4 A5 c4 c5), .agg (jvc y B4 B5 d4 d5)] w fun e w' => ∃ r : Bool, e = .returned (.bool r) ∧ Below w.heap.size w w' := by
 have HK : Aside0 (At w [] w) := asd_ (At.start w)
 go_enter Tryz.func61, Tryz.ntmps61
 go_wp2_with (first | ((with_reducible refine gd_ 2 ?_); refine bx_ (jvc x A4 A5 c4 c5) 25 ?_; clear HK; intro g2 wb2 HK Gg2; have bg2 := cE HK 0) | ((with_reducible refine gd_ 3 ?_); refine bx_ (jvc y B4 B5 d4 d5) 25 ?_; clear HK bg2; intro g3 wb3 HK Gg3; have bg2 := cE HK 1; have bg3 := cE HK 0))
 go_ret
 exact ⟨_, rfl, be_⟩
set_option maxHeartbeats 4000000 in
set_option maxRecDepth 100000 in
theorem eqs_text (w : World) (x y : S25) (A4 A5 B4 B5 : Option Addr) (c4 c5 d4 d5 : Nat) (hne : (x.f0 != y.f0) = false) (k1 : (x.f0 == 1) = false) (k2 : (x.f0 == 2) = false) (k3 : (x.f0 == 3) = true) :
  Calls Tryz.prog 61 #[.agg (jvc x A4 A5 c4 c5), .agg (jvc y B4 B5 d4 d5)] w fun e w' => ∃ r : Bool, e = .returned (.bool r) ∧ Below w.heap.size w w' := by
 have HK : Aside0 (At w [] w) := asd_ (At.start w)
 go_enter Tryz.func61, Tryz.ntmps61
 go_wp2_with (first | ((with_reducible refine gd_ 2 ?_); refine bx_ (jvc x A4 A5 c4 c5) 25 ?_; clear HK; intro g2 wb2 HK Gg2; have bg2 := cE HK 0) | ((with_reducible refine gd_ 3 ?_); refine bx_ (jvc y B4 B5 d4 d5) 25 ?_; clear HK bg2; intro g3 wb3 HK Gg3; have bg2 := cE HK 1; have bg3 := cE HK 0))
 go_ret
 exact ⟨_, rfl, be_⟩
set_option maxHeartbeats 4000000 in
set_option maxRecDepth 100000 in
theorem eqs_len (w : World) (x y : S25) (A4 A5 B4 B5 : Option Addr) (c4 c5 d4 d5 : Nat) (hne : (x.f0 != y.f0) = false) (k1 : (x.f0 == 1) = false) (k2 : (x.f0 == 2) = false) (k3 : (x.f0 == 3) = false) (k4 : (x.f0 == 4) = true) (hl : ((x.f5.length : Int) != (y.f5.length : Int)) = true) :
  Calls Tryz.prog 61 #[.agg (jvc x A4 A5 c4 c5), .agg (jvc y B4 B5 d4 d5)] w fun e w' => ∃ r : Bool, e = .returned (.bool r) ∧ Below w.heap.size w w' := by
 have HK : Aside0 (At w [] w) := asd_ (At.start w)
 go_enter Tryz.func61, Tryz.ntmps61
 go_wp2_with (first | ((with_reducible refine gd_ 2 ?_); refine bx_ (jvc x A4 A5 c4 c5) 25 ?_; clear HK; intro g2 wb2 HK Gg2; have bg2 := cE HK 0) | ((with_reducible refine gd_ 3 ?_); refine bx_ (jvc y B4 B5 d4 d5) 25 ?_; clear HK bg2; intro g3 wb3 HK Gg3; have bg2 := cE HK 1; have bg3 := cE HK 0))
 go_ret
 exact ⟨_, rfl, be_⟩
set_option maxHeartbeats 4000000 in
set_option maxRecDepth 100000 in
theorem eqs_array (w : World) (x y : S25) (A4 A5 B4 B5 : Option Addr) (c4 c5 d4 d5 : Nat) (hne : (x.f0 != y.f0) = false) (k1 : (x.f0 == 1) = false) (k2 : (x.f0 == 2) = false) (k3 : (x.f0 == 3) = false) (k4 : (x.f0 == 4) = true) (hx : Rep w x A4 c4 A5 c5) (hy : Rep w y B4 d4 B5 d5) (hn5 : x.f5.length ≤ LM) (hl : x.f5.length = y.f5.length) (hVy : ∀ z ∈ y.f5, V z) (hT : ∀ a ∈ x.f5, ∀ b, V b → ∀ W A4 A5 B4 B5 c4 c5 d4 d5, Below w.heap.size w W → Rep W a A4 c4 A5 c5 → Rep W b B4 d4 B5 d5 → Calls Tryz.prog 61 #[.agg (jvc a A4 A5 c4 c5), .agg (jvc b B4 B5 d4 d5)] W fun e w' => ∃ r : Bool, e = .returned (.bool r) ∧ Below W.heap.size W w') :
  Calls Tryz.prog 61 #[.agg (jvc x A4 A5 c4 c5), .agg (jvc y B4 B5 d4 d5)] w fun e w' => ∃ r : Bool, e = .returned (.bool r) ∧ Below w.heap.size w w' := by
 have Hx := asd_ hx
 have Hy := asd_ hy
 have Hn5 := asd_ hn5
 have HVy := asd_ hVy
 have HT := asd_ hT
 have hlen : ((x.f5.length : Int) != (y.f5.length : Int)) = false := by simp [hl]
 clear hx hy hn5 hVy hT
 have HK : Aside0 (At w [] w) := asd_ (At.start w)
 go_enter Tryz.func61, Tryz.ntmps61
 go_wp2_with (first | ((with_reducible refine gd_ 2 ?_); refine bx_ (jvc x A4 A5 c4 c5) 25 ?_; clear HK; intro g2 wb2 HK Gg2; have bg2 := cE HK 0) | ((with_reducible refine gd_ 3 ?_); refine bx_ (jvc y B4 B5 d4 d5) 25 ?_; clear HK bg2; intro g3 wb3 HK Gg3; have bg2 := cE HK 1; have bg3 := cE HK 0))
 go_loopg [5] x.f5.length (fun kq v5 w' => ∃ i : Int, v5 = .int .i64 i ∧ 0 ≤ i ∧ i + kq = x.f5.length ∧ Aside0 (At w [.b g3 (row (jvc y B4 B5 d4 d5) 25), .b g2 (row (jvc x A4 A5 c4 c5) 25)] w'))
 case atStart => exact ⟨0, rfl, by omega, by omega, ⟨at_⟩⟩
 case round =>
  clear HK bg2 bg3
  obtain ⟨i, rfl, hi0, hik, HK⟩ := hrel
  have bg2 := cE HK 1; have bg3 := cE HK 0
  cases gk with
  | zero =>
   have ht : decide (i < (x.f5.length : Int)) = false := decide_eq_false (by omega)
   go_wp2_with fail
   go_ret
   exact ⟨_, rfl, be_⟩
  | succ kk =>
   have ht : decide (i < (x.f5.length : Int)) = true := decide_eq_true (by omega)
   have hil : i < (x.f5.length : Int) := by omega
   have hil2 : i < (y.f5.length : Int) := by omega
   obtain ⟨adp, Ep4, ep4, Ep5, ep5, eqp, h0p, h1p, h2p, h3p, h4p, h5p, m4, n4, m5, n5⟩ := at_T25 Hx.out.h5 i hi0 hil
   subst eqp
   have Hcp := asd_ (And.intro h0p (And.intro h1p (And.intro h2p (And.intro h3p (And.intro h4p h5p))))); have HNp := asd_ (And.intro m4 (And.intro n4 (And.intro m5 n5))); clear m4 n4 m5 n5 h0p h1p h2p h3p h4p h5p
   obtain ⟨adq, Eq4, eq4, Eq5, eq5, eqq, h0q, h1q, h2q, h3q, h4q, h5q, m4, n4, m5, n5⟩ := at_T25 Hy.out.h5 i hi0 hil2
   subst eqq
   have Hcq := asd_ (And.intro h0q (And.intro h1q (And.intro h2q (And.intro h3q (And.intro h4q h5q))))); have HNq := asd_ (And.intro m4 (And.intro n4 (And.intro m5 n5))); clear m4 n4 m5 n5 h0q h1q h2q h3q h4q h5q
   have HY1 := asd_ (rd_T25_in hi0 hil); have HY2 := asd_ (rd_T25_in hi0 hil2); have Hik := asd_ hik; have Hi0 := asd_ hi0; have Hil := asd_ hil
   have p1 := eq_true hi0; have p2 := eq_true hil; have p3 := eq_true hil2
   clear hik hi0 hil hil2
   go_wp2_with fail
   refine st_ 12 (fun w' => At w [.b g3 (row (jvc y B4 (some adq) d4 d5) 25), .b g2 (row (jvc x A4 (some adp) c4 c5) 25)] w' ∧ (∀ j, w'.cell? ⟨g2, j, none⟩ = (jvc x A4 (some adp) c4 c5 : Array Value)[j]?) ∧ (∀ j, w'.cell? ⟨g3, j, none⟩ = (jvc y B4 (some adq) d4 d5 : Array Value)[j]?) ∧ w'.cell? (adp.add (i.toNat * 6)) = some (.int .i64 (rd_T25 x.f5 i).f0) ∧ w'.cell? ⟨(adp.add (i.toNat * 6)).block, (adp.add (i.toNat * 6)).off + 1, none⟩ = some (.bool (rd_T25 x.f5 i).f1) ∧ w'.cell? ⟨(adp.add (i.toNat * 6)).block, (adp.add (i.toNat * 6)).off + 2, none⟩ = some (.int .i64 (rd_T25 x.f5 i).f2) ∧ w'.cell? ⟨(adp.add (i.toNat * 6)).block, (adp.add (i.toNat * 6)).off + 3, none⟩ = some (.string (rd_T25 x.f5 i).f3) ∧ w'.cell? ⟨(adp.add (i.toNat * 6)).block, (adp.add (i.toNat * 6)).off + 4, none⟩ = some (.slice Ep4 (rd_T25 x.f5 i).f4.length ep4) ∧ w'.cell? ⟨(adp.add (i.toNat * 6)).block, (adp.add (i.toNat * 6)).off + 5, none⟩ = some (.slice Ep5 (rd_T25 x.f5 i).f5.length ep5) ∧ w'.cell? (adq.add (i.toNat * 6)) = some (.int .i64 (rd_T25 y.f5 i).f0) ∧ w'.cell? ⟨(adq.add (i.toNat * 6)).block, (adq.add (i.toNat * 6)).off + 1, none⟩ = some (.bool (rd_T25 y.f5 i).f1) ∧ w'.cell? ⟨(adq.add (i.toNat * 6)).block, (adq.add (i.toNat * 6)).off + 2, none⟩ = some (.int .i64 (rd_T25 y.f5 i).f2) ∧ w'.cell? ⟨(adq.add (i.toNat * 6)).block, (adq.add (i.toNat * 6)).off + 3, none⟩ = some (.string (rd_T25 y.f5 i).f3) ∧ w'.cell? ⟨(adq.add (i.toNat * 6)).block, (adq.add (i.toNat * 6)).off + 4, none⟩ = some (.slice Eq4 (rd_T25 y.f5 i).f4.length eq4) ∧ w'.cell? ⟨(adq.add (i.toNat * 6)).block, (adq.add (i.toNat * 6)).off + 5, none⟩ = some (.slice Eq5 (rd_T25 y.f5 i).f5.length eq5)) [] (fun A => ⟨A, (cA A 1), (cA A 0), ((A.b.cell (World.block_lt_of_cell? w _ Hcp.out.1)).trans Hcp.out.1), ((A.b.cell (World.block_lt_of_cell? w _ Hcp.out.2.1)).trans Hcp.out.2.1), ((A.b.cell (World.block_lt_of_cell? w _ Hcp.out.2.2.1)).trans Hcp.out.2.2.1), ((A.b.cell (World.block_lt_of_cell? w _ Hcp.out.2.2.2.1)).trans Hcp.out.2.2.2.1), ((A.b.cell (World.block_lt_of_cell? w _ Hcp.out.2.2.2.2.1)).trans Hcp.out.2.2.2.2.1), ((A.b.cell (World.block_lt_of_cell? w _ Hcp.out.2.2.2.2.2)).trans Hcp.out.2.2.2.2.2), ((A.b.cell (World.block_lt_of_cell? w _ Hcq.out.1)).trans Hcq.out.1), ((A.b.cell (World.block_lt_of_cell? w _ Hcq.out.2.1)).trans Hcq.out.2.1), ((A.b.cell (World.block_lt_of_cell? w _ Hcq.out.2.2.1)).trans Hcq.out.2.2.1), ((A.b.cell (World.block_lt_of_cell? w _ Hcq.out.2.2.2.1)).trans Hcq.out.2.2.2.1), ((A.b.cell (World.block_lt_of_cell? w _ Hcq.out.2.2.2.2.1)).trans Hcq.out.2.2.2.2.1), ((A.b.cell (World.block_lt_of_cell? w _ Hcq.out.2.2.2.2.2)).trans Hcq.out.2.2.2.2.2)⟩) (fun hHeld => ?_)
   refine pu_ 0 51 1 ?_
   refine pu_ 2 53 5 ?_
   refine pu_ 5 56 37 ?_
   refine pu_ 7 58 165 ?_
   refine ta15_ 1 52 167 hHeld ?_
   refine pu_ 3 54 175 ?_
   refine ta15_ 4 55 191 hHeld ?_
   refine ta15_ 6 57 255 hHeld ?_
   refine pu_ 8 59 511 ?_
   refine ta15_ 9 60 1023 hHeld ?_
   refine on_ 10 61 2047 (fun K hK => ?_)
   have HE := asd_ (hHeld.1)
   refine ge_ Tryz.func61 #[.agg (#[.int .i64 (rd_T25 x.f5 i).f0, .bool (rd_T25 x.f5 i).f1, .int .i64 (rd_T25 x.f5 i).f2, .string (rd_T25 x.f5 i).f3, .slice Ep4 (rd_T25 x.f5 i).f4.length ep4, .slice Ep5 (rd_T25 x.f5 i).f5.length ep5]), .agg (#[.int .i64 (rd_T25 y.f5 i).f0, .bool (rd_T25 y.f5 i).f1, .int .i64 (rd_T25 y.f5 i).f2, .string (rd_T25 y.f5 i).f3, .slice Eq4 (rd_T25 y.f5 i).f4.length eq4, .slice Eq5 (rd_T25 y.f5 i).f5.length eq5])] ?_
   with_reducible refine (HT.out _ HY1.out _ (HVy.out _ HY2.out) _ _ _ _ _ _ _ _ _ HE.out.b ⟨Kd.C_below HNp.out.2.1 HE.out.b, HNp.out.1, Kd.C_below HNp.out.2.2.2 HE.out.b, HNp.out.2.2.1⟩ ⟨Kd.C_below HNq.out.2.1 HE.out.b, HNq.out.1, Kd.C_below HNq.out.2.2.2 HE.out.b, HNq.out.2.2.1⟩).mono ?_
   rintro e w3 ⟨rb, rfl, hb⟩
   refine ⟨_, rfl, ?_⟩
   have HE0 := At.step HE.out hb
   replace HE := asd_ HE0; clear HE0
   refine hK.out _ _ ⟨HE.out, (cE HE 1), (cE HE 0), ((HE.out.b.cell (World.block_lt_of_cell? w _ Hcp.out.1)).trans Hcp.out.1), ((HE.out.b.cell (World.block_lt_of_cell? w _ Hcp.out.2.1)).trans Hcp.out.2.1), ((HE.out.b.cell (World.block_lt_of_cell? w _ Hcp.out.2.2.1)).trans Hcp.out.2.2.1), ((HE.out.b.cell (World.block_lt_of_cell? w _ Hcp.out.2.2.2.1)).trans Hcp.out.2.2.2.1), ((HE.out.b.cell (World.block_lt_of_cell? w _ Hcp.out.2.2.2.2.1)).trans Hcp.out.2.2.2.2.1), ((HE.out.b.cell (World.block_lt_of_cell? w _ Hcp.out.2.2.2.2.2)).trans Hcp.out.2.2.2.2.2), ((HE.out.b.cell (World.block_lt_of_cell? w _ Hcq.out.1)).trans Hcq.out.1), ((HE.out.b.cell (World.block_lt_of_cell? w _ Hcq.out.2.1)).trans Hcq.out.2.1), ((HE.out.b.cell (World.block_lt_of_cell? w _ Hcq.out.2.2.1)).trans Hcq.out.2.2.1), ((HE.out.b.cell (World.block_lt_of_cell? w _ Hcq.out.2.2.2.1)).trans Hcq.out.2.2.2.1), ((HE.out.b.cell (World.block_lt_of_cell? w _ Hcq.out.2.2.2.2.1)).trans Hcq.out.2.2.2.2.1), ((HE.out.b.cell (World.block_lt_of_cell? w _ Hcq.out.2.2.2.2.2)).trans Hcq.out.2.2.2.2.2)⟩ (fun hHeld => ?_)
   clear hK K
   refine nq_ 61 ?_
   refine pu_ 11 62 4095 ?_
   refine done_ kr_ ?_
   clear HK; have HK := HE; clear HE
   clear hHeld
   clear bg2 bg3
   have bg2 := cE HK 1
   have bg3 := cE HK 0
   cases rb
   case false =>
    go_wp2_with fail
    go_ret
    exact ⟨_, rfl, be_⟩
   case true =>
    go_wp2_with fail
    go_roundg kk
    case measure => exact Nat.lt_succ_self _
    case rel =>
     exact ⟨wrap64 (i + 1), rfl, by have := Hi0.out; rw [wup Hi0.out Hil.out Hn5.out]; omega, by have := Hik.out; rw [wup Hi0.out Hil.out Hn5.out]; omega, ⟨at_⟩⟩
theorem strs_ints {W : World} {A : Option Addr} {n c : Nat} {l : List Int} (h : (Fact.ints (.slice A n c) l).P W) : Kd.C (Kd.int .i64) W A l.length l := (R_C (show Kd.R (Kd.int .i64) 3 W 0 _ (.slice A n c) l from h)).2.2
theorem members_all (x : S25) (hn : x.f4.length ≤ LM) : ∃ k l, spec_JMembers.f k x.f0 x.f1 x.f2 x.f3 x.f4 x.f5 = some l ∧ (∀ j ∈ l, 0 ≤ j ∧ j < (x.f4.length : Int)) ∧ l.length ≤ LM := by
 obtain ⟨l, k, h1, h3, h2⟩ := members_is x.f0 x.f1 x.f2 x.f3 x.f4 x.f5 hn
 exact ⟨k, l, h1, h3, Nat.le_trans h2 hn⟩
theorem bool_form {f : FuncId} {args : Array Value} {W : World} (h : Calls Tryz.prog f args W fun e w' => ∃ r : Bool, e = .returned (.bool r) ∧ Below W.heap.size W w') : Calls Tryz.prog f args W fun e w' => ∃ v, e = .returned v ∧ (∃ r : Bool, v = .bool r) ∧ Below W.heap.size W w' := by
 refine h.mono ?_
 rintro e w' ⟨r, rfl, hb⟩
 exact ⟨_, rfl, ⟨r, rfl⟩, hb⟩
section
variable (q0 : Int) (q1 : Bool) (q2 : Int) (q3 : ByteArray) (xs : List ByteArray) (q5 : List S25) (p0 : Int) (p1 : Bool) (p2 : Int) (p3 : ByteArray) (ys : List ByteArray) (p5 : List S25)
theorem has_tells (hx : xs.length ≤ LM) (hy : ys.length ≤ LM) (d : Nat) : ∀ (i : Int), 0 ≤ i → i ≤ xs.length → (xs.length : Int) - i = d → ∃ r, ∀ k, d + ys.length < k → spec_jHas.l0 k i q0 q1 q2 q3 xs q5 p0 p1 p2 p3 ys p5 = some r := by
 induction d with
 | zero =>
  intro i h0 h1 hd
  refine ⟨true, fun k hk => ?_⟩
  obtain ⟨k, rfl⟩ : ∃ m, k = m + 1 := ⟨k - 1, by omega⟩
  simp only [spec_jHas.l0]; rw [if_neg (by omega)]
 | succ d ih =>
  intro i h0 h1 hd
  obtain ⟨r0, hr0, _⟩ := member_is p0 p1 p2 p3 ys p5 (rdOf ByteArray.empty xs i) hy
  by_cases hn : r0 < 0
  ·refine ⟨false, fun k hk => ?_⟩
   obtain ⟨k, rfl⟩ : ∃ m, k = m + 1 := ⟨k - 1, by omega⟩
   simp only [spec_jHas.l0]
   rw [if_pos (by omega), if_pos h0, hr0 k (by omega)]
   simp [hn]
  ·obtain ⟨r, hr⟩ := ih (i + 1) (by omega) (by omega) (by omega)
   refine ⟨r, fun k hk => ?_⟩
   obtain ⟨k, rfl⟩ : ∃ m, k = m + 1 := ⟨k - 1, by omega⟩
   simp only [spec_jHas.l0]
   rw [if_pos (by omega), if_pos h0, hr0 k (by omega)]
   simp only [Option.bind_some, if_neg hn]
   rw [wup (n := xs.length) h0 (by omega) hx]
   exact hr k (by omega)
end
theorem has_ok (w : World) (x y : S25) (A4 A5 B4 B5 : Option Addr) (c4 c5 d4 d5 : Nat) (hx : Rep w x A4 c4 A5 c5) (hy : Rep w y B4 d4 B5 d5) (hn : x.f4.length ≤ LM) (hm : y.f4.length ≤ LM) :
  Calls Tryz.prog 114 #[.agg (jvc x A4 A5 c4 c5), .agg (jvc y B4 B5 d4 d5)] w fun e w' => ∃ r : Bool, e = .returned (.bool r) ∧ Below w.heap.size w w' := by
 obtain ⟨r, hr⟩ := has_tells x.f0 x.f1 x.f2 x.f3 x.f4 x.f5 y.f0 y.f1 y.f2 y.f3 y.f4 y.f5 hn hm x.f4.length 0 (Int.le_refl _) (by omega) (by omega)
 refine (spec_jHas.calls (x.f4.length + y.f4.length + 1) x.f0 x.f1 x.f2 x.f3 A4 c4 x.f4 A5 c5 x.f5 y.f0 y.f1 y.f2 y.f3 B4 d4 y.f4 B5 d5 y.f5 r w hx.h4 hx.l4 hx.h5 hx.l5 hy.h4 hy.l4 hy.h5 hy.l5 (hr _ (Nat.lt_succ_self _))).mono ?_
 rintro e w' ⟨rfl, hb⟩
 exact ⟨r, rfl, hb⟩
set_option maxHeartbeats 4000000 in
set_option maxRecDepth 100000 in
theorem within_any (w : World) (x y : S25) (A4 A5 B4 B5 : Option Addr) (c4 c5 d4 d5 : Nat) (hx : Rep w x A4 c4 A5 c5) (hy : Rep w y B4 d4 B5 d5) (hn4 : x.f4.length ≤ LM) (hm4 : y.f4.length ≤ LM) (hex : x.f4.length = x.f5.length) (hey : y.f4.length = y.f5.length) (hVy : ∀ z ∈ y.f5, V z) (hT : ∀ a ∈ x.f5, ∀ b, V b → ∀ W A4 A5 B4 B5 c4 c5 d4 d5, Below w.heap.size w W → Rep W a A4 c4 A5 c5 → Rep W b B4 d4 B5 d5 → Calls Tryz.prog 61 #[.agg (jvc a A4 A5 c4 c5), .agg (jvc b B4 B5 d4 d5)] W fun e w' => ∃ r : Bool, e = .returned (.bool r) ∧ Below W.heap.size W w') :
  Calls Tryz.prog 115 #[.agg (jvc x A4 A5 c4 c5), .agg (jvc y B4 B5 d4 d5)] w fun e w' => ∃ r : Bool, e = .returned (.bool r) ∧ Below w.heap.size w w' := by
 obtain ⟨km, l, hkm, hlm, hll⟩ := members_all x hn4
 have Hx := asd_ hx
 have Hy := asd_ hy
 have HVy := asd_ hVy
 have HT := asd_ hT
 have Hex := asd_ hex
 have Hey := asd_ hey
 clear hx hy hVy hT hex hey
 have HK : Aside0 (At w [] w) := asd_ (At.start w)
 go_enter Tryz.func115, Tryz.ntmps115
 go_wp2_with (first | ((with_reducible refine gd_ 2 ?_); refine bx_ (jvc x A4 A5 c4 c5) 25 ?_; clear HK; intro g2 wb2 HK Gg2; have bg2 := cE HK 0) | ((with_reducible refine gd_ 3 ?_); refine bx_ (jvc y B4 B5 d4 d5) 25 ?_; clear HK bg2; intro g3 wb3 HK Gg3; have bg2 := cE HK 1; have bg3 := cE HK 0) | ((with_reducible refine gd_ 8 ?_); refine lo_ 25 2 g2 (jvc x A4 A5 c4 c5) HK.out.k.2.1 Tryz.underlying25 ?_) | ((with_reducible refine gd_ 9 ?_); refine cw_ #[.agg (jvc x A4 A5 c4 c5)] Tryz.func74 (members_ok _ x A4 A5 c4 c5 l km (Hx.out.below HK.out.b) hkm) ?_; rintro v9 wc9 HK0 ⟨Al, cl, rfl, hF⟩ hB; have HK1 := At.fact (Fact.ints (.slice Al l.length cl) l) HK0 hF; clear HK0 hF hB; replace HK := asd_ HK1; clear HK1; clear bg2 bg3; have bg2 := cE HK 2; have bg3 := cE HK 1))
 go_loopg [6] l.length (fun kq v6 w' => ∃ i : Int, v6 = .int .i64 i ∧ 0 ≤ i ∧ i + kq = l.length ∧ Aside0 (At w [.f (Fact.ints (.slice Al l.length cl) l), .b g3 (row (jvc y B4 B5 d4 d5) 25), .b g2 (row (jvc x A4 A5 c4 c5) 25)] w'))
 case atStart => exact ⟨0, rfl, by omega, by omega, ⟨at_⟩⟩
 case round =>
  clear HK bg2 bg3
  obtain ⟨i, rfl, hi0, hik, HK⟩ := hrel
  have bg2 := cE HK 2; have bg3 := cE HK 1
  cases gk with
  | zero =>
   have ht : decide (i < (l.length : Int)) = false := decide_eq_false (by omega)
   go_wp2_with fail
   go_ret
   exact ⟨_, rfl, be_⟩
  | succ kk =>
   have ht : decide (i < (l.length : Int)) = true := decide_eq_true (by omega)
   have hil : i < (l.length : Int) := by omega
   obtain ⟨adl, el⟩ := some_of (strs_ints HK.out.k.1) (by omega)
   subst el
   have hj := hlm _ (rd_mem hi0 hil)
   obtain ⟨hj0, hj1⟩ := hj
   obtain ⟨ad4, e4, hc4⟩ := Kd.at_string Hx.out.h4 (rd l i) hj0 hj1
   subst e4
   obtain ⟨r, hr, hr0, hr1, hrm⟩ := member_is y.f0 y.f1 y.f2 y.f3 y.f4 y.f5 (rdOf ByteArray.empty x.f4 (rd l i)) hm4
   have Hc4 := asd_ hc4; have Hr := asd_ hr; have Hik := asd_ hik; have Hi0 := asd_ hi0; have Hil := asd_ hil; have Hj0 := asd_ hj0; have Hj1 := asd_ hj1; have Hr1 := asd_ hr1
   have p1 := eq_true hi0; have p2 := eq_true hil; have p3 := eq_true hj0; have p4 := eq_true hj1
   clear hrm hc4 hr hr0 hik hi0 hil hj0 hj1 hr1
   go_wp2_with fail
   refine st_ 11 (fun w' => At w [.f (Fact.ints (.slice (some adl) l.length cl) l), .b g3 (row (jvc y B4 B5 d4 d5) 25), .b g2 (row (jvc x (some ad4) A5 c4 c5) 25)] w' ∧ (∀ j, w'.cell? ⟨g2, j, none⟩ = (jvc x (some ad4) A5 c4 c5 : Array Value)[j]?) ∧ (∀ j, w'.cell? ⟨g3, j, none⟩ = (jvc y B4 B5 d4 d5 : Array Value)[j]?) ∧ w'.cell? (adl.add i.toNat) = some (.int .i64 (rd l i)) ∧ w'.cell? (ad4.add (rd l i).toNat) = some (.string (rdOf ByteArray.empty x.f4 (rd l i)))) [] (fun A => ⟨A, (cA A 2), (cA A 1), (ints_at A.k.1 i Hi0.out Hil.out), ((A.b.cell (World.block_lt_of_cell? w _ Hc4.out)).trans Hc4.out)⟩) (fun hHeld => ?_)
   refine pu_ 1 17 2 ?_
   refine pu_ 3 19 10 ?_
   refine pu_ 4 20 26 ?_
   refine pu_ 5 21 58 ?_
   refine ta5_ 2 18 62 hHeld ?_
   refine ta5_ 6 22 126 hHeld ?_
   refine pu_ 7 23 254 ?_
   refine ta5_ 8 24 510 hHeld ?_
   refine on_ 0 16 511 (fun K hK => ?_)
   refine loadr_ (ty := 25) (x := .tmp 3) g3 (jvc y B4 B5 d4 d5) (by rfl) rfl rfl rfl hHeld.1.k.2.1 Tryz.underlying25 rfl kr_ ?_
   refine hK.out _ _ ⟨hHeld.1, hHeld.2.1, hHeld.2.2.1, hHeld.2.2.2.1, hHeld.2.2.2.2⟩ (fun hHeld => ?_)
   clear hK K
   refine nq_ 16 ?_
   refine on_ 9 25 1023 (fun K hK => ?_)
   have HE := asd_ (hHeld.1)
   refine ge_ Tryz.func65 #[.agg (jvc y B4 B5 d4 d5), .string (rdOf ByteArray.empty x.f4 (rd l i))] ?_
   with_reducible refine (member_ok _ y B4 B5 d4 d5 _ r (Hy.out.below HE.out.b) Hr.out).mono ?_
   rintro e w3 ⟨rfl, hb⟩
   refine ⟨_, rfl, ?_⟩
   replace HE := asd_ (At.step HE.out hb)
   refine hK.out _ _ ⟨HE.out, (cE HE 2), (cE HE 1), (ints_at HE.out.k.1 i Hi0.out Hil.out), ((HE.out.b.cell (World.block_lt_of_cell? w _ Hc4.out)).trans Hc4.out)⟩ (fun hHeld => ?_)
   clear hK K
   refine nq_ 25 ?_
   refine pu_ 10 7 2047 ?_
   refine done_ kr_ ?_
   clear HK; have HK := HE; clear HE
   clear hHeld
   clear bg2 bg3
   have bg2 := cE HK 2
   have bg3 := cE HK 1
   go_wp2_with fail
   cases hd : decide (r < 0)
   case true =>
    refine st_ 19 (fun w' => At w [.f (Fact.ints (.slice (some adl) l.length cl) l), .b g3 (row (jvc y B4 B5 d4 d5) 25), .b g2 (row (jvc x (some ad4) A5 c4 c5) 25)] w' ∧ (∀ j, w'.cell? ⟨g2, j, none⟩ = (jvc x (some ad4) A5 c4 c5 : Array Value)[j]?) ∧ (∀ j, w'.cell? ⟨g3, j, none⟩ = (jvc y B4 B5 d4 d5 : Array Value)[j]?)) [] (fun A => ⟨A, (cA A 2), (cA A 1)⟩) (fun hHeld => ?_)
    refine pu_ 0 26 1 ?_
    refine pu_ 1 27 3 ?_
    refine pu_ 2 28 7 ?_
    refine pn_ 3 29 15 ?_
    refine pn_ 4 30 31 ?_
    refine pn_ 5 31 63 ?_
    refine pn_ 6 32 127 ?_
    refine pn_ 7 33 255 ?_
    refine pn_ 8 34 511 ?_
    refine pn_ 9 35 1023 ?_
    refine pn_ 10 36 2047 ?_
    refine pn_ 11 37 4095 ?_
    refine pn_ 12 38 8191 ?_
    refine pn_ 13 39 16383 ?_
    refine pn_ 14 40 32767 ?_
    refine pn_ 15 41 65535 ?_
    refine pn_ 16 42 131071 ?_
    refine pn_ 17 43 262143 ?_
    refine pu_ 18 44 524287 ?_
    refine done_ kr_ ?_
    clear HK; have HK := asd_ hHeld.1
    clear hHeld
    clear bg2 bg3
    have bg2 := cE HK 2
    have bg3 := cE HK 1
    go_wp2_with fail
    go_ret
    exact ⟨_, rfl, be_⟩
   case false =>
    have hr0 : 0 ≤ r := by have := of_decide_eq_false hd; omega
    have hj5 : rd l i < (x.f5.length : Int) := by have := Hj1.out; have := Hex.out; omega
    have hr5 : r < (y.f5.length : Int) := by have := Hr1.out; have := Hey.out; omega
    obtain ⟨adp, Ep4, ep4, Ep5, ep5, eqp, h0p, h1p, h2p, h3p, h4p, h5p, m4, n4, m5, n5⟩ := at_T25 Hx.out.h5 (rd l i) Hj0.out hj5
    subst eqp
    have Hcp := asd_ (And.intro h0p (And.intro h1p (And.intro h2p (And.intro h3p (And.intro h4p h5p))))); have HNp := asd_ (And.intro m4 (And.intro n4 (And.intro m5 n5))); clear m4 n4 m5 n5 h0p h1p h2p h3p h4p h5p
    obtain ⟨adq, Eq4, eq4, Eq5, eq5, eqq, h0q, h1q, h2q, h3q, h4q, h5q, m4, n4, m5, n5⟩ := at_T25 Hy.out.h5 r hr0 hr5
    subst eqq
    have Hcq := asd_ (And.intro h0q (And.intro h1q (And.intro h2q (And.intro h3q (And.intro h4q h5q))))); have HNq := asd_ (And.intro m4 (And.intro n4 (And.intro m5 n5))); clear m4 n4 m5 n5 h0q h1q h2q h3q h4q h5q
    have HY1 := asd_ (rd_T25_in Hj0.out hj5); have HY2 := asd_ (rd_T25_in hr0 hr5)
    have p5 := eq_true hr0; have p6 := eq_true hr5; have p7 := eq_true hj5
    clear hr0 hr5 hj5
    refine st_ 19 (fun w' => At w [.f (Fact.ints (.slice (some adl) l.length cl) l), .b g3 (row (jvc y B4 (some adq) d4 d5) 25), .b g2 (row (jvc x (some ad4) (some adp) c4 c5) 25)] w' ∧ (∀ j, w'.cell? ⟨g2, j, none⟩ = (jvc x (some ad4) (some adp) c4 c5 : Array Value)[j]?) ∧ (∀ j, w'.cell? ⟨g3, j, none⟩ = (jvc y B4 (some adq) d4 d5 : Array Value)[j]?) ∧ w'.cell? (adl.add i.toNat) = some (.int .i64 (rd l i)) ∧ w'.cell? (adp.add ((rd l i).toNat * 6)) = some (.int .i64 (rd_T25 x.f5 (rd l i)).f0) ∧ w'.cell? ⟨(adp.add ((rd l i).toNat * 6)).block, (adp.add ((rd l i).toNat * 6)).off + 1, none⟩ = some (.bool (rd_T25 x.f5 (rd l i)).f1) ∧ w'.cell? ⟨(adp.add ((rd l i).toNat * 6)).block, (adp.add ((rd l i).toNat * 6)).off + 2, none⟩ = some (.int .i64 (rd_T25 x.f5 (rd l i)).f2) ∧ w'.cell? ⟨(adp.add ((rd l i).toNat * 6)).block, (adp.add ((rd l i).toNat * 6)).off + 3, none⟩ = some (.string (rd_T25 x.f5 (rd l i)).f3) ∧ w'.cell? ⟨(adp.add ((rd l i).toNat * 6)).block, (adp.add ((rd l i).toNat * 6)).off + 4, none⟩ = some (.slice Ep4 (rd_T25 x.f5 (rd l i)).f4.length ep4) ∧ w'.cell? ⟨(adp.add ((rd l i).toNat * 6)).block, (adp.add ((rd l i).toNat * 6)).off + 5, none⟩ = some (.slice Ep5 (rd_T25 x.f5 (rd l i)).f5.length ep5) ∧ w'.cell? (adq.add (r.toNat * 6)) = some (.int .i64 (rd_T25 y.f5 r).f0) ∧ w'.cell? ⟨(adq.add (r.toNat * 6)).block, (adq.add (r.toNat * 6)).off + 1, none⟩ = some (.bool (rd_T25 y.f5 r).f1) ∧ w'.cell? ⟨(adq.add (r.toNat * 6)).block, (adq.add (r.toNat * 6)).off + 2, none⟩ = some (.int .i64 (rd_T25 y.f5 r).f2) ∧ w'.cell? ⟨(adq.add (r.toNat * 6)).block, (adq.add (r.toNat * 6)).off + 3, none⟩ = some (.string (rd_T25 y.f5 r).f3) ∧ w'.cell? ⟨(adq.add (r.toNat * 6)).block, (adq.add (r.toNat * 6)).off + 4, none⟩ = some (.slice Eq4 (rd_T25 y.f5 r).f4.length eq4) ∧ w'.cell? ⟨(adq.add (r.toNat * 6)).block, (adq.add (r.toNat * 6)).off + 5, none⟩ = some (.slice Eq5 (rd_T25 y.f5 r).f5.length eq5)) [] (fun A => ⟨A, (cA A 2), (cA A 1), (ints_at A.k.1 i Hi0.out Hil.out), ((A.b.cell (World.block_lt_of_cell? w _ Hcp.out.1)).trans Hcp.out.1), ((A.b.cell (World.block_lt_of_cell? w _ Hcp.out.2.1)).trans Hcp.out.2.1), ((A.b.cell (World.block_lt_of_cell? w _ Hcp.out.2.2.1)).trans Hcp.out.2.2.1), ((A.b.cell (World.block_lt_of_cell? w _ Hcp.out.2.2.2.1)).trans Hcp.out.2.2.2.1), ((A.b.cell (World.block_lt_of_cell? w _ Hcp.out.2.2.2.2.1)).trans Hcp.out.2.2.2.2.1), ((A.b.cell (World.block_lt_of_cell? w _ Hcp.out.2.2.2.2.2)).trans Hcp.out.2.2.2.2.2), ((A.b.cell (World.block_lt_of_cell? w _ Hcq.out.1)).trans Hcq.out.1), ((A.b.cell (World.block_lt_of_cell? w _ Hcq.out.2.1)).trans Hcq.out.2.1), ((A.b.cell (World.block_lt_of_cell? w _ Hcq.out.2.2.1)).trans Hcq.out.2.2.1), ((A.b.cell (World.block_lt_of_cell? w _ Hcq.out.2.2.2.1)).trans Hcq.out.2.2.2.1), ((A.b.cell (World.block_lt_of_cell? w _ Hcq.out.2.2.2.2.1)).trans Hcq.out.2.2.2.2.1), ((A.b.cell (World.block_lt_of_cell? w _ Hcq.out.2.2.2.2.2)).trans Hcq.out.2.2.2.2.2)⟩) (fun hHeld => ?_)
    refine pu_ 0 26 1 ?_
    refine pu_ 1 27 3 ?_
    refine pu_ 2 28 7 ?_
    refine pu_ 3 29 15 ?_
    refine pu_ 5 31 47 ?_
    refine pu_ 6 32 111 ?_
    refine pu_ 7 33 239 ?_
    refine pu_ 11 37 2287 ?_
    refine pu_ 13 39 10479 ?_
    refine ta16_ 4 30 10495 hHeld ?_
    refine ta16_ 8 34 10751 hHeld ?_
    refine pu_ 9 35 11263 ?_
    refine ta16_ 10 36 12287 hHeld ?_
    refine ta16_ 12 38 16383 hHeld ?_
    refine pu_ 14 40 32767 ?_
    refine ta16_ 15 41 65535 hHeld ?_
    refine on_ 16 42 131071 (fun K hK => ?_)
    have HE := asd_ (hHeld.1)
    refine ge_ Tryz.func61 #[.agg (#[.int .i64 (rd_T25 x.f5 (rd l i)).f0, .bool (rd_T25 x.f5 (rd l i)).f1, .int .i64 (rd_T25 x.f5 (rd l i)).f2, .string (rd_T25 x.f5 (rd l i)).f3, .slice Ep4 (rd_T25 x.f5 (rd l i)).f4.length ep4, .slice Ep5 (rd_T25 x.f5 (rd l i)).f5.length ep5]), .agg (#[.int .i64 (rd_T25 y.f5 r).f0, .bool (rd_T25 y.f5 r).f1, .int .i64 (rd_T25 y.f5 r).f2, .string (rd_T25 y.f5 r).f3, .slice Eq4 (rd_T25 y.f5 r).f4.length eq4, .slice Eq5 (rd_T25 y.f5 r).f5.length eq5])] ?_
    with_reducible refine (HT.out _ HY1.out _ (HVy.out _ HY2.out) _ _ _ _ _ _ _ _ _ HE.out.b ⟨Kd.C_below HNp.out.2.1 HE.out.b, HNp.out.1, Kd.C_below HNp.out.2.2.2 HE.out.b, HNp.out.2.2.1⟩ ⟨Kd.C_below HNq.out.2.1 HE.out.b, HNq.out.1, Kd.C_below HNq.out.2.2.2 HE.out.b, HNq.out.2.2.1⟩).mono ?_
    rintro e w3 ⟨rb, rfl, hb⟩
    refine ⟨_, rfl, ?_⟩
    have HE0 := At.step HE.out hb
    replace HE := asd_ HE0; clear HE0
    refine hK.out _ _ ⟨HE.out, (cE HE 2), (cE HE 1), (ints_at HE.out.k.1 i Hi0.out Hil.out), ((HE.out.b.cell (World.block_lt_of_cell? w _ Hcp.out.1)).trans Hcp.out.1), ((HE.out.b.cell (World.block_lt_of_cell? w _ Hcp.out.2.1)).trans Hcp.out.2.1), ((HE.out.b.cell (World.block_lt_of_cell? w _ Hcp.out.2.2.1)).trans Hcp.out.2.2.1), ((HE.out.b.cell (World.block_lt_of_cell? w _ Hcp.out.2.2.2.1)).trans Hcp.out.2.2.2.1), ((HE.out.b.cell (World.block_lt_of_cell? w _ Hcp.out.2.2.2.2.1)).trans Hcp.out.2.2.2.2.1), ((HE.out.b.cell (World.block_lt_of_cell? w _ Hcp.out.2.2.2.2.2)).trans Hcp.out.2.2.2.2.2), ((HE.out.b.cell (World.block_lt_of_cell? w _ Hcq.out.1)).trans Hcq.out.1), ((HE.out.b.cell (World.block_lt_of_cell? w _ Hcq.out.2.1)).trans Hcq.out.2.1), ((HE.out.b.cell (World.block_lt_of_cell? w _ Hcq.out.2.2.1)).trans Hcq.out.2.2.1), ((HE.out.b.cell (World.block_lt_of_cell? w _ Hcq.out.2.2.2.1)).trans Hcq.out.2.2.2.1), ((HE.out.b.cell (World.block_lt_of_cell? w _ Hcq.out.2.2.2.2.1)).trans Hcq.out.2.2.2.2.1), ((HE.out.b.cell (World.block_lt_of_cell? w _ Hcq.out.2.2.2.2.2)).trans Hcq.out.2.2.2.2.2)⟩ (fun hHeld => ?_)
    clear hK K
    refine nq_ 42 ?_
    refine pu_ 17 43 262143 ?_
    refine pu_ 18 44 524287 ?_
    refine done_ kr_ ?_
    clear HK; have HK := HE; clear HE
    clear hHeld
    clear bg2 bg3
    have bg2 := cE HK 2
    have bg3 := cE HK 1
    cases rb
    case false =>
     go_wp2_with fail
     go_ret
     exact ⟨_, rfl, be_⟩
    case true =>
     go_wp2_with fail
     go_roundg kk
     case measure => exact Nat.lt_succ_self _
     case rel =>
      exact ⟨wrap64 (i + 1), rfl, by have := Hi0.out; rw [wup Hi0.out Hil.out hll]; omega, by have := Hik.out; rw [wup Hi0.out Hil.out hll]; omega, ⟨at_⟩⟩
set_option maxHeartbeats 4000000 in
set_option maxRecDepth 100000 in
theorem eqs_object (w : World) (x y : S25) (A4 A5 B4 B5 : Option Addr) (c4 c5 d4 d5 : Nat) (hne : (x.f0 != y.f0) = false) (k1 : (x.f0 == 1) = false) (k2 : (x.f0 == 2) = false) (k3 : (x.f0 == 3) = false) (k4 : (x.f0 == 4) = false) (k5 : (x.f0 == 5) = true) (hx : Rep w x A4 c4 A5 c5) (hy : Rep w y B4 d4 B5 d5) (hn4 : x.f4.length ≤ LM) (hm4 : y.f4.length ≤ LM) (hex : x.f4.length = x.f5.length) (hey : y.f4.length = y.f5.length) (hVy : ∀ z ∈ y.f5, V z) (hT : ∀ a ∈ x.f5, ∀ b, V b → ∀ W A4 A5 B4 B5 c4 c5 d4 d5, Below w.heap.size w W → Rep W a A4 c4 A5 c5 → Rep W b B4 d4 B5 d5 → Calls Tryz.prog 61 #[.agg (jvc a A4 A5 c4 c5), .agg (jvc b B4 B5 d4 d5)] W fun e w' => ∃ r : Bool, e = .returned (.bool r) ∧ Below W.heap.size W w') :
  Calls Tryz.prog 61 #[.agg (jvc x A4 A5 c4 c5), .agg (jvc y B4 B5 d4 d5)] w fun e w' => ∃ r : Bool, e = .returned (.bool r) ∧ Below w.heap.size w w' := by
 have Hx := asd_ hx
 have Hy := asd_ hy
 have HVy := asd_ hVy
 have HT := asd_ hT
 have Hex := asd_ hex
 have Hey := asd_ hey
 clear hx hy hVy hT hex hey
 have HK : Aside0 (At w [] w) := asd_ (At.start w)
 go_enter Tryz.func61, Tryz.ntmps61
 go_wp2_with (first | ((with_reducible refine gd_ 2 ?_); refine bx_ (jvc x A4 A5 c4 c5) 25 ?_; clear HK; intro g2 wb2 HK Gg2; have bg2 := cE HK 0) | ((with_reducible refine gd_ 3 ?_); refine bx_ (jvc y B4 B5 d4 d5) 25 ?_; clear HK bg2; intro g3 wb3 HK Gg3; have bg2 := cE HK 1; have bg3 := cE HK 0) | ((with_reducible refine gd_ 65 ?_); refine lo_ 25 2 g2 (jvc x A4 A5 c4 c5) HK.out.k.2.1 Tryz.underlying25 ?_) | ((with_reducible refine gd_ 66 ?_); refine lo_ 25 3 g3 (jvc y B4 B5 d4 d5) HK.out.k.1 Tryz.underlying25 ?_) | ((with_reducible refine gd_ 67 ?_); refine cw_ #[.agg (jvc x A4 A5 c4 c5), .agg (jvc y B4 B5 d4 d5)] Tryz.func114 (bool_form (has_ok _ x y A4 A5 B4 B5 c4 c5 d4 d5 (Hx.out.below HK.out.b) (Hy.out.below HK.out.b) hn4 hm4)) ?_; rintro v67 wc67 HK1 ⟨rb67, rfl⟩ hB; clear hB; replace HK := asd_ HK1; clear HK1; clear bg2 bg3; have bg2 := cE HK 1; have bg3 := cE HK 0; cases rb67) | ((with_reducible refine gd_ 69 ?_); (try (refine gate_guard (by rfl) ?_; dsimp only)); refine lo_ 25 3 g3 (jvc y B4 B5 d4 d5) HK.out.k.1 Tryz.underlying25 ?_) | ((with_reducible refine gd_ 70 ?_); (try (refine gate_guard (by rfl) ?_; dsimp only)); refine lo_ 25 2 g2 (jvc x A4 A5 c4 c5) HK.out.k.2.1 Tryz.underlying25 ?_) | ((with_reducible refine gd_ 71 ?_); (try (refine gate_guard (by rfl) ?_; dsimp only)); refine cw_ #[.agg (jvc y B4 B5 d4 d5), .agg (jvc x A4 A5 c4 c5)] Tryz.func114 (bool_form (has_ok _ y x B4 B5 A4 A5 d4 d5 c4 c5 (Hy.out.below HK.out.b) (Hx.out.below HK.out.b) hm4 hn4)) ?_; rintro v71 wc71 HK1 ⟨rb71, rfl⟩ hB; clear hB; replace HK := asd_ HK1; clear HK1; clear bg2 bg3; have bg2 := cE HK 1; have bg3 := cE HK 0; cases rb71) | ((with_reducible refine gd_ 74 ?_); (try (refine gate_guard (by rfl) ?_; dsimp only)); refine lo_ 25 2 g2 (jvc x A4 A5 c4 c5) HK.out.k.2.1 Tryz.underlying25 ?_) | ((with_reducible refine gd_ 75 ?_); (try (refine gate_guard (by rfl) ?_; dsimp only)); refine lo_ 25 3 g3 (jvc y B4 B5 d4 d5) HK.out.k.1 Tryz.underlying25 ?_) | ((with_reducible refine gd_ 76 ?_); (try (refine gate_guard (by rfl) ?_; dsimp only)); refine cw_ #[.agg (jvc x A4 A5 c4 c5), .agg (jvc y B4 B5 d4 d5)] Tryz.func115 (bool_form (within_any _ x y A4 A5 B4 B5 c4 c5 d4 d5 (Hx.out.below HK.out.b) (Hy.out.below HK.out.b) hn4 hm4 Hex.out Hey.out HVy.out (fun a ha b hb W A4 A5 B4 B5 c4 c5 d4 d5 hbW => HT.out a ha b hb W A4 A5 B4 B5 c4 c5 d4 d5 (below_step HK.out.b hbW)))) ?_; rintro v76 wc76 HK1 ⟨rb76, rfl⟩ hB; clear hB; replace HK := asd_ HK1; clear HK1; clear bg2 bg3; have bg2 := cE HK 1; have bg3 := cE HK 0))
 all_goals go_ret
 all_goals exact ⟨_, rfl, be_⟩
set_option maxHeartbeats 4000000 in
set_option maxRecDepth 100000 in
theorem twins_any (w : World) (A5 : Option Addr) (c5 : Nat) (l : List S25) (hx : Kd.C k25 w A5 l.length l) (hn : l.length ≤ LM)
  (hT : ∀ a ∈ l, ∀ b ∈ l, ∀ W A4 A5 B4 B5 c4 c5 d4 d5, Below w.heap.size w W → Rep W a A4 c4 A5 c5 → Rep W b B4 d4 B5 d5 → Calls Tryz.prog 61 #[.agg (jvc a A4 A5 c4 c5), .agg (jvc b B4 B5 d4 d5)] W fun e w' => ∃ r : Bool, e = .returned (.bool r) ∧ Below W.heap.size W w') :
  Calls Tryz.prog 71 #[.slice A5 l.length c5] w fun e w' => ∃ v, e = .returned v ∧ (∃ i j : Int, v = .tuple #[.int .i64 i, .int .i64 j]) ∧ Below w.heap.size w w' := by
 have Hx := asd_ hx
 have HT := asd_ hT
 clear hx hT
 have HK : Aside0 (At w [] w) := asd_ (At.start w)
 go_enter Tryz.func71, Tryz.ntmps71
 go_wp2_with fail
 go_loopg [4] l.length (fun kq v4 w' => ∃ k : Int, v4 = .int .i64 k ∧ 1 ≤ k ∧ k + kq = l.length + 1 ∧ Aside0 (At w [] w'))
 case atStart => exact ⟨1, rfl, by omega, by omega, ⟨at_⟩⟩
 case round =>
  clear HK
  obtain ⟨k, rfl, hk1, hkk, HK⟩ := hrel
  rcases Int.lt_or_le k l.length with hkl | hkl
  ·obtain ⟨kk, rfl⟩ : ∃ m, gk = m + 1 := ⟨gk - 1, by omega⟩
   have ht0 : decide (k < (l.length : Int)) = true := decide_eq_true hkl
   have Hk1 := asd_ hk1; have Hkk := asd_ hkk; have Hkl := asd_ hkl; clear hk1 hkk hkl
   go_wp2_with fail
   go_loopg [5] k.toNat (fun kq v5 w' => ∃ i : Int, v5 = .int .i64 i ∧ 0 ≤ i ∧ i + kq = k ∧ Aside0 (At w [] w'))
   case atStart => exact ⟨0, rfl, by omega, by have := Hk1.out; omega, ⟨at_⟩⟩
   case round =>
    clear HK
    obtain ⟨i, rfl, hi0, hik, HK⟩ := hrel
    cases gk with
    | zero =>
     have ht : decide (i < k) = false := decide_eq_false (by omega)
     clear hi0 hik
     go_wp2_with fail
     go_roundg kk
     case measure => exact Nat.lt_succ_self _
     case rel =>
      have e1 : wrap64 (k + 1) = k + 1 := wup (by have := Hk1.out; omega) Hkl.out hn
      exact ⟨wrap64 (k + 1), rfl, by have := Hk1.out; rw [e1]; omega, by have := Hkk.out; rw [e1]; omega, ⟨at_⟩⟩
    | succ k2 =>
     have ht : decide (i < k) = true := decide_eq_true (by omega)
     have hil : i < (l.length : Int) := by have := Hkl.out; omega
     have hk0 : 0 ≤ k := by have := Hk1.out; omega
     obtain ⟨adp, Ep4, ep4, Ep5, ep5, eqp, h0p, h1p, h2p, h3p, h4p, h5p, m4, n4, m5, n5⟩ := at_T25 Hx.out i hi0 hil
     subst eqp
     have Hcp := asd_ (And.intro h0p (And.intro h1p (And.intro h2p (And.intro h3p (And.intro h4p h5p))))); have HNp := asd_ (And.intro m4 (And.intro n4 (And.intro m5 n5))); clear m4 n4 m5 n5 h0p h1p h2p h3p h4p h5p
     obtain ⟨adq, Eq4, eq4, Eq5, eq5, eqq, h0q, h1q, h2q, h3q, h4q, h5q, m4, n4, m5, n5⟩ := at_T25 Hx.out k hk0 Hkl.out
     have eqsq := Option.some.inj eqq; rw [← eqsq] at h0q h1q h2q h3q h4q h5q; clear eqq eqsq
     have Hcq := asd_ (And.intro h0q (And.intro h1q (And.intro h2q (And.intro h3q (And.intro h4q h5q))))); have HNq := asd_ (And.intro m4 (And.intro n4 (And.intro m5 n5))); clear m4 n4 m5 n5 h0q h1q h2q h3q h4q h5q
     have HY1 := asd_ (rd_T25_in hi0 hil); have HY2 := asd_ (rd_T25_in hk0 Hkl.out); have Hi0 := asd_ hi0; have Hil := asd_ hil; have Hik := asd_ hik
     have p1 := eq_true hi0; have p2 := eq_true hil; have p3 := eq_true hk0; have p4 := eq_true Hkl.out
     clear hi0 hik hil hk0
     go_wp2_with fail
     refine st_ 9 (fun w' => At w [] w' ∧ w'.cell? (adp.add (i.toNat * 6)) = some (.int .i64 (rd_T25 l i).f0) ∧ w'.cell? ⟨(adp.add (i.toNat * 6)).block, (adp.add (i.toNat * 6)).off + 1, none⟩ = some (.bool (rd_T25 l i).f1) ∧ w'.cell? ⟨(adp.add (i.toNat * 6)).block, (adp.add (i.toNat * 6)).off + 2, none⟩ = some (.int .i64 (rd_T25 l i).f2) ∧ w'.cell? ⟨(adp.add (i.toNat * 6)).block, (adp.add (i.toNat * 6)).off + 3, none⟩ = some (.string (rd_T25 l i).f3) ∧ w'.cell? ⟨(adp.add (i.toNat * 6)).block, (adp.add (i.toNat * 6)).off + 4, none⟩ = some (.slice Ep4 (rd_T25 l i).f4.length ep4) ∧ w'.cell? ⟨(adp.add (i.toNat * 6)).block, (adp.add (i.toNat * 6)).off + 5, none⟩ = some (.slice Ep5 (rd_T25 l i).f5.length ep5) ∧ w'.cell? (adp.add (k.toNat * 6)) = some (.int .i64 (rd_T25 l k).f0) ∧ w'.cell? ⟨(adp.add (k.toNat * 6)).block, (adp.add (k.toNat * 6)).off + 1, none⟩ = some (.bool (rd_T25 l k).f1) ∧ w'.cell? ⟨(adp.add (k.toNat * 6)).block, (adp.add (k.toNat * 6)).off + 2, none⟩ = some (.int .i64 (rd_T25 l k).f2) ∧ w'.cell? ⟨(adp.add (k.toNat * 6)).block, (adp.add (k.toNat * 6)).off + 3, none⟩ = some (.string (rd_T25 l k).f3) ∧ w'.cell? ⟨(adp.add (k.toNat * 6)).block, (adp.add (k.toNat * 6)).off + 4, none⟩ = some (.slice Eq4 (rd_T25 l k).f4.length eq4) ∧ w'.cell? ⟨(adp.add (k.toNat * 6)).block, (adp.add (k.toNat * 6)).off + 5, none⟩ = some (.slice Eq5 (rd_T25 l k).f5.length eq5)) [] (fun A => ⟨A, ((A.b.cell (World.block_lt_of_cell? w _ Hcp.out.1)).trans Hcp.out.1), ((A.b.cell (World.block_lt_of_cell? w _ Hcp.out.2.1)).trans Hcp.out.2.1), ((A.b.cell (World.block_lt_of_cell? w _ Hcp.out.2.2.1)).trans Hcp.out.2.2.1), ((A.b.cell (World.block_lt_of_cell? w _ Hcp.out.2.2.2.1)).trans Hcp.out.2.2.2.1), ((A.b.cell (World.block_lt_of_cell? w _ Hcp.out.2.2.2.2.1)).trans Hcp.out.2.2.2.2.1), ((A.b.cell (World.block_lt_of_cell? w _ Hcp.out.2.2.2.2.2)).trans Hcp.out.2.2.2.2.2), ((A.b.cell (World.block_lt_of_cell? w _ Hcq.out.1)).trans Hcq.out.1), ((A.b.cell (World.block_lt_of_cell? w _ Hcq.out.2.1)).trans Hcq.out.2.1), ((A.b.cell (World.block_lt_of_cell? w _ Hcq.out.2.2.1)).trans Hcq.out.2.2.1), ((A.b.cell (World.block_lt_of_cell? w _ Hcq.out.2.2.2.1)).trans Hcq.out.2.2.2.1), ((A.b.cell (World.block_lt_of_cell? w _ Hcq.out.2.2.2.2.1)).trans Hcq.out.2.2.2.2.1), ((A.b.cell (World.block_lt_of_cell? w _ Hcq.out.2.2.2.2.2)).trans Hcq.out.2.2.2.2.2)⟩) (fun hHeld => ?_)
     refine pu_ 0 17 1 ?_
     refine pu_ 1 18 3 ?_
     refine pu_ 2 19 7 ?_
     refine pu_ 4 21 23 ?_
     refine pu_ 5 22 55 ?_
     refine pu_ 6 23 119 ?_
     refine ta13_ 3 20 127 hHeld ?_
     refine ta13_ 7 24 255 hHeld ?_
     refine on_ 8 25 511 (fun K hK => ?_)
     have HE := asd_ (hHeld.1)
     refine ge_ Tryz.func61 #[.agg (#[.int .i64 (rd_T25 l i).f0, .bool (rd_T25 l i).f1, .int .i64 (rd_T25 l i).f2, .string (rd_T25 l i).f3, .slice Ep4 (rd_T25 l i).f4.length ep4, .slice Ep5 (rd_T25 l i).f5.length ep5]), .agg (#[.int .i64 (rd_T25 l k).f0, .bool (rd_T25 l k).f1, .int .i64 (rd_T25 l k).f2, .string (rd_T25 l k).f3, .slice Eq4 (rd_T25 l k).f4.length eq4, .slice Eq5 (rd_T25 l k).f5.length eq5])] ?_
     with_reducible refine (HT.out _ HY1.out _ HY2.out _ _ _ _ _ _ _ _ _ HE.out.b ⟨Kd.C_below HNp.out.2.1 HE.out.b, HNp.out.1, Kd.C_below HNp.out.2.2.2 HE.out.b, HNp.out.2.2.1⟩ ⟨Kd.C_below HNq.out.2.1 HE.out.b, HNq.out.1, Kd.C_below HNq.out.2.2.2 HE.out.b, HNq.out.2.2.1⟩).mono ?_
     rintro e w3 ⟨rb, rfl, hb⟩
     refine ⟨_, rfl, ?_⟩
     have HE0 := At.step HE.out hb
     replace HE := asd_ HE0; clear HE0
     refine hK.out _ _ ⟨HE.out, ((HE.out.b.cell (World.block_lt_of_cell? w _ Hcp.out.1)).trans Hcp.out.1), ((HE.out.b.cell (World.block_lt_of_cell? w _ Hcp.out.2.1)).trans Hcp.out.2.1), ((HE.out.b.cell (World.block_lt_of_cell? w _ Hcp.out.2.2.1)).trans Hcp.out.2.2.1), ((HE.out.b.cell (World.block_lt_of_cell? w _ Hcp.out.2.2.2.1)).trans Hcp.out.2.2.2.1), ((HE.out.b.cell (World.block_lt_of_cell? w _ Hcp.out.2.2.2.2.1)).trans Hcp.out.2.2.2.2.1), ((HE.out.b.cell (World.block_lt_of_cell? w _ Hcp.out.2.2.2.2.2)).trans Hcp.out.2.2.2.2.2), ((HE.out.b.cell (World.block_lt_of_cell? w _ Hcq.out.1)).trans Hcq.out.1), ((HE.out.b.cell (World.block_lt_of_cell? w _ Hcq.out.2.1)).trans Hcq.out.2.1), ((HE.out.b.cell (World.block_lt_of_cell? w _ Hcq.out.2.2.1)).trans Hcq.out.2.2.1), ((HE.out.b.cell (World.block_lt_of_cell? w _ Hcq.out.2.2.2.1)).trans Hcq.out.2.2.2.1), ((HE.out.b.cell (World.block_lt_of_cell? w _ Hcq.out.2.2.2.2.1)).trans Hcq.out.2.2.2.2.1), ((HE.out.b.cell (World.block_lt_of_cell? w _ Hcq.out.2.2.2.2.2)).trans Hcq.out.2.2.2.2.2)⟩ (fun hHeld => ?_)
     clear hK K
     refine nq_ 25 ?_
     refine done_ kr_ ?_
     clear HK; have HK := HE; clear HE
     clear hHeld
     skip
     cases rb
     case true =>
      go_wp2_with fail
      go_ret2
      exact ⟨_, rfl, ⟨_, _, rfl⟩, be_⟩
     case false =>
      go_wp2_with fail
      go_roundg k2
      case measure => exact Nat.lt_succ_self _
      case rel =>
       have e1 : wrap64 (i + 1) = i + 1 := wup Hi0.out Hil.out hn
       exact ⟨wrap64 (i + 1), rfl, by have := Hi0.out; rw [e1]; omega, by have := Hik.out; rw [e1]; omega, ⟨at_⟩⟩
  ·have ht0 : decide (k < (l.length : Int)) = false := decide_eq_false (by omega)
   clear hk1 hkk hkl
   go_wp2_with fail
   go_ret2
   exact ⟨_, rfl, ⟨_, _, rfl⟩, be_⟩
end Go.Proofs.YtkphbhncpdcbeaaGreatDoor.J
namespace Go.Proofs.YtkphbhncpdcbeaaGreatDoor.J
open Go.RowKit Go.Proofs.YtkphbhncpdcbeaaGreatDoorW.PrintWords Go.Proofs.YtkphbhncpdcbeaaGreatDoorW.PrintLast Go.Proofs.YtkphbhncpdcbeaaGreatDoorW.PrintMore Go.Proofs.YtkphbhncpdcbeaaGreatDoor.PJT
theorem V.sub_ {x : S25} (h : V x) : ∀ y ∈ x.f5, V y := by
 obtain ⟨k0, k5, k2, n3, n4, n5, t4, ee, sub⟩ := h
 exact sub
theorem bq_t {a b : Int} (h : a = b) : (a == b) = true := by simp [h]
theorem bq_f {a b : Int} (h : a ≠ b) : (a == b) = false := by simp [h]
theorem eq_any {x : S25} (hV : V x) : ∀ (y : S25), V y → ∀ (w : World) (A4 A5 B4 B5 : Option Addr) (c4 c5 d4 d5 : Nat), Rep w x A4 c4 A5 c5 → Rep w y B4 d4 B5 d5 →
  Calls Tryz.prog 61 #[.agg (jvc x A4 A5 c4 c5), .agg (jvc y B4 B5 d4 d5)] w fun e w' => ∃ r : Bool, e = .returned (.bool r) ∧ Below w.heap.size w w' := by
 induction hV with
 | @mk x k0 k5 k2 n3 n4 n5 t4 ee sub ih =>
  intro y hy w A4 A5 B4 B5 c4 c5 d4 d5 hx hyr
  have hys := hy.sub_
  obtain ⟨j0, j5, j2, m3, m4, m5, s4, ff, _⟩ := hy
  have hT : ∀ a ∈ x.f5, ∀ b, V b → ∀ W A4 A5 B4 B5 c4 c5 d4 d5, Below w.heap.size w W → Rep W a A4 c4 A5 c5 → Rep W b B4 d4 B5 d5 → Calls Tryz.prog 61 #[.agg (jvc a A4 A5 c4 c5), .agg (jvc b B4 B5 d4 d5)] W fun e w' => ∃ r : Bool, e = .returned (.bool r) ∧ Below W.heap.size W w' :=
   fun a ha b hb W A4 A5 B4 B5 c4 c5 d4 d5 _ h1 h2 => ih a ha b hb W A4 A5 B4 B5 c4 c5 d4 d5 h1 h2
  by_cases he : x.f0 = y.f0
  ·have hne : (x.f0 != y.f0) = false := by simp [he]
   have hk : x.f0 = 0 ∨ x.f0 = 1 ∨ x.f0 = 3 ∨ x.f0 = 4 ∨ x.f0 = 5 := by omega
   rcases hk with h | h | h | h | h
   ·exact eqs_null w x y A4 A5 B4 B5 c4 c5 d4 d5 hne (bq_f (by omega)) (bq_f (by omega)) (bq_f (by omega)) (bq_f (by omega)) (bq_f (by omega))
   ·exact eqs_bool w x y A4 A5 B4 B5 c4 c5 d4 d5 hne (bq_t h)
   ·exact eqs_text w x y A4 A5 B4 B5 c4 c5 d4 d5 hne (bq_f (by omega)) (bq_f (by omega)) (bq_t h)
   ·by_cases hl : x.f5.length = y.f5.length
    ·exact eqs_array w x y A4 A5 B4 B5 c4 c5 d4 d5 hne (bq_f (by omega)) (bq_f (by omega)) (bq_f (by omega)) (bq_t h) hx hyr n5 hl hys hT
    ·exact eqs_len w x y A4 A5 B4 B5 c4 c5 d4 d5 hne (bq_f (by omega)) (bq_f (by omega)) (bq_f (by omega)) (bq_t h) (by simp only [bne_iff_ne, ne_eq]; omega)
   ·exact eqs_object w x y A4 A5 B4 B5 c4 c5 d4 d5 hne (bq_f (by omega)) (bq_f (by omega)) (bq_f (by omega)) (bq_f (by omega)) (bq_t h) hx hyr n4 m4 (ee h) (ff (by omega)) hys hT
  ·exact eqs_ne w x y A4 A5 B4 B5 c4 c5 d4 d5 (by simp [he])
theorem twins_ok (w : World) {x : S25} (hV : V x) {A4 A5 : Option Addr} {c4 c5 : Nat} (hx : Rep w x A4 c4 A5 c5) :
  Calls Tryz.prog 71 #[.slice A5 x.f5.length c5] w fun e w' => ∃ v, e = .returned v ∧ (∃ i j : Int, v = .tuple #[.int .i64 i, .int .i64 j]) ∧ Below w.heap.size w w' := by
 have hs := hV.sub_
 obtain ⟨k0, k5, k2, n3, n4, n5, t4, ee, sub⟩ := hV
 exact twins_any w A5 c5 x.f5 hx.h5 n5 (fun a ha b hb W A4 A5 B4 B5 c4 c5 d4 d5 _ h1 h2 => eq_any (hs a ha) b (hs b hb) W A4 A5 B4 B5 c4 c5 d4 d5 h1 h2)
end Go.Proofs.YtkphbhncpdcbeaaGreatDoor.J
namespace Go.Proofs.YtkphbhncpdcbeaaGreatDoor.J
open Go.RowKit Go.Proofs.YtkphbhncpdcbeaaGreatDoorW.PrintWords Go.Proofs.YtkphbhncpdcbeaaGreatDoorW.PrintLast Go.Proofs.YtkphbhncpdcbeaaGreatDoorW.PrintMore Go.Proofs.YtkphbhncpdcbeaaGreatDoor.PJT
attribute [local go_sem] Nd.csize Sc.csize Nd.c0 Nd.c1 Nd.c2 Nd.c3 Nd.c4 Nd.c5 Nd.c6 Nd.c7 Nd.c8 Nd.c9 Nd.c10 Nd.c11 Nd.c12 Nd.c13 Nd.c14 Nd.c15 Nd.c16 Nd.c17 Nd.c18 Nd.c19 Nd.c20 Nd.c21 Nd.c22 Nd.c23 Nd.c24 Nd.c25 Nd.c26 Nd.c27 Nd.c28 Nd.c29 Nd.c30 Nd.c31 Nd.c32 Nd.c33 Nd.c34 Nd.c35 Nd.c36 Nd.c37 Nd.c38 Nd.c39 Nd.c40 Nd.c41 Nd.c42 Nd.c43 Nd.c44 Nd.c45 Nd.c46 Nd.c47 Nd.c48 Nd.c49 Nd.c50 Nd.c51 Nd.c52 Sc.c0 Sc.c1 Sc.c2 Sc.c3 Sc.c4 Sc.c5 Sc.c6 Sc.c7 Sc.c8 Sc.c9 Sc.c10 Sc.c11 Sc.c12 Sc.c13 Sc.c14 Sc.c15 Sc.c16 Sc.c17 Sc.c18 Sc.c19 Sc.c20 Sc.c21 Sc.c22 Sc.c23 Sc.c24 Sc.c25 Sc.c26 Sc.c27 Sc.c28 Sc.c29 Sc.c30 Sc.c31 Sc.c32 Sc.c33 Sc.c34 Sc.c35 Sc.c36 Sc.c37 Sc.c38 Sc.c39 Sc.c40 Sc.c41 Sc.c42 Sc.c43 Sc.c44 Sc.c45 Sc.c46 Sc.c47 Sc.c48 Sc.c49 Sc.c50 Sc.c51 Sc.c52
set_option linter.unusedVariables false
set_option linter.unusedSimpArgs false
theorem At.top2 {w W : World} {F : Fact} {l : List Blk} (h : At w (.f F :: l) W) : F.P W := h.k.1
theorem strs_D {W : World} {A : Option Addr} {n c : Nat} {xs : List ByteArray} (h : (Fact.strs (.slice A n c) xs).P W) : Kd.C Kd.string W A xs.length xs := (R_C (show Kd.R Kd.string 9 W 0 _ (.slice A n c) xs from h)).2.2
theorem strs_E {W : World} {A : Option Addr} {n c : Nat} {xs : List ByteArray} (h : (Fact.strs (.slice A n c) xs).P W) : xs.length ≤ c := (R_C (show Kd.R Kd.string 9 W 0 _ (.slice A n c) xs from h)).2.1
theorem lacks_ok (w : World) (x : S25) (A4 A5 A : Option Addr) (c4 c5 c : Nat) (names ms : List ByteArray) (hx : Rep w x A4 c4 A5 c5) (hr : Kd.C Kd.string w A names.length names) (hc : names.length ≤ c) (hn4 : x.f4.length ≤ LM) (hn : names.length ≤ LM) (hms : lacks x.f4 names = ms) :
  Calls Tryz.prog 125 #[.agg (jvc x A4 A5 c4 c5), .slice A names.length c] w fun e w' => ∃ v, e = .returned v ∧ (∃ A' c', v = .slice A' ms.length c' ∧ (Fact.strs (.slice A' ms.length c') ms).P w') ∧ Below w.heap.size w w' := by
 subst hms
 obtain ⟨k, hk⟩ := lacks_is x.f0 x.f1 x.f2 x.f3 x.f4 x.f5 names hn4 hn
 refine (spec_jLacks.calls k x.f0 x.f1 x.f2 x.f3 A4 c4 x.f4 A5 c5 x.f5 A c names _ w hx.h4 hx.l4 hx.h5 hx.l5 hr hc hk).mono ?_
 rintro e w' ⟨v, rfl, hR, hb⟩
 obtain ⟨A', c', rfl, _⟩ := Kd.R_reads hR
 exact ⟨_, rfl, ⟨A', c', rfl, Kd.R_lower hR (Nat.zero_le _)⟩, hb⟩
theorem same_ok (w : World) (xs : List ByteArray) (A A' : Option Addr) (c c' : Nat) (h : Kd.C Kd.string w A xs.length xs) (hc : xs.length ≤ c) (h' : Kd.C Kd.string w A' xs.length xs) (hc' : xs.length ≤ c') (hn : xs.length ≤ LM) :
  Calls Tryz.prog 121 #[.slice A xs.length c, .slice A' xs.length c'] w fun e w' => e = .returned (.bool true) ∧ Below w.heap.size w w' := by
 obtain ⟨k, hk⟩ := same_is xs hn
 exact (spec_jSameNames.calls k A c xs A' c' xs true w h hc h' hc' hk).mono (fun e w' h => ⟨h.1, h.2.below⟩)
set_option maxHeartbeats 4000000 in
set_option maxRecDepth 100000 in
theorem or_req (w : World) (A : Option Addr) (c : Nat) (wanted : List ByteArray) (x : S25) (A4 A5 : Option Addr) (c4 c5 : Nat) (loc tx : ByteArray) (Ap Aa An : Option Addr) (np cp ca cn : Nat) (m0 : ByteArray) (mt : List ByteArray) (k5 : (x.f0 != 5) = false) (hx : Rep w x A4 c4 A5 c5) (hn4 : x.f4.length ≤ LM) (hr : Kd.C Kd.string w A wanted.length wanted) (hc : wanted.length ≤ c) (hn : wanted.length ≤ LM) (hN : Kd.C Kd.string w An (m0 :: mt).length (m0 :: mt)) (hcn : (m0 :: mt).length ≤ cn) (hnl : (m0 :: mt).length ≤ LM) (hpos : decide (0 < ((m0 :: mt).length : Int)) = true) (hms : lacks x.f4 wanted = (m0 :: mt)) : Calls Tryz.prog 84 #[.agg (Nd.cells ⟨0, false, nilS, nilS, false, nilS, false, nilS, .slice A wanted.length c, nilS⟩), .agg (jvc x A4 A5 c4 c5), .agg #[.string loc, .string ⟨#[82, 101, 113, 117, 105, 114, 101, 100]⟩, .slice Ap np cp, .slice Aa 0 ca, .string tx, .slice An (m0 :: mt).length cn, nilS, nilS]] w fun e w' => e = .returned (.bool true) ∧ Below w.heap.size w w' := by
 obtain ⟨km, l, hkm, _, _⟩ := members_all x hn4
 have Hx := asd_ hx
 have Hr := asd_ hr
 have Hn := asd_ hN
 have Hms := asd_ hms
 clear hx hr hN hms
 have HK : Aside0 (At w [] w) := asd_ (At.start w)
 go_enter Tryz.func84, Tryz.ntmps84
 go_wp2_with (first | ((with_reducible refine gd_ 3 ?_); refine bx_ (Nd.cells ⟨0, false, nilS, nilS, false, nilS, false, nilS, .slice A wanted.length c, nilS⟩) 45 ?_; clear HK; intro g3 wb3 HK Gg3; have bg3 := cE HK 0) | ((with_reducible refine gd_ 4 ?_); refine bx_ (jvc x A4 A5 c4 c5) 25 ?_; clear HK bg3; intro g4 wb4 HK Gg4; have bg3 := cE HK 1; have bg4 := cE HK 0) | ((with_reducible refine gd_ 5 ?_); refine bx_ (#[.string loc, .string ⟨#[82, 101, 113, 117, 105, 114, 101, 100]⟩, .slice Ap np cp, .slice Aa 0 ca, .string tx, .slice An (m0 :: mt).length cn, nilS, nilS]) 54 ?_; clear HK bg3 bg4; intro g5 wb5 HK Gg5; have bg3 := cE HK 2; have bg4 := cE HK 1; have bg5 := cE HK 0) | ((with_reducible refine gd_ 10 ?_); refine lo_ 25 4 g4 (jvc x A4 A5 c4 c5) HK.out.k.2.1 Tryz.underlying25 ?_) | ((with_reducible refine gd_ 11 ?_); refine cw_ #[.agg (jvc x A4 A5 c4 c5)] Tryz.func74 (members_ok _ x A4 A5 c4 c5 l km (Hx.out.below HK.out.b) hkm) ?_; rintro v11 wc11 HK1 ⟨Al, cl, rfl, hF⟩ hB; clear hF hB; replace HK := asd_ HK1; clear HK1; clear bg3 bg4 bg5; have bg3 := cE HK 2; have bg4 := cE HK 1; have bg5 := cE HK 0))
 refine st_ 14 (fun w' => At w [.b g5 (row (#[.string loc, .string ⟨#[82, 101, 113, 117, 105, 114, 101, 100]⟩, .slice Ap np cp, .slice Aa 0 ca, .string tx, .slice An (m0 :: mt).length cn, nilS, nilS]) 54), .b g4 (row (jvc x A4 A5 c4 c5) 25), .b g3 (row (Nd.cells ⟨0, false, nilS, nilS, false, nilS, false, nilS, .slice A wanted.length c, nilS⟩) 45)] w' ∧ (∀ j, w'.cell? ⟨g3, j, none⟩ = (Nd.cells ⟨0, false, nilS, nilS, false, nilS, false, nilS, .slice A wanted.length c, nilS⟩ : Array Value)[j]?) ∧ (∀ j, w'.cell? ⟨g4, j, none⟩ = (jvc x A4 A5 c4 c5 : Array Value)[j]?) ∧ (∀ j, w'.cell? ⟨g5, j, none⟩ = (#[.string loc, .string ⟨#[82, 101, 113, 117, 105, 114, 101, 100]⟩, .slice Ap np cp, .slice Aa 0 ca, .string tx, .slice An (m0 :: mt).length cn, nilS, nilS] : Array Value)[j]?)) [] (fun A => ⟨A, (cA A 2), (cA A 1), (cA A 0)⟩) (fun hHeld => ?_)
 refine pu_ 0 70 1 ?_
 refine ta4_ 1 71 3 hHeld ?_
 refine pu_ 2 72 7 ?_
 refine pu_ 3 73 15 ?_
 refine pu_ 4 74 31 ?_
 refine pu_ 5 75 63 ?_
 refine pu_ 8 78 319 ?_
 refine ta4_ 6 76 383 hHeld ?_
 refine ta4_ 9 79 895 hHeld ?_
 refine on_ 7 77 1023 (fun K hK => ?_)
 refine loadr_ (ty := 25) (x := .tmp 4) g4 (jvc x A4 A5 c4 c5) (by rfl) rfl rfl rfl hHeld.1.k.2.1 Tryz.underlying25 rfl kr_ ?_
 refine hK.out _ _ ⟨hHeld.1, hHeld.2.1, hHeld.2.2.1, hHeld.2.2.2⟩ (fun hHeld => ?_)
 clear hK K
 refine nq_ 77 ?_
 refine on_ 10 80 2047 (fun K hK => ?_)
 have HE := asd_ (hHeld.1)
 refine ge_ Tryz.func125 #[.agg (jvc x A4 A5 c4 c5), .slice A wanted.length c] ?_
 with_reducible refine (lacks_ok _ x A4 A5 A c4 c5 c wanted (m0 :: mt) (Hx.out.below HE.out.b) (Kd.C_below Hr.out HE.out.b) hc hn4 hn Hms.out).mono ?_
 rintro e w3 ⟨v, rfl, ⟨Av, cv, rfl, hF⟩, hb⟩
 refine ⟨_, rfl, ?_⟩
 have HE0 := At.step HE.out hb
 have HE1 := asd_ (At.fact (Fact.strs (.slice Av (m0 :: mt).length cv) (m0 :: mt)) HE0 hF)
 clear hF
 clear HE0
 clear HE; have HE := HE1; clear HE1
 refine hK.out _ _ ⟨HE.out.drop, (cel_ HE.out.drop.k.2.2.1), (cel_ HE.out.drop.k.2.1), (cel_ HE.out.drop.k.1)⟩ (fun hHeld => ?_)
 clear hK K
 refine nq_ 80 ?_
 refine on_ 11 81 4095 (fun K hK => ?_)
 refine ge_ Tryz.func121 #[.slice An (m0 :: mt).length cn, .slice Av (m0 :: mt).length cv] ?_
 with_reducible refine (same_ok _ (m0 :: mt) An Av cn cv (Kd.C_below Hn.out HE.out.b) hcn (strs_D HE.out.top2) (strs_E HE.out.top2) hnl).mono ?_
 rintro e w3 ⟨rfl, hb⟩
 refine ⟨_, rfl, ?_⟩
 replace HE := asd_ (At.step HE.out hb)
 refine hK.out _ _ ⟨HE.out.drop, (cel_ HE.out.drop.k.2.2.1), (cel_ HE.out.drop.k.2.1), (cel_ HE.out.drop.k.1)⟩ (fun hHeld => ?_)
 clear hK K
 refine nq_ 81 ?_
 refine pu_ 12 82 8191 ?_
 refine pu_ 13 6 16383 ?_
 refine done_ kr_ ?_
 clear HK; have HK := HE; clear HE
 clear hHeld
 clear bg3 bg4 bg5
 have bg3 := cE HK 3
 have bg4 := cE HK 2
 have bg5 := cE HK 1
 go_wp2_with fail
 go_ret
 exact ⟨by first | rfl | simp, be_⟩
set_option maxHeartbeats 4000000 in
set_option maxRecDepth 100000 in
theorem or_dep (w : World) (A : Option Addr) (c : Nat) (wanted : List ByteArray) (x : S25) (A4 A5 : Option Addr) (c4 c5 : Nat) (loc tx : ByteArray) (Ap Aa An : Option Addr) (np cp ca cn : Nat) (m0 : ByteArray) (mt : List ByteArray) (k5 : (x.f0 != 5) = false) (hx : Rep w x A4 c4 A5 c5) (hn4 : x.f4.length ≤ LM) (hr : Kd.C Kd.string w A wanted.length wanted) (hc : wanted.length ≤ c) (hn : wanted.length ≤ LM) (hN : Kd.C Kd.string w An (m0 :: mt).length (m0 :: mt)) (hcn : (m0 :: mt).length ≤ cn) (hnl : (m0 :: mt).length ≤ LM) (hpos : decide (0 < ((m0 :: mt).length : Int)) = true) (hms : lacks x.f4 wanted = (m0 :: mt)) (gq cq : Nat) (hq : w.heap[gq]? = some (row (#[.string tx, .slice A wanted.length c]) 47)) (r : Int) (hrr : ∀ k, x.f4.length < k → spec_JMember.f k x.f0 x.f1 x.f2 x.f3 x.f4 x.f5 tx = some r) (hr0 : decide (0 ≤ r) = true) : Calls Tryz.prog 84 #[.agg (Nd.cells ⟨0, false, nilS, nilS, false, nilS, false, nilS, nilS, .slice (some ⟨gq, 0, none⟩) 1 cq⟩), .agg (jvc x A4 A5 c4 c5), .agg #[.string loc, .string ⟨#[68, 101, 112, 101, 110, 100, 101, 110, 116, 82, 101, 113, 117, 105, 114, 101, 100]⟩, .slice Ap np cp, .slice Aa 0 ca, .string tx, .slice An (m0 :: mt).length cn, nilS, nilS]] w fun e w' => e = .returned (.bool true) ∧ Below w.heap.size w w' := by
 obtain ⟨km, l, hkm, _, _⟩ := members_all x hn4
 have Hx := asd_ hx
 have Hr := asd_ hr
 have Hn := asd_ hN
 have Hms := asd_ hms
 clear hx hr hN hms
 have HK : Aside0 (At w [] w) := asd_ (At.start w)
 go_enter Tryz.func84, Tryz.ntmps84
 have bgq := cel_ (blk_below hq HK.out.b)
 go_wp2_with (first | ((with_reducible refine gd_ 3 ?_); refine bx_ (Nd.cells ⟨0, false, nilS, nilS, false, nilS, false, nilS, nilS, .slice (some ⟨gq, 0, none⟩) 1 cq⟩) 45 ?_; clear HK bgq; intro g3 wb3 HK Gg3; have bg3 := cE HK 0; have bgq := cel_ (blk_below hq HK.out.b)) | ((with_reducible refine gd_ 4 ?_); refine bx_ (jvc x A4 A5 c4 c5) 25 ?_; clear HK bg3 bgq; intro g4 wb4 HK Gg4; have bg3 := cE HK 1; have bg4 := cE HK 0; have bgq := cel_ (blk_below hq HK.out.b)) | ((with_reducible refine gd_ 5 ?_); refine bx_ (#[.string loc, .string ⟨#[68, 101, 112, 101, 110, 100, 101, 110, 116, 82, 101, 113, 117, 105, 114, 101, 100]⟩, .slice Ap np cp, .slice Aa 0 ca, .string tx, .slice An (m0 :: mt).length cn, nilS, nilS]) 54 ?_; clear HK bg3 bg4 bgq; intro g5 wb5 HK Gg5; have bg3 := cE HK 2; have bg4 := cE HK 1; have bg5 := cE HK 0; have bgq := cel_ (blk_below hq HK.out.b)) | ((with_reducible refine gd_ 10 ?_); refine lo_ 25 4 g4 (jvc x A4 A5 c4 c5) HK.out.k.2.1 Tryz.underlying25 ?_) | ((with_reducible refine gd_ 11 ?_); refine cw_ #[.agg (jvc x A4 A5 c4 c5)] Tryz.func74 (members_ok _ x A4 A5 c4 c5 l km (Hx.out.below HK.out.b) hkm) ?_; rintro v11 wc11 HK1 ⟨Al, cl, rfl, hF⟩ hB; clear hF hB; replace HK := asd_ HK1; clear HK1; clear bg3 bg4 bg5 bgq; have bg3 := cE HK 2; have bg4 := cE HK 1; have bg5 := cE HK 0; have bgq := cel_ (blk_below hq HK.out.b)))
 refine wp_loop_two ?_
 go_wp2_with fail
 refine st_ 9 (fun w' => At w [.b g5 (row (#[.string loc, .string ⟨#[68, 101, 112, 101, 110, 100, 101, 110, 116, 82, 101, 113, 117, 105, 114, 101, 100]⟩, .slice Ap np cp, .slice Aa 0 ca, .string tx, .slice An (m0 :: mt).length cn, nilS, nilS]) 54), .b g4 (row (jvc x A4 A5 c4 c5) 25), .b g3 (row (Nd.cells ⟨0, false, nilS, nilS, false, nilS, false, nilS, nilS, .slice (some ⟨gq, 0, none⟩) 1 cq⟩) 45)] w' ∧ (∀ j, w'.cell? ⟨g3, j, none⟩ = (Nd.cells ⟨0, false, nilS, nilS, false, nilS, false, nilS, nilS, .slice (some ⟨gq, 0, none⟩) 1 cq⟩ : Array Value)[j]?) ∧ (∀ j, w'.cell? ⟨g4, j, none⟩ = (jvc x A4 A5 c4 c5 : Array Value)[j]?) ∧ (∀ j, w'.cell? ⟨g5, j, none⟩ = (#[.string loc, .string ⟨#[68, 101, 112, 101, 110, 100, 101, 110, 116, 82, 101, 113, 117, 105, 114, 101, 100]⟩, .slice Ap np cp, .slice Aa 0 ca, .string tx, .slice An (m0 :: mt).length cn, nilS, nilS] : Array Value)[j]?) ∧ (∀ j, w'.cell? ⟨gq, j, none⟩ = (#[.string tx, .slice A wanted.length c] : Array Value)[j]?)) [] (fun A => ⟨A, (cA A 2), (cA A 1), (cA A 0), (cel_ (blk_below hq A.b))⟩) (fun hHeld => ?_)
 refine pu_ 0 113 1 ?_
 refine pu_ 2 115 5 ?_
 refine pu_ 6 119 69 ?_
 refine ta5_ 1 114 71 hHeld ?_
 refine pu_ 3 116 79 ?_
 refine pu_ 4 117 95 ?_
 refine ta5_ 5 118 127 hHeld ?_
 refine ta5_ 7 120 255 hHeld ?_
 refine pu_ 8 121 511 ?_
 refine done_ kr_ ?_
 clear HK; have HK := asd_ hHeld.1
 clear hHeld
 clear bg3 bg4 bg5 bgq
 have bg3 := cE HK 2
 have bg4 := cE HK 1
 have bg5 := cE HK 0
 have bgq := cel_ (blk_below hq HK.out.b)
 go_wp2_with fail
 refine st_ 25 (fun w' => At w [.b g5 (row (#[.string loc, .string ⟨#[68, 101, 112, 101, 110, 100, 101, 110, 116, 82, 101, 113, 117, 105, 114, 101, 100]⟩, .slice Ap np cp, .slice Aa 0 ca, .string tx, .slice An (m0 :: mt).length cn, nilS, nilS]) 54), .b g4 (row (jvc x A4 A5 c4 c5) 25), .b g3 (row (Nd.cells ⟨0, false, nilS, nilS, false, nilS, false, nilS, nilS, .slice (some ⟨gq, 0, none⟩) 1 cq⟩) 45)] w' ∧ (∀ j, w'.cell? ⟨g3, j, none⟩ = (Nd.cells ⟨0, false, nilS, nilS, false, nilS, false, nilS, nilS, .slice (some ⟨gq, 0, none⟩) 1 cq⟩ : Array Value)[j]?) ∧ (∀ j, w'.cell? ⟨g4, j, none⟩ = (jvc x A4 A5 c4 c5 : Array Value)[j]?) ∧ (∀ j, w'.cell? ⟨g5, j, none⟩ = (#[.string loc, .string ⟨#[68, 101, 112, 101, 110, 100, 101, 110, 116, 82, 101, 113, 117, 105, 114, 101, 100]⟩, .slice Ap np cp, .slice Aa 0 ca, .string tx, .slice An (m0 :: mt).length cn, nilS, nilS] : Array Value)[j]?) ∧ (∀ j, w'.cell? ⟨gq, j, none⟩ = (#[.string tx, .slice A wanted.length c] : Array Value)[j]?)) [] (fun A => ⟨A, (cA A 2), (cA A 1), (cA A 0), (cel_ (blk_below hq A.b))⟩) (fun hHeld => ?_)
 refine pu_ 1 123 2 ?_
 refine ta5_ 2 124 6 hHeld ?_
 refine on_ 0 122 7 (fun K hK => ?_)
 refine loadr_ (ty := 25) (x := .tmp 4) g4 (jvc x A4 A5 c4 c5) (by rfl) rfl rfl rfl hHeld.1.k.2.1 Tryz.underlying25 rfl kr_ ?_
 refine hK.out _ _ ⟨hHeld.1, hHeld.2.1, hHeld.2.2.1, hHeld.2.2.2.1, hHeld.2.2.2.2⟩ (fun hHeld => ?_)
 clear hK K
 refine nq_ 122 ?_
 refine on_ 3 125 15 (fun K hK => ?_)
 have HE := asd_ (hHeld.1)
 refine ge_ Tryz.func65 #[.agg (jvc x A4 A5 c4 c5), .string tx] ?_
 with_reducible refine (member_ok _ x A4 A5 c4 c5 tx r (Hx.out.below HE.out.b) hrr).mono ?_
 rintro e w3 ⟨rfl, hb⟩
 refine ⟨_, rfl, ?_⟩
 replace HE := asd_ (At.step HE.out hb)
 refine hK.out _ _ ⟨HE.out, (cE HE 2), (cE HE 1), (cE HE 0), (cel_ (blk_below hq HE.out.b))⟩ (fun hHeld => ?_)
 clear hK K
 refine nq_ 125 ?_
 refine pu_ 4 126 31 ?_
 refine pu_ 5 127 63 ?_
 refine pu_ 6 128 127 ?_
 refine ta5_ 7 129 255 hHeld ?_
 refine pu_ 8 130 511 ?_
 refine pu_ 9 131 1023 ?_
 refine pu_ 10 132 2047 ?_
 refine pu_ 11 133 4095 ?_
 refine pu_ 12 134 8191 ?_
 refine pu_ 15 137 40959 ?_
 refine pu_ 17 139 172031 ?_
 refine ta5_ 13 135 180223 hHeld ?_
 refine ta5_ 16 138 245759 hHeld ?_
 refine pu_ 18 140 507903 ?_
 refine pu_ 19 141 1032191 ?_
 refine ta5_ 20 142 2080767 hHeld ?_
 refine on_ 14 136 2097151 (fun K hK => ?_)
 refine loadr_ (ty := 25) (x := .tmp 4) g4 (jvc x A4 A5 c4 c5) (by rfl) rfl rfl rfl HE.out.k.2.1 Tryz.underlying25 rfl kr_ ?_
 refine hK.out _ _ ⟨hHeld.1, hHeld.2.1, hHeld.2.2.1, hHeld.2.2.2.1, hHeld.2.2.2.2⟩ (fun hHeld => ?_)
 clear hK K
 refine nq_ 136 ?_
 refine on_ 21 143 4194303 (fun K hK => ?_)
 refine ge_ Tryz.func125 #[.agg (jvc x A4 A5 c4 c5), .slice A wanted.length c] ?_
 with_reducible refine (lacks_ok _ x A4 A5 A c4 c5 c wanted (m0 :: mt) (Hx.out.below HE.out.b) (Kd.C_below Hr.out HE.out.b) hc hn4 hn Hms.out).mono ?_
 rintro e w3 ⟨v, rfl, ⟨Av, cv, rfl, hF⟩, hb⟩
 refine ⟨_, rfl, ?_⟩
 have HE0 := At.step HE.out hb
 have HE1 := asd_ (At.fact (Fact.strs (.slice Av (m0 :: mt).length cv) (m0 :: mt)) HE0 hF)
 clear hF
 clear HE0
 clear HE; have HE := HE1; clear HE1
 refine hK.out _ _ ⟨HE.out.drop, (cel_ HE.out.drop.k.2.2.1), (cel_ HE.out.drop.k.2.1), (cel_ HE.out.drop.k.1), (cel_ (blk_below hq HE.out.drop.b))⟩ (fun hHeld => ?_)
 clear hK K
 refine nq_ 143 ?_
 refine on_ 22 144 8388607 (fun K hK => ?_)
 refine ge_ Tryz.func121 #[.slice An (m0 :: mt).length cn, .slice Av (m0 :: mt).length cv] ?_
 with_reducible refine (same_ok _ (m0 :: mt) An Av cn cv (Kd.C_below Hn.out HE.out.b) hcn (strs_D HE.out.top2) (strs_E HE.out.top2) hnl).mono ?_
 rintro e w3 ⟨rfl, hb⟩
 refine ⟨_, rfl, ?_⟩
 replace HE := asd_ (At.step HE.out hb)
 refine hK.out _ _ ⟨HE.out.drop, (cel_ HE.out.drop.k.2.2.1), (cel_ HE.out.drop.k.2.1), (cel_ HE.out.drop.k.1), (cel_ (blk_below hq HE.out.drop.b))⟩ (fun hHeld => ?_)
 clear hK K
 refine nq_ 144 ?_
 refine pu_ 23 145 16777215 ?_
 refine pu_ 24 6 33554431 ?_
 refine done_ kr_ ?_
 clear HK; have HK := HE; clear HE
 clear hHeld
 clear bg3 bg4 bg5 bgq
 have bg3 := cE HK 3
 have bg4 := cE HK 2
 have bg5 := cE HK 1
 have bgq := cel_ (blk_below hq HK.out.b)
 go_wp2_with fail
 go_ret
 exact ⟨by first | rfl | simp, be_⟩
end Go.Proofs.YtkphbhncpdcbeaaGreatDoor.J
