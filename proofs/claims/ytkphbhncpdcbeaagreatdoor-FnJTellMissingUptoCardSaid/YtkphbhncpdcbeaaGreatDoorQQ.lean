/- Part of a proof. -/
import Derived.Test.YtkphbhncpdcbeaaGreatDoorQP
import Derived.Test.YtkphbhncpdcbeaaGreatDoorQE
import Derived.Test.YtkphbhncpdcbeaaGreatDoorQF
import Derived.Test.YtkphbhncpdcbeaaGreatDoorQG
namespace Go.Proofs.YtkphbhncpdcbeaaGreatDoor.J
open Go.RowKit Go.Proofs.YtkphbhncpdcbeaaGreatDoorW.PrintWords Go.Proofs.YtkphbhncpdcbeaaGreatDoorW.PrintLast Go.Proofs.YtkphbhncpdcbeaaGreatDoorW.PrintMore Go.Proofs.YtkphbhncpdcbeaaGreatDoor.PJT
attribute [local go_sem] Nd.csize Sc.csize Nd.c0 Nd.c1 Nd.c2 Nd.c3 Nd.c4 Nd.c5 Nd.c6 Nd.c7 Nd.c8 Nd.c9 Nd.c10 Nd.c11 Nd.c12 Nd.c13 Nd.c14 Nd.c15 Nd.c16 Nd.c17 Nd.c18 Nd.c19 Nd.c20 Nd.c21 Nd.c22 Nd.c23 Nd.c24 Nd.c25 Nd.c26 Nd.c27 Nd.c28 Nd.c29 Nd.c30 Nd.c31 Nd.c32 Nd.c33 Nd.c34 Nd.c35 Nd.c36 Nd.c37 Nd.c38 Nd.c39 Nd.c40 Nd.c41 Nd.c42 Nd.c43 Nd.c44 Nd.c45 Nd.c46 Nd.c47 Nd.c48 Nd.c49 Nd.c50 Nd.c51 Nd.c52 Sc.c0 Sc.c1 Sc.c2 Sc.c3 Sc.c4 Sc.c5 Sc.c6 Sc.c7 Sc.c8 Sc.c9 Sc.c10 Sc.c11 Sc.c12 Sc.c13 Sc.c14 Sc.c15 Sc.c16 Sc.c17 Sc.c18 Sc.c19 Sc.c20 Sc.c21 Sc.c22 Sc.c23 Sc.c24 Sc.c25 Sc.c26 Sc.c27 Sc.c28 Sc.c29 Sc.c30 Sc.c31 Sc.c32 Sc.c33 Sc.c34 Sc.c35 Sc.c36 Sc.c37 Sc.c38 Sc.c39 Sc.c40 Sc.c41 Sc.c42 Sc.c43 Sc.c44 Sc.c45 Sc.c46 Sc.c47 Sc.c48 Sc.c49 Sc.c50 Sc.c51 Sc.c52
set_option linter.unusedVariables false
set_option linter.unusedSimpArgs false
theorem taken_no (w : World) (t : ByteArray) : Calls Tryz.prog 37 #[.string t, .agg #[bF, nilS]] w fun e w' => e = .returned (.bool true) ∧ Below w.heap.size w w' :=
 (spec_jTaken.calls 0 t false none 0 [] true w ⟨rfl, by decide, fun h => absurd h (by decide)⟩ (Nat.le_refl _) (by simp [spec_jTaken.f]))
set_option maxHeartbeats 4000000 in
set_option maxRecDepth 100000 in
theorem judge_str (w : World) (s1 : Value) (gn cS : Nat) (x : S25) (A4 A5 : Option Addr) (c4 c5 : Nat) (rq ne : Value) (k2 : (x.f0 == 2) = false) (k3 : (x.f0 == 3) = true) (k4 : (x.f0 == 4) = false) (k5 : (x.f0 == 5) = false) (h3 : x.f3.size ≤ LM) (hn1 : (Nd.cells ⟨0, false, nilS, nilS, false, nilS, false, nilS, rq, ne⟩).all (·.oneCell') = true) (hS : w.heap[gn]? = some (row (Nd.cells ⟨0, false, nilS, nilS, false, nilS, false, nilS, rq, ne⟩) 45)) (hn5 : x.f5.length ≤ LM) :
  Calls Tryz.prog 20 #[.int .i64 2020, .agg #[.slice (some ⟨gn, 0, none⟩) 1 cS, s1], .int .i64 1, .agg (jvc x A4 A5 c4 c5)] w fun e w' => ∃ v, e = .returned (.tuple #[.bool true, v]) ∧ Below w.heap.size w w' := by
 have hmk := print_make_of (P := Tryz.prog) 63 4 bF 1 Tryz.underlying63 kr_ rfl (by decide) x.f5.length (by simp only [LM] at hn5; omega)
 obtain ⟨r, HR⟩ := runes_ok x.f3 h3
 have HK : Aside0 (At w [.b gn (row (Nd.cells ⟨0, false, nilS, nilS, false, nilS, false, nilS, rq, ne⟩) 45)] w) := asd_ (At.hold (At.start w) hS (by simp [nums]))
 have bgn := cE HK 0
 go_enter Tryz.func20, Tryz.ntmps20
 go_wp2_with (first | ((with_reducible refine gd_ 5 ?_); refine bx_ #[.slice (some ⟨gn, 0, none⟩) 1 cS, s1] 68 ?_; clear HK bgn; intro g5 wb5 HK Gg5; have bgn := cE HK 1; have bg5 := cE HK 0) | ((with_reducible refine gd_ 7 ?_); refine bx_ (jvc x A4 A5 c4 c5) 25 ?_; clear HK bgn bg5; intro g7 wb7 HK Gg7; have bgn := cE HK 2; have bg5 := cE HK 1; have bg7 := cE HK 0) | ((with_reducible refine gd_ 18 ?_); refine lo_ 45 17 gn (Nd.cells ⟨0, false, nilS, nilS, false, nilS, false, nilS, rq, ne⟩) HK.out.k.2.2.1 Tryz.underlying45 ?_) | ((with_reducible refine gd_ 10 ?_); refine bx_ (Nd.cells ⟨0, false, nilS, nilS, false, nilS, false, nilS, nilS, nilS⟩) 45 ?_; clear HK bgn bg5 bg7; intro g10 wb10 HK Gg10; have bgn := cE HK 3; have bg5 := cE HK 2; have bg7 := cE HK 1; have bg10 := cE HK 0) | ((with_reducible refine gate_ (.store 45 (.tmp 10) (.tmp 18)) rfl ?_); refine storerow_at (cs := Nd.cells ⟨0, false, nilS, nilS, false, nilS, false, nilS, nilS, nilS⟩) (g := g10) 0 (Nd.cells ⟨0, false, nilS, nilS, false, nilS, false, nilS, rq, ne⟩) at_ rfl Gg10.out rfl rfl rfl rfl rfl rfl kr_ rfl (hn1) ?_; intro wsr HK1; replace HK := asd_ HK1; clear HK1; clear bgn bg5 bg7 bg10; have bgn := cE HK 3; have bg5 := cE HK 2; have bg7 := cE HK 1; have bg10 := cE HK 0) | ((with_reducible refine gd_ 22 ?_); refine nw_ (row (madeCells #[bF] x.f5.length) 4) (fun b => .slice (some ⟨b, 0, none⟩) x.f5.length x.f5.length) ?_; clear HK bgn bg5 bg7 bg10; intro gm wb22 HK Ggm; have bgn := cE HK 4; have bg5 := cE HK 3; have bg7 := cE HK 2; have bg10 := cE HK 1) | ((with_reducible refine gd_ 30 ?_); refine lo_ 45 10 g10 (Nd.cells ⟨0, false, nilS, nilS, false, nilS, false, nilS, rq, ne⟩) HK.out.k.2.1 Tryz.underlying45 ?_) | ((with_reducible refine gd_ 31 ?_); refine lo_ 25 7 g7 (jvc x A4 A5 c4 c5) HK.out.k.2.2.1 Tryz.underlying25 ?_) | ((with_reducible refine gd_ 32 ?_); refine cl_ #[.agg (Nd.cells ⟨0, false, nilS, nilS, false, nilS, false, nilS, rq, ne⟩), .agg (jvc x A4 A5 c4 c5)] (.bool true) Tryz.func31 (values_none _ ⟨0, false, nilS, nilS, false, nilS, false, nilS, rq, ne⟩ rfl rfl x A4 A5 c4 c5) ?_; intro wc32 HK1; replace HK := asd_ HK1; clear HK1; clear bgn bg5 bg7 bg10; have bgn := cE HK 4; have bg5 := cE HK 3; have bg7 := cE HK 2; have bg10 := cE HK 1) | ((with_reducible refine gd_ 34 ?_); refine lo_ 68 5 g5 (#[.slice (some ⟨gn, 0, none⟩) 1 cS, s1]) HK.out.k.2.2.2.1 Tryz.underlying68 ?_) | ((with_reducible refine gd_ 35 ?_); refine lo_ 45 10 g10 (Nd.cells ⟨0, false, nilS, nilS, false, nilS, false, nilS, rq, ne⟩) HK.out.k.2.1 Tryz.underlying45 ?_) | ((with_reducible refine gd_ 36 ?_); refine lo_ 25 7 g7 (jvc x A4 A5 c4 c5) HK.out.k.2.2.1 Tryz.underlying25 ?_) | ((with_reducible refine gd_ 38 ?_); refine cl_ #[.int .i64 2020, .agg #[.slice (some ⟨gn, 0, none⟩) 1 cS, s1], .agg (Nd.cells ⟨0, false, nilS, nilS, false, nilS, false, nilS, rq, ne⟩), .agg (jvc x A4 A5 c4 c5), .slice (some ⟨gm, 0, none⟩) x.f5.length x.f5.length] (.bool true) Tryz.func32 (inplace_none _ 2020 (.slice (some ⟨gn, 0, none⟩) 1 cS) s1 (.slice (some ⟨gm, 0, none⟩) x.f5.length x.f5.length) ⟨0, false, nilS, nilS, false, nilS, false, nilS, rq, ne⟩ x A4 A5 c4 c5) ?_; intro wc38 HK1; replace HK := asd_ HK1; clear HK1; clear bgn bg5 bg7 bg10; have bgn := cE HK 4; have bg5 := cE HK 3; have bg7 := cE HK 2; have bg10 := cE HK 1))
 refine st_ 26 (fun w' => At w [.b gm (row (madeCells #[bF] x.f5.length) 4), .b g10 (row (Nd.cells ⟨0, false, nilS, nilS, false, nilS, false, nilS, rq, ne⟩) 45), .b g7 (row (jvc x A4 A5 c4 c5) 25), .b g5 (row (#[.slice (some ⟨gn, 0, none⟩) 1 cS, s1]) 68), .b gn (row (Nd.cells ⟨0, false, nilS, nilS, false, nilS, false, nilS, rq, ne⟩) 45)] w' ∧ (∀ j, w'.cell? ⟨gn, j, none⟩ = (Nd.cells ⟨0, false, nilS, nilS, false, nilS, false, nilS, rq, ne⟩ : Array Value)[j]?) ∧ (∀ j, w'.cell? ⟨g5, j, none⟩ = (#[.slice (some ⟨gn, 0, none⟩) 1 cS, s1] : Array Value)[j]?) ∧ (∀ j, w'.cell? ⟨g7, j, none⟩ = (jvc x A4 A5 c4 c5 : Array Value)[j]?) ∧ (∀ j, w'.cell? ⟨g10, j, none⟩ = (Nd.cells ⟨0, false, nilS, nilS, false, nilS, false, nilS, rq, ne⟩ : Array Value)[j]?)) [] (fun A => ⟨A, (cA A 4), (cA A 3), (cA A 2), (cA A 1)⟩) (fun hHeld => ?_)
 refine pu_ 0 54 1 ?_
 refine pu_ 1 55 3 ?_
 refine pu_ 2 56 7 ?_
 refine pu_ 5 59 39 ?_
 refine pu_ 7 61 167 ?_
 refine ta5_ 3 57 175 hHeld ?_
 refine ta5_ 6 60 239 hHeld ?_
 refine ta5_ 8 62 495 hHeld ?_
 refine on_ 4 58 511 (fun K hK => ?_)
 have HE := asd_ (hHeld.1)
 refine ge_ Tryz.func36 #[.string x.f3] ?_
 with_reducible refine (HR _).mono ?_
 rintro e w3 ⟨rfl, hb⟩
 refine ⟨_, rfl, ?_⟩
 replace HE := asd_ (At.step HE.out hb)
 refine hK.out _ _ ⟨HE.out, (cE HE 4), (cE HE 3), (cE HE 2), (cE HE 1)⟩ (fun hHeld => ?_)
 clear hK K
 refine nq_ 58 ?_
 refine on_ 9 63 1023 (fun K hK => ?_)
 refine ge_ Tryz.func35 #[.int .i64 r, .agg #[bF, i0], .agg #[bF, i0]] ?_
 with_reducible refine (bounded_ok _ r).mono ?_
 rintro e w3 ⟨rfl, hb⟩
 refine ⟨_, rfl, ?_⟩
 replace HE := asd_ (At.step HE.out hb)
 refine hK.out _ _ ⟨HE.out, (cE HE 4), (cE HE 3), (cE HE 2), (cE HE 1)⟩ (fun hHeld => ?_)
 clear hK K
 refine nq_ 63 ?_
 refine pu_ 10 64 2047 ?_
 refine pu_ 11 65 4095 ?_
 refine pu_ 12 66 8191 ?_
 refine pu_ 14 68 24575 ?_
 refine ta5_ 13 67 32767 hHeld ?_
 refine ta5_ 15 69 65535 hHeld ?_
 refine on_ 16 70 131071 (fun K hK => ?_)
 refine ge_ Tryz.func37 #[.string x.f3, .agg #[bF, nilS]] ?_
 with_reducible refine (taken_no _ x.f3).mono ?_
 rintro e w3 ⟨rfl, hb⟩
 refine ⟨_, rfl, ?_⟩
 replace HE := asd_ (At.step HE.out hb)
 refine hK.out _ _ ⟨HE.out, (cE HE 4), (cE HE 3), (cE HE 2), (cE HE 1)⟩ (fun hHeld => ?_)
 clear hK K
 refine nq_ 70 ?_
 refine pu_ 17 71 262143 ?_
 refine pu_ 18 72 524287 ?_
 refine pu_ 19 73 1048575 ?_
 refine pu_ 21 75 3145727 ?_
 refine ta5_ 20 74 4194303 hHeld ?_
 refine ta5_ 22 76 8388607 hHeld ?_
 refine on_ 23 77 16777215 (fun K hK => ?_)
 refine ge_ Tryz.func37 #[.string x.f3, .agg #[bF, nilS]] ?_
 with_reducible refine (taken_no _ x.f3).mono ?_
 rintro e w3 ⟨rfl, hb⟩
 refine ⟨_, rfl, ?_⟩
 replace HE := asd_ (At.step HE.out hb)
 refine hK.out _ _ ⟨HE.out, (cE HE 4), (cE HE 3), (cE HE 2), (cE HE 1)⟩ (fun hHeld => ?_)
 clear hK K
 refine nq_ 77 ?_
 refine pu_ 24 78 33554431 ?_
 refine pu_ 25 12 67108863 ?_
 refine done_ kr_ ?_
 clear HK; have HK := HE; clear HE
 clear hHeld
 clear bgn bg5 bg7 bg10
 have bgn := cE HK 4
 have bg5 := cE HK 3
 have bg7 := cE HK 2
 have bg10 := cE HK 1
 go_wp2_with fail
 go_ret2
 exact ⟨_, rfl, be_⟩
set_option maxHeartbeats 4000000 in
set_option maxRecDepth 100000 in
theorem judge_false (w : World) (s1 : Value) (gn cS : Nat) (x : S25) (A4 A5 : Option Addr) (c4 c5 : Nat)  (hS : w.heap[gn]? = some (row (Nd.cells ⟨2, false, nilS, nilS, false, nilS, false, nilS, nilS, nilS⟩) 45)) (hn5 : x.f5.length ≤ LM) :
  Calls Tryz.prog 20 #[.int .i64 2020, .agg #[.slice (some ⟨gn, 0, none⟩) 1 cS, s1], .int .i64 1, .agg (jvc x A4 A5 c4 c5)] w fun e w' => ∃ v, e = .returned (.tuple #[.bool false, v]) ∧ Below w.heap.size w w' := by
 have hmk := print_make_of (P := Tryz.prog) 63 4 bF 1 Tryz.underlying63 kr_ rfl (by decide) x.f5.length (by simp only [LM] at hn5; omega)
 have hn1 : (Nd.cells ⟨2, false, nilS, nilS, false, nilS, false, nilS, nilS, nilS⟩).all (·.oneCell') = true := by first | kernel_rfl | simp [Nd.cells, Value.oneCell']
 have HK : Aside0 (At w [.b gn (row (Nd.cells ⟨2, false, nilS, nilS, false, nilS, false, nilS, nilS, nilS⟩) 45)] w) := asd_ (At.hold (At.start w) hS (by simp [nums]))
 have bgn := cE HK 0
 go_enter Tryz.func20, Tryz.ntmps20
 go_wp2_with (first | ((with_reducible refine gd_ 5 ?_); refine bx_ #[.slice (some ⟨gn, 0, none⟩) 1 cS, s1] 68 ?_; clear HK bgn; intro g5 wb5 HK Gg5; have bgn := cE HK 1; have bg5 := cE HK 0) | ((with_reducible refine gd_ 7 ?_); refine bx_ (jvc x A4 A5 c4 c5) 25 ?_; clear HK bgn bg5; intro g7 wb7 HK Gg7; have bgn := cE HK 2; have bg5 := cE HK 1; have bg7 := cE HK 0) | ((with_reducible refine gd_ 18 ?_); refine lo_ 45 17 gn (Nd.cells ⟨2, false, nilS, nilS, false, nilS, false, nilS, nilS, nilS⟩) HK.out.k.2.2.1 Tryz.underlying45 ?_) | ((with_reducible refine gd_ 10 ?_); refine bx_ (Nd.cells ⟨0, false, nilS, nilS, false, nilS, false, nilS, nilS, nilS⟩) 45 ?_; clear HK bgn bg5 bg7; intro g10 wb10 HK Gg10; have bgn := cE HK 3; have bg5 := cE HK 2; have bg7 := cE HK 1; have bg10 := cE HK 0) | ((with_reducible refine gate_ (.store 45 (.tmp 10) (.tmp 18)) rfl ?_); refine storerow_at (cs := Nd.cells ⟨0, false, nilS, nilS, false, nilS, false, nilS, nilS, nilS⟩) (g := g10) 0 (Nd.cells ⟨2, false, nilS, nilS, false, nilS, false, nilS, nilS, nilS⟩) at_ rfl Gg10.out rfl rfl rfl rfl rfl rfl kr_ rfl (hn1) ?_; intro wsr HK1; replace HK := asd_ HK1; clear HK1; clear bgn bg5 bg7 bg10; have bgn := cE HK 3; have bg5 := cE HK 2; have bg7 := cE HK 1; have bg10 := cE HK 0) | ((with_reducible refine gd_ 22 ?_); refine nw_ (row (madeCells #[bF] x.f5.length) 4) (fun b => .slice (some ⟨b, 0, none⟩) x.f5.length x.f5.length) ?_; clear HK bgn bg5 bg7 bg10; intro gm wb22 HK Ggm; have bgn := cE HK 4; have bg5 := cE HK 3; have bg7 := cE HK 2; have bg10 := cE HK 1))
 go_ret2
 exact ⟨_, rfl, be_⟩
set_option maxHeartbeats 4000000 in
set_option maxRecDepth 100000 in
theorem kr_schema (w : World) (gn cS : Nat) (x : S25) (A4 A5 : Option Addr) (c4 c5 : Nat) (n : Nd) (hk0 : n.kind = 0) (hn1 : n.cells.all (·.oneCell') = true) (hS : w.heap[gn]? = some (row (n.cells) 45)) (loc tx : ByteArray) (Ap Aa An Ak : Option Addr) (np cp ca cn ck : Nat) (names : List ByteArray) : Calls Tryz.prog 43 #[.int .i64 2020, .agg #[.slice (some ⟨gn, 0, none⟩) 1 cS, nilS], .int .i64 1, .agg (jvc x A4 A5 c4 c5), .agg #[.string loc, .string ⟨#[83, 99, 104, 101, 109, 97]⟩, .slice Ap np cp, .slice Aa 0 ca, .string tx, .slice An names.length cn, nilS, .slice Ak 1 ck]] w fun e w' => e = .returned (.bool true) ∧ Below w.heap.size w w' := by
 have HK : Aside0 (At w [.b gn (row (n.cells) 45)] w) := asd_ (At.hold (At.start w) hS (by simp [nums]))
 have bgn := cE HK 0
 go_enter Tryz.func43, Tryz.ntmps43
 go_wp2_with (first | ((with_reducible refine gd_ 6 ?_); refine bx_ #[.slice (some ⟨gn, 0, none⟩) 1 cS, nilS] 68 ?_; clear HK bgn; intro g6 wb6 HK Gg6; have bgn := cE HK 1; have bg6 := cE HK 0) | ((with_reducible refine gd_ 8 ?_); refine bx_ (jvc x A4 A5 c4 c5) 25 ?_; clear HK bgn bg6; intro g8 wb8 HK Gg8; have bgn := cE HK 2; have bg6 := cE HK 1; have bg8 := cE HK 0) | ((with_reducible refine gd_ 9 ?_); refine bx_ (#[.string loc, .string ⟨#[83, 99, 104, 101, 109, 97]⟩, .slice Ap np cp, .slice Aa 0 ca, .string tx, .slice An names.length cn, nilS, .slice Ak 1 ck]) 54 ?_; clear HK bgn bg6 bg8; intro g9 wb9 HK Gg9; have bgn := cE HK 3; have bg6 := cE HK 2; have bg8 := cE HK 1; have bg9 := cE HK 0) | ((with_reducible refine gd_ 17 ?_); refine lo_ 45 16 gn (n.cells) HK.out.k.2.2.2.1 Tryz.underlying45 ?_) | ((with_reducible refine gd_ 11 ?_); refine bx_ (Nd.cells ⟨0, false, nilS, nilS, false, nilS, false, nilS, nilS, nilS⟩) 45 ?_; clear HK bgn bg6 bg8 bg9; intro g11 wb11 HK Gg11; have bgn := cE HK 4; have bg6 := cE HK 3; have bg8 := cE HK 2; have bg9 := cE HK 1; have bg11 := cE HK 0) | ((with_reducible refine gate_ (.store 45 (.tmp 11) (.tmp 17)) rfl ?_); refine storerow_at (cs := Nd.cells ⟨0, false, nilS, nilS, false, nilS, false, nilS, nilS, nilS⟩) (g := g11) 0 (n.cells) at_ rfl Gg11.out rfl rfl rfl rfl rfl rfl kr_ rfl (hn1) ?_; intro wsr HK1; replace HK := asd_ HK1; clear HK1; clear bgn bg6 bg8 bg9 bg11; have bgn := cE HK 4; have bg6 := cE HK 3; have bg8 := cE HK 2; have bg9 := cE HK 1; have bg11 := cE HK 0))
 refine st_ 35 (fun w' => At w [.b g11 (row (n.cells) 45), .b g9 (row (#[.string loc, .string ⟨#[83, 99, 104, 101, 109, 97]⟩, .slice Ap np cp, .slice Aa 0 ca, .string tx, .slice An names.length cn, nilS, .slice Ak 1 ck]) 54), .b g8 (row (jvc x A4 A5 c4 c5) 25), .b g6 (row (#[.slice (some ⟨gn, 0, none⟩) 1 cS, nilS]) 68), .b gn (row (n.cells) 45)] w' ∧ (∀ j, w'.cell? ⟨gn, j, none⟩ = (n.cells : Array Value)[j]?) ∧ (∀ j, w'.cell? ⟨g6, j, none⟩ = (#[.slice (some ⟨gn, 0, none⟩) 1 cS, nilS] : Array Value)[j]?) ∧ (∀ j, w'.cell? ⟨g8, j, none⟩ = (jvc x A4 A5 c4 c5 : Array Value)[j]?) ∧ (∀ j, w'.cell? ⟨g9, j, none⟩ = (#[.string loc, .string ⟨#[83, 99, 104, 101, 109, 97]⟩, .slice Ap np cp, .slice Aa 0 ca, .string tx, .slice An names.length cn, nilS, .slice Ak 1 ck] : Array Value)[j]?) ∧ (∀ j, w'.cell? ⟨g11, j, none⟩ = (n.cells : Array Value)[j]?)) [] (fun A => ⟨A, (cA A 4), (cA A 3), (cA A 2), (cA A 1), (cA A 0)⟩) (fun hHeld => ?_)
 refine pu_ 0 42 1 ?_
 refine tq_ 1 43 3 rfl hHeld (by rintro w' ⟨s0, s1, s2, s3, s4, s5⟩; exact rr_ 6 g6 (#[.slice (some ⟨gn, 0, none⟩) 1 cS, nilS]) s0.k.2.2.2.1 Tryz.underlying68) ?_
 refine tq_ 2 44 7 rfl hHeld (by rintro w' ⟨s0, s1, s2, s3, s4, s5⟩; exact rr_ 11 g11 (n.cells) s0.k.1 Tryz.underlying45) ?_
 refine tq_ 3 45 15 rfl hHeld (by rintro w' ⟨s0, s1, s2, s3, s4, s5⟩; exact rr_ 8 g8 (jvc x A4 A5 c4 c5) s0.k.2.2.1 Tryz.underlying25) ?_
 refine tq_ 4 46 31 rfl hHeld (by rintro w' ⟨s0, s1, s2, s3, s4, s5⟩; exact rr_ 9 g9 (#[.string loc, .string ⟨#[83, 99, 104, 101, 109, 97]⟩, .slice Ap np cp, .slice Aa 0 ca, .string tx, .slice An names.length cn, nilS, .slice Ak 1 ck]) s0.k.2.1 Tryz.underlying54) ?_
 refine on_ 5 47 63 (fun K hK => ?_)
 have HE := asd_ (hHeld.1)
 refine ge_ Tryz.func80 #[.int .i64 2020, .agg #[.slice (some ⟨gn, 0, none⟩) 1 cS, nilS], .agg (n.cells), .agg (jvc x A4 A5 c4 c5), .agg #[.string loc, .string ⟨#[83, 99, 104, 101, 109, 97]⟩, .slice Ap np cp, .slice Aa 0 ca, .string tx, .slice An names.length cn, nilS, .slice Ak 1 ck]] ?_
 with_reducible refine (ipr_schema _ (.slice (some ⟨gn, 0, none⟩) 1 cS) n x A4 A5 c4 c5 loc tx Ap Aa An Ak np cp ca cn ck names).mono ?_
 rintro e w3 ⟨rfl, hb⟩
 refine ⟨_, rfl, ?_⟩
 replace HE := asd_ (At.step HE.out hb)
 refine hK.out _ _ ⟨HE.out, (cE HE 4), (cE HE 3), (cE HE 2), (cE HE 1), (cE HE 0)⟩ (fun hHeld => ?_)
 clear hK K
 refine nq_ 47 ?_
 refine pu_ 6 48 127 ?_
 refine pn_ 7 49 255 ?_
 refine pn_ 8 50 511 ?_
 refine pn_ 9 51 1023 ?_
 refine pn_ 10 52 2047 ?_
 refine pu_ 11 53 4095 ?_
 refine pu_ 12 54 8191 ?_
 refine pn_ 13 55 16383 ?_
 refine pn_ 14 56 32767 ?_
 refine pn_ 15 57 65535 ?_
 refine pn_ 16 58 131071 ?_
 refine pn_ 17 59 262143 ?_
 refine pn_ 18 60 524287 ?_
 refine pu_ 19 61 1048575 ?_
 refine pu_ 20 62 2097151 ?_
 refine pn_ 21 63 4194303 ?_
 refine pn_ 22 64 8388607 ?_
 refine pn_ 23 65 16777215 ?_
 refine pn_ 24 66 33554431 ?_
 refine pn_ 25 67 67108863 ?_
 refine pn_ 26 68 134217727 ?_
 refine pu_ 27 69 268435455 ?_
 refine pu_ 28 70 536870911 ?_
 refine pn_ 29 71 1073741823 ?_
 refine pn_ 30 72 2147483647 ?_
 refine pn_ 31 73 4294967295 ?_
 refine pn_ 32 74 8589934591 ?_
 refine pu_ 33 75 17179869183 ?_
 refine pu_ 34 10 34359738367 ?_
 refine done_ kr_ ?_
 clear HK; have HK := HE; clear HE
 clear hHeld
 clear bgn bg6 bg8 bg9 bg11
 have bgn := cE HK 4
 have bg6 := cE HK 3
 have bg8 := cE HK 2
 have bg9 := cE HK 1
 have bg11 := cE HK 0
 go_wp2_with fail
 go_ret
 exact ⟨by first | rfl | simp, be_⟩
set_option maxHeartbeats 4000000 in
set_option maxRecDepth 100000 in
theorem kr_schema_false (w : World) (gn cS : Nat) (x : S25) (A4 A5 : Option Addr) (c4 c5 : Nat) (hS : w.heap[gn]? = some (row (Nd.cells ⟨2, false, nilS, nilS, false, nilS, false, nilS, nilS, nilS⟩) 45)) (loc tx : ByteArray) (Ap Aa An Ak : Option Addr) (np cp ca cn ck : Nat) (names : List ByteArray) : Calls Tryz.prog 43 #[.int .i64 2020, .agg #[.slice (some ⟨gn, 0, none⟩) 1 cS, nilS], .int .i64 1, .agg (jvc x A4 A5 c4 c5), .agg #[.string loc, .string ⟨#[83, 99, 104, 101, 109, 97]⟩, .slice Ap np cp, .slice Aa 0 ca, .string tx, .slice An names.length cn, nilS, .slice Ak 1 ck]] w fun e w' => e = .returned (.bool true) ∧ Below w.heap.size w w' := by
 have hn1 : (Nd.cells ⟨2, false, nilS, nilS, false, nilS, false, nilS, nilS, nilS⟩).all (·.oneCell') = true := by first | kernel_rfl | simp [Nd.cells, Value.oneCell']
 have HK : Aside0 (At w [.b gn (row (Nd.cells ⟨2, false, nilS, nilS, false, nilS, false, nilS, nilS, nilS⟩) 45)] w) := asd_ (At.hold (At.start w) hS (by simp [nums]))
 have bgn := cE HK 0
 go_enter Tryz.func43, Tryz.ntmps43
 go_wp2_with (first | ((with_reducible refine gd_ 6 ?_); refine bx_ #[.slice (some ⟨gn, 0, none⟩) 1 cS, nilS] 68 ?_; clear HK bgn; intro g6 wb6 HK Gg6; have bgn := cE HK 1; have bg6 := cE HK 0) | ((with_reducible refine gd_ 8 ?_); refine bx_ (jvc x A4 A5 c4 c5) 25 ?_; clear HK bgn bg6; intro g8 wb8 HK Gg8; have bgn := cE HK 2; have bg6 := cE HK 1; have bg8 := cE HK 0) | ((with_reducible refine gd_ 9 ?_); refine bx_ (#[.string loc, .string ⟨#[83, 99, 104, 101, 109, 97]⟩, .slice Ap np cp, .slice Aa 0 ca, .string tx, .slice An names.length cn, nilS, .slice Ak 1 ck]) 54 ?_; clear HK bgn bg6 bg8; intro g9 wb9 HK Gg9; have bgn := cE HK 3; have bg6 := cE HK 2; have bg8 := cE HK 1; have bg9 := cE HK 0) | ((with_reducible refine gd_ 17 ?_); refine lo_ 45 16 gn (Nd.cells ⟨2, false, nilS, nilS, false, nilS, false, nilS, nilS, nilS⟩) HK.out.k.2.2.2.1 Tryz.underlying45 ?_) | ((with_reducible refine gd_ 11 ?_); refine bx_ (Nd.cells ⟨0, false, nilS, nilS, false, nilS, false, nilS, nilS, nilS⟩) 45 ?_; clear HK bgn bg6 bg8 bg9; intro g11 wb11 HK Gg11; have bgn := cE HK 4; have bg6 := cE HK 3; have bg8 := cE HK 2; have bg9 := cE HK 1; have bg11 := cE HK 0) | ((with_reducible refine gate_ (.store 45 (.tmp 11) (.tmp 17)) rfl ?_); refine storerow_at (cs := Nd.cells ⟨0, false, nilS, nilS, false, nilS, false, nilS, nilS, nilS⟩) (g := g11) 0 (Nd.cells ⟨2, false, nilS, nilS, false, nilS, false, nilS, nilS, nilS⟩) at_ rfl Gg11.out rfl rfl rfl rfl rfl rfl kr_ rfl (hn1) ?_; intro wsr HK1; replace HK := asd_ HK1; clear HK1; clear bgn bg6 bg8 bg9 bg11; have bgn := cE HK 4; have bg6 := cE HK 3; have bg8 := cE HK 2; have bg9 := cE HK 1; have bg11 := cE HK 0))
 go_ret
 exact ⟨by first | rfl | simp, be_⟩
set_option maxHeartbeats 4000000 in
set_option maxRecDepth 100000 in
theorem kr_false (w : World) (gn cS : Nat) (x : S25) (A4 A5 : Option Addr) (c4 c5 : Nat) (hS : w.heap[gn]? = some (row (Nd.cells ⟨2, false, nilS, nilS, false, nilS, false, nilS, nilS, nilS⟩) 45)) (loc tx : ByteArray) (Ap Aa An Ak : Option Addr) (np cp ca cn ck : Nat) (names : List ByteArray) : Calls Tryz.prog 43 #[.int .i64 2020, .agg #[.slice (some ⟨gn, 0, none⟩) 1 cS, nilS], .int .i64 1, .agg (jvc x A4 A5 c4 c5), .agg #[.string loc, .string ⟨#[70, 97, 108, 115, 101, 83, 99, 104, 101, 109, 97]⟩, .slice Ap np cp, .slice Aa 0 ca, .string tx, .slice An names.length cn, nilS, nilS]] w fun e w' => e = .returned (.bool true) ∧ Below w.heap.size w w' := by
 have hn1 : (Nd.cells ⟨2, false, nilS, nilS, false, nilS, false, nilS, nilS, nilS⟩).all (·.oneCell') = true := by first | kernel_rfl | simp [Nd.cells, Value.oneCell']
 have HK : Aside0 (At w [.b gn (row (Nd.cells ⟨2, false, nilS, nilS, false, nilS, false, nilS, nilS, nilS⟩) 45)] w) := asd_ (At.hold (At.start w) hS (by simp [nums]))
 have bgn := cE HK 0
 go_enter Tryz.func43, Tryz.ntmps43
 go_wp2_with (first | ((with_reducible refine gd_ 6 ?_); refine bx_ #[.slice (some ⟨gn, 0, none⟩) 1 cS, nilS] 68 ?_; clear HK bgn; intro g6 wb6 HK Gg6; have bgn := cE HK 1; have bg6 := cE HK 0) | ((with_reducible refine gd_ 8 ?_); refine bx_ (jvc x A4 A5 c4 c5) 25 ?_; clear HK bgn bg6; intro g8 wb8 HK Gg8; have bgn := cE HK 2; have bg6 := cE HK 1; have bg8 := cE HK 0) | ((with_reducible refine gd_ 9 ?_); refine bx_ (#[.string loc, .string ⟨#[70, 97, 108, 115, 101, 83, 99, 104, 101, 109, 97]⟩, .slice Ap np cp, .slice Aa 0 ca, .string tx, .slice An names.length cn, nilS, nilS]) 54 ?_; clear HK bgn bg6 bg8; intro g9 wb9 HK Gg9; have bgn := cE HK 3; have bg6 := cE HK 2; have bg8 := cE HK 1; have bg9 := cE HK 0) | ((with_reducible refine gd_ 17 ?_); refine lo_ 45 16 gn (Nd.cells ⟨2, false, nilS, nilS, false, nilS, false, nilS, nilS, nilS⟩) HK.out.k.2.2.2.1 Tryz.underlying45 ?_) | ((with_reducible refine gd_ 11 ?_); refine bx_ (Nd.cells ⟨0, false, nilS, nilS, false, nilS, false, nilS, nilS, nilS⟩) 45 ?_; clear HK bgn bg6 bg8 bg9; intro g11 wb11 HK Gg11; have bgn := cE HK 4; have bg6 := cE HK 3; have bg8 := cE HK 2; have bg9 := cE HK 1; have bg11 := cE HK 0) | ((with_reducible refine gate_ (.store 45 (.tmp 11) (.tmp 17)) rfl ?_); refine storerow_at (cs := Nd.cells ⟨0, false, nilS, nilS, false, nilS, false, nilS, nilS, nilS⟩) (g := g11) 0 (Nd.cells ⟨2, false, nilS, nilS, false, nilS, false, nilS, nilS, nilS⟩) at_ rfl Gg11.out rfl rfl rfl rfl rfl rfl kr_ rfl (hn1) ?_; intro wsr HK1; replace HK := asd_ HK1; clear HK1; clear bgn bg6 bg8 bg9 bg11; have bgn := cE HK 4; have bg6 := cE HK 3; have bg8 := cE HK 2; have bg9 := cE HK 1; have bg11 := cE HK 0))
 go_ret
 exact ⟨by first | rfl | simp, be_⟩
set_option maxHeartbeats 4000000 in
set_option maxRecDepth 100000 in
theorem kr_req (w : World) (gn cS : Nat) (x : S25) (A4 A5 : Option Addr) (c4 c5 : Nat) (A : Option Addr) (c : Nat) (wanted : List ByteArray) (hS : w.heap[gn]? = some (row (Nd.cells ⟨0, false, nilS, nilS, false, nilS, false, nilS, .slice A wanted.length c, nilS⟩) 45)) (loc tx : ByteArray) (Ap Aa An Ak : Option Addr) (np cp ca cn ck : Nat) (m0 : ByteArray) (mt : List ByteArray) (k2 : (x.f0 != 2) = true) (k4 : (x.f0 != 4) = true) (k5 : (x.f0 != 5) = false) (h3 : x.f3.size ≤ LM) (hx : Rep w x A4 c4 A5 c5) (hn4 : x.f4.length ≤ LM) (hr : Kd.C Kd.string w A wanted.length wanted) (hc : wanted.length ≤ c) (hn : wanted.length ≤ LM) (hN : Kd.C Kd.string w An (m0 :: mt).length (m0 :: mt)) (hcn : (m0 :: mt).length ≤ cn) (hnl : (m0 :: mt).length ≤ LM) (hms : lacks x.f4 wanted = (m0 :: mt)) : Calls Tryz.prog 43 #[.int .i64 2020, .agg #[.slice (some ⟨gn, 0, none⟩) 1 cS, nilS], .int .i64 1, .agg (jvc x A4 A5 c4 c5), .agg #[.string loc, .string ⟨#[82, 101, 113, 117, 105, 114, 101, 100]⟩, .slice Ap np cp, .slice Aa 0 ca, .string tx, .slice An (m0 :: mt).length cn, nilS, nilS]] w fun e w' => e = .returned (.bool true) ∧ Below w.heap.size w w' := by
 have hn1 : (Nd.cells ⟨0, false, nilS, nilS, false, nilS, false, nilS, .slice A wanted.length c, nilS⟩).all (·.oneCell') = true := by first | kernel_rfl | simp [Nd.cells, Value.oneCell']
 obtain ⟨ru, HR⟩ := runes_ok x.f3 h3
 have hpos : decide (0 < ((m0 :: mt).length : Int)) = true := decide_eq_true (by simp only [List.length_cons]; omega)
 have Hx := asd_ hx
 have Hr := asd_ hr
 have Hn := asd_ hN
 have Hms := asd_ hms
 clear hx hr hN hms
 have HK : Aside0 (At w [.b gn (row (Nd.cells ⟨0, false, nilS, nilS, false, nilS, false, nilS, .slice A wanted.length c, nilS⟩) 45)] w) := asd_ (At.hold (At.start w) hS (by simp [nums]))
 have bgn := cE HK 0
 go_enter Tryz.func43, Tryz.ntmps43
 go_wp2_with (first | ((with_reducible refine gd_ 6 ?_); refine bx_ #[.slice (some ⟨gn, 0, none⟩) 1 cS, nilS] 68 ?_; clear HK bgn; intro g6 wb6 HK Gg6; have bgn := cE HK 1; have bg6 := cE HK 0) | ((with_reducible refine gd_ 8 ?_); refine bx_ (jvc x A4 A5 c4 c5) 25 ?_; clear HK bgn bg6; intro g8 wb8 HK Gg8; have bgn := cE HK 2; have bg6 := cE HK 1; have bg8 := cE HK 0) | ((with_reducible refine gd_ 9 ?_); refine bx_ (#[.string loc, .string ⟨#[82, 101, 113, 117, 105, 114, 101, 100]⟩, .slice Ap np cp, .slice Aa 0 ca, .string tx, .slice An (m0 :: mt).length cn, nilS, nilS]) 54 ?_; clear HK bgn bg6 bg8; intro g9 wb9 HK Gg9; have bgn := cE HK 3; have bg6 := cE HK 2; have bg8 := cE HK 1; have bg9 := cE HK 0) | ((with_reducible refine gd_ 17 ?_); refine lo_ 45 16 gn (Nd.cells ⟨0, false, nilS, nilS, false, nilS, false, nilS, .slice A wanted.length c, nilS⟩) HK.out.k.2.2.2.1 Tryz.underlying45 ?_) | ((with_reducible refine gd_ 11 ?_); refine bx_ (Nd.cells ⟨0, false, nilS, nilS, false, nilS, false, nilS, nilS, nilS⟩) 45 ?_; clear HK bgn bg6 bg8 bg9; intro g11 wb11 HK Gg11; have bgn := cE HK 4; have bg6 := cE HK 3; have bg8 := cE HK 2; have bg9 := cE HK 1; have bg11 := cE HK 0) | ((with_reducible refine gate_ (.store 45 (.tmp 11) (.tmp 17)) rfl ?_); refine storerow_at (cs := Nd.cells ⟨0, false, nilS, nilS, false, nilS, false, nilS, nilS, nilS⟩) (g := g11) 0 (Nd.cells ⟨0, false, nilS, nilS, false, nilS, false, nilS, .slice A wanted.length c, nilS⟩) at_ rfl Gg11.out rfl rfl rfl rfl rfl rfl kr_ rfl (hn1) ?_; intro wsr HK1; replace HK := asd_ HK1; clear HK1; clear bgn bg6 bg8 bg9 bg11; have bgn := cE HK 4; have bg6 := cE HK 3; have bg8 := cE HK 2; have bg9 := cE HK 1; have bg11 := cE HK 0))
 refine st_ 35 (fun w' => At w [.b g11 (row (Nd.cells ⟨0, false, nilS, nilS, false, nilS, false, nilS, .slice A wanted.length c, nilS⟩) 45), .b g9 (row (#[.string loc, .string ⟨#[82, 101, 113, 117, 105, 114, 101, 100]⟩, .slice Ap np cp, .slice Aa 0 ca, .string tx, .slice An (m0 :: mt).length cn, nilS, nilS]) 54), .b g8 (row (jvc x A4 A5 c4 c5) 25), .b g6 (row (#[.slice (some ⟨gn, 0, none⟩) 1 cS, nilS]) 68), .b gn (row (Nd.cells ⟨0, false, nilS, nilS, false, nilS, false, nilS, .slice A wanted.length c, nilS⟩) 45)] w' ∧ (∀ j, w'.cell? ⟨gn, j, none⟩ = (Nd.cells ⟨0, false, nilS, nilS, false, nilS, false, nilS, .slice A wanted.length c, nilS⟩ : Array Value)[j]?) ∧ (∀ j, w'.cell? ⟨g6, j, none⟩ = (#[.slice (some ⟨gn, 0, none⟩) 1 cS, nilS] : Array Value)[j]?) ∧ (∀ j, w'.cell? ⟨g8, j, none⟩ = (jvc x A4 A5 c4 c5 : Array Value)[j]?) ∧ (∀ j, w'.cell? ⟨g9, j, none⟩ = (#[.string loc, .string ⟨#[82, 101, 113, 117, 105, 114, 101, 100]⟩, .slice Ap np cp, .slice Aa 0 ca, .string tx, .slice An (m0 :: mt).length cn, nilS, nilS] : Array Value)[j]?) ∧ (∀ j, w'.cell? ⟨g11, j, none⟩ = (Nd.cells ⟨0, false, nilS, nilS, false, nilS, false, nilS, .slice A wanted.length c, nilS⟩ : Array Value)[j]?)) [] (fun A => ⟨A, (cA A 4), (cA A 3), (cA A 2), (cA A 1), (cA A 0)⟩) (fun hHeld => ?_)
 refine pu_ 0 42 1 ?_
 refine tq_ 1 43 3 rfl hHeld (by rintro w' ⟨s0, s1, s2, s3, s4, s5⟩; exact rr_ 6 g6 (#[.slice (some ⟨gn, 0, none⟩) 1 cS, nilS]) s0.k.2.2.2.1 Tryz.underlying68) ?_
 refine tq_ 2 44 7 rfl hHeld (by rintro w' ⟨s0, s1, s2, s3, s4, s5⟩; exact rr_ 11 g11 (Nd.cells ⟨0, false, nilS, nilS, false, nilS, false, nilS, .slice A wanted.length c, nilS⟩) s0.k.1 Tryz.underlying45) ?_
 refine tq_ 3 45 15 rfl hHeld (by rintro w' ⟨s0, s1, s2, s3, s4, s5⟩; exact rr_ 8 g8 (jvc x A4 A5 c4 c5) s0.k.2.2.1 Tryz.underlying25) ?_
 refine tq_ 4 46 31 rfl hHeld (by rintro w' ⟨s0, s1, s2, s3, s4, s5⟩; exact rr_ 9 g9 (#[.string loc, .string ⟨#[82, 101, 113, 117, 105, 114, 101, 100]⟩, .slice Ap np cp, .slice Aa 0 ca, .string tx, .slice An (m0 :: mt).length cn, nilS, nilS]) s0.k.2.1 Tryz.underlying54) ?_
 refine on_ 5 47 63 (fun K hK => ?_)
 have HE := asd_ (hHeld.1)
 refine ge_ Tryz.func80 #[.int .i64 2020, .agg #[.slice (some ⟨gn, 0, none⟩) 1 cS, nilS], .agg (Nd.cells ⟨0, false, nilS, nilS, false, nilS, false, nilS, .slice A wanted.length c, nilS⟩), .agg (jvc x A4 A5 c4 c5), .agg #[.string loc, .string ⟨#[82, 101, 113, 117, 105, 114, 101, 100]⟩, .slice Ap np cp, .slice Aa 0 ca, .string tx, .slice An (m0 :: mt).length cn, nilS, nilS]] ?_
 with_reducible refine (ipr_req _ (.slice (some ⟨gn, 0, none⟩) 1 cS) ⟨0, false, nilS, nilS, false, nilS, false, nilS, .slice A wanted.length c, nilS⟩ x A4 A5 c4 c5 loc tx Ap Aa An Ak np cp ca cn ck (m0 :: mt)).mono ?_
 rintro e w3 ⟨rfl, hb⟩
 refine ⟨_, rfl, ?_⟩
 replace HE := asd_ (At.step HE.out hb)
 refine hK.out _ _ ⟨HE.out, (cE HE 4), (cE HE 3), (cE HE 2), (cE HE 1), (cE HE 0)⟩ (fun hHeld => ?_)
 clear hK K
 refine nq_ 47 ?_
 refine pu_ 6 48 127 ?_
 refine tq_ 7 49 255 rfl hHeld (by rintro w' ⟨s0, s1, s2, s3, s4, s5⟩; exact rr_ 11 g11 (Nd.cells ⟨0, false, nilS, nilS, false, nilS, false, nilS, .slice A wanted.length c, nilS⟩) s0.k.1 Tryz.underlying45) ?_
 refine tq_ 8 50 511 rfl hHeld (by rintro w' ⟨s0, s1, s2, s3, s4, s5⟩; exact rr_ 8 g8 (jvc x A4 A5 c4 c5) s0.k.2.2.1 Tryz.underlying25) ?_
 refine tq_ 9 51 1023 rfl hHeld (by rintro w' ⟨s0, s1, s2, s3, s4, s5⟩; exact rr_ 9 g9 (#[.string loc, .string ⟨#[82, 101, 113, 117, 105, 114, 101, 100]⟩, .slice Ap np cp, .slice Aa 0 ca, .string tx, .slice An (m0 :: mt).length cn, nilS, nilS]) s0.k.2.1 Tryz.underlying54) ?_
 refine on_ 10 52 2047 (fun K hK => ?_)
 refine ge_ Tryz.func81 #[.agg (Nd.cells ⟨0, false, nilS, nilS, false, nilS, false, nilS, .slice A wanted.length c, nilS⟩), .agg (jvc x A4 A5 c4 c5), .agg #[.string loc, .string ⟨#[82, 101, 113, 117, 105, 114, 101, 100]⟩, .slice Ap np cp, .slice Aa 0 ca, .string tx, .slice An (m0 :: mt).length cn, nilS, nilS]] ?_
 with_reducible refine (vr_req _ ⟨0, false, nilS, nilS, false, nilS, false, nilS, .slice A wanted.length c, nilS⟩ x A4 A5 c4 c5 loc tx Ap Aa An Ak np cp ca cn ck (m0 :: mt) ru HR).mono ?_
 rintro e w3 ⟨rfl, hb⟩
 refine ⟨_, rfl, ?_⟩
 replace HE := asd_ (At.step HE.out hb)
 refine hK.out _ _ ⟨HE.out, (cE HE 4), (cE HE 3), (cE HE 2), (cE HE 1), (cE HE 0)⟩ (fun hHeld => ?_)
 clear hK K
 refine nq_ 52 ?_
 refine pu_ 11 53 4095 ?_
 refine pu_ 12 54 8191 ?_
 refine pu_ 14 56 24575 ?_
 refine tq_ 13 55 32767 rfl hHeld (by rintro w' ⟨s0, s1, s2, s3, s4, s5⟩; exact rr_ 6 g6 (#[.slice (some ⟨gn, 0, none⟩) 1 cS, nilS]) s0.k.2.2.2.1 Tryz.underlying68) ?_
 refine tq_ 16 58 98303 rfl hHeld (by rintro w' ⟨s0, s1, s2, s3, s4, s5⟩; exact rr_ 8 g8 (jvc x A4 A5 c4 c5) s0.k.2.2.1 Tryz.underlying25) ?_
 refine tq_ 17 59 229375 rfl hHeld (by rintro w' ⟨s0, s1, s2, s3, s4, s5⟩; exact rr_ 9 g9 (#[.string loc, .string ⟨#[82, 101, 113, 117, 105, 114, 101, 100]⟩, .slice Ap np cp, .slice Aa 0 ca, .string tx, .slice An (m0 :: mt).length cn, nilS, nilS]) s0.k.2.1 Tryz.underlying54) ?_
 refine on_ 15 57 262143 (fun K hK => ?_)
 refine ge_ Tryz.func34 #[.agg #[.slice (some ⟨gn, 0, none⟩) 1 cS, nilS], .int .i64 1] ?_
 with_reducible refine (keep_none _ (.slice (some ⟨gn, 0, none⟩) 1 cS)).mono ?_
 rintro e w3 ⟨rfl, hb⟩
 refine ⟨_, rfl, ?_⟩
 replace HE := asd_ (At.step HE.out hb)
 refine hK.out _ _ ⟨HE.out, (cE HE 4), (cE HE 3), (cE HE 2), (cE HE 1), (cE HE 0)⟩ (fun hHeld => ?_)
 clear hK K
 refine nq_ 57 ?_
 refine on_ 18 60 524287 (fun K hK => ?_)
 refine ge_ Tryz.func82 #[.agg #[nilS, nilS, nilS, nilS, nilS], .agg (jvc x A4 A5 c4 c5), .agg #[.string loc, .string ⟨#[82, 101, 113, 117, 105, 114, 101, 100]⟩, .slice Ap np cp, .slice Aa 0 ca, .string tx, .slice An (m0 :: mt).length cn, nilS, nilS]] ?_
 with_reducible refine (nr_req _ x A4 A5 c4 c5 k2 loc tx Ap Aa An Ak np cp ca cn ck (m0 :: mt)).mono ?_
 rintro e w3 ⟨rfl, hb⟩
 refine ⟨_, rfl, ?_⟩
 replace HE := asd_ (At.step HE.out hb)
 refine hK.out _ _ ⟨HE.out, (cE HE 4), (cE HE 3), (cE HE 2), (cE HE 1), (cE HE 0)⟩ (fun hHeld => ?_)
 clear hK K
 refine nq_ 60 ?_
 refine pu_ 19 61 1048575 ?_
 refine pu_ 20 62 2097151 ?_
 refine pu_ 21 63 4194303 ?_
 refine tq_ 22 64 8388607 rfl hHeld (by rintro w' ⟨s0, s1, s2, s3, s4, s5⟩; exact rr_ 6 g6 (#[.slice (some ⟨gn, 0, none⟩) 1 cS, nilS]) s0.k.2.2.2.1 Tryz.underlying68) ?_
 refine tq_ 23 65 16777215 rfl hHeld (by rintro w' ⟨s0, s1, s2, s3, s4, s5⟩; exact rr_ 11 g11 (Nd.cells ⟨0, false, nilS, nilS, false, nilS, false, nilS, .slice A wanted.length c, nilS⟩) s0.k.1 Tryz.underlying45) ?_
 refine tq_ 24 66 33554431 rfl hHeld (by rintro w' ⟨s0, s1, s2, s3, s4, s5⟩; exact rr_ 8 g8 (jvc x A4 A5 c4 c5) s0.k.2.2.1 Tryz.underlying25) ?_
 refine tq_ 25 67 67108863 rfl hHeld (by rintro w' ⟨s0, s1, s2, s3, s4, s5⟩; exact rr_ 9 g9 (#[.string loc, .string ⟨#[82, 101, 113, 117, 105, 114, 101, 100]⟩, .slice Ap np cp, .slice Aa 0 ca, .string tx, .slice An (m0 :: mt).length cn, nilS, nilS]) s0.k.2.1 Tryz.underlying54) ?_
 refine on_ 26 68 134217727 (fun K hK => ?_)
 refine ge_ Tryz.func83 #[.int .i64 2020, .agg #[.slice (some ⟨gn, 0, none⟩) 1 cS, nilS], .agg (Nd.cells ⟨0, false, nilS, nilS, false, nilS, false, nilS, .slice A wanted.length c, nilS⟩), .agg (jvc x A4 A5 c4 c5), .agg #[.string loc, .string ⟨#[82, 101, 113, 117, 105, 114, 101, 100]⟩, .slice Ap np cp, .slice Aa 0 ca, .string tx, .slice An (m0 :: mt).length cn, nilS, nilS]] ?_
 with_reducible refine (ar_req _ (.slice (some ⟨gn, 0, none⟩) 1 cS) ⟨0, false, nilS, nilS, false, nilS, false, nilS, .slice A wanted.length c, nilS⟩ x A4 A5 c4 c5 k4 loc tx Ap Aa An Ak np cp ca cn ck (m0 :: mt)).mono ?_
 rintro e w3 ⟨rfl, hb⟩
 refine ⟨_, rfl, ?_⟩
 replace HE := asd_ (At.step HE.out hb)
 refine hK.out _ _ ⟨HE.out, (cE HE 4), (cE HE 3), (cE HE 2), (cE HE 1), (cE HE 0)⟩ (fun hHeld => ?_)
 clear hK K
 refine nq_ 68 ?_
 refine pu_ 27 69 268435455 ?_
 refine pu_ 28 70 536870911 ?_
 refine tq_ 29 71 1073741823 rfl hHeld (by rintro w' ⟨s0, s1, s2, s3, s4, s5⟩; exact rr_ 11 g11 (Nd.cells ⟨0, false, nilS, nilS, false, nilS, false, nilS, .slice A wanted.length c, nilS⟩) s0.k.1 Tryz.underlying45) ?_
 refine tq_ 30 72 2147483647 rfl hHeld (by rintro w' ⟨s0, s1, s2, s3, s4, s5⟩; exact rr_ 8 g8 (jvc x A4 A5 c4 c5) s0.k.2.2.1 Tryz.underlying25) ?_
 refine tq_ 31 73 4294967295 rfl hHeld (by rintro w' ⟨s0, s1, s2, s3, s4, s5⟩; exact rr_ 9 g9 (#[.string loc, .string ⟨#[82, 101, 113, 117, 105, 114, 101, 100]⟩, .slice Ap np cp, .slice Aa 0 ca, .string tx, .slice An (m0 :: mt).length cn, nilS, nilS]) s0.k.2.1 Tryz.underlying54) ?_
 refine on_ 32 74 8589934591 (fun K hK => ?_)
 refine ge_ Tryz.func84 #[.agg (Nd.cells ⟨0, false, nilS, nilS, false, nilS, false, nilS, .slice A wanted.length c, nilS⟩), .agg (jvc x A4 A5 c4 c5), .agg #[.string loc, .string ⟨#[82, 101, 113, 117, 105, 114, 101, 100]⟩, .slice Ap np cp, .slice Aa 0 ca, .string tx, .slice An (m0 :: mt).length cn, nilS, nilS]] ?_
 with_reducible refine (or_req _ A c wanted x A4 A5 c4 c5 loc tx Ap Aa An np cp ca cn m0 mt k5 (Hx.out.below HE.out.b) hn4 (Kd.C_below Hr.out HE.out.b) hc hn (Kd.C_below Hn.out HE.out.b) hcn hnl hpos Hms.out).mono ?_
 rintro e w3 ⟨rfl, hb⟩
 refine ⟨_, rfl, ?_⟩
 replace HE := asd_ (At.step HE.out hb)
 refine hK.out _ _ ⟨HE.out, (cE HE 4), (cE HE 3), (cE HE 2), (cE HE 1), (cE HE 0)⟩ (fun hHeld => ?_)
 clear hK K
 refine nq_ 74 ?_
 refine pu_ 33 75 17179869183 ?_
 refine pu_ 34 10 34359738367 ?_
 refine done_ kr_ ?_
 clear HK; have HK := HE; clear HE
 clear hHeld
 clear bgn bg6 bg8 bg9 bg11
 have bgn := cE HK 4
 have bg6 := cE HK 3
 have bg8 := cE HK 2
 have bg9 := cE HK 1
 have bg11 := cE HK 0
 go_wp2_with fail
 go_ret
 exact ⟨by first | rfl | simp, be_⟩
set_option maxHeartbeats 4000000 in
set_option maxRecDepth 100000 in
theorem kr_dep (w : World) (gn cS : Nat) (x : S25) (A4 A5 : Option Addr) (c4 c5 : Nat) (A : Option Addr) (c : Nat) (wanted : List ByteArray) (gq cq : Nat) (hS : w.heap[gn]? = some (row (Nd.cells ⟨0, false, nilS, nilS, false, nilS, false, nilS, nilS, .slice (some ⟨gq, 0, none⟩) 1 cq⟩) 45)) (loc tx : ByteArray) (Ap Aa An Ak : Option Addr) (np cp ca cn ck : Nat) (m0 : ByteArray) (mt : List ByteArray) (k2 : (x.f0 != 2) = true) (k4 : (x.f0 != 4) = true) (k5 : (x.f0 != 5) = false) (h3 : x.f3.size ≤ LM) (hx : Rep w x A4 c4 A5 c5) (hn4 : x.f4.length ≤ LM) (hr : Kd.C Kd.string w A wanted.length wanted) (hc : wanted.length ≤ c) (hn : wanted.length ≤ LM) (hN : Kd.C Kd.string w An (m0 :: mt).length (m0 :: mt)) (hcn : (m0 :: mt).length ≤ cn) (hnl : (m0 :: mt).length ≤ LM) (hms : lacks x.f4 wanted = (m0 :: mt)) (hq : w.heap[gq]? = some (row (#[.string tx, .slice A wanted.length c]) 47)) (r : Int) (hrr : ∀ k, x.f4.length < k → spec_JMember.f k x.f0 x.f1 x.f2 x.f3 x.f4 x.f5 tx = some r) (hr0 : decide (0 ≤ r) = true) : Calls Tryz.prog 43 #[.int .i64 2020, .agg #[.slice (some ⟨gn, 0, none⟩) 1 cS, nilS], .int .i64 1, .agg (jvc x A4 A5 c4 c5), .agg #[.string loc, .string ⟨#[68, 101, 112, 101, 110, 100, 101, 110, 116, 82, 101, 113, 117, 105, 114, 101, 100]⟩, .slice Ap np cp, .slice Aa 0 ca, .string tx, .slice An (m0 :: mt).length cn, nilS, nilS]] w fun e w' => e = .returned (.bool true) ∧ Below w.heap.size w w' := by
 have hn1 : (Nd.cells ⟨0, false, nilS, nilS, false, nilS, false, nilS, nilS, .slice (some ⟨gq, 0, none⟩) 1 cq⟩).all (·.oneCell') = true := by first | kernel_rfl | simp [Nd.cells, Value.oneCell']
 obtain ⟨ru, HR⟩ := runes_ok x.f3 h3
 have hpos : decide (0 < ((m0 :: mt).length : Int)) = true := decide_eq_true (by simp only [List.length_cons]; omega)
 have Hx := asd_ hx
 have Hr := asd_ hr
 have Hn := asd_ hN
 have Hms := asd_ hms
 clear hx hr hN hms
 have Hq := asd_ hq
 clear hq
 have HK : Aside0 (At w [.b gn (row (Nd.cells ⟨0, false, nilS, nilS, false, nilS, false, nilS, nilS, .slice (some ⟨gq, 0, none⟩) 1 cq⟩) 45)] w) := asd_ (At.hold (At.start w) hS (by simp [nums]))
 have bgn := cE HK 0
 go_enter Tryz.func43, Tryz.ntmps43
 go_wp2_with (first | ((with_reducible refine gd_ 6 ?_); refine bx_ #[.slice (some ⟨gn, 0, none⟩) 1 cS, nilS] 68 ?_; clear HK bgn; intro g6 wb6 HK Gg6; have bgn := cE HK 1; have bg6 := cE HK 0) | ((with_reducible refine gd_ 8 ?_); refine bx_ (jvc x A4 A5 c4 c5) 25 ?_; clear HK bgn bg6; intro g8 wb8 HK Gg8; have bgn := cE HK 2; have bg6 := cE HK 1; have bg8 := cE HK 0) | ((with_reducible refine gd_ 9 ?_); refine bx_ (#[.string loc, .string ⟨#[68, 101, 112, 101, 110, 100, 101, 110, 116, 82, 101, 113, 117, 105, 114, 101, 100]⟩, .slice Ap np cp, .slice Aa 0 ca, .string tx, .slice An (m0 :: mt).length cn, nilS, nilS]) 54 ?_; clear HK bgn bg6 bg8; intro g9 wb9 HK Gg9; have bgn := cE HK 3; have bg6 := cE HK 2; have bg8 := cE HK 1; have bg9 := cE HK 0) | ((with_reducible refine gd_ 17 ?_); refine lo_ 45 16 gn (Nd.cells ⟨0, false, nilS, nilS, false, nilS, false, nilS, nilS, .slice (some ⟨gq, 0, none⟩) 1 cq⟩) HK.out.k.2.2.2.1 Tryz.underlying45 ?_) | ((with_reducible refine gd_ 11 ?_); refine bx_ (Nd.cells ⟨0, false, nilS, nilS, false, nilS, false, nilS, nilS, nilS⟩) 45 ?_; clear HK bgn bg6 bg8 bg9; intro g11 wb11 HK Gg11; have bgn := cE HK 4; have bg6 := cE HK 3; have bg8 := cE HK 2; have bg9 := cE HK 1; have bg11 := cE HK 0) | ((with_reducible refine gate_ (.store 45 (.tmp 11) (.tmp 17)) rfl ?_); refine storerow_at (cs := Nd.cells ⟨0, false, nilS, nilS, false, nilS, false, nilS, nilS, nilS⟩) (g := g11) 0 (Nd.cells ⟨0, false, nilS, nilS, false, nilS, false, nilS, nilS, .slice (some ⟨gq, 0, none⟩) 1 cq⟩) at_ rfl Gg11.out rfl rfl rfl rfl rfl rfl kr_ rfl (hn1) ?_; intro wsr HK1; replace HK := asd_ HK1; clear HK1; clear bgn bg6 bg8 bg9 bg11; have bgn := cE HK 4; have bg6 := cE HK 3; have bg8 := cE HK 2; have bg9 := cE HK 1; have bg11 := cE HK 0))
 refine st_ 35 (fun w' => At w [.b g11 (row (Nd.cells ⟨0, false, nilS, nilS, false, nilS, false, nilS, nilS, .slice (some ⟨gq, 0, none⟩) 1 cq⟩) 45), .b g9 (row (#[.string loc, .string ⟨#[68, 101, 112, 101, 110, 100, 101, 110, 116, 82, 101, 113, 117, 105, 114, 101, 100]⟩, .slice Ap np cp, .slice Aa 0 ca, .string tx, .slice An (m0 :: mt).length cn, nilS, nilS]) 54), .b g8 (row (jvc x A4 A5 c4 c5) 25), .b g6 (row (#[.slice (some ⟨gn, 0, none⟩) 1 cS, nilS]) 68), .b gn (row (Nd.cells ⟨0, false, nilS, nilS, false, nilS, false, nilS, nilS, .slice (some ⟨gq, 0, none⟩) 1 cq⟩) 45)] w' ∧ (∀ j, w'.cell? ⟨gn, j, none⟩ = (Nd.cells ⟨0, false, nilS, nilS, false, nilS, false, nilS, nilS, .slice (some ⟨gq, 0, none⟩) 1 cq⟩ : Array Value)[j]?) ∧ (∀ j, w'.cell? ⟨g6, j, none⟩ = (#[.slice (some ⟨gn, 0, none⟩) 1 cS, nilS] : Array Value)[j]?) ∧ (∀ j, w'.cell? ⟨g8, j, none⟩ = (jvc x A4 A5 c4 c5 : Array Value)[j]?) ∧ (∀ j, w'.cell? ⟨g9, j, none⟩ = (#[.string loc, .string ⟨#[68, 101, 112, 101, 110, 100, 101, 110, 116, 82, 101, 113, 117, 105, 114, 101, 100]⟩, .slice Ap np cp, .slice Aa 0 ca, .string tx, .slice An (m0 :: mt).length cn, nilS, nilS] : Array Value)[j]?) ∧ (∀ j, w'.cell? ⟨g11, j, none⟩ = (Nd.cells ⟨0, false, nilS, nilS, false, nilS, false, nilS, nilS, .slice (some ⟨gq, 0, none⟩) 1 cq⟩ : Array Value)[j]?)) [] (fun A => ⟨A, (cA A 4), (cA A 3), (cA A 2), (cA A 1), (cA A 0)⟩) (fun hHeld => ?_)
 refine pu_ 0 42 1 ?_
 refine tq_ 1 43 3 rfl hHeld (by rintro w' ⟨s0, s1, s2, s3, s4, s5⟩; exact rr_ 6 g6 (#[.slice (some ⟨gn, 0, none⟩) 1 cS, nilS]) s0.k.2.2.2.1 Tryz.underlying68) ?_
 refine tq_ 2 44 7 rfl hHeld (by rintro w' ⟨s0, s1, s2, s3, s4, s5⟩; exact rr_ 11 g11 (Nd.cells ⟨0, false, nilS, nilS, false, nilS, false, nilS, nilS, .slice (some ⟨gq, 0, none⟩) 1 cq⟩) s0.k.1 Tryz.underlying45) ?_
 refine tq_ 3 45 15 rfl hHeld (by rintro w' ⟨s0, s1, s2, s3, s4, s5⟩; exact rr_ 8 g8 (jvc x A4 A5 c4 c5) s0.k.2.2.1 Tryz.underlying25) ?_
 refine tq_ 4 46 31 rfl hHeld (by rintro w' ⟨s0, s1, s2, s3, s4, s5⟩; exact rr_ 9 g9 (#[.string loc, .string ⟨#[68, 101, 112, 101, 110, 100, 101, 110, 116, 82, 101, 113, 117, 105, 114, 101, 100]⟩, .slice Ap np cp, .slice Aa 0 ca, .string tx, .slice An (m0 :: mt).length cn, nilS, nilS]) s0.k.2.1 Tryz.underlying54) ?_
 refine on_ 5 47 63 (fun K hK => ?_)
 have HE := asd_ (hHeld.1)
 refine ge_ Tryz.func80 #[.int .i64 2020, .agg #[.slice (some ⟨gn, 0, none⟩) 1 cS, nilS], .agg (Nd.cells ⟨0, false, nilS, nilS, false, nilS, false, nilS, nilS, .slice (some ⟨gq, 0, none⟩) 1 cq⟩), .agg (jvc x A4 A5 c4 c5), .agg #[.string loc, .string ⟨#[68, 101, 112, 101, 110, 100, 101, 110, 116, 82, 101, 113, 117, 105, 114, 101, 100]⟩, .slice Ap np cp, .slice Aa 0 ca, .string tx, .slice An (m0 :: mt).length cn, nilS, nilS]] ?_
 with_reducible refine (ipr_dep _ (.slice (some ⟨gn, 0, none⟩) 1 cS) ⟨0, false, nilS, nilS, false, nilS, false, nilS, nilS, .slice (some ⟨gq, 0, none⟩) 1 cq⟩ x A4 A5 c4 c5 loc tx Ap Aa An Ak np cp ca cn ck (m0 :: mt)).mono ?_
 rintro e w3 ⟨rfl, hb⟩
 refine ⟨_, rfl, ?_⟩
 replace HE := asd_ (At.step HE.out hb)
 refine hK.out _ _ ⟨HE.out, (cE HE 4), (cE HE 3), (cE HE 2), (cE HE 1), (cE HE 0)⟩ (fun hHeld => ?_)
 clear hK K
 refine nq_ 47 ?_
 refine pu_ 6 48 127 ?_
 refine tq_ 7 49 255 rfl hHeld (by rintro w' ⟨s0, s1, s2, s3, s4, s5⟩; exact rr_ 11 g11 (Nd.cells ⟨0, false, nilS, nilS, false, nilS, false, nilS, nilS, .slice (some ⟨gq, 0, none⟩) 1 cq⟩) s0.k.1 Tryz.underlying45) ?_
 refine tq_ 8 50 511 rfl hHeld (by rintro w' ⟨s0, s1, s2, s3, s4, s5⟩; exact rr_ 8 g8 (jvc x A4 A5 c4 c5) s0.k.2.2.1 Tryz.underlying25) ?_
 refine tq_ 9 51 1023 rfl hHeld (by rintro w' ⟨s0, s1, s2, s3, s4, s5⟩; exact rr_ 9 g9 (#[.string loc, .string ⟨#[68, 101, 112, 101, 110, 100, 101, 110, 116, 82, 101, 113, 117, 105, 114, 101, 100]⟩, .slice Ap np cp, .slice Aa 0 ca, .string tx, .slice An (m0 :: mt).length cn, nilS, nilS]) s0.k.2.1 Tryz.underlying54) ?_
 refine on_ 10 52 2047 (fun K hK => ?_)
 refine ge_ Tryz.func81 #[.agg (Nd.cells ⟨0, false, nilS, nilS, false, nilS, false, nilS, nilS, .slice (some ⟨gq, 0, none⟩) 1 cq⟩), .agg (jvc x A4 A5 c4 c5), .agg #[.string loc, .string ⟨#[68, 101, 112, 101, 110, 100, 101, 110, 116, 82, 101, 113, 117, 105, 114, 101, 100]⟩, .slice Ap np cp, .slice Aa 0 ca, .string tx, .slice An (m0 :: mt).length cn, nilS, nilS]] ?_
 with_reducible refine (vr_dep _ ⟨0, false, nilS, nilS, false, nilS, false, nilS, nilS, .slice (some ⟨gq, 0, none⟩) 1 cq⟩ x A4 A5 c4 c5 loc tx Ap Aa An Ak np cp ca cn ck (m0 :: mt) ru HR).mono ?_
 rintro e w3 ⟨rfl, hb⟩
 refine ⟨_, rfl, ?_⟩
 replace HE := asd_ (At.step HE.out hb)
 refine hK.out _ _ ⟨HE.out, (cE HE 4), (cE HE 3), (cE HE 2), (cE HE 1), (cE HE 0)⟩ (fun hHeld => ?_)
 clear hK K
 refine nq_ 52 ?_
 refine pu_ 11 53 4095 ?_
 refine pu_ 12 54 8191 ?_
 refine pu_ 14 56 24575 ?_
 refine tq_ 13 55 32767 rfl hHeld (by rintro w' ⟨s0, s1, s2, s3, s4, s5⟩; exact rr_ 6 g6 (#[.slice (some ⟨gn, 0, none⟩) 1 cS, nilS]) s0.k.2.2.2.1 Tryz.underlying68) ?_
 refine tq_ 16 58 98303 rfl hHeld (by rintro w' ⟨s0, s1, s2, s3, s4, s5⟩; exact rr_ 8 g8 (jvc x A4 A5 c4 c5) s0.k.2.2.1 Tryz.underlying25) ?_
 refine tq_ 17 59 229375 rfl hHeld (by rintro w' ⟨s0, s1, s2, s3, s4, s5⟩; exact rr_ 9 g9 (#[.string loc, .string ⟨#[68, 101, 112, 101, 110, 100, 101, 110, 116, 82, 101, 113, 117, 105, 114, 101, 100]⟩, .slice Ap np cp, .slice Aa 0 ca, .string tx, .slice An (m0 :: mt).length cn, nilS, nilS]) s0.k.2.1 Tryz.underlying54) ?_
 refine on_ 15 57 262143 (fun K hK => ?_)
 refine ge_ Tryz.func34 #[.agg #[.slice (some ⟨gn, 0, none⟩) 1 cS, nilS], .int .i64 1] ?_
 with_reducible refine (keep_none _ (.slice (some ⟨gn, 0, none⟩) 1 cS)).mono ?_
 rintro e w3 ⟨rfl, hb⟩
 refine ⟨_, rfl, ?_⟩
 replace HE := asd_ (At.step HE.out hb)
 refine hK.out _ _ ⟨HE.out, (cE HE 4), (cE HE 3), (cE HE 2), (cE HE 1), (cE HE 0)⟩ (fun hHeld => ?_)
 clear hK K
 refine nq_ 57 ?_
 refine on_ 18 60 524287 (fun K hK => ?_)
 refine ge_ Tryz.func82 #[.agg #[nilS, nilS, nilS, nilS, nilS], .agg (jvc x A4 A5 c4 c5), .agg #[.string loc, .string ⟨#[68, 101, 112, 101, 110, 100, 101, 110, 116, 82, 101, 113, 117, 105, 114, 101, 100]⟩, .slice Ap np cp, .slice Aa 0 ca, .string tx, .slice An (m0 :: mt).length cn, nilS, nilS]] ?_
 with_reducible refine (nr_dep _ x A4 A5 c4 c5 k2 loc tx Ap Aa An Ak np cp ca cn ck (m0 :: mt)).mono ?_
 rintro e w3 ⟨rfl, hb⟩
 refine ⟨_, rfl, ?_⟩
 replace HE := asd_ (At.step HE.out hb)
 refine hK.out _ _ ⟨HE.out, (cE HE 4), (cE HE 3), (cE HE 2), (cE HE 1), (cE HE 0)⟩ (fun hHeld => ?_)
 clear hK K
 refine nq_ 60 ?_
 refine pu_ 19 61 1048575 ?_
 refine pu_ 20 62 2097151 ?_
 refine pu_ 21 63 4194303 ?_
 refine tq_ 22 64 8388607 rfl hHeld (by rintro w' ⟨s0, s1, s2, s3, s4, s5⟩; exact rr_ 6 g6 (#[.slice (some ⟨gn, 0, none⟩) 1 cS, nilS]) s0.k.2.2.2.1 Tryz.underlying68) ?_
 refine tq_ 23 65 16777215 rfl hHeld (by rintro w' ⟨s0, s1, s2, s3, s4, s5⟩; exact rr_ 11 g11 (Nd.cells ⟨0, false, nilS, nilS, false, nilS, false, nilS, nilS, .slice (some ⟨gq, 0, none⟩) 1 cq⟩) s0.k.1 Tryz.underlying45) ?_
 refine tq_ 24 66 33554431 rfl hHeld (by rintro w' ⟨s0, s1, s2, s3, s4, s5⟩; exact rr_ 8 g8 (jvc x A4 A5 c4 c5) s0.k.2.2.1 Tryz.underlying25) ?_
 refine tq_ 25 67 67108863 rfl hHeld (by rintro w' ⟨s0, s1, s2, s3, s4, s5⟩; exact rr_ 9 g9 (#[.string loc, .string ⟨#[68, 101, 112, 101, 110, 100, 101, 110, 116, 82, 101, 113, 117, 105, 114, 101, 100]⟩, .slice Ap np cp, .slice Aa 0 ca, .string tx, .slice An (m0 :: mt).length cn, nilS, nilS]) s0.k.2.1 Tryz.underlying54) ?_
 refine on_ 26 68 134217727 (fun K hK => ?_)
 refine ge_ Tryz.func83 #[.int .i64 2020, .agg #[.slice (some ⟨gn, 0, none⟩) 1 cS, nilS], .agg (Nd.cells ⟨0, false, nilS, nilS, false, nilS, false, nilS, nilS, .slice (some ⟨gq, 0, none⟩) 1 cq⟩), .agg (jvc x A4 A5 c4 c5), .agg #[.string loc, .string ⟨#[68, 101, 112, 101, 110, 100, 101, 110, 116, 82, 101, 113, 117, 105, 114, 101, 100]⟩, .slice Ap np cp, .slice Aa 0 ca, .string tx, .slice An (m0 :: mt).length cn, nilS, nilS]] ?_
 with_reducible refine (ar_dep _ (.slice (some ⟨gn, 0, none⟩) 1 cS) ⟨0, false, nilS, nilS, false, nilS, false, nilS, nilS, .slice (some ⟨gq, 0, none⟩) 1 cq⟩ x A4 A5 c4 c5 k4 loc tx Ap Aa An Ak np cp ca cn ck (m0 :: mt)).mono ?_
 rintro e w3 ⟨rfl, hb⟩
 refine ⟨_, rfl, ?_⟩
 replace HE := asd_ (At.step HE.out hb)
 refine hK.out _ _ ⟨HE.out, (cE HE 4), (cE HE 3), (cE HE 2), (cE HE 1), (cE HE 0)⟩ (fun hHeld => ?_)
 clear hK K
 refine nq_ 68 ?_
 refine pu_ 27 69 268435455 ?_
 refine pu_ 28 70 536870911 ?_
 refine tq_ 29 71 1073741823 rfl hHeld (by rintro w' ⟨s0, s1, s2, s3, s4, s5⟩; exact rr_ 11 g11 (Nd.cells ⟨0, false, nilS, nilS, false, nilS, false, nilS, nilS, .slice (some ⟨gq, 0, none⟩) 1 cq⟩) s0.k.1 Tryz.underlying45) ?_
 refine tq_ 30 72 2147483647 rfl hHeld (by rintro w' ⟨s0, s1, s2, s3, s4, s5⟩; exact rr_ 8 g8 (jvc x A4 A5 c4 c5) s0.k.2.2.1 Tryz.underlying25) ?_
 refine tq_ 31 73 4294967295 rfl hHeld (by rintro w' ⟨s0, s1, s2, s3, s4, s5⟩; exact rr_ 9 g9 (#[.string loc, .string ⟨#[68, 101, 112, 101, 110, 100, 101, 110, 116, 82, 101, 113, 117, 105, 114, 101, 100]⟩, .slice Ap np cp, .slice Aa 0 ca, .string tx, .slice An (m0 :: mt).length cn, nilS, nilS]) s0.k.2.1 Tryz.underlying54) ?_
 refine on_ 32 74 8589934591 (fun K hK => ?_)
 refine ge_ Tryz.func84 #[.agg (Nd.cells ⟨0, false, nilS, nilS, false, nilS, false, nilS, nilS, .slice (some ⟨gq, 0, none⟩) 1 cq⟩), .agg (jvc x A4 A5 c4 c5), .agg #[.string loc, .string ⟨#[68, 101, 112, 101, 110, 100, 101, 110, 116, 82, 101, 113, 117, 105, 114, 101, 100]⟩, .slice Ap np cp, .slice Aa 0 ca, .string tx, .slice An (m0 :: mt).length cn, nilS, nilS]] ?_
 with_reducible refine (or_dep _ A c wanted x A4 A5 c4 c5 loc tx Ap Aa An np cp ca cn m0 mt k5 (Hx.out.below HE.out.b) hn4 (Kd.C_below Hr.out HE.out.b) hc hn (Kd.C_below Hn.out HE.out.b) hcn hnl hpos Hms.out gq cq (blk_below Hq.out HE.out.b) r hrr hr0).mono ?_
 rintro e w3 ⟨rfl, hb⟩
 refine ⟨_, rfl, ?_⟩
 replace HE := asd_ (At.step HE.out hb)
 refine hK.out _ _ ⟨HE.out, (cE HE 4), (cE HE 3), (cE HE 2), (cE HE 1), (cE HE 0)⟩ (fun hHeld => ?_)
 clear hK K
 refine nq_ 74 ?_
 refine pu_ 33 75 17179869183 ?_
 refine pu_ 34 10 34359738367 ?_
 refine done_ kr_ ?_
 clear HK; have HK := HE; clear HE
 clear hHeld
 clear bgn bg6 bg8 bg9 bg11
 have bgn := cE HK 4
 have bg6 := cE HK 3
 have bg8 := cE HK 2
 have bg9 := cE HK 1
 have bg11 := cE HK 0
 go_wp2_with fail
 go_ret
 exact ⟨by first | rfl | simp, be_⟩
end Go.Proofs.YtkphbhncpdcbeaaGreatDoor.J
