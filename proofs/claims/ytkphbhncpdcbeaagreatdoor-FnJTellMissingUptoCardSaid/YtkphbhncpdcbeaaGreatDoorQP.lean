/- Part of a proof. -/
import Derived.Test.YtkphbhncpdcbeaaGreatDoorQF
import Derived.Test.YtkphbhncpdcbeaaGreatDoorQE
import Derived.Test.YtkphbhncpdcbeaaGreatDoorQB
import Derived.Great.Walk
namespace Go.Proofs.YtkphbhncpdcbeaaGreatDoor.J
open Go.RowKit Go.Proofs.YtkphbhncpdcbeaaGreatDoorW.PrintWords Go.Proofs.YtkphbhncpdcbeaaGreatDoorW.PrintLast Go.Proofs.YtkphbhncpdcbeaaGreatDoorW.PrintMore Go.Proofs.YtkphbhncpdcbeaaGreatDoor.PJT
attribute [local go_sem] Nd.csize Sc.csize Nd.c0 Nd.c1 Nd.c2 Nd.c3 Nd.c4 Nd.c5 Nd.c6 Nd.c7 Nd.c8 Nd.c9 Nd.c10 Nd.c11 Nd.c12 Nd.c13 Nd.c14 Nd.c15 Nd.c16 Nd.c17 Nd.c18 Nd.c19 Nd.c20 Nd.c21 Nd.c22 Nd.c23 Nd.c24 Nd.c25 Nd.c26 Nd.c27 Nd.c28 Nd.c29 Nd.c30 Nd.c31 Nd.c32 Nd.c33 Nd.c34 Nd.c35 Nd.c36 Nd.c37 Nd.c38 Nd.c39 Nd.c40 Nd.c41 Nd.c42 Nd.c43 Nd.c44 Nd.c45 Nd.c46 Nd.c47 Nd.c48 Nd.c49 Nd.c50 Nd.c51 Nd.c52 Sc.c0 Sc.c1 Sc.c2 Sc.c3 Sc.c4 Sc.c5 Sc.c6 Sc.c7 Sc.c8 Sc.c9 Sc.c10 Sc.c11 Sc.c12 Sc.c13 Sc.c14 Sc.c15 Sc.c16 Sc.c17 Sc.c18 Sc.c19 Sc.c20 Sc.c21 Sc.c22 Sc.c23 Sc.c24 Sc.c25 Sc.c26 Sc.c27 Sc.c28 Sc.c29 Sc.c30 Sc.c31 Sc.c32 Sc.c33 Sc.c34 Sc.c35 Sc.c36 Sc.c37 Sc.c38 Sc.c39 Sc.c40 Sc.c41 Sc.c42 Sc.c43 Sc.c44 Sc.c45 Sc.c46 Sc.c47 Sc.c48 Sc.c49 Sc.c50 Sc.c51 Sc.c52
set_option linter.unusedVariables false
set_option linter.unusedSimpArgs false
set_option maxHeartbeats 4000000 in
set_option maxRecDepth 100000 in
theorem word_schema (w : World)  : Calls Tryz.prog 79 #[.string ⟨#[83, 99, 104, 101, 109, 97]⟩] w fun e w' => e = .returned (.string ⟨#[]⟩) ∧ Below w.heap.size w w' := by
 have HK : Aside0 (At w [] w) := asd_ (At.start w)
 skip
 go_enter Tryz.func79, Tryz.ntmps79
 go_wp2_with fail
 go_ret
 exact ⟨by first | rfl | kernel_rfl, be_⟩
set_option maxHeartbeats 4000000 in
set_option maxRecDepth 100000 in
theorem word_false (w : World)  : Calls Tryz.prog 79 #[.string ⟨#[70, 97, 108, 115, 101, 83, 99, 104, 101, 109, 97]⟩] w fun e w' => e = .returned (.string ⟨#[]⟩) ∧ Below w.heap.size w w' := by
 have HK : Aside0 (At w [] w) := asd_ (At.start w)
 skip
 go_enter Tryz.func79, Tryz.ntmps79
 go_wp2_with fail
 go_ret
 exact ⟨by first | rfl | kernel_rfl, be_⟩
set_option maxHeartbeats 4000000 in
set_option maxRecDepth 100000 in
theorem word_req (w : World)  : Calls Tryz.prog 79 #[.string ⟨#[82, 101, 113, 117, 105, 114, 101, 100]⟩] w fun e w' => e = .returned (.string ⟨#[114, 101, 113, 117, 105, 114, 101, 100]⟩) ∧ Below w.heap.size w w' := by
 have HK : Aside0 (At w [] w) := asd_ (At.start w)
 skip
 go_enter Tryz.func79, Tryz.ntmps79
 have hb0 : Utf8.encode (wrap32 (bits BinOp.or IntKind.u8 (((⟨#[82, 101, 113, 117, 105, 114, 101, 100]⟩ : ByteArray)[0]'(by decide)).toNat : Int) 32)) = ⟨#[114]⟩ := by kernel_rfl
 go_wp2_with fail
 refine st_ 9 (fun w' => At w [] w') [] (fun A => A) (fun hHeld => ?_)
 refine pu_ 0 11 1 ?_
 refine pu_ 5 16 33 ?_
 refine pu_ 6 17 97 ?_
 refine ta1_ 1 12 99 hHeld ?_
 refine pu_ 2 13 103 ?_
 refine pu_ 3 14 111 ?_
 refine pu_ 4 15 127 ?_
 refine pu_ 7 18 255 ?_
 refine pu_ 8 2 511 ?_
 refine done_ kr_ ?_
 clear HK; have HK := asd_ hHeld
 clear hHeld
 skip
 go_wp2_with fail
 go_ret
 exact ⟨by first | rfl | kernel_rfl, be_⟩
set_option maxHeartbeats 4000000 in
set_option maxRecDepth 100000 in
theorem word_dep (w : World)  : Calls Tryz.prog 79 #[.string ⟨#[68, 101, 112, 101, 110, 100, 101, 110, 116, 82, 101, 113, 117, 105, 114, 101, 100]⟩] w fun e w' => e = .returned (.string ⟨#[100, 101, 112, 101, 110, 100, 101, 110, 116, 82, 101, 113, 117, 105, 114, 101, 100]⟩) ∧ Below w.heap.size w w' := by
 have HK : Aside0 (At w [] w) := asd_ (At.start w)
 skip
 go_enter Tryz.func79, Tryz.ntmps79
 have hb0 : Utf8.encode (wrap32 (bits BinOp.or IntKind.u8 (((⟨#[68, 101, 112, 101, 110, 100, 101, 110, 116, 82, 101, 113, 117, 105, 114, 101, 100]⟩ : ByteArray)[0]'(by decide)).toNat : Int) 32)) = ⟨#[100]⟩ := by kernel_rfl
 go_wp2_with fail
 refine st_ 9 (fun w' => At w [] w') [] (fun A => A) (fun hHeld => ?_)
 refine pu_ 0 11 1 ?_
 refine pu_ 5 16 33 ?_
 refine pu_ 6 17 97 ?_
 refine ta1_ 1 12 99 hHeld ?_
 refine pu_ 2 13 103 ?_
 refine pu_ 3 14 111 ?_
 refine pu_ 4 15 127 ?_
 refine pu_ 7 18 255 ?_
 refine pu_ 8 2 511 ?_
 refine done_ kr_ ?_
 clear HK; have HK := asd_ hHeld
 clear hHeld
 skip
 go_wp2_with fail
 go_ret
 exact ⟨by first | rfl | kernel_rfl, be_⟩
set_option maxHeartbeats 4000000 in
set_option maxRecDepth 100000 in
theorem inside_nil (w : World) (x : S25) (A4 A5 : Option Addr) (c4 c5 : Nat) (A : Option Addr) (c : Nat) : Calls Tryz.prog 78 #[.agg (jvc x A4 A5 c4 c5), .slice A 0 c] w fun e w' => e = .returned (.bool true) ∧ Below w.heap.size w w' := by
 have HK : Aside0 (At w [] w) := asd_ (At.start w)
 go_enter Tryz.func78, Tryz.ntmps78
 go_wp2_with (first | ((with_reducible refine gd_ 2 ?_); refine bx_ (jvc x A4 A5 c4 c5) 25 ?_; clear HK; intro g2 wb2 HK Gg2; have bg2 := cE HK 0))
 refine wp_loop_once ?_
 go_wp2_with fail
 go_ret
 exact ⟨rfl, be_⟩
set_option maxHeartbeats 4000000 in
set_option maxRecDepth 100000 in
theorem part_nil (w : World) (x : S25) (A4 A5 : Option Addr) (c4 c5 : Nat) (A : Option Addr) (c : Nat) : Calls Tryz.prog 40 #[.agg (jvc x A4 A5 c4 c5), .slice A 0 c] w fun e w' => e = .returned (.tuple #[.agg (jvc x A4 A5 c4 c5), .bool true]) ∧ Below w.heap.size w w' := by
 have HK : Aside0 (At w [] w) := asd_ (At.start w)
 go_enter Tryz.func40, Tryz.ntmps40
 go_wp2_with (first | ((with_reducible refine gd_ 2 ?_); refine bx_ (jvc x A4 A5 c4 c5) 25 ?_; clear HK; intro g2 wb2 HK Gg2; have bg2 := cE HK 0) | ((with_reducible refine gd_ 4 ?_); refine bx_ #[i0, bF, i0, eS, nilS, nilS] 25 ?_; clear HK bg2; intro g4 wb4 HK Gg4; have bg2 := cE HK 1; have bg4 := cE HK 0) | ((with_reducible refine gd_ 7 ?_); refine lo_ 25 2 g2 (jvc x A4 A5 c4 c5) HK.out.k.2.1 Tryz.underlying25 ?_) | ((with_reducible refine gd_ 9 ?_); refine cl_ #[.agg (jvc x A4 A5 c4 c5), .slice A 0 c] (.bool true) Tryz.func78 (inside_nil _ x A4 A5 c4 c5 A c) ?_; intro wc9 HK1; replace HK := asd_ HK1; clear HK1; clear bg2 bg4; have bg2 := cE HK 1; have bg4 := cE HK 0))
 refine wp_loop_once ?_
 go_wp2_with (first | ((with_reducible refine gd_ 40 ?_); refine lo_ 25 2 g2 (jvc x A4 A5 c4 c5) HK.out.k.2.1 Tryz.underlying25 ?_) | ((with_reducible refine gate_ (.store 25 (.tmp 4) (.tmp 40)) rfl ?_); refine storerow_at (cs := #[i0, bF, i0, eS, nilS, nilS]) (g := g4) 0 (jvc x A4 A5 c4 c5) at_ rfl Gg4.out rfl rfl rfl rfl rfl rfl kr_ rfl (by simp [Value.oneCell']) ?_; intro wr1 HK1; replace HK := asd_ HK1; clear HK1; clear bg2 bg4; have bg2 := cE HK 1; have bg4 := cE HK 0))
 ((try simp only [Exit.inBlock, Exit.then]); refine bodyPost_ret (results_ct rfl _ _ g4 25 (jvc x A4 A5 c4 c5) (0, 0) _ rfl (HK.out.k.1) Tryz.underlying25 rfl kr_) rfl ?_)
 exact ⟨rfl, be_⟩
set_option maxHeartbeats 4000000 in
set_option maxRecDepth 100000 in
theorem pathright_schema (w : World) (loc tx : ByteArray) (Ap Aa An Ak : Option Addr) (cp ca cn nk ck : Nat) (names : List ByteArray) : Calls Tryz.prog 41 #[.agg #[.string loc, .string ⟨#[83, 99, 104, 101, 109, 97]⟩, .slice Ap 0 cp, .slice Aa 0 ca, .string tx, .slice An names.length cn, nilS, .slice Ak nk ck]] w fun e w' => e = .returned (.bool true) ∧ Below w.heap.size w w' := by
 have HK : Aside0 (At w [] w) := asd_ (At.start w)
 go_enter Tryz.func41, Tryz.ntmps41
 go_wp2_with (first | ((with_reducible refine gd_ 1 ?_); refine bx_ (#[.string loc, .string ⟨#[83, 99, 104, 101, 109, 97]⟩, .slice Ap 0 cp, .slice Aa 0 ca, .string tx, .slice An names.length cn, nilS, .slice Ak nk ck]) 54 ?_; clear HK; intro g1 wb1 HK Gg1; have bg1 := cE HK 0) | ((with_reducible refine gd_ 6 ?_); refine cl_ #[.string ⟨#[83, 99, 104, 101, 109, 97]⟩] (.string ⟨#[]⟩) Tryz.func79 (word_schema _) ?_; intro wc6 HK1; replace HK := asd_ HK1; clear HK1; clear bg1; have bg1 := cE HK 0))
 go_ret
 exact ⟨by first | rfl | simp, be_⟩
set_option maxHeartbeats 4000000 in
set_option maxRecDepth 100000 in
theorem pathright_false (w : World) (loc tx : ByteArray) (Ap Aa An Ak : Option Addr) (cp ca cn nk ck : Nat) (names : List ByteArray) : Calls Tryz.prog 41 #[.agg #[.string loc, .string ⟨#[70, 97, 108, 115, 101, 83, 99, 104, 101, 109, 97]⟩, .slice Ap 0 cp, .slice Aa 0 ca, .string tx, .slice An names.length cn, nilS, .slice Ak nk ck]] w fun e w' => e = .returned (.bool true) ∧ Below w.heap.size w w' := by
 have HK : Aside0 (At w [] w) := asd_ (At.start w)
 go_enter Tryz.func41, Tryz.ntmps41
 go_wp2_with (first | ((with_reducible refine gd_ 1 ?_); refine bx_ (#[.string loc, .string ⟨#[70, 97, 108, 115, 101, 83, 99, 104, 101, 109, 97]⟩, .slice Ap 0 cp, .slice Aa 0 ca, .string tx, .slice An names.length cn, nilS, .slice Ak nk ck]) 54 ?_; clear HK; intro g1 wb1 HK Gg1; have bg1 := cE HK 0) | ((with_reducible refine gd_ 6 ?_); refine cl_ #[.string ⟨#[70, 97, 108, 115, 101, 83, 99, 104, 101, 109, 97]⟩] (.string ⟨#[]⟩) Tryz.func79 (word_false _) ?_; intro wc6 HK1; replace HK := asd_ HK1; clear HK1; clear bg1; have bg1 := cE HK 0))
 go_ret
 exact ⟨by first | rfl | simp, be_⟩
set_option maxHeartbeats 4000000 in
set_option maxRecDepth 100000 in
theorem pathright_req (w : World) (loc tx : ByteArray) (adp : Addr) (Aa An Ak : Option Addr) (cp ca cn nk ck : Nat) (names : List ByteArray) (hp : w.cell? adp = some (.string ⟨#[114, 101, 113, 117, 105, 114, 101, 100]⟩) ∧ True) : Calls Tryz.prog 41 #[.agg #[.string loc, .string ⟨#[82, 101, 113, 117, 105, 114, 101, 100]⟩, .slice (some adp) 1 cp, .slice Aa 0 ca, .string tx, .slice An names.length cn, nilS, .slice Ak nk ck]] w fun e w' => e = .returned (.bool true) ∧ Below w.heap.size w w' := by
 have Hp := asd_ hp
 clear hp
 have HK : Aside0 (At w [] w) := asd_ (At.start w)
 go_enter Tryz.func41, Tryz.ntmps41
 go_wp2_with (first | ((with_reducible refine gd_ 1 ?_); refine bx_ (#[.string loc, .string ⟨#[82, 101, 113, 117, 105, 114, 101, 100]⟩, .slice (some adp) 1 cp, .slice Aa 0 ca, .string tx, .slice An names.length cn, nilS, .slice Ak nk ck]) 54 ?_; clear HK; intro g1 wb1 HK Gg1; have bg1 := cE HK 0) | ((with_reducible refine gd_ 6 ?_); refine cl_ #[.string ⟨#[82, 101, 113, 117, 105, 114, 101, 100]⟩] (.string ⟨#[114, 101, 113, 117, 105, 114, 101, 100]⟩) Tryz.func79 (word_req _) ?_; intro wc6 HK1; replace HK := asd_ HK1; clear HK1; clear bg1; have bg1 := cE HK 0; have hq0 := (HK.out.b.cell (World.block_lt_of_cell? _ _ Hp.out.1)).trans Hp.out.1))
 go_ret
 exact ⟨by first | rfl | simp, be_⟩
set_option maxHeartbeats 4000000 in
set_option maxRecDepth 100000 in
theorem pathright_dep (w : World) (loc tx : ByteArray) (adp : Addr) (Aa An Ak : Option Addr) (cp ca cn nk ck : Nat) (names : List ByteArray) (hp : w.cell? adp = some (.string ⟨#[100, 101, 112, 101, 110, 100, 101, 110, 116, 82, 101, 113, 117, 105, 114, 101, 100]⟩) ∧ w.cell? ⟨adp.block, adp.off + 1, none⟩ = some (.string tx)) : Calls Tryz.prog 41 #[.agg #[.string loc, .string ⟨#[68, 101, 112, 101, 110, 100, 101, 110, 116, 82, 101, 113, 117, 105, 114, 101, 100]⟩, .slice (some adp) 2 cp, .slice Aa 0 ca, .string tx, .slice An names.length cn, nilS, .slice Ak nk ck]] w fun e w' => e = .returned (.bool true) ∧ Below w.heap.size w w' := by
 have Hp := asd_ hp
 clear hp
 have HK : Aside0 (At w [] w) := asd_ (At.start w)
 go_enter Tryz.func41, Tryz.ntmps41
 go_wp2_with (first | ((with_reducible refine gd_ 1 ?_); refine bx_ (#[.string loc, .string ⟨#[68, 101, 112, 101, 110, 100, 101, 110, 116, 82, 101, 113, 117, 105, 114, 101, 100]⟩, .slice (some adp) 2 cp, .slice Aa 0 ca, .string tx, .slice An names.length cn, nilS, .slice Ak nk ck]) 54 ?_; clear HK; intro g1 wb1 HK Gg1; have bg1 := cE HK 0) | ((with_reducible refine gd_ 6 ?_); refine cl_ #[.string ⟨#[68, 101, 112, 101, 110, 100, 101, 110, 116, 82, 101, 113, 117, 105, 114, 101, 100]⟩] (.string ⟨#[100, 101, 112, 101, 110, 100, 101, 110, 116, 82, 101, 113, 117, 105, 114, 101, 100]⟩) Tryz.func79 (word_dep _) ?_; intro wc6 HK1; replace HK := asd_ HK1; clear HK1; clear bg1; have bg1 := cE HK 0))
 refine st_ 22 (fun w' => At w [.b g1 (row (#[.string loc, .string ⟨#[68, 101, 112, 101, 110, 100, 101, 110, 116, 82, 101, 113, 117, 105, 114, 101, 100]⟩, .slice (some adp) 2 cp, .slice Aa 0 ca, .string tx, .slice An names.length cn, nilS, .slice Ak nk ck]) 54)] w' ∧ (∀ j, w'.cell? ⟨g1, j, none⟩ = (#[.string loc, .string ⟨#[68, 101, 112, 101, 110, 100, 101, 110, 116, 82, 101, 113, 117, 105, 114, 101, 100]⟩, .slice (some adp) 2 cp, .slice Aa 0 ca, .string tx, .slice An names.length cn, nilS, .slice Ak nk ck] : Array Value)[j]?) ∧ w'.cell? adp = some (.string ⟨#[100, 101, 112, 101, 110, 100, 101, 110, 116, 82, 101, 113, 117, 105, 114, 101, 100]⟩) ∧ w'.cell? ⟨adp.block, adp.off + 1, none⟩ = some (.string tx)) [] (fun A => ⟨A, (cA A 0), ((A.b.cell (World.block_lt_of_cell? w _ Hp.out.1)).trans Hp.out.1), ((A.b.cell (World.block_lt_of_cell? w _ Hp.out.2)).trans Hp.out.2)⟩) (fun hHeld => ?_)
 refine pu_ 0 26 1 ?_
 refine ta4_ 1 27 3 hHeld ?_
 refine pu_ 2 28 7 ?_
 refine pu_ 3 29 15 ?_
 refine pu_ 4 30 31 ?_
 refine pu_ 5 31 63 ?_
 refine pu_ 9 35 575 ?_
 refine ta4_ 6 32 639 hHeld ?_
 refine pu_ 7 33 767 ?_
 refine ta4_ 8 34 1023 hHeld ?_
 refine pu_ 10 36 2047 ?_
 refine pu_ 11 37 4095 ?_
 refine pu_ 12 38 8191 ?_
 refine pu_ 13 39 16383 ?_
 refine pu_ 17 43 147455 ?_
 refine ta4_ 14 40 163839 hHeld ?_
 refine pu_ 15 41 196607 ?_
 refine ta4_ 16 42 262143 hHeld ?_
 refine ta4_ 18 44 524287 hHeld ?_
 refine pu_ 19 45 1048575 ?_
 refine pu_ 20 46 2097151 ?_
 refine pu_ 21 2 4194303 ?_
 refine done_ kr_ ?_
 clear HK; have HK := asd_ hHeld.1
 clear hHeld
 clear bg1
 have bg1 := cE HK 0
 go_wp2_with fail
 go_ret
 exact ⟨by first | rfl | simp, be_⟩
theorem plain_one (w : World) : Calls Tryz.prog 45 #[.string ⟨#[49]⟩] w fun e w' => e = .returned (.bool true) ∧ Below w.heap.size w w' :=
 (spec_jPlain.calls 4 ⟨#[49]⟩ true w kr_).mono (fun e w' h => ⟨h.1, h.2.below⟩)
theorem number_one (w : World) : Calls Tryz.prog 46 #[.string ⟨#[49]⟩] w fun e w' => e = .returned (.int .i64 1) ∧ Below w.heap.size w w' :=
 (spec_jNumber.calls 4 ⟨#[49]⟩ 1 w kr_).mono (fun e w' h => ⟨h.1, h.2.below⟩)
set_option maxHeartbeats 4000000 in
set_option maxRecDepth 100000 in
theorem named_one (w : World) (A : Option Addr) (cS : Nat) : Calls Tryz.prog 24 #[.slice A 1 cS, .string ⟨#[49]⟩] w fun e w' => e = .returned (.int .i64 1) ∧ Below w.heap.size w w' := by
 have HK : Aside0 (At w [] w) := asd_ (At.start w)
 skip
 go_enter Tryz.func24, Tryz.ntmps24
 go_wp2_with (first | ((with_reducible refine gd_ 10 ?_); (try (refine gate_guard (by rfl) ?_; dsimp only)); refine cl_ #[.string ⟨#[49]⟩] (.bool true) Tryz.func45 (plain_one _) ?_; intro wc10 HK1; replace HK := asd_ HK1; clear HK1; skip) | ((with_reducible refine gd_ 15 ?_); (try (refine gate_guard (by rfl) ?_; dsimp only)); refine cl_ #[.string ⟨#[49]⟩] (.int .i64 1) Tryz.func46 (number_one _) ?_; intro wc15 HK1; replace HK := asd_ HK1; clear HK1; skip) | ((with_reducible refine gd_ 21 ?_); refine cl_ #[.string ⟨#[49]⟩] (.int .i64 1) Tryz.func46 (number_one _) ?_; intro wc21 HK1; replace HK := asd_ HK1; clear HK1; skip))
 go_ret
 exact ⟨rfl, be_⟩
set_option maxHeartbeats 4000000 in
set_option maxRecDepth 100000 in
theorem nodes_one (w : World) (g5 : Nat) (A : Option Addr) (cS : Nat) (h5 : w.heap[g5]? = some (row #[.slice A 1 cS] 31)) : Calls Tryz.prog 23 #[.string ⟨#[49]⟩, .pointer (some ⟨g5, 0, none⟩)] w fun e w' => ∃ v, e = .returned v ∧ (∃ g7, v = .slice (some ⟨g7, 0, none⟩) 1 1 ∧ w'.heap[g7]? = some (row #[.int .i64 1] 3) ∧ w.heap.size ≤ g7) ∧ Below w.heap.size w w' := by
 have HK : Aside0 (At w [.b g5 (row (#[.slice A 1 cS]) 31)] w) := asd_ (At.hold (At.start w) h5 (by simp [nums]))
 have bg5 := cE HK 0
 go_enter Tryz.func23, Tryz.ntmps23
 go_wp2_with (first | ((with_reducible refine gd_ 6 ?_); refine cl_ #[.slice A 1 cS, .string ⟨#[49]⟩] (.int .i64 1) Tryz.func24 (named_one _ A cS) ?_; intro wc6 HK1; replace HK := asd_ HK1; clear HK1; clear bg5; have bg5 := cE HK 0) | ((with_reducible refine gd_ 7 ?_); refine nw_ (row #[.int .i64 1] 3) (fun b => .slice (some ⟨b, 0, none⟩) 1 1) ?_; clear HK bg5; intro g7 wb7 HK Gg7; have bg5 := cE HK 1))
 go_ret
 exact ⟨_, rfl, ⟨g7, rfl, HK.out.k.1, Gg7.out⟩, HK.out.b⟩
theorem runes_tells (s : ByteArray) (hs : s.size ≤ LM) (d : Nat) : ∀ (i n : Int), 0 ≤ i → i ≤ s.size → (s.size : Int) - i = d → ∃ r, ∀ k, d < k → spec_JRunes.l0 k s n i = some r := by
 induction d with
 | zero =>
  intro i n h0 h1 hd
  refine ⟨n, fun k hk => ?_⟩
  obtain ⟨k, rfl⟩ : ∃ m, k = m + 1 := ⟨k - 1, by omega⟩
  simp only [spec_JRunes.l0]; rw [if_neg (by omega)]
 | succ d ih =>
  intro i n h0 h1 hd
  have e1 : wrap64 (i + 1) = i + 1 := wup h0 (n := s.size) (by omega) hs
  by_cases ha : bt s i < 128
  ·obtain ⟨r, hr⟩ := ih (i + 1) (wrap64 (n + 1)) (by omega) (by omega) (by omega)
   refine ⟨r, fun k hk => ?_⟩
   obtain ⟨k, rfl⟩ : ∃ m, k = m + 1 := ⟨k - 1, by omega⟩
   simp only [spec_JRunes.l0]; rw [if_pos (by omega), if_pos h0, if_pos ha, e1]; exact hr k (by omega)
  ·by_cases hb : bt s i > 191
   ·obtain ⟨r, hr⟩ := ih (i + 1) (wrap64 (n + 1)) (by omega) (by omega) (by omega)
    refine ⟨r, fun k hk => ?_⟩
    obtain ⟨k, rfl⟩ : ∃ m, k = m + 1 := ⟨k - 1, by omega⟩
    simp only [spec_JRunes.l0]; rw [if_pos (by omega), if_pos h0, if_neg ha, if_pos hb, e1]; exact hr k (by omega)
   ·obtain ⟨r, hr⟩ := ih (i + 1) n (by omega) (by omega) (by omega)
    refine ⟨r, fun k hk => ?_⟩
    obtain ⟨k, rfl⟩ : ∃ m, k = m + 1 := ⟨k - 1, by omega⟩
    simp only [spec_JRunes.l0]; rw [if_pos (by omega), if_pos h0, if_neg ha, if_neg hb, e1]; exact hr k (by omega)
theorem runes_ok (s : ByteArray) (hs : s.size ≤ LM) : ∃ r : Int, ∀ W : World, Calls Tryz.prog 36 #[.string s] W fun e w' => e = .returned (.int .i64 r) ∧ Below W.heap.size W w' := by
 obtain ⟨r, hr⟩ := runes_tells s hs s.size 0 0 (Int.le_refl _) (by omega) (by omega)
 exact ⟨r, fun W => (spec_JRunes.calls (s.size + 1) s r W (hr _ (Nat.lt_succ_self _))).mono (fun e w' h => ⟨h.1, h.2.below⟩)⟩
set_option maxHeartbeats 4000000 in
set_option maxRecDepth 100000 in
theorem ipr_schema (w : World) (s0 : Value) (n : Nd) (x : S25) (A4 A5 : Option Addr) (c4 c5 : Nat) (loc tx : ByteArray) (Ap Aa An Ak : Option Addr) (np cp ca cn ck : Nat) (names : List ByteArray) : Calls Tryz.prog 80 #[.int .i64 2020, .agg #[s0, nilS], .agg n.cells, .agg (jvc x A4 A5 c4 c5), .agg #[.string loc, .string ⟨#[83, 99, 104, 101, 109, 97]⟩, .slice Ap np cp, .slice Aa 0 ca, .string tx, .slice An names.length cn, nilS, .slice Ak 1 ck]] w fun e w' => e = .returned (.bool true) ∧ Below w.heap.size w w' := by
 have HK : Aside0 (At w [] w) := asd_ (At.start w)
 go_enter Tryz.func80, Tryz.ntmps80
 go_wp2_with (first | ((with_reducible refine gd_ 6 ?_); refine bx_ #[s0, nilS] 68 ?_; clear HK; intro g6 wb6 HK Gg6; have bg6 := cE HK 0) | ((with_reducible refine gd_ 7 ?_); refine bx_ n.cells 45 ?_; clear HK bg6; intro g7 wb7 HK Gg7; have bg6 := cE HK 1; have bg7 := cE HK 0) | ((with_reducible refine gd_ 8 ?_); refine bx_ (jvc x A4 A5 c4 c5) 25 ?_; clear HK bg6 bg7; intro g8 wb8 HK Gg8; have bg6 := cE HK 2; have bg7 := cE HK 1; have bg8 := cE HK 0) | ((with_reducible refine gd_ 9 ?_); refine bx_ (#[.string loc, .string ⟨#[83, 99, 104, 101, 109, 97]⟩, .slice Ap np cp, .slice Aa 0 ca, .string tx, .slice An names.length cn, nilS, .slice Ak 1 ck]) 54 ?_; clear HK bg6 bg7 bg8; intro g9 wb9 HK Gg9; have bg6 := cE HK 3; have bg7 := cE HK 2; have bg8 := cE HK 1; have bg9 := cE HK 0))
 go_ret
 exact ⟨by first | rfl | simp, be_⟩
set_option maxHeartbeats 4000000 in
set_option maxRecDepth 100000 in
theorem ipr_req (w : World) (s0 : Value) (n : Nd) (x : S25) (A4 A5 : Option Addr) (c4 c5 : Nat) (loc tx : ByteArray) (Ap Aa An Ak : Option Addr) (np cp ca cn ck : Nat) (names : List ByteArray) : Calls Tryz.prog 80 #[.int .i64 2020, .agg #[s0, nilS], .agg n.cells, .agg (jvc x A4 A5 c4 c5), .agg #[.string loc, .string ⟨#[82, 101, 113, 117, 105, 114, 101, 100]⟩, .slice Ap np cp, .slice Aa 0 ca, .string tx, .slice An names.length cn, nilS, nilS]] w fun e w' => e = .returned (.bool false) ∧ Below w.heap.size w w' := by
 have HK : Aside0 (At w [] w) := asd_ (At.start w)
 go_enter Tryz.func80, Tryz.ntmps80
 go_wp2_with (first | ((with_reducible refine gd_ 6 ?_); refine bx_ #[s0, nilS] 68 ?_; clear HK; intro g6 wb6 HK Gg6; have bg6 := cE HK 0) | ((with_reducible refine gd_ 7 ?_); refine bx_ n.cells 45 ?_; clear HK bg6; intro g7 wb7 HK Gg7; have bg6 := cE HK 1; have bg7 := cE HK 0) | ((with_reducible refine gd_ 8 ?_); refine bx_ (jvc x A4 A5 c4 c5) 25 ?_; clear HK bg6 bg7; intro g8 wb8 HK Gg8; have bg6 := cE HK 2; have bg7 := cE HK 1; have bg8 := cE HK 0) | ((with_reducible refine gd_ 9 ?_); refine bx_ (#[.string loc, .string ⟨#[82, 101, 113, 117, 105, 114, 101, 100]⟩, .slice Ap np cp, .slice Aa 0 ca, .string tx, .slice An names.length cn, nilS, nilS]) 54 ?_; clear HK bg6 bg7 bg8; intro g9 wb9 HK Gg9; have bg6 := cE HK 3; have bg7 := cE HK 2; have bg8 := cE HK 1; have bg9 := cE HK 0))
 go_ret
 exact ⟨by first | rfl | simp, be_⟩
set_option maxHeartbeats 4000000 in
set_option maxRecDepth 100000 in
theorem ipr_dep (w : World) (s0 : Value) (n : Nd) (x : S25) (A4 A5 : Option Addr) (c4 c5 : Nat) (loc tx : ByteArray) (Ap Aa An Ak : Option Addr) (np cp ca cn ck : Nat) (names : List ByteArray) : Calls Tryz.prog 80 #[.int .i64 2020, .agg #[s0, nilS], .agg n.cells, .agg (jvc x A4 A5 c4 c5), .agg #[.string loc, .string ⟨#[68, 101, 112, 101, 110, 100, 101, 110, 116, 82, 101, 113, 117, 105, 114, 101, 100]⟩, .slice Ap np cp, .slice Aa 0 ca, .string tx, .slice An names.length cn, nilS, nilS]] w fun e w' => e = .returned (.bool false) ∧ Below w.heap.size w w' := by
 have HK : Aside0 (At w [] w) := asd_ (At.start w)
 go_enter Tryz.func80, Tryz.ntmps80
 go_wp2_with (first | ((with_reducible refine gd_ 6 ?_); refine bx_ #[s0, nilS] 68 ?_; clear HK; intro g6 wb6 HK Gg6; have bg6 := cE HK 0) | ((with_reducible refine gd_ 7 ?_); refine bx_ n.cells 45 ?_; clear HK bg6; intro g7 wb7 HK Gg7; have bg6 := cE HK 1; have bg7 := cE HK 0) | ((with_reducible refine gd_ 8 ?_); refine bx_ (jvc x A4 A5 c4 c5) 25 ?_; clear HK bg6 bg7; intro g8 wb8 HK Gg8; have bg6 := cE HK 2; have bg7 := cE HK 1; have bg8 := cE HK 0) | ((with_reducible refine gd_ 9 ?_); refine bx_ (#[.string loc, .string ⟨#[68, 101, 112, 101, 110, 100, 101, 110, 116, 82, 101, 113, 117, 105, 114, 101, 100]⟩, .slice Ap np cp, .slice Aa 0 ca, .string tx, .slice An names.length cn, nilS, nilS]) 54 ?_; clear HK bg6 bg7 bg8; intro g9 wb9 HK Gg9; have bg6 := cE HK 3; have bg7 := cE HK 2; have bg8 := cE HK 1; have bg9 := cE HK 0))
 go_ret
 exact ⟨by first | rfl | simp, be_⟩
set_option maxHeartbeats 4000000 in
set_option maxRecDepth 100000 in
theorem vr_req (w : World) (n : Nd) (x : S25) (A4 A5 : Option Addr) (c4 c5 : Nat) (loc tx : ByteArray) (Ap Aa An Ak : Option Addr) (np cp ca cn ck : Nat) (names : List ByteArray) (ru : Int) (hru : ∀ W : World, Calls Tryz.prog 36 #[.string x.f3] W fun e w' => e = .returned (.int .i64 ru) ∧ Below W.heap.size W w') : Calls Tryz.prog 81 #[.agg n.cells, .agg (jvc x A4 A5 c4 c5), .agg #[.string loc, .string ⟨#[82, 101, 113, 117, 105, 114, 101, 100]⟩, .slice Ap np cp, .slice Aa 0 ca, .string tx, .slice An names.length cn, nilS, nilS]] w fun e w' => e = .returned (.bool false) ∧ Below w.heap.size w w' := by
 have HK : Aside0 (At w [] w) := asd_ (At.start w)
 go_enter Tryz.func81, Tryz.ntmps81
 go_wp2_with (first | ((with_reducible refine gd_ 3 ?_); refine bx_ n.cells 45 ?_; clear HK; intro g3 wb3 HK Gg3; have bg3 := cE HK 0) | ((with_reducible refine gd_ 4 ?_); refine bx_ (jvc x A4 A5 c4 c5) 25 ?_; clear HK bg3; intro g4 wb4 HK Gg4; have bg3 := cE HK 1; have bg4 := cE HK 0) | ((with_reducible refine gd_ 5 ?_); refine bx_ (#[.string loc, .string ⟨#[82, 101, 113, 117, 105, 114, 101, 100]⟩, .slice Ap np cp, .slice Aa 0 ca, .string tx, .slice An names.length cn, nilS, nilS]) 54 ?_; clear HK bg3 bg4; intro g5 wb5 HK Gg5; have bg3 := cE HK 2; have bg4 := cE HK 1; have bg5 := cE HK 0) | ((with_reducible refine gd_ 14 ?_); refine cl_ #[.string x.f3] (.int .i64 ru) Tryz.func36 (hru _) ?_; intro wru HK1; replace HK := asd_ HK1; clear HK1; clear bg3 bg4 bg5; have bg3 := cE HK 2; have bg4 := cE HK 1; have bg5 := cE HK 0))
 go_ret
 exact ⟨by first | rfl | simp, be_⟩
set_option maxHeartbeats 4000000 in
set_option maxRecDepth 100000 in
theorem vr_dep (w : World) (n : Nd) (x : S25) (A4 A5 : Option Addr) (c4 c5 : Nat) (loc tx : ByteArray) (Ap Aa An Ak : Option Addr) (np cp ca cn ck : Nat) (names : List ByteArray) (ru : Int) (hru : ∀ W : World, Calls Tryz.prog 36 #[.string x.f3] W fun e w' => e = .returned (.int .i64 ru) ∧ Below W.heap.size W w') : Calls Tryz.prog 81 #[.agg n.cells, .agg (jvc x A4 A5 c4 c5), .agg #[.string loc, .string ⟨#[68, 101, 112, 101, 110, 100, 101, 110, 116, 82, 101, 113, 117, 105, 114, 101, 100]⟩, .slice Ap np cp, .slice Aa 0 ca, .string tx, .slice An names.length cn, nilS, nilS]] w fun e w' => e = .returned (.bool false) ∧ Below w.heap.size w w' := by
 have HK : Aside0 (At w [] w) := asd_ (At.start w)
 go_enter Tryz.func81, Tryz.ntmps81
 go_wp2_with (first | ((with_reducible refine gd_ 3 ?_); refine bx_ n.cells 45 ?_; clear HK; intro g3 wb3 HK Gg3; have bg3 := cE HK 0) | ((with_reducible refine gd_ 4 ?_); refine bx_ (jvc x A4 A5 c4 c5) 25 ?_; clear HK bg3; intro g4 wb4 HK Gg4; have bg3 := cE HK 1; have bg4 := cE HK 0) | ((with_reducible refine gd_ 5 ?_); refine bx_ (#[.string loc, .string ⟨#[68, 101, 112, 101, 110, 100, 101, 110, 116, 82, 101, 113, 117, 105, 114, 101, 100]⟩, .slice Ap np cp, .slice Aa 0 ca, .string tx, .slice An names.length cn, nilS, nilS]) 54 ?_; clear HK bg3 bg4; intro g5 wb5 HK Gg5; have bg3 := cE HK 2; have bg4 := cE HK 1; have bg5 := cE HK 0) | ((with_reducible refine gd_ 14 ?_); refine cl_ #[.string x.f3] (.int .i64 ru) Tryz.func36 (hru _) ?_; intro wru HK1; replace HK := asd_ HK1; clear HK1; clear bg3 bg4 bg5; have bg3 := cE HK 2; have bg4 := cE HK 1; have bg5 := cE HK 0))
 go_ret
 exact ⟨by first | rfl | simp, be_⟩
set_option maxHeartbeats 4000000 in
set_option maxRecDepth 100000 in
theorem nr_req (w : World) (x : S25) (A4 A5 : Option Addr) (c4 c5 : Nat) (k2 : (x.f0 != 2) = true) (loc tx : ByteArray) (Ap Aa An Ak : Option Addr) (np cp ca cn ck : Nat) (names : List ByteArray) : Calls Tryz.prog 82 #[.agg #[nilS, nilS, nilS, nilS, nilS], .agg (jvc x A4 A5 c4 c5), .agg #[.string loc, .string ⟨#[82, 101, 113, 117, 105, 114, 101, 100]⟩, .slice Ap np cp, .slice Aa 0 ca, .string tx, .slice An names.length cn, nilS, nilS]] w fun e w' => e = .returned (.bool false) ∧ Below w.heap.size w w' := by
 have HK : Aside0 (At w [] w) := asd_ (At.start w)
 go_enter Tryz.func82, Tryz.ntmps82
 go_wp2_with (first | ((with_reducible refine gd_ 3 ?_); refine bx_ #[nilS, nilS, nilS, nilS, nilS] 87 ?_; clear HK; intro g3 wb3 HK Gg3; have bg3 := cE HK 0) | ((with_reducible refine gd_ 4 ?_); refine bx_ (jvc x A4 A5 c4 c5) 25 ?_; clear HK bg3; intro g4 wb4 HK Gg4; have bg3 := cE HK 1; have bg4 := cE HK 0) | ((with_reducible refine gd_ 5 ?_); refine bx_ (#[.string loc, .string ⟨#[82, 101, 113, 117, 105, 114, 101, 100]⟩, .slice Ap np cp, .slice Aa 0 ca, .string tx, .slice An names.length cn, nilS, nilS]) 54 ?_; clear HK bg3 bg4; intro g5 wb5 HK Gg5; have bg3 := cE HK 2; have bg4 := cE HK 1; have bg5 := cE HK 0))
 go_ret
 exact ⟨by first | rfl | simp, be_⟩
set_option maxHeartbeats 4000000 in
set_option maxRecDepth 100000 in
theorem nr_dep (w : World) (x : S25) (A4 A5 : Option Addr) (c4 c5 : Nat) (k2 : (x.f0 != 2) = true) (loc tx : ByteArray) (Ap Aa An Ak : Option Addr) (np cp ca cn ck : Nat) (names : List ByteArray) : Calls Tryz.prog 82 #[.agg #[nilS, nilS, nilS, nilS, nilS], .agg (jvc x A4 A5 c4 c5), .agg #[.string loc, .string ⟨#[68, 101, 112, 101, 110, 100, 101, 110, 116, 82, 101, 113, 117, 105, 114, 101, 100]⟩, .slice Ap np cp, .slice Aa 0 ca, .string tx, .slice An names.length cn, nilS, nilS]] w fun e w' => e = .returned (.bool false) ∧ Below w.heap.size w w' := by
 have HK : Aside0 (At w [] w) := asd_ (At.start w)
 go_enter Tryz.func82, Tryz.ntmps82
 go_wp2_with (first | ((with_reducible refine gd_ 3 ?_); refine bx_ #[nilS, nilS, nilS, nilS, nilS] 87 ?_; clear HK; intro g3 wb3 HK Gg3; have bg3 := cE HK 0) | ((with_reducible refine gd_ 4 ?_); refine bx_ (jvc x A4 A5 c4 c5) 25 ?_; clear HK bg3; intro g4 wb4 HK Gg4; have bg3 := cE HK 1; have bg4 := cE HK 0) | ((with_reducible refine gd_ 5 ?_); refine bx_ (#[.string loc, .string ⟨#[68, 101, 112, 101, 110, 100, 101, 110, 116, 82, 101, 113, 117, 105, 114, 101, 100]⟩, .slice Ap np cp, .slice Aa 0 ca, .string tx, .slice An names.length cn, nilS, nilS]) 54 ?_; clear HK bg3 bg4; intro g5 wb5 HK Gg5; have bg3 := cE HK 2; have bg4 := cE HK 1; have bg5 := cE HK 0))
 go_ret
 exact ⟨by first | rfl | simp, be_⟩
set_option maxHeartbeats 4000000 in
set_option maxRecDepth 100000 in
theorem keep_none (w : World) (s0 : Value) : Calls Tryz.prog 34 #[.agg #[s0, nilS], .int .i64 1] w fun e w' => e = .returned (.agg #[nilS, nilS, nilS, nilS, nilS]) ∧ Below w.heap.size w w' := by
 have HK : Aside0 (At w [] w) := asd_ (At.start w)
 go_enter Tryz.func34, Tryz.ntmps34
 go_wp2_with (first | ((with_reducible refine gd_ 2 ?_); refine bx_ #[s0, nilS] 68 ?_; clear HK; intro g2 wb2 HK Gg2; have bg2 := cE HK 0) | ((with_reducible refine gd_ 4 ?_); refine bx_ #[nilS, nilS, nilS, nilS, nilS] 87 ?_; clear HK bg2; intro g4 wb4 HK Gg4; have bg2 := cE HK 1; have bg4 := cE HK 0) | ((with_reducible refine gate_ (.store 87 (.tmp 4) (.tmp 10)) rfl ?_); refine storerow_at (cs := #[nilS, nilS, nilS, nilS, nilS]) (g := g4) 0 (#[nilS, nilS, nilS, nilS, nilS]) at_ rfl Gg4.out rfl rfl rfl rfl rfl rfl kr_ rfl (by simp [Value.oneCell']) ?_; intro wr1 HK1; replace HK := asd_ HK1; clear HK1; clear bg2 bg4; have bg2 := cE HK 1; have bg4 := cE HK 0))
 ((try simp only [Exit.inBlock, Exit.then]); refine bodyPost_ret (results_cell_row rfl _ _ g4 87 (#[nilS, nilS, nilS, nilS, nilS]) (0, 0) _ rfl (HK.out.k.1) Tryz.underlying87 rfl kr_) rfl ?_)
 exact ⟨rfl, be_⟩
set_option maxHeartbeats 4000000 in
set_option maxRecDepth 100000 in
theorem ar_req (w : World) (s0 : Value) (n : Nd) (x : S25) (A4 A5 : Option Addr) (c4 c5 : Nat) (k4 : (x.f0 != 4) = true) (loc tx : ByteArray) (Ap Aa An Ak : Option Addr) (np cp ca cn ck : Nat) (names : List ByteArray) : Calls Tryz.prog 83 #[.int .i64 2020, .agg #[s0, nilS], .agg n.cells, .agg (jvc x A4 A5 c4 c5), .agg #[.string loc, .string ⟨#[82, 101, 113, 117, 105, 114, 101, 100]⟩, .slice Ap np cp, .slice Aa 0 ca, .string tx, .slice An names.length cn, nilS, nilS]] w fun e w' => e = .returned (.bool false) ∧ Below w.heap.size w w' := by
 have HK : Aside0 (At w [] w) := asd_ (At.start w)
 go_enter Tryz.func83, Tryz.ntmps83
 go_wp2_with (first | ((with_reducible refine gd_ 6 ?_); refine bx_ #[s0, nilS] 68 ?_; clear HK; intro g6 wb6 HK Gg6; have bg6 := cE HK 0) | ((with_reducible refine gd_ 7 ?_); refine bx_ n.cells 45 ?_; clear HK bg6; intro g7 wb7 HK Gg7; have bg6 := cE HK 1; have bg7 := cE HK 0) | ((with_reducible refine gd_ 8 ?_); refine bx_ (jvc x A4 A5 c4 c5) 25 ?_; clear HK bg6 bg7; intro g8 wb8 HK Gg8; have bg6 := cE HK 2; have bg7 := cE HK 1; have bg8 := cE HK 0) | ((with_reducible refine gd_ 9 ?_); refine bx_ (#[.string loc, .string ⟨#[82, 101, 113, 117, 105, 114, 101, 100]⟩, .slice Ap np cp, .slice Aa 0 ca, .string tx, .slice An names.length cn, nilS, nilS]) 54 ?_; clear HK bg6 bg7 bg8; intro g9 wb9 HK Gg9; have bg6 := cE HK 3; have bg7 := cE HK 2; have bg8 := cE HK 1; have bg9 := cE HK 0))
 go_ret
 exact ⟨by first | rfl | simp, be_⟩
set_option maxHeartbeats 4000000 in
set_option maxRecDepth 100000 in
theorem ar_dep (w : World) (s0 : Value) (n : Nd) (x : S25) (A4 A5 : Option Addr) (c4 c5 : Nat) (k4 : (x.f0 != 4) = true) (loc tx : ByteArray) (Ap Aa An Ak : Option Addr) (np cp ca cn ck : Nat) (names : List ByteArray) : Calls Tryz.prog 83 #[.int .i64 2020, .agg #[s0, nilS], .agg n.cells, .agg (jvc x A4 A5 c4 c5), .agg #[.string loc, .string ⟨#[68, 101, 112, 101, 110, 100, 101, 110, 116, 82, 101, 113, 117, 105, 114, 101, 100]⟩, .slice Ap np cp, .slice Aa 0 ca, .string tx, .slice An names.length cn, nilS, nilS]] w fun e w' => e = .returned (.bool false) ∧ Below w.heap.size w w' := by
 have HK : Aside0 (At w [] w) := asd_ (At.start w)
 go_enter Tryz.func83, Tryz.ntmps83
 go_wp2_with (first | ((with_reducible refine gd_ 6 ?_); refine bx_ #[s0, nilS] 68 ?_; clear HK; intro g6 wb6 HK Gg6; have bg6 := cE HK 0) | ((with_reducible refine gd_ 7 ?_); refine bx_ n.cells 45 ?_; clear HK bg6; intro g7 wb7 HK Gg7; have bg6 := cE HK 1; have bg7 := cE HK 0) | ((with_reducible refine gd_ 8 ?_); refine bx_ (jvc x A4 A5 c4 c5) 25 ?_; clear HK bg6 bg7; intro g8 wb8 HK Gg8; have bg6 := cE HK 2; have bg7 := cE HK 1; have bg8 := cE HK 0) | ((with_reducible refine gd_ 9 ?_); refine bx_ (#[.string loc, .string ⟨#[68, 101, 112, 101, 110, 100, 101, 110, 116, 82, 101, 113, 117, 105, 114, 101, 100]⟩, .slice Ap np cp, .slice Aa 0 ca, .string tx, .slice An names.length cn, nilS, nilS]) 54 ?_; clear HK bg6 bg7 bg8; intro g9 wb9 HK Gg9; have bg6 := cE HK 3; have bg7 := cE HK 2; have bg8 := cE HK 1; have bg9 := cE HK 0))
 go_ret
 exact ⟨by first | rfl | simp, be_⟩
set_option maxHeartbeats 4000000 in
set_option maxRecDepth 100000 in
theorem er_leaf (w : World) (sv : Value) (gc : Nat) (x : S25) (A4 A5 : Option Addr) (c4 c5 : Nat) (tx kn : ByteArray) (Ap Aa An : Option Addr) (np cp ca nn cn : Nat)
  (hP : ∀ W, Below w.heap.size w W → Calls Tryz.prog 41 #[.agg #[.string ⟨#[49]⟩, .string kn, .slice Ap np cp, .slice Aa 0 ca, .string tx, .slice An nn cn, nilS, nilS]] W fun e w' => e = .returned (.bool true) ∧ Below W.heap.size W w')
  (hD : ∀ W, Below w.heap.size w W → Calls Tryz.prog 23 #[.string ⟨#[49]⟩, .pointer (some ⟨gc, 0, none⟩)] W fun e w' => ∃ v, e = .returned v ∧ (∃ g7, v = .slice (some ⟨g7, 0, none⟩) 1 1 ∧ w'.heap[g7]? = some (row #[.int .i64 1] 3) ∧ W.heap.size ≤ g7) ∧ Below W.heap.size W w')
  (hT : ∀ W, Below w.heap.size w W → Calls Tryz.prog 42 #[.int .i64 2020, .agg #[sv, nilS], .int .i64 1, .agg (jvc x A4 A5 c4 c5)] W fun e w' => e = .returned (.bool false) ∧ Below W.heap.size W w')
  (hR : ∀ W, Below w.heap.size w W → Calls Tryz.prog 43 #[.int .i64 2020, .agg #[sv, nilS], .int .i64 1, .agg (jvc x A4 A5 c4 c5), .agg #[.string ⟨#[49]⟩, .string kn, .slice Ap np cp, .slice Aa 0 ca, .string tx, .slice An nn cn, nilS, nilS]] W fun e w' => e = .returned (.bool true) ∧ Below W.heap.size W w') : Calls Tryz.prog 22 #[.int .i64 2020, .agg #[sv, nilS], Value.func (.func 23) #[] #[.pointer (some ⟨gc, 0, none⟩)], .agg (jvc x A4 A5 c4 c5), .agg #[.string ⟨#[49]⟩, .string kn, .slice Ap np cp, .slice Aa 0 ca, .string tx, .slice An nn cn, nilS, nilS]] w fun e w' => e = .returned (.bool true) ∧ Below w.heap.size w w' := by
 have HP := asd_ hP
 have HD := asd_ hD
 have HT := asd_ hT
 have HR := asd_ hR
 clear hP hD hT hR
 have HK : Aside0 (At w [] w) := asd_ (At.start w)
 go_enter Tryz.func22, Tryz.ntmps22
 go_wp2_with (first | ((with_reducible refine gd_ 6 ?_); refine bx_ #[sv, nilS] 68 ?_; clear HK; intro g6 wb6 HK Gg6; have bg6 := cE HK 0) | ((with_reducible refine gd_ 8 ?_); refine bx_ (jvc x A4 A5 c4 c5) 25 ?_; clear HK bg6; intro g8 wb8 HK Gg8; have bg6 := cE HK 1; have bg8 := cE HK 0) | ((with_reducible refine gd_ 9 ?_); refine bx_ (#[.string ⟨#[49]⟩, .string kn, .slice Ap np cp, .slice Aa 0 ca, .string tx, .slice An nn cn, nilS, nilS]) 54 ?_; clear HK bg6 bg8; intro g9 wb9 HK Gg9; have bg6 := cE HK 2; have bg8 := cE HK 1; have bg9 := cE HK 0) | ((with_reducible refine gd_ 18 ?_); refine lo_ 25 8 g8 (jvc x A4 A5 c4 c5) HK.out.k.2.1 Tryz.underlying25 ?_) | ((with_reducible refine gd_ 21 ?_); refine cl_ #[.agg (jvc x A4 A5 c4 c5), .slice Aa 0 ca] (.tuple #[.agg (jvc x A4 A5 c4 c5), .bool true]) Tryz.func40 (part_nil _ x A4 A5 c4 c5 Aa ca) ?_; intro wc21 HK1; replace HK := asd_ HK1; clear HK1; clear bg6 bg8 bg9; have bg6 := cE HK 2; have bg8 := cE HK 1; have bg9 := cE HK 0) | ((with_reducible refine gd_ 11 ?_); refine bx_ #[i0, bF, i0, eS, nilS, nilS] 25 ?_; clear HK bg6 bg8 bg9; intro g11 wb11 HK Gg11; have bg6 := cE HK 3; have bg8 := cE HK 2; have bg9 := cE HK 1; have bg11 := cE HK 0) | ((with_reducible refine gate_ (.store 25 (.tmp 11) (.tmp 22)) rfl ?_); refine storerow_at (cs := #[i0, bF, i0, eS, nilS, nilS]) (g := g11) 0 (jvc x A4 A5 c4 c5) at_ rfl Gg11.out rfl rfl rfl rfl rfl rfl kr_ rfl (by simp [Value.oneCell']) ?_; intro wr1 HK1; replace HK := asd_ HK1; clear HK1; clear bg6 bg8 bg9 bg11; have bg6 := cE HK 3; have bg8 := cE HK 2; have bg9 := cE HK 1; have bg11 := cE HK 0) | ((with_reducible refine gd_ 27 ?_); (try (refine gate_guard (by rfl) ?_; dsimp only)); refine lo_ 54 9 g9 (#[.string ⟨#[49]⟩, .string kn, .slice Ap np cp, .slice Aa 0 ca, .string tx, .slice An nn cn, nilS, nilS]) HK.out.k.2.1 Tryz.underlying54 ?_) | ((with_reducible refine gd_ 28 ?_); (try (refine gate_guard (by rfl) ?_; dsimp only)); refine cl_ #[.agg #[.string ⟨#[49]⟩, .string kn, .slice Ap np cp, .slice Aa 0 ca, .string tx, .slice An nn cn, nilS, nilS]] (.bool true) Tryz.func41 (HP.out _ HK.out.b) ?_; intro wc28 HK1; replace HK := asd_ HK1; clear HK1; clear bg6 bg8 bg9 bg11; have bg6 := cE HK 3; have bg8 := cE HK 2; have bg9 := cE HK 1; have bg11 := cE HK 0) | (go_at_call 23; refine (HD.out _ HK.out.b).mono ?_; rintro e w3 ⟨v34, rfl, ⟨g7, rfl, h7, hf7⟩, hB⟩; have HK1 := At.came HK.out hB h7 hf7; clear hB h7 hf7; replace HK := asd_ HK1; clear HK1; clear bg6 bg8 bg9 bg11; have bg6 := cE HK 4; have bg8 := cE HK 3; have bg9 := cE HK 2; have bg11 := cE HK 1; have bg7 := cE HK 0))
 refine wp_loop_two ?_
 go_wp2_with fail
 refine st_ 31 (fun w' => At w [.b g7 (row #[.int .i64 1] 3), .b g11 (row (jvc x A4 A5 c4 c5) 25), .b g9 (row (#[.string ⟨#[49]⟩, .string kn, .slice Ap np cp, .slice Aa 0 ca, .string tx, .slice An nn cn, nilS, nilS]) 54), .b g8 (row (jvc x A4 A5 c4 c5) 25), .b g6 (row (#[sv, nilS]) 68)] w' ∧ (∀ j, w'.cell? ⟨g6, j, none⟩ = (#[sv, nilS] : Array Value)[j]?) ∧ (∀ j, w'.cell? ⟨g8, j, none⟩ = (jvc x A4 A5 c4 c5 : Array Value)[j]?) ∧ (∀ j, w'.cell? ⟨g9, j, none⟩ = (#[.string ⟨#[49]⟩, .string kn, .slice Ap np cp, .slice Aa 0 ca, .string tx, .slice An nn cn, nilS, nilS] : Array Value)[j]?) ∧ (∀ j, w'.cell? ⟨g11, j, none⟩ = (jvc x A4 A5 c4 c5 : Array Value)[j]?) ∧ (∀ j, w'.cell? ⟨g7, j, none⟩ = (#[.int .i64 1] : Array Value)[j]?)) [] (fun A => ⟨A, (cA A 4), (cA A 3), (cA A 2), (cA A 1), (cA A 0)⟩) (fun hHeld => ?_)
 refine pu_ 0 41 1 ?_
 refine pu_ 1 42 3 ?_
 refine pu_ 2 43 7 ?_
 refine pu_ 3 44 15 ?_
 refine pu_ 4 45 31 ?_
 refine ta6_ 5 46 63 hHeld ?_
 refine pu_ 6 47 127 ?_
 refine pu_ 7 48 255 ?_
 refine pu_ 8 49 511 ?_
 refine pu_ 10 51 1535 ?_
 refine pu_ 11 52 3583 ?_
 refine pu_ 12 53 7679 ?_
 refine tq_ 9 50 8191 rfl hHeld (by rintro w' ⟨s0, s1, s2, s3, s4, s5⟩; exact rr_ 6 g6 (#[sv, nilS]) s0.k.2.2.2.2.1 Tryz.underlying68) ?_
 refine ta6_ 13 54 16383 hHeld ?_
 refine tq_ 14 55 32767 rfl hHeld (by rintro w' ⟨s0, s1, s2, s3, s4, s5⟩; exact rr_ 11 g11 (jvc x A4 A5 c4 c5) s0.k.2.1 Tryz.underlying25) ?_
 refine on_ 15 56 65535 (fun K hK => ?_)
 have HE := asd_ (hHeld.1)
 refine ge_ Tryz.func42 #[.int .i64 2020, .agg #[sv, nilS], .int .i64 1, .agg (jvc x A4 A5 c4 c5)] ?_
 with_reducible refine (HT.out _ HE.out.b).mono ?_
 rintro e w3 ⟨rfl, hb⟩
 refine ⟨_, rfl, ?_⟩
 replace HE := asd_ (At.step HE.out hb)
 refine hK.out _ _ ⟨HE.out, (cE HE 4), (cE HE 3), (cE HE 2), (cE HE 1), (cE HE 0)⟩ (fun hHeld => ?_)
 clear hK K
 refine nq_ 56 ?_
 refine pu_ 16 57 131071 ?_
 refine pu_ 17 58 262143 ?_
 refine pu_ 18 59 524287 ?_
 refine pu_ 19 60 1048575 ?_
 refine pu_ 21 62 3145727 ?_
 refine pu_ 22 63 7340031 ?_
 refine pu_ 23 64 15728639 ?_
 refine tq_ 20 61 16777215 rfl hHeld (by rintro w' ⟨s0, s1, s2, s3, s4, s5⟩; exact rr_ 6 g6 (#[sv, nilS]) s0.k.2.2.2.2.1 Tryz.underlying68) ?_
 refine ta6_ 24 65 33554431 hHeld ?_
 refine tq_ 25 66 67108863 rfl hHeld (by rintro w' ⟨s0, s1, s2, s3, s4, s5⟩; exact rr_ 11 g11 (jvc x A4 A5 c4 c5) s0.k.2.1 Tryz.underlying25) ?_
 refine tq_ 26 67 134217727 rfl hHeld (by rintro w' ⟨s0, s1, s2, s3, s4, s5⟩; exact rr_ 9 g9 (#[.string ⟨#[49]⟩, .string kn, .slice Ap np cp, .slice Aa 0 ca, .string tx, .slice An nn cn, nilS, nilS]) s0.k.2.2.1 Tryz.underlying54) ?_
 refine on_ 27 68 268435455 (fun K hK => ?_)
 refine ge_ Tryz.func43 #[.int .i64 2020, .agg #[sv, nilS], .int .i64 1, .agg (jvc x A4 A5 c4 c5), .agg #[.string ⟨#[49]⟩, .string kn, .slice Ap np cp, .slice Aa 0 ca, .string tx, .slice An nn cn, nilS, nilS]] ?_
 with_reducible refine (HR.out _ HE.out.b).mono ?_
 rintro e w3 ⟨rfl, hb⟩
 refine ⟨_, rfl, ?_⟩
 replace HE := asd_ (At.step HE.out hb)
 refine hK.out _ _ ⟨HE.out, (cE HE 4), (cE HE 3), (cE HE 2), (cE HE 1), (cE HE 0)⟩ (fun hHeld => ?_)
 clear hK K
 refine nq_ 68 ?_
 refine pu_ 28 69 536870911 ?_
 refine pu_ 29 70 1073741823 ?_
 refine pu_ 30 14 2147483647 ?_
 refine done_ kr_ ?_
 clear HK; have HK := HE; clear HE
 clear hHeld
 clear bg6 bg8 bg9 bg11 bg7
 have bg6 := cE HK 4
 have bg8 := cE HK 3
 have bg9 := cE HK 2
 have bg11 := cE HK 1
 have bg7 := cE HK 0
 go_wp2_with fail
 refine wp_loop_once ?_
 go_wp2_with fail
 go_ret
 exact ⟨by first | rfl | simp, be_⟩
theorem begins_ok (w : World) (A A' : Option Addr) (c c' : Nat) : Calls Tryz.prog 44 #[.slice A 0 c, .slice A' 0 c'] w fun e w' => e = .returned (.bool true) ∧ Below w.heap.size w w' :=
 (spec_jBegins.calls 1 A c [] A' c' [] true w ⟨rfl, by decide, fun h => absurd h (by decide)⟩ (Nat.zero_le _) ⟨rfl, by decide, fun h => absurd h (by decide)⟩ (Nat.zero_le _) (begins_is [])).mono (fun e w' h => ⟨h.1, h.2.below⟩)
set_option maxHeartbeats 4000000 in
set_option maxRecDepth 100000 in
theorem er_root (w : World) (sv : Value) (gc : Nat) (x : S25) (A4 A5 : Option Addr) (c4 c5 : Nat) (tx : ByteArray) (Ap Aa An : Option Addr) (cp ca nn cn : Nat) (gk ck : Nat) (a0 a1 a4 : ByteArray) (B2 Aa2 B5 : Option Addr) (m2 d2 ca2 m5 d5 : Nat)
  (hP : ∀ W, Below w.heap.size w W → Calls Tryz.prog 41 #[.agg #[.string ⟨#[49]⟩, .string ⟨#[83, 99, 104, 101, 109, 97]⟩, .slice Ap 0 cp, .slice Aa 0 ca, .string tx, .slice An nn cn, nilS, .slice (some ⟨gk, 0, none⟩) 1 ck]] W fun e w' => e = .returned (.bool true) ∧ Below W.heap.size W w')
  (hD : ∀ W, Below w.heap.size w W → Calls Tryz.prog 23 #[.string ⟨#[49]⟩, .pointer (some ⟨gc, 0, none⟩)] W fun e w' => ∃ v, e = .returned v ∧ (∃ g7, v = .slice (some ⟨g7, 0, none⟩) 1 1 ∧ w'.heap[g7]? = some (row #[.int .i64 1] 3) ∧ W.heap.size ≤ g7) ∧ Below W.heap.size W w')
  (hT : ∀ W, Below w.heap.size w W → Calls Tryz.prog 42 #[.int .i64 2020, .agg #[sv, nilS], .int .i64 1, .agg (jvc x A4 A5 c4 c5)] W fun e w' => e = .returned (.bool false) ∧ Below W.heap.size W w')
  (hR : ∀ W, Below w.heap.size w W → Calls Tryz.prog 43 #[.int .i64 2020, .agg #[sv, nilS], .int .i64 1, .agg (jvc x A4 A5 c4 c5), .agg #[.string ⟨#[49]⟩, .string ⟨#[83, 99, 104, 101, 109, 97]⟩, .slice Ap 0 cp, .slice Aa 0 ca, .string tx, .slice An nn cn, nilS, .slice (some ⟨gk, 0, none⟩) 1 ck]] W fun e w' => e = .returned (.bool true) ∧ Below W.heap.size W w')
  (hC : ∀ (i : Nat) (v : Value), (#[.string a0, .string a1, .slice B2 m2 d2, .slice Aa2 0 ca2, .string a4, .slice B5 m5 d5, nilS, nilS] : Array Value)[i]? = some v → w.cell? ⟨gk, i, none⟩ = some v)
  (hL : ∀ W, Below w.heap.size w W → Calls Tryz.prog 22 #[.int .i64 2020, .agg #[sv, nilS], Value.func (.func 23) #[] #[.pointer (some ⟨gc, 0, none⟩)], .agg (jvc x A4 A5 c4 c5), .agg #[.string a0, .string a1, .slice B2 m2 d2, .slice Aa2 0 ca2, .string a4, .slice B5 m5 d5, nilS, nilS]] W fun e w' => e = .returned (.bool true) ∧ Below W.heap.size W w') : Calls Tryz.prog 22 #[.int .i64 2020, .agg #[sv, nilS], Value.func (.func 23) #[] #[.pointer (some ⟨gc, 0, none⟩)], .agg (jvc x A4 A5 c4 c5), .agg #[.string ⟨#[49]⟩, .string ⟨#[83, 99, 104, 101, 109, 97]⟩, .slice Ap 0 cp, .slice Aa 0 ca, .string tx, .slice An nn cn, nilS, .slice (some ⟨gk, 0, none⟩) 1 ck]] w fun e w' => e = .returned (.bool true) ∧ Below w.heap.size w w' := by
 have HP := asd_ hP
 have HD := asd_ hD
 have HT := asd_ hT
 have HR := asd_ hR
 clear hP hD hT hR
 have HC := asd_ hC
 have HL := asd_ hL
 clear hC hL
 have HK : Aside0 (At w [] w) := asd_ (At.start w)
 go_enter Tryz.func22, Tryz.ntmps22
 go_wp2_with (first | ((with_reducible refine gd_ 6 ?_); refine bx_ #[sv, nilS] 68 ?_; clear HK; intro g6 wb6 HK Gg6; have bg6 := cE HK 0) | ((with_reducible refine gd_ 8 ?_); refine bx_ (jvc x A4 A5 c4 c5) 25 ?_; clear HK bg6; intro g8 wb8 HK Gg8; have bg6 := cE HK 1; have bg8 := cE HK 0) | ((with_reducible refine gd_ 9 ?_); refine bx_ (#[.string ⟨#[49]⟩, .string ⟨#[83, 99, 104, 101, 109, 97]⟩, .slice Ap 0 cp, .slice Aa 0 ca, .string tx, .slice An nn cn, nilS, .slice (some ⟨gk, 0, none⟩) 1 ck]) 54 ?_; clear HK bg6 bg8; intro g9 wb9 HK Gg9; have bg6 := cE HK 2; have bg8 := cE HK 1; have bg9 := cE HK 0) | ((with_reducible refine gd_ 18 ?_); refine lo_ 25 8 g8 (jvc x A4 A5 c4 c5) HK.out.k.2.1 Tryz.underlying25 ?_) | ((with_reducible refine gd_ 21 ?_); refine cl_ #[.agg (jvc x A4 A5 c4 c5), .slice Aa 0 ca] (.tuple #[.agg (jvc x A4 A5 c4 c5), .bool true]) Tryz.func40 (part_nil _ x A4 A5 c4 c5 Aa ca) ?_; intro wc21 HK1; replace HK := asd_ HK1; clear HK1; clear bg6 bg8 bg9; have bg6 := cE HK 2; have bg8 := cE HK 1; have bg9 := cE HK 0) | ((with_reducible refine gd_ 11 ?_); refine bx_ #[i0, bF, i0, eS, nilS, nilS] 25 ?_; clear HK bg6 bg8 bg9; intro g11 wb11 HK Gg11; have bg6 := cE HK 3; have bg8 := cE HK 2; have bg9 := cE HK 1; have bg11 := cE HK 0) | ((with_reducible refine gate_ (.store 25 (.tmp 11) (.tmp 22)) rfl ?_); refine storerow_at (cs := #[i0, bF, i0, eS, nilS, nilS]) (g := g11) 0 (jvc x A4 A5 c4 c5) at_ rfl Gg11.out rfl rfl rfl rfl rfl rfl kr_ rfl (by simp [Value.oneCell']) ?_; intro wr1 HK1; replace HK := asd_ HK1; clear HK1; clear bg6 bg8 bg9 bg11; have bg6 := cE HK 3; have bg8 := cE HK 2; have bg9 := cE HK 1; have bg11 := cE HK 0) | ((with_reducible refine gd_ 27 ?_); (try (refine gate_guard (by rfl) ?_; dsimp only)); refine lo_ 54 9 g9 (#[.string ⟨#[49]⟩, .string ⟨#[83, 99, 104, 101, 109, 97]⟩, .slice Ap 0 cp, .slice Aa 0 ca, .string tx, .slice An nn cn, nilS, .slice (some ⟨gk, 0, none⟩) 1 ck]) HK.out.k.2.1 Tryz.underlying54 ?_) | ((with_reducible refine gd_ 28 ?_); (try (refine gate_guard (by rfl) ?_; dsimp only)); refine cl_ #[.agg #[.string ⟨#[49]⟩, .string ⟨#[83, 99, 104, 101, 109, 97]⟩, .slice Ap 0 cp, .slice Aa 0 ca, .string tx, .slice An nn cn, nilS, .slice (some ⟨gk, 0, none⟩) 1 ck]] (.bool true) Tryz.func41 (HP.out _ HK.out.b) ?_; intro wc28 HK1; replace HK := asd_ HK1; clear HK1; clear bg6 bg8 bg9 bg11; have bg6 := cE HK 3; have bg8 := cE HK 2; have bg9 := cE HK 1; have bg11 := cE HK 0) | (go_at_call 23; refine (HD.out _ HK.out.b).mono ?_; rintro e w3 ⟨v34, rfl, ⟨g7, rfl, h7, hf7⟩, hB⟩; have HK1 := At.came HK.out hB h7 hf7; clear hB h7 hf7; replace HK := asd_ HK1; clear HK1; clear bg6 bg8 bg9 bg11; have bg6 := cE HK 4; have bg8 := cE HK 3; have bg9 := cE HK 2; have bg11 := cE HK 1; have bg7 := cE HK 0))
 refine wp_loop_two ?_
 go_wp2_with fail
 refine st_ 31 (fun w' => At w [.b g7 (row #[.int .i64 1] 3), .b g11 (row (jvc x A4 A5 c4 c5) 25), .b g9 (row (#[.string ⟨#[49]⟩, .string ⟨#[83, 99, 104, 101, 109, 97]⟩, .slice Ap 0 cp, .slice Aa 0 ca, .string tx, .slice An nn cn, nilS, .slice (some ⟨gk, 0, none⟩) 1 ck]) 54), .b g8 (row (jvc x A4 A5 c4 c5) 25), .b g6 (row (#[sv, nilS]) 68)] w' ∧ (∀ j, w'.cell? ⟨g6, j, none⟩ = (#[sv, nilS] : Array Value)[j]?) ∧ (∀ j, w'.cell? ⟨g8, j, none⟩ = (jvc x A4 A5 c4 c5 : Array Value)[j]?) ∧ (∀ j, w'.cell? ⟨g9, j, none⟩ = (#[.string ⟨#[49]⟩, .string ⟨#[83, 99, 104, 101, 109, 97]⟩, .slice Ap 0 cp, .slice Aa 0 ca, .string tx, .slice An nn cn, nilS, .slice (some ⟨gk, 0, none⟩) 1 ck] : Array Value)[j]?) ∧ (∀ j, w'.cell? ⟨g11, j, none⟩ = (jvc x A4 A5 c4 c5 : Array Value)[j]?) ∧ (∀ j, w'.cell? ⟨g7, j, none⟩ = (#[.int .i64 1] : Array Value)[j]?)) [] (fun A => ⟨A, (cA A 4), (cA A 3), (cA A 2), (cA A 1), (cA A 0)⟩) (fun hHeld => ?_)
 refine pu_ 0 41 1 ?_
 refine pu_ 1 42 3 ?_
 refine pu_ 2 43 7 ?_
 refine pu_ 3 44 15 ?_
 refine pu_ 4 45 31 ?_
 refine ta6_ 5 46 63 hHeld ?_
 refine pu_ 6 47 127 ?_
 refine pu_ 7 48 255 ?_
 refine pu_ 8 49 511 ?_
 refine pu_ 10 51 1535 ?_
 refine pu_ 11 52 3583 ?_
 refine pu_ 12 53 7679 ?_
 refine tq_ 9 50 8191 rfl hHeld (by rintro w' ⟨s0, s1, s2, s3, s4, s5⟩; exact rr_ 6 g6 (#[sv, nilS]) s0.k.2.2.2.2.1 Tryz.underlying68) ?_
 refine ta6_ 13 54 16383 hHeld ?_
 refine tq_ 14 55 32767 rfl hHeld (by rintro w' ⟨s0, s1, s2, s3, s4, s5⟩; exact rr_ 11 g11 (jvc x A4 A5 c4 c5) s0.k.2.1 Tryz.underlying25) ?_
 refine on_ 15 56 65535 (fun K hK => ?_)
 have HE := asd_ (hHeld.1)
 refine ge_ Tryz.func42 #[.int .i64 2020, .agg #[sv, nilS], .int .i64 1, .agg (jvc x A4 A5 c4 c5)] ?_
 with_reducible refine (HT.out _ HE.out.b).mono ?_
 rintro e w3 ⟨rfl, hb⟩
 refine ⟨_, rfl, ?_⟩
 replace HE := asd_ (At.step HE.out hb)
 refine hK.out _ _ ⟨HE.out, (cE HE 4), (cE HE 3), (cE HE 2), (cE HE 1), (cE HE 0)⟩ (fun hHeld => ?_)
 clear hK K
 refine nq_ 56 ?_
 refine pu_ 16 57 131071 ?_
 refine pu_ 17 58 262143 ?_
 refine pu_ 18 59 524287 ?_
 refine pu_ 19 60 1048575 ?_
 refine pu_ 21 62 3145727 ?_
 refine pu_ 22 63 7340031 ?_
 refine pu_ 23 64 15728639 ?_
 refine tq_ 20 61 16777215 rfl hHeld (by rintro w' ⟨s0, s1, s2, s3, s4, s5⟩; exact rr_ 6 g6 (#[sv, nilS]) s0.k.2.2.2.2.1 Tryz.underlying68) ?_
 refine ta6_ 24 65 33554431 hHeld ?_
 refine tq_ 25 66 67108863 rfl hHeld (by rintro w' ⟨s0, s1, s2, s3, s4, s5⟩; exact rr_ 11 g11 (jvc x A4 A5 c4 c5) s0.k.2.1 Tryz.underlying25) ?_
 refine tq_ 26 67 134217727 rfl hHeld (by rintro w' ⟨s0, s1, s2, s3, s4, s5⟩; exact rr_ 9 g9 (#[.string ⟨#[49]⟩, .string ⟨#[83, 99, 104, 101, 109, 97]⟩, .slice Ap 0 cp, .slice Aa 0 ca, .string tx, .slice An nn cn, nilS, .slice (some ⟨gk, 0, none⟩) 1 ck]) s0.k.2.2.1 Tryz.underlying54) ?_
 refine on_ 27 68 268435455 (fun K hK => ?_)
 refine ge_ Tryz.func43 #[.int .i64 2020, .agg #[sv, nilS], .int .i64 1, .agg (jvc x A4 A5 c4 c5), .agg #[.string ⟨#[49]⟩, .string ⟨#[83, 99, 104, 101, 109, 97]⟩, .slice Ap 0 cp, .slice Aa 0 ca, .string tx, .slice An nn cn, nilS, .slice (some ⟨gk, 0, none⟩) 1 ck]] ?_
 with_reducible refine (HR.out _ HE.out.b).mono ?_
 rintro e w3 ⟨rfl, hb⟩
 refine ⟨_, rfl, ?_⟩
 replace HE := asd_ (At.step HE.out hb)
 refine hK.out _ _ ⟨HE.out, (cE HE 4), (cE HE 3), (cE HE 2), (cE HE 1), (cE HE 0)⟩ (fun hHeld => ?_)
 clear hK K
 refine nq_ 68 ?_
 refine pu_ 28 69 536870911 ?_
 refine pu_ 29 70 1073741823 ?_
 refine pu_ 30 14 2147483647 ?_
 refine done_ kr_ ?_
 clear HK; have HK := HE; clear HE
 clear hHeld
 clear bg6 bg8 bg9 bg11 bg7
 have bg6 := cE HK 4
 have bg8 := cE HK 3
 have bg9 := cE HK 2
 have bg11 := cE HK 1
 have bg7 := cE HK 0
 go_wp2_with fail
 refine wp_loop_two ?_
 go_wp2_with fail
 refine st_ 25 (fun w' => At w [.b g7 (row #[.int .i64 1] 3), .b g11 (row (jvc x A4 A5 c4 c5) 25), .b g9 (row (#[.string ⟨#[49]⟩, .string ⟨#[83, 99, 104, 101, 109, 97]⟩, .slice Ap 0 cp, .slice Aa 0 ca, .string tx, .slice An nn cn, nilS, .slice (some ⟨gk, 0, none⟩) 1 ck]) 54), .b g8 (row (jvc x A4 A5 c4 c5) 25), .b g6 (row (#[sv, nilS]) 68)] w' ∧ (∀ j, w'.cell? ⟨g6, j, none⟩ = (#[sv, nilS] : Array Value)[j]?) ∧ (∀ j, w'.cell? ⟨g8, j, none⟩ = (jvc x A4 A5 c4 c5 : Array Value)[j]?) ∧ (∀ j, w'.cell? ⟨g9, j, none⟩ = (#[.string ⟨#[49]⟩, .string ⟨#[83, 99, 104, 101, 109, 97]⟩, .slice Ap 0 cp, .slice Aa 0 ca, .string tx, .slice An nn cn, nilS, .slice (some ⟨gk, 0, none⟩) 1 ck] : Array Value)[j]?) ∧ (∀ j, w'.cell? ⟨g11, j, none⟩ = (jvc x A4 A5 c4 c5 : Array Value)[j]?) ∧ (∀ j, w'.cell? ⟨g7, j, none⟩ = (#[.int .i64 1] : Array Value)[j]?) ∧ w'.cell? ⟨gk, 0, none⟩ = some (.string a0) ∧ w'.cell? ⟨gk, 1, none⟩ = some (.string a1) ∧ w'.cell? ⟨gk, 2, none⟩ = some (.slice B2 m2 d2) ∧ w'.cell? ⟨gk, 3, none⟩ = some (.slice Aa2 0 ca2) ∧ w'.cell? ⟨gk, 4, none⟩ = some (.string a4) ∧ w'.cell? ⟨gk, 5, none⟩ = some (.slice B5 m5 d5) ∧ w'.cell? ⟨gk, 6, none⟩ = some (nilS) ∧ w'.cell? ⟨gk, 7, none⟩ = some (nilS)) [] (fun A => ⟨A, (cA A 4), (cA A 3), (cA A 2), (cA A 1), (cA A 0), ((A.b.cell (World.block_lt_of_cell? w _ (HC.out 0 _ rfl))).trans (HC.out 0 _ rfl)), ((A.b.cell (World.block_lt_of_cell? w _ (HC.out 1 _ rfl))).trans (HC.out 1 _ rfl)), ((A.b.cell (World.block_lt_of_cell? w _ (HC.out 2 _ rfl))).trans (HC.out 2 _ rfl)), ((A.b.cell (World.block_lt_of_cell? w _ (HC.out 3 _ rfl))).trans (HC.out 3 _ rfl)), ((A.b.cell (World.block_lt_of_cell? w _ (HC.out 4 _ rfl))).trans (HC.out 4 _ rfl)), ((A.b.cell (World.block_lt_of_cell? w _ (HC.out 5 _ rfl))).trans (HC.out 5 _ rfl)), ((A.b.cell (World.block_lt_of_cell? w _ (HC.out 6 _ rfl))).trans (HC.out 6 _ rfl)), ((A.b.cell (World.block_lt_of_cell? w _ (HC.out 7 _ rfl))).trans (HC.out 7 _ rfl))⟩) (fun hHeld => ?_)
 refine pu_ 0 78 1 ?_
 refine pu_ 1 79 3 ?_
 refine pu_ 2 80 7 ?_
 refine pu_ 4 82 23 ?_
 refine pu_ 8 86 279 ?_
 refine ta14_ 3 81 287 hHeld ?_
 refine pu_ 5 83 319 ?_
 refine pu_ 6 84 383 ?_
 refine ta14_ 7 85 511 hHeld ?_
 refine ta14_ 9 87 1023 hHeld ?_
 refine on_ 10 88 2047 (fun K hK => ?_)
 have HE := asd_ (hHeld.1)
 refine ge_ Tryz.func44 #[.slice Aa2 0 ca2, .slice Aa 0 ca] ?_
 with_reducible refine (begins_ok _ Aa2 Aa ca2 ca).mono ?_
 rintro e w3 ⟨rfl, hb⟩
 refine ⟨_, rfl, ?_⟩
 replace HE := asd_ (At.step HE.out hb)
 refine hK.out _ _ ⟨HE.out, (cE HE 4), (cE HE 3), (cE HE 2), (cE HE 1), (cE HE 0), ((HE.out.b.cell (World.block_lt_of_cell? w _ (HC.out 0 _ rfl))).trans (HC.out 0 _ rfl)), ((HE.out.b.cell (World.block_lt_of_cell? w _ (HC.out 1 _ rfl))).trans (HC.out 1 _ rfl)), ((HE.out.b.cell (World.block_lt_of_cell? w _ (HC.out 2 _ rfl))).trans (HC.out 2 _ rfl)), ((HE.out.b.cell (World.block_lt_of_cell? w _ (HC.out 3 _ rfl))).trans (HC.out 3 _ rfl)), ((HE.out.b.cell (World.block_lt_of_cell? w _ (HC.out 4 _ rfl))).trans (HC.out 4 _ rfl)), ((HE.out.b.cell (World.block_lt_of_cell? w _ (HC.out 5 _ rfl))).trans (HC.out 5 _ rfl)), ((HE.out.b.cell (World.block_lt_of_cell? w _ (HC.out 6 _ rfl))).trans (HC.out 6 _ rfl)), ((HE.out.b.cell (World.block_lt_of_cell? w _ (HC.out 7 _ rfl))).trans (HC.out 7 _ rfl))⟩ (fun hHeld => ?_)
 clear hK K
 refine nq_ 88 ?_
 refine pu_ 11 89 4095 ?_
 refine pu_ 12 90 8191 ?_
 refine pu_ 13 91 16383 ?_
 refine pu_ 15 93 49151 ?_
 refine pu_ 17 95 180223 ?_
 refine pu_ 19 97 704511 ?_
 refine tq_ 14 92 720895 rfl hHeld (by rintro w' ⟨s0, s1, s2, s3, s4, s5, s6, s7, s8, s9, s10, s11, s12, s13⟩; exact rr_ 6 g6 (#[sv, nilS]) s0.k.2.2.2.2.1 Tryz.underlying68) ?_
 refine tq_ 16 94 786431 rfl hHeld (by rintro w' ⟨s0, s1, s2, s3, s4, s5, s6, s7, s8, s9, s10, s11, s12, s13⟩; exact rr_ 8 g8 (jvc x A4 A5 c4 c5) s0.k.2.2.2.1 Tryz.underlying25) ?_
 refine ta14_ 18 96 1048575 hHeld ?_
 refine pu_ 20 98 2097151 ?_
 refine ta14_ 21 99 4194303 hHeld ?_
 refine on_ 22 100 8388607 (fun K hK => ?_)
 refine ge_ Tryz.func22 #[.int .i64 2020, .agg #[sv, nilS], Value.func (.func 23) #[] #[.pointer (some ⟨gc, 0, none⟩)], .agg (jvc x A4 A5 c4 c5), .agg #[.string a0, .string a1, .slice B2 m2 d2, .slice Aa2 0 ca2, .string a4, .slice B5 m5 d5, nilS, nilS]] ?_
 with_reducible refine (HL.out _ HE.out.b).mono ?_
 rintro e w3 ⟨rfl, hb⟩
 refine ⟨_, rfl, ?_⟩
 replace HE := asd_ (At.step HE.out hb)
 refine hK.out _ _ ⟨HE.out, (cE HE 4), (cE HE 3), (cE HE 2), (cE HE 1), (cE HE 0), ((HE.out.b.cell (World.block_lt_of_cell? w _ (HC.out 0 _ rfl))).trans (HC.out 0 _ rfl)), ((HE.out.b.cell (World.block_lt_of_cell? w _ (HC.out 1 _ rfl))).trans (HC.out 1 _ rfl)), ((HE.out.b.cell (World.block_lt_of_cell? w _ (HC.out 2 _ rfl))).trans (HC.out 2 _ rfl)), ((HE.out.b.cell (World.block_lt_of_cell? w _ (HC.out 3 _ rfl))).trans (HC.out 3 _ rfl)), ((HE.out.b.cell (World.block_lt_of_cell? w _ (HC.out 4 _ rfl))).trans (HC.out 4 _ rfl)), ((HE.out.b.cell (World.block_lt_of_cell? w _ (HC.out 5 _ rfl))).trans (HC.out 5 _ rfl)), ((HE.out.b.cell (World.block_lt_of_cell? w _ (HC.out 6 _ rfl))).trans (HC.out 6 _ rfl)), ((HE.out.b.cell (World.block_lt_of_cell? w _ (HC.out 7 _ rfl))).trans (HC.out 7 _ rfl))⟩ (fun hHeld => ?_)
 clear hK K
 refine nq_ 100 ?_
 refine pu_ 23 101 16777215 ?_
 refine pu_ 24 14 33554431 ?_
 refine done_ kr_ ?_
 clear HK; have HK := HE; clear HE
 clear hHeld
 clear bg6 bg8 bg9 bg11 bg7
 have bg6 := cE HK 4
 have bg8 := cE HK 3
 have bg9 := cE HK 2
 have bg11 := cE HK 1
 have bg7 := cE HK 0
 go_wp2_with fail
 go_ret
 exact ⟨by first | rfl | simp, be_⟩
set_option maxHeartbeats 4000000 in
set_option maxRecDepth 100000 in
theorem er17 (w : World) (A : Option Addr) (cS : Nat) (x : S25) (A4 A5 : Option Addr) (c4 c5 : Nat) (e0 e1 e4 : ByteArray) (E2 E3 E5 E7 : Option Addr) (m2 d2 m3 d3 m5 d5 m7 d7 : Nat)
  (hE : ∀ W gc, Below w.heap.size w W → W.heap[gc]? = some (row #[.slice A 1 cS] 31) → Calls Tryz.prog 22 #[.int .i64 2020, .agg #[.slice A 1 cS, nilS], Value.func (.func 23) #[] #[.pointer (some ⟨gc, 0, none⟩)], .agg (jvc x A4 A5 c4 c5), .agg #[.string e0, .string e1, .slice E2 m2 d2, .slice E3 m3 d3, .string e4, .slice E5 m5 d5, nilS, .slice E7 m7 d7]] W fun e w' => e = .returned (.bool true) ∧ Below W.heap.size W w') : Calls Tryz.prog 17 #[.int .i64 2020, .slice A 1 cS, .agg (jvc x A4 A5 c4 c5), .agg #[.string e0, .string e1, .slice E2 m2 d2, .slice E3 m3 d3, .string e4, .slice E5 m5 d5, nilS, .slice E7 m7 d7]] w fun e w' => e = .returned (.bool true) ∧ Below w.heap.size w w' := by
 have HE := asd_ hE
 clear hE
 have HK : Aside0 (At w [] w) := asd_ (At.start w)
 go_enter Tryz.func17, Tryz.ntmps17
 go_wp2_with (first | ((with_reducible refine gd_ 5 ?_); refine bx_ #[.slice A 1 cS] 31 ?_; clear HK; intro g5 wb5 HK Gg5; have bg5 := cE HK 0) | ((with_reducible refine gd_ 6 ?_); refine bx_ (jvc x A4 A5 c4 c5) 25 ?_; clear HK bg5; intro g6 wb6 HK Gg6; have bg5 := cE HK 1; have bg6 := cE HK 0) | ((with_reducible refine gd_ 7 ?_); refine bx_ #[.string e0, .string e1, .slice E2 m2 d2, .slice E3 m3 d3, .string e4, .slice E5 m5 d5, nilS, .slice E7 m7 d7] 54 ?_; clear HK bg5 bg6; intro g7 wb7 HK Gg7; have bg5 := cE HK 2; have bg6 := cE HK 1; have bg7 := cE HK 0) | ((with_reducible refine gd_ 13 ?_); refine lo_ 25 6 g6 (jvc x A4 A5 c4 c5) HK.out.k.2.1 Tryz.underlying25 ?_) | ((with_reducible refine gd_ 14 ?_); refine lo_ 54 7 g7 (#[.string e0, .string e1, .slice E2 m2 d2, .slice E3 m3 d3, .string e4, .slice E5 m5 d5, nilS, .slice E7 m7 d7]) HK.out.k.1 Tryz.underlying54 ?_) | ((with_reducible refine gd_ 15 ?_); refine cl_ #[.int .i64 2020, .agg #[.slice A 1 cS, nilS], Value.func (.func 23) #[] #[.pointer (some ⟨g5, 0, none⟩)], .agg (jvc x A4 A5 c4 c5), .agg #[.string e0, .string e1, .slice E2 m2 d2, .slice E3 m3 d3, .string e4, .slice E5 m5 d5, nilS, .slice E7 m7 d7]] (.bool true) Tryz.func22 (HE.out _ g5 HK.out.b HK.out.k.2.2.1) ?_; intro wc15 HK1; replace HK := asd_ HK1; clear HK1; clear bg5 bg6 bg7; have bg5 := cE HK 2; have bg6 := cE HK 1; have bg7 := cE HK 0))
 go_ret
 exact ⟨by first | rfl | simp, be_⟩
set_option maxHeartbeats 4000000 in
set_option maxRecDepth 100000 in
theorem kinds_leaf (w : World) (tx kn : ByteArray) (Ap Aa An : Option Addr) (np cp ca nn cn : Nat) (A2 : Option Addr) (n2 c2 : Nat)
  (hA : ∀ W, Below w.heap.size w W → Calls Tryz.prog 21 #[.string kn, .slice A2 n2 c2] W fun e w' => e = .returned (.bool true) ∧ Below W.heap.size W w') : Calls Tryz.prog 16 #[.agg #[.string ⟨#[49]⟩, .string kn, .slice Ap np cp, .slice Aa 0 ca, .string tx, .slice An nn cn, nilS, nilS], .string ⟨#[49]⟩, .slice A2 n2 c2] w fun e w' => e = .returned (.int .i64 1) ∧ Below w.heap.size w w' := by
 have HA := asd_ hA
 clear hA
 have HK : Aside0 (At w [] w) := asd_ (At.start w)
 go_enter Tryz.func16, Tryz.ntmps16
 go_wp2_with (first | ((with_reducible refine gd_ 3 ?_); refine bx_ (#[.string ⟨#[49]⟩, .string kn, .slice Ap np cp, .slice Aa 0 ca, .string tx, .slice An nn cn, nilS, nilS]) 54 ?_; clear HK; intro g3 wb3 HK Gg3; have bg3 := cE HK 0) | ((with_reducible refine gd_ 17 ?_); (try (refine gate_guard (by rfl) ?_; dsimp only)); refine cl_ #[.string kn, .slice A2 n2 c2] (.bool true) Tryz.func21 (HA.out _ HK.out.b) ?_; intro wc17 HK1; replace HK := asd_ HK1; clear HK1; clear bg3; have bg3 := cE HK 0))
 refine wp_loop_once ?_
 go_wp2_with fail
 go_ret
 exact ⟨by first | rfl | simp, be_⟩
set_option maxHeartbeats 4000000 in
set_option maxRecDepth 100000 in
theorem kinds_root (w : World) (tx : ByteArray) (Ap Aa An : Option Addr) (cp ca nn cn : Nat) (A2 : Option Addr) (n2 c2 : Nat) (gk ck : Nat) (a0 a1 a4 : ByteArray) (B2 Aa2 B5 : Option Addr) (m2 d2 ca2 m5 d5 : Nat)
  (hA : ∀ W, Below w.heap.size w W → Calls Tryz.prog 21 #[.string ⟨#[83, 99, 104, 101, 109, 97]⟩, .slice A2 n2 c2] W fun e w' => e = .returned (.bool false) ∧ Below W.heap.size W w')
  (hC : ∀ (i : Nat) (v : Value), (#[.string a0, .string a1, .slice B2 m2 d2, .slice Aa2 0 ca2, .string a4, .slice B5 m5 d5, nilS, nilS] : Array Value)[i]? = some v → w.cell? ⟨gk, i, none⟩ = some v)
  (hL : ∀ W, Below w.heap.size w W → Calls Tryz.prog 16 #[.agg #[.string a0, .string a1, .slice B2 m2 d2, .slice Aa2 0 ca2, .string a4, .slice B5 m5 d5, nilS, nilS], .string ⟨#[49]⟩, .slice A2 n2 c2] W fun e w' => e = .returned (.int .i64 1) ∧ Below W.heap.size W w') : Calls Tryz.prog 16 #[.agg #[.string ⟨#[49]⟩, .string ⟨#[83, 99, 104, 101, 109, 97]⟩, .slice Ap 0 cp, .slice Aa 0 ca, .string tx, .slice An nn cn, nilS, .slice (some ⟨gk, 0, none⟩) 1 ck], .string ⟨#[49]⟩, .slice A2 n2 c2] w fun e w' => e = .returned (.int .i64 1) ∧ Below w.heap.size w w' := by
 have HA := asd_ hA
 clear hA
 have HC := asd_ hC
 have HL := asd_ hL
 clear hC hL
 have HK : Aside0 (At w [] w) := asd_ (At.start w)
 go_enter Tryz.func16, Tryz.ntmps16
 go_wp2_with (first | ((with_reducible refine gd_ 3 ?_); refine bx_ (#[.string ⟨#[49]⟩, .string ⟨#[83, 99, 104, 101, 109, 97]⟩, .slice Ap 0 cp, .slice Aa 0 ca, .string tx, .slice An nn cn, nilS, .slice (some ⟨gk, 0, none⟩) 1 ck]) 54 ?_; clear HK; intro g3 wb3 HK Gg3; have bg3 := cE HK 0; have hk0 : World.cell? wb3 ⟨gk, 0, none⟩ = some (.string a0) := (HK.out.b.cell (World.block_lt_of_cell? w _ (HC.out 0 _ rfl))).trans (HC.out 0 _ rfl); have hk1 : World.cell? wb3 ⟨gk, 1, none⟩ = some (.string a1) := (HK.out.b.cell (World.block_lt_of_cell? w _ (HC.out 1 _ rfl))).trans (HC.out 1 _ rfl); have hk2 : World.cell? wb3 ⟨gk, 2, none⟩ = some (.slice B2 m2 d2) := (HK.out.b.cell (World.block_lt_of_cell? w _ (HC.out 2 _ rfl))).trans (HC.out 2 _ rfl); have hk3 : World.cell? wb3 ⟨gk, 3, none⟩ = some (.slice Aa2 0 ca2) := (HK.out.b.cell (World.block_lt_of_cell? w _ (HC.out 3 _ rfl))).trans (HC.out 3 _ rfl); have hk4 : World.cell? wb3 ⟨gk, 4, none⟩ = some (.string a4) := (HK.out.b.cell (World.block_lt_of_cell? w _ (HC.out 4 _ rfl))).trans (HC.out 4 _ rfl); have hk5 : World.cell? wb3 ⟨gk, 5, none⟩ = some (.slice B5 m5 d5) := (HK.out.b.cell (World.block_lt_of_cell? w _ (HC.out 5 _ rfl))).trans (HC.out 5 _ rfl); have hk6 : World.cell? wb3 ⟨gk, 6, none⟩ = some (nilS) := (HK.out.b.cell (World.block_lt_of_cell? w _ (HC.out 6 _ rfl))).trans (HC.out 6 _ rfl); have hk7 : World.cell? wb3 ⟨gk, 7, none⟩ = some (nilS) := (HK.out.b.cell (World.block_lt_of_cell? w _ (HC.out 7 _ rfl))).trans (HC.out 7 _ rfl)) | ((with_reducible refine gd_ 17 ?_); (try (refine gate_guard (by rfl) ?_; dsimp only)); refine cl_ #[.string ⟨#[83, 99, 104, 101, 109, 97]⟩, .slice A2 n2 c2] (.bool false) Tryz.func21 (HA.out _ HK.out.b) ?_; intro wc17 HK1; replace HK := asd_ HK1; clear HK1; clear bg3 hk0 hk1 hk2 hk3 hk4 hk5 hk6 hk7; have bg3 := cE HK 0; have hk0 : World.cell? wc17 ⟨gk, 0, none⟩ = some (.string a0) := (HK.out.b.cell (World.block_lt_of_cell? w _ (HC.out 0 _ rfl))).trans (HC.out 0 _ rfl); have hk1 : World.cell? wc17 ⟨gk, 1, none⟩ = some (.string a1) := (HK.out.b.cell (World.block_lt_of_cell? w _ (HC.out 1 _ rfl))).trans (HC.out 1 _ rfl); have hk2 : World.cell? wc17 ⟨gk, 2, none⟩ = some (.slice B2 m2 d2) := (HK.out.b.cell (World.block_lt_of_cell? w _ (HC.out 2 _ rfl))).trans (HC.out 2 _ rfl); have hk3 : World.cell? wc17 ⟨gk, 3, none⟩ = some (.slice Aa2 0 ca2) := (HK.out.b.cell (World.block_lt_of_cell? w _ (HC.out 3 _ rfl))).trans (HC.out 3 _ rfl); have hk4 : World.cell? wc17 ⟨gk, 4, none⟩ = some (.string a4) := (HK.out.b.cell (World.block_lt_of_cell? w _ (HC.out 4 _ rfl))).trans (HC.out 4 _ rfl); have hk5 : World.cell? wc17 ⟨gk, 5, none⟩ = some (.slice B5 m5 d5) := (HK.out.b.cell (World.block_lt_of_cell? w _ (HC.out 5 _ rfl))).trans (HC.out 5 _ rfl); have hk6 : World.cell? wc17 ⟨gk, 6, none⟩ = some (nilS) := (HK.out.b.cell (World.block_lt_of_cell? w _ (HC.out 6 _ rfl))).trans (HC.out 6 _ rfl); have hk7 : World.cell? wc17 ⟨gk, 7, none⟩ = some (nilS) := (HK.out.b.cell (World.block_lt_of_cell? w _ (HC.out 7 _ rfl))).trans (HC.out 7 _ rfl)))
 refine wp_loop_two ?_
 go_wp2_with (first | ((with_reducible refine gd_ 34 ?_); refine cl_ #[.agg #[.string a0, .string a1, .slice B2 m2 d2, .slice Aa2 0 ca2, .string a4, .slice B5 m5 d5, nilS, nilS], .string ⟨#[49]⟩, .slice A2 n2 c2] (.int .i64 1) Tryz.func16 (HL.out _ HK.out.b) ?_; intro wc34 HK1; replace HK := asd_ HK1; clear HK1; clear bg3 hk0 hk1 hk2 hk3 hk4 hk5 hk6 hk7; have bg3 := cE HK 0; have hk0 : World.cell? wc34 ⟨gk, 0, none⟩ = some (.string a0) := (HK.out.b.cell (World.block_lt_of_cell? w _ (HC.out 0 _ rfl))).trans (HC.out 0 _ rfl); have hk1 : World.cell? wc34 ⟨gk, 1, none⟩ = some (.string a1) := (HK.out.b.cell (World.block_lt_of_cell? w _ (HC.out 1 _ rfl))).trans (HC.out 1 _ rfl); have hk2 : World.cell? wc34 ⟨gk, 2, none⟩ = some (.slice B2 m2 d2) := (HK.out.b.cell (World.block_lt_of_cell? w _ (HC.out 2 _ rfl))).trans (HC.out 2 _ rfl); have hk3 : World.cell? wc34 ⟨gk, 3, none⟩ = some (.slice Aa2 0 ca2) := (HK.out.b.cell (World.block_lt_of_cell? w _ (HC.out 3 _ rfl))).trans (HC.out 3 _ rfl); have hk4 : World.cell? wc34 ⟨gk, 4, none⟩ = some (.string a4) := (HK.out.b.cell (World.block_lt_of_cell? w _ (HC.out 4 _ rfl))).trans (HC.out 4 _ rfl); have hk5 : World.cell? wc34 ⟨gk, 5, none⟩ = some (.slice B5 m5 d5) := (HK.out.b.cell (World.block_lt_of_cell? w _ (HC.out 5 _ rfl))).trans (HC.out 5 _ rfl); have hk6 : World.cell? wc34 ⟨gk, 6, none⟩ = some (nilS) := (HK.out.b.cell (World.block_lt_of_cell? w _ (HC.out 6 _ rfl))).trans (HC.out 6 _ rfl); have hk7 : World.cell? wc34 ⟨gk, 7, none⟩ = some (nilS) := (HK.out.b.cell (World.block_lt_of_cell? w _ (HC.out 7 _ rfl))).trans (HC.out 7 _ rfl)))
 go_ret
 exact ⟨by first | rfl | simp, be_⟩
set_option maxHeartbeats 4000000 in
set_option maxRecDepth 100000 in
theorem tells_err (w : World) (A : Option Addr) (cS : Nat) (x : S25) (A4 A5 : Option Addr) (c4 c5 : Nat) (A2 : Option Addr) (n2 c2 : Nat)
  (h14 : ∀ W, Below w.heap.size w W → Calls Tryz.prog 14 #[.slice A 1 cS, .agg (jvc x A4 A5 c4 c5)] W fun e w' => ∃ e0 e1 e4 E2 E3 E5 E7 m2 d2 m3 d3 m5 d5 m7 d7, e = .returned (.tuple #[.agg #[.string e0, .string e1, .slice E2 m2 d2, .slice E3 m3 d3, .string e4, .slice E5 m5 d5, nilS, .slice E7 m7 d7], .bool true]) ∧
   (∀ W1, Below w'.heap.size w' W1 → Calls Tryz.prog 16 #[.agg #[.string e0, .string e1, .slice E2 m2 d2, .slice E3 m3 d3, .string e4, .slice E5 m5 d5, nilS, .slice E7 m7 d7], .string ⟨#[49]⟩, .slice A2 n2 c2] W1 fun e w1 => e = .returned (.int .i64 1) ∧ Below W1.heap.size W1 w1) ∧
   (∀ W1, Below w'.heap.size w' W1 → Calls Tryz.prog 17 #[.int .i64 2020, .slice A 1 cS, .agg (jvc x A4 A5 c4 c5), .agg #[.string e0, .string e1, .slice E2 m2 d2, .slice E3 m3 d3, .string e4, .slice E5 m5 d5, nilS, .slice E7 m7 d7]] W1 fun e w1 => e = .returned (.bool true) ∧ Below W1.heap.size W1 w1) ∧ Below W.heap.size W w') : Calls Tryz.prog 8 #[.slice A 1 cS, .agg (jvc x A4 A5 c4 c5), .slice A2 n2 c2] w fun e w' => e = .returned (.bool true) ∧ Below w.heap.size w w' := by
 have H14 := asd_ h14
 clear h14
 have HK : Aside0 (At w [] w) := asd_ (At.start w)
 go_enter Tryz.func8, Tryz.ntmps8
 go_wp2_with (first | ((with_reducible refine gd_ 4 ?_); refine bx_ (jvc x A4 A5 c4 c5) 25 ?_; clear HK; intro g4 wb4 HK Gg4; have bg4 := cE HK 0) | ((with_reducible refine gd_ 11 ?_); refine lo_ 25 4 g4 (jvc x A4 A5 c4 c5) HK.out.k.1 Tryz.underlying25 ?_) | (go_at_call 14; refine (H14.out _ HK.out.b).mono ?_; rintro e w3 ⟨e0, e1, e4, E2, E3, E5, E7, m2, d2, m3, d3, m5, d5, m7, d7, rfl, h16, h17, hB⟩; have HB0 := asd_ (below_step HK.out.b hB); have H16 := asd_ h16; have H17 := asd_ h17; have HK1 : At w3 [.b g4 (row (jvc x A4 A5 c4 c5) 25)] w3 := At.hold (At.start w3) (HK.out.step hB).k.1 (by simp [nums]); clear hB h16 h17; replace HK := asd_ HK1; clear HK1; clear bg4; have bg4 := cE HK 0) | ((with_reducible refine gd_ 7 ?_); refine bx_ #[eS, eS, nilS, nilS, eS, nilS, nilS, nilS] 54 ?_; clear HK bg4; intro g7 wb7 HK Gg7; have bg4 := cE HK 1; have bg7 := cE HK 0) | ((with_reducible refine gate_ (.store 54 (.tmp 7) (.tmp 13)) rfl ?_); refine storerow_at (cs := #[eS, eS, nilS, nilS, eS, nilS, nilS, nilS]) (g := g7) 0 (#[.string e0, .string e1, .slice E2 m2 d2, .slice E3 m3 d3, .string e4, .slice E5 m5 d5, nilS, .slice E7 m7 d7]) at_ rfl Gg7.out rfl rfl rfl rfl rfl rfl kr_ rfl (by simp [Value.oneCell']) ?_; intro wr1 HK1; replace HK := asd_ HK1; clear HK1; clear bg4 bg7; have bg4 := cE HK 1; have bg7 := cE HK 0) | ((with_reducible refine gd_ 20 ?_); refine lo_ 54 7 g7 (#[.string e0, .string e1, .slice E2 m2 d2, .slice E3 m3 d3, .string e4, .slice E5 m5 d5, nilS, .slice E7 m7 d7]) HK.out.k.1 Tryz.underlying54 ?_) | ((with_reducible refine gd_ 22 ?_); refine cl_ #[.agg #[.string e0, .string e1, .slice E2 m2 d2, .slice E3 m3 d3, .string e4, .slice E5 m5 d5, nilS, .slice E7 m7 d7], .string ⟨#[49]⟩, .slice A2 n2 c2] (.int .i64 1) Tryz.func16 (H16.out _ HK.out.b) ?_; intro wc22 HK1; replace HK := asd_ HK1; clear HK1; clear bg4 bg7; have bg4 := cE HK 1; have bg7 := cE HK 0) | ((with_reducible refine gd_ 26 ?_); (try (refine gate_guard (by rfl) ?_; dsimp only)); refine lo_ 25 4 g4 (jvc x A4 A5 c4 c5) HK.out.k.2.1 Tryz.underlying25 ?_) | ((with_reducible refine gd_ 27 ?_); (try (refine gate_guard (by rfl) ?_; dsimp only)); refine lo_ 54 7 g7 (#[.string e0, .string e1, .slice E2 m2 d2, .slice E3 m3 d3, .string e4, .slice E5 m5 d5, nilS, .slice E7 m7 d7]) HK.out.k.1 Tryz.underlying54 ?_) | ((with_reducible refine gd_ 28 ?_); (try (refine gate_guard (by rfl) ?_; dsimp only)); refine cl_ #[.int .i64 2020, .slice A 1 cS, .agg (jvc x A4 A5 c4 c5), .agg #[.string e0, .string e1, .slice E2 m2 d2, .slice E3 m3 d3, .string e4, .slice E5 m5 d5, nilS, .slice E7 m7 d7]] (.bool true) Tryz.func17 (H17.out _ HK.out.b) ?_; intro wc28 HK1; replace HK := asd_ HK1; clear HK1; clear bg4 bg7; have bg4 := cE HK 1; have bg7 := cE HK 0))
 go_ret
 exact ⟨by first | rfl | simp, below_step HB0.out be_⟩
set_option maxHeartbeats 4000000 in
set_option maxRecDepth 100000 in
theorem tells_none (w : World) (A : Option Addr) (cS : Nat) (x : S25) (A4 A5 : Option Addr) (c4 c5 : Nat) (A2 : Option Addr) (n2 c2 : Nat)
  (h14 : ∀ W, Below w.heap.size w W → Calls Tryz.prog 14 #[.slice A 1 cS, .agg (jvc x A4 A5 c4 c5)] W fun e w' => e = .returned (.tuple #[.agg #[eS, eS, nilS, nilS, eS, nilS, nilS, nilS], .bool false]) ∧ Below W.heap.size W w')
  (h15 : ∀ W, Below w.heap.size w W → Calls Tryz.prog 15 #[.slice A 1 cS, .agg (jvc x A4 A5 c4 c5)] W fun e w' => e = .returned (.bool true) ∧ Below W.heap.size W w') : Calls Tryz.prog 8 #[.slice A 1 cS, .agg (jvc x A4 A5 c4 c5), .slice A2 n2 c2] w fun e w' => e = .returned (.bool true) ∧ Below w.heap.size w w' := by
 have H14 := asd_ h14
 clear h14
 have H15 := asd_ h15
 clear h15
 have HK : Aside0 (At w [] w) := asd_ (At.start w)
 go_enter Tryz.func8, Tryz.ntmps8
 go_wp2_with (first | ((with_reducible refine gd_ 4 ?_); refine bx_ (jvc x A4 A5 c4 c5) 25 ?_; clear HK; intro g4 wb4 HK Gg4; have bg4 := cE HK 0) | ((with_reducible refine gd_ 11 ?_); refine lo_ 25 4 g4 (jvc x A4 A5 c4 c5) HK.out.k.1 Tryz.underlying25 ?_) | ((with_reducible refine gd_ 12 ?_); refine cl_ #[.slice A 1 cS, .agg (jvc x A4 A5 c4 c5)] (.tuple #[.agg #[eS, eS, nilS, nilS, eS, nilS, nilS, nilS], .bool false]) Tryz.func14 (H14.out _ HK.out.b) ?_; intro wc12 HK1; replace HK := asd_ HK1; clear HK1; clear bg4; have bg4 := cE HK 0) | ((with_reducible refine gd_ 7 ?_); refine bx_ #[eS, eS, nilS, nilS, eS, nilS, nilS, nilS] 54 ?_; clear HK bg4; intro g7 wb7 HK Gg7; have bg4 := cE HK 1; have bg7 := cE HK 0) | ((with_reducible refine gate_ (.store 54 (.tmp 7) (.tmp 13)) rfl ?_); refine storerow_at (cs := #[eS, eS, nilS, nilS, eS, nilS, nilS, nilS]) (g := g7) 0 (#[eS, eS, nilS, nilS, eS, nilS, nilS, nilS]) at_ rfl Gg7.out rfl rfl rfl rfl rfl rfl kr_ rfl (by simp [Value.oneCell']) ?_; intro wr1 HK1; replace HK := asd_ HK1; clear HK1; clear bg4 bg7; have bg4 := cE HK 1; have bg7 := cE HK 0) | ((with_reducible refine gd_ 18 ?_); refine lo_ 25 4 g4 (jvc x A4 A5 c4 c5) HK.out.k.2.1 Tryz.underlying25 ?_) | ((with_reducible refine gd_ 19 ?_); refine cl_ #[.slice A 1 cS, .agg (jvc x A4 A5 c4 c5)] (.bool true) Tryz.func15 (H15.out _ HK.out.b) ?_; intro wc19 HK1; replace HK := asd_ HK1; clear HK1; clear bg4 bg7; have bg4 := cE HK 1; have bg7 := cE HK 0))
 go_ret
 exact ⟨by first | rfl | simp, be_⟩
section
variable {P : Program} {w : World} {l : List Blk} {W : World} {ops : Array Oper} {rest : List Oper} {o : Oper} {a : Act} {Q : Exit → Act → World → Prop}
theorem buildSlice_at {t e : TypeId} {len : Nat} {parts : Array (Nat × Operand)} {N : Tmp} (cells : Array Value) (H : At w l W) (hgd : o.guard = none) (ho : o.op = .buildSlice t len parts) (hN : o.dst = some N) (hu : P.underlying t = some (.slice e))
  (hf : P.builtSlice e len (parts.map fun (i, x) => (i, a.eval x)).toList = some cells)
  (h : ∀ g w1, At w (.b g (row cells e) :: l) w1 → w.heap.size ≤ g → wpList P ops Q rest (a.put (some N) (.slice (some ⟨g, 0, none⟩) len len)) w1) : wpList P ops Q (o :: rest) a W :=
 Great.wpList_buildSliceTo hgd t e len parts ho W.heap.size rfl (some N) hN hu cells hf (h _ _ (H.new _) H.b.size)
theorem build_at {t : TypeId} {parts : Array (Nat × Operand)} {N : Tmp} (cells : Array Value) (hgd : o.guard = none) (ho : o.op = .build t parts) (hN : o.dst = some N)
  (hf : P.built t (parts.map fun (i, x) => (i, a.eval x)).toList = some cells)
  (h : wpList P ops Q rest (a.put (some N) (.agg cells)) W) : wpList P ops Q (o :: rest) a W :=
 wpList_buildTo hgd t parts ho (some N) hN cells hf h
end
set_option maxHeartbeats 4000000 in
set_option maxRecDepth 100000 in
theorem alone_ok (w : World) (n : Nd) (hn1 : n.cells.all (·.oneCell') = true) : Calls Tryz.prog 9 #[.agg n.cells] w fun e w' => ∃ gn, e = .returned (.slice (some ⟨gn, 0, none⟩) 1 1) ∧ w'.heap[gn]? = some (row n.cells 45) ∧ w.heap.size ≤ gn ∧ Below w.heap.size w w' := by
 have HK : Aside0 (At w [] w) := asd_ (At.start w)
 go_enter Tryz.func9, Tryz.ntmps9
 go_wp2_with (first | ((with_reducible refine gd_ 1 ?_); refine bx_ n.cells 45 ?_; clear HK; intro g1 wb1 HK Gg1; have bg1 := cE HK 0) | ((with_reducible refine gd_ 3 ?_); refine lo_ 45 1 g1 (n.cells) HK.out.k.1 Tryz.underlying45 ?_) | ((with_reducible refine gd_ 4 ?_); refine buildSlice_at (t := 31) (e := 45) (n.cells) at_ rfl rfl rfl Tryz.underlying31 kr_ ?_; intro gn wb4 HK1 hgn; have Ggn := asd_ hgn; clear hgn; replace HK := asd_ HK1; clear HK1; clear bg1; have bg1 := cE HK 1))
 go_ret
 exact ⟨gn, rfl, HK.out.k.1, Ggn.out, be_⟩
end Go.Proofs.YtkphbhncpdcbeaaGreatDoor.J
