/- Part of a proof. -/
import Derived.Test.YtkphbhncpdcbeaaGreatDoorQE
import Derived.Test.YtkphbhncpdcbeaaGreatDoorQC
namespace Go.Proofs.YtkphbhncpdcbeaaGreatDoor.J
open Go.RowKit Go.Proofs.YtkphbhncpdcbeaaGreatDoorW.PrintWords Go.Proofs.YtkphbhncpdcbeaaGreatDoorW.PrintLast Go.Proofs.YtkphbhncpdcbeaaGreatDoorW.PrintMore Go.Proofs.YtkphbhncpdcbeaaGreatDoor.PJT
attribute [local go_sem] Nd.csize Sc.csize Nd.c0 Nd.c1 Nd.c2 Nd.c3 Nd.c4 Nd.c5 Nd.c6 Nd.c7 Nd.c8 Nd.c9 Nd.c10 Nd.c11 Nd.c12 Nd.c13 Nd.c14 Nd.c15 Nd.c16 Nd.c17 Nd.c18 Nd.c19 Nd.c20 Nd.c21 Nd.c22 Nd.c23 Nd.c24 Nd.c25 Nd.c26 Nd.c27 Nd.c28 Nd.c29 Nd.c30 Nd.c31 Nd.c32 Nd.c33 Nd.c34 Nd.c35 Nd.c36 Nd.c37 Nd.c38 Nd.c39 Nd.c40 Nd.c41 Nd.c42 Nd.c43 Nd.c44 Nd.c45 Nd.c46 Nd.c47 Nd.c48 Nd.c49 Nd.c50 Nd.c51 Nd.c52 Sc.c0 Sc.c1 Sc.c2 Sc.c3 Sc.c4 Sc.c5 Sc.c6 Sc.c7 Sc.c8 Sc.c9 Sc.c10 Sc.c11 Sc.c12 Sc.c13 Sc.c14 Sc.c15 Sc.c16 Sc.c17 Sc.c18 Sc.c19 Sc.c20 Sc.c21 Sc.c22 Sc.c23 Sc.c24 Sc.c25 Sc.c26 Sc.c27 Sc.c28 Sc.c29 Sc.c30 Sc.c31 Sc.c32 Sc.c33 Sc.c34 Sc.c35 Sc.c36 Sc.c37 Sc.c38 Sc.c39 Sc.c40 Sc.c41 Sc.c42 Sc.c43 Sc.c44 Sc.c45 Sc.c46 Sc.c47 Sc.c48 Sc.c49 Sc.c50 Sc.c51 Sc.c52
set_option linter.unusedVariables false
set_option linter.unusedSimpArgs false
set_option maxHeartbeats 4000000 in
set_option maxRecDepth 100000 in
theorem older_none (w w0 : World) (l : List Blk) (gs : Nat) (lv : Value) (own : Int) (n : Nd) (s : Sc) (H : At w0 (.b gs (row (Sc.cells ⟨s.draft, s.loc, s.bool, s.enum, s.const, s.format, s.req, s.props, s.pats, s.deps, s.dreq, s.dsch, s.pat⟩) 119) :: l) w) (hgs : w0.heap.size ≤ gs) :
  Calls Tryz.prog 96 #[lv, .pointer (some ⟨gs, 0, none⟩), .agg n.cells, .int .i64 own] w fun e w' => e = .returned (.tuple #[]) ∧ ∃ gm, w0.heap.size ≤ gm ∧ At w0 (.b gm (.map #[] 0) :: .b gs (row (Sc.cells ⟨s.draft, s.loc, s.bool, s.enum, s.const, s.format, s.req, s.props, s.pats, (.map (some gm)), s.dreq, s.dsch, s.pat⟩) 119) :: l) w' := by
 have hmm := @run_makeMap Tryz.prog
 have Ggs := asd_ hgs
 have HK := asd_ H
 clear H
 have bgs := cE HK 0; have fgs := fE HK 0
 go_enter Tryz.func96, Tryz.ntmps96
 go_wp2_with (first | refine wp_loop_once ?_ | ((with_reducible refine gd_ 6 ?_); refine bx_ n.cells 45 ?_; clear HK bgs fgs; intro g6 wb6 HK Gg6; have bgs := cE HK 1; have fgs := fE HK 1; have bg6 := cE HK 0) | ((with_reducible refine gd_ 15 ?_); refine cl_ #[lv, i0, i0] (nP) Tryz.func52 (at_zero _ _ _ (Int.le_refl 0)) ?_; intro wc15 HK1; replace HK := asd_ HK1; clear HK1; clear bgs fgs bg6; have bgs := cE HK 1; have fgs := fE HK 1; have bg6 := cE HK 0) | ((with_reducible refine gd_ 37 ?_); refine cl_ #[lv, .agg #[i0, i0]] (.nilIface) Tryz.func95 (lmore_none _ _) ?_; intro wc37 HK1; replace HK := asd_ HK1; clear HK1; clear bgs fgs bg6; have bgs := cE HK 1; have fgs := fE HK 1; have bg6 := cE HK 0) | ((with_reducible refine gate_ (.store 20 (.tmp 39) (.tmp 37)) rfl ?_); refine store_at (t := 20) (p := 39) (g := gs) (i := 38) (v := .nilIface) 1 (Sc.cells ⟨s.draft, s.loc, s.bool, s.enum, s.const, s.format, s.req, s.props, s.pats, s.deps, s.dreq, s.dsch, s.pat⟩) rfl at_ rfl Ggs.out rfl rfl rfl rfl gs_ ?_; intro ws1 HK1; replace HK := asd_ HK1; clear HK1; clear bgs fgs bg6; have bgs := cE HK 1; have fgs := fE HK 1; have bg6 := cE HK 0) | ((with_reducible refine gd_ 41 ?_); refine nw_ (.map #[] 0) (fun b => .map (some b)) ?_; clear HK bgs fgs bg6; intro gm wb41 HK Ggm; have bgs := cE HK 2; have fgs := fE HK 2; have bg6 := cE HK 1) | ((with_reducible refine gate_ (.store 113 (.tmp 43) (.tmp 41)) rfl ?_); refine store_at (t := 113) (p := 43) (g := gs) (i := 27) (v := .map (some gm)) 2 (Sc.cells ⟨s.draft, s.loc, s.bool, s.enum, s.const, s.format, s.req, s.props, s.pats, (.map (some gm)), s.dreq, s.dsch, s.pat⟩) rfl at_ rfl Ggs.out rfl rfl rfl rfl gs_ ?_; intro ws2 HK1; replace HK := asd_ HK1; clear HK1; clear bgs fgs bg6; have bgs := cE HK 2; have fgs := fE HK 2; have bg6 := cE HK 1))
 go_end0
 exact ⟨rfl, gm, Ggm.out, At.sub HK.out (.cons_cons _ (.cons _ (List.Sublist.refl _)))⟩
theorem copied_of {w : World} {A : Option Addr} {names : List ByteArray} {c : Nat} (hr : Kd.C Kd.string w A names.length names) (hc : names.length ≤ c) (hlen : names.length < 8796093022208) :
  Calls Tryz.prog 55 #[.slice A names.length c] w fun e w' => ∃ v, e = .returned v ∧ (∃ A' c', v = .slice A' names.length c' ∧ (Fact.strs (.slice A' names.length c') names).P w') ∧ Below w.heap.size w w' := by
 refine (impl_copied.calls A c names names w hr hc (by simp [impl_copied.f, hlen])).mono ?_
 rintro e w' ⟨v, rfl, hR, hb⟩
 obtain ⟨A', c', rfl, _⟩ := Kd.R_reads hR
 exact ⟨_, rfl, ⟨A', c', rfl, Kd.R_lower hR (Nat.zero_le _)⟩, hb⟩
set_option maxHeartbeats 4000000 in
set_option maxRecDepth 100000 in
theorem set_req {A : Option Addr} {names : List ByteArray} {c : Nat} (w w0 : World) (l : List Blk) (gs : Nat) (lv : Value) (own d : Int) (hown : 0 ≤ own) (H : At w0 (.b gs (row (Sc.cells ⟨0, ⟨#[]⟩, nP, nP, nP, nP, nilS, nM, nM, nM, nM, nM, .nilIface⟩) 119) :: l) w) (hgs : w0.heap.size ≤ gs)
  (hr : Kd.C Kd.string w0 A names.length names) (hc : names.length ≤ c) (hlen : names.length < 8796093022208) :
  Calls Tryz.prog 49 #[lv, .pointer (some ⟨gs, 0, none⟩), .agg (Nd.cells ⟨0, false, nilS, nilS, false, nilS, false, nilS, .slice A names.length c, nilS⟩), .int .i64 own, .int .i64 d] w fun e w' => e = .returned (.tuple #[]) ∧ ∃ A2 c2 gm gpp gpr gds gdr, At w0 (.b gm (.map #[] 0) :: .b gs (row (Sc.cells ⟨d, ⟨#[]⟩, nP, nP, nP, nP, (.slice A2 names.length c2), .map (some gpr), .map (some gpp), .map (some gm), .map (some gdr), .map (some gds), .nilIface⟩) 119) :: .b gpp (.map #[] 0) :: .b gpr (.map #[] 0) :: .b gds (.map #[] 0) :: .b gdr (.map #[] 0) :: .f (Fact.strs (.slice A2 names.length c2) names) :: l) w' := by
 have hmm := @run_makeMap Tryz.prog
 have Ggs := asd_ hgs
 have HK := asd_ H
 clear H
 have bgs := cE HK 0; have fgs := fE HK 0
 go_enter Tryz.func49, Tryz.ntmps49
 go_wp2_with (first | refine wp_loop_once ?_ | ((with_reducible refine gd_ 7 ?_); refine bx_ (Nd.cells ⟨0, false, nilS, nilS, false, nilS, false, nilS, .slice A names.length c, nilS⟩) 45 ?_; clear HK bgs fgs; intro g7 wb7 HK Gg7; have bgs := cE HK 1; have fgs := fE HK 1; have bg7 := cE HK 0) | ((with_reducible refine gate_ (.store 3 (.tmp 22) (.tmp 20)) rfl ?_); refine store_at (t := 3) (p := 22) (g := gs) (i := 3) (v := .int .i64 d) 1 (Sc.cells ⟨d, ⟨#[]⟩, nP, nP, nP, nP, nilS, nM, nM, nM, nM, nM, .nilIface⟩) rfl at_ rfl Ggs.out rfl rfl rfl rfl gs_ ?_; intro ws1 HK1; replace HK := asd_ HK1; clear HK1; clear bgs fgs bg7; have bgs := cE HK 1; have fgs := fE HK 1; have bg7 := cE HK 0) | ((with_reducible refine gd_ 42 ?_); refine cl_ #[lv, i0, .int .i64 own] (nP) Tryz.func52 (at_zero _ _ _ hown) ?_; intro wc42 HK1; replace HK := asd_ HK1; clear HK1; clear bgs fgs bg7; have bgs := cE HK 1; have fgs := fE HK 1; have bg7 := cE HK 0) | ((with_reducible refine gate_ (.store 74 (.tmp 44) (.tmp 42)) rfl ?_); refine store_at (t := 74) (p := 44) (g := gs) (i := 7) (v := nP) 1 (Sc.cells ⟨d, ⟨#[]⟩, nP, nP, nP, nP, nilS, nM, nM, nM, nM, nM, .nilIface⟩) rfl at_ rfl Ggs.out rfl rfl rfl rfl gs_ ?_; intro ws2 HK1; replace HK := asd_ HK1; clear HK1; clear bgs fgs bg7; have bgs := cE HK 1; have fgs := fE HK 1; have bg7 := cE HK 0))
 refine st_ 27 (fun w' => At w0 (.b g7 (row (Nd.cells ⟨0, false, nilS, nilS, false, nilS, false, nilS, .slice A names.length c, nilS⟩) 45) :: .b gs (row (Sc.cells ⟨d, ⟨#[]⟩, nP, nP, nP, nP, nilS, nM, nM, nM, nM, nM, .nilIface⟩) 119) :: l) w' ∧ (∀ j, w'.cell? ⟨gs, j, none⟩ = (Sc.cells ⟨d, ⟨#[]⟩, nP, nP, nP, nP, nilS, nM, nM, nM, nM, nM, .nilIface⟩ : Array Value)[j]?) ∧ (∀ j, w'.cell? ⟨g7, j, none⟩ = (Nd.cells ⟨0, false, nilS, nilS, false, nilS, false, nilS, .slice A names.length c, nilS⟩ : Array Value)[j]?)) [20, 23, 26] (fun A => ⟨A, (cA A 1), (cA A 0)⟩) (fun hHeld => ?_)
 refine pu_ 0 45 1 ?_
 refine pu_ 1 46 3 ?_
 refine pu_ 2 47 7 ?_
 refine pu_ 3 48 15 ?_
 refine pu_ 4 49 31 ?_
 refine pu_ 6 51 95 ?_
 refine pu_ 8 53 351 ?_
 refine pu_ 9 54 863 ?_
 refine pu_ 11 56 2911 ?_
 refine pu_ 13 58 11103 ?_
 refine pu_ 14 59 27487 ?_
 refine pu_ 16 61 93023 ?_
 refine ta3_ 5 50 93055 hHeld ?_
 refine ta3_ 10 55 94079 hHeld ?_
 refine ta3_ 15 60 126847 hHeld ?_
 refine on_ 7 52 126975 (fun K hK => ?_)
 have HKc := hHeld.1
 refine ge_ Tryz.func89 #[lv, nilS, .int .i64 own] ?_
 with_reducible refine (all_nil _ _ _).mono ?_
 rintro e w3 ⟨rfl, hb⟩
 refine ⟨_, rfl, ?_⟩
 have HKd := At.step HKc hb
 refine hK.out _ _ ⟨HKd, (cA HKd 1), (cA HKd 0)⟩ (fun hHeld => ?_)
 clear hK K
 refine nq_ 52 ?_
 refine on_ 12 57 131071 (fun K hK => ?_)
 have HKc := hHeld.1
 refine ge_ Tryz.func89 #[lv, nilS, .int .i64 own] ?_
 with_reducible refine (all_nil _ _ _).mono ?_
 rintro e w3 ⟨rfl, hb⟩
 refine ⟨_, rfl, ?_⟩
 have HKd := At.step HKc hb
 refine hK.out _ _ ⟨HKd, (cA HKd 1), (cA HKd 0)⟩ (fun hHeld => ?_)
 clear hK K
 refine nq_ 57 ?_
 refine on_ 17 62 262143 (fun K hK => ?_)
 have HKc := hHeld.1
 refine ge_ Tryz.func89 #[lv, nilS, .int .i64 own] ?_
 with_reducible refine (all_nil _ _ _).mono ?_
 rintro e w3 ⟨rfl, hb⟩
 refine ⟨_, rfl, ?_⟩
 have HKd := At.step HKc hb
 refine hK.out _ _ ⟨HKd, (cA HKd 1), (cA HKd 0)⟩ (fun hHeld => ?_)
 clear hK K
 refine nq_ 62 ?_
 refine pu_ 18 63 524287 ?_
 refine pu_ 19 64 1048575 ?_
 refine lz_ 20 2097151 (fun K hK => ?_)
 have HKs := asd_ (hHeld.1)
 have fgs_ := fE HKs 1
 have cgs_ := cE HKs 1
 refine sk_ ?_
 have HKt := asd_ (At.store_to (i := 13) (v := nilS) 1 (Sc.cells ⟨d, ⟨#[]⟩, nP, nP, nP, nP, nilS, nM, nM, nM, nM, nM, .nilIface⟩) HKs.out rfl Ggs.out rfl rfl)
 clear HKs; have HKs := HKt; clear HKt
 clear fgs_ cgs_
 refine hK.out _ _ ?_
 clear hK K
 refine pu_ 21 65 4194303 ?_
 refine pu_ 22 66 8388607 ?_
 refine lz_ 23 16777215 (fun K hK => ?_)
 have fgs_ := fE HKs 1
 have cgs_ := cE HKs 1
 refine sk_ ?_
 have HKt := asd_ (At.store_to (i := 14) (v := nilS) 1 (Sc.cells ⟨d, ⟨#[]⟩, nP, nP, nP, nP, nilS, nM, nM, nM, nM, nM, .nilIface⟩) HKs.out rfl Ggs.out rfl rfl)
 clear HKs; have HKs := HKt; clear HKt
 clear fgs_ cgs_
 refine hK.out _ _ ?_
 clear hK K
 refine pu_ 24 67 33554431 ?_
 refine pu_ 25 68 67108863 ?_
 refine lz_ 26 134217727 (fun K hK => ?_)
 have fgs_ := fE HKs 1
 have cgs_ := cE HKs 1
 refine sk_ ?_
 have HKt := asd_ (At.store_to (i := 15) (v := nilS) 1 (Sc.cells ⟨d, ⟨#[]⟩, nP, nP, nP, nP, nilS, nM, nM, nM, nM, nM, .nilIface⟩) HKs.out rfl Ggs.out rfl rfl)
 clear HKs; have HKs := HKt; clear HKt
 clear fgs_ cgs_
 refine hK.out _ _ ?_
 clear hK K
 refine done_ kr_ ?_
 clear HK; have HK := HKs; clear HKs
 clear hHeld
 clear bgs fgs bg7
 have bgs := cE HK 1
 have fgs := fE HK 1
 have bg7 := cE HK 0
 go_wp2_with fail
 refine st_ 36 (fun w' => At w0 (.b g7 (row (Nd.cells ⟨0, false, nilS, nilS, false, nilS, false, nilS, .slice A names.length c, nilS⟩) 45) :: .b gs (row (Sc.cells ⟨d, ⟨#[]⟩, nP, nP, nP, nP, nilS, nM, nM, nM, nM, nM, .nilIface⟩) 119) :: l) w' ∧ (∀ j, w'.cell? ⟨gs, j, none⟩ = (Sc.cells ⟨d, ⟨#[]⟩, nP, nP, nP, nP, nilS, nM, nM, nM, nM, nM, .nilIface⟩ : Array Value)[j]?) ∧ (∀ j, w'.cell? ⟨g7, j, none⟩ = (Nd.cells ⟨0, false, nilS, nilS, false, nilS, false, nilS, .slice A names.length c, nilS⟩ : Array Value)[j]?)) [26, 29, 32, 35] (fun A => ⟨A, (cA A 1), (cA A 0)⟩) (fun hHeld => ?_)
 refine pu_ 0 69 1 ?_
 refine pu_ 1 70 3 ?_
 refine pu_ 2 71 7 ?_
 refine pu_ 3 72 15 ?_
 refine pu_ 4 73 31 ?_
 refine pu_ 5 74 63 ?_
 refine pu_ 7 76 191 ?_
 refine pu_ 9 78 703 ?_
 refine pu_ 10 79 1727 ?_
 refine pu_ 12 81 5823 ?_
 refine pu_ 14 83 22207 ?_
 refine pu_ 15 84 54975 ?_
 refine pu_ 17 86 186047 ?_
 refine pu_ 19 88 710335 ?_
 refine pu_ 20 89 1758911 ?_
 refine pu_ 22 91 5953215 ?_
 refine ta3_ 6 75 5953279 hHeld ?_
 refine ta3_ 11 80 5955327 hHeld ?_
 refine ta3_ 16 85 6020863 hHeld ?_
 refine ta3_ 21 90 8118015 hHeld ?_
 refine on_ 8 77 8118271 (fun K hK => ?_)
 have HKc := hHeld.1
 refine ge_ Tryz.func52 #[lv, i0, .int .i64 own] ?_
 with_reducible refine (at_zero _ _ _ hown).mono ?_
 rintro e w3 ⟨rfl, hb⟩
 refine ⟨_, rfl, ?_⟩
 have HKd := At.step HKc hb
 refine hK.out _ _ ⟨HKd, (cA HKd 1), (cA HKd 0)⟩ (fun hHeld => ?_)
 clear hK K
 refine nq_ 77 ?_
 refine on_ 13 82 8126463 (fun K hK => ?_)
 have HKc := hHeld.1
 refine ge_ Tryz.func52 #[lv, i0, .int .i64 own] ?_
 with_reducible refine (at_zero _ _ _ hown).mono ?_
 rintro e w3 ⟨rfl, hb⟩
 refine ⟨_, rfl, ?_⟩
 have HKd := At.step HKc hb
 refine hK.out _ _ ⟨HKd, (cA HKd 1), (cA HKd 0)⟩ (fun hHeld => ?_)
 clear hK K
 refine nq_ 82 ?_
 refine on_ 18 87 8388607 (fun K hK => ?_)
 have HKc := hHeld.1
 refine ge_ Tryz.func52 #[lv, i0, .int .i64 own] ?_
 with_reducible refine (at_zero _ _ _ hown).mono ?_
 rintro e w3 ⟨rfl, hb⟩
 refine ⟨_, rfl, ?_⟩
 have HKd := At.step HKc hb
 refine hK.out _ _ ⟨HKd, (cA HKd 1), (cA HKd 0)⟩ (fun hHeld => ?_)
 clear hK K
 refine nq_ 87 ?_
 refine on_ 23 92 16777215 (fun K hK => ?_)
 have HKc := hHeld.1
 refine ge_ Tryz.func52 #[lv, i0, .int .i64 own] ?_
 with_reducible refine (at_zero _ _ _ hown).mono ?_
 rintro e w3 ⟨rfl, hb⟩
 refine ⟨_, rfl, ?_⟩
 have HKd := At.step HKc hb
 refine hK.out _ _ ⟨HKd, (cA HKd 1), (cA HKd 0)⟩ (fun hHeld => ?_)
 clear hK K
 refine nq_ 92 ?_
 refine pu_ 24 93 33554431 ?_
 refine pu_ 25 94 67108863 ?_
 refine lz_ 26 134217727 (fun K hK => ?_)
 have HKs := asd_ (hHeld.1)
 have fgs_ := fE HKs 1
 have cgs_ := cE HKs 1
 refine sk_ ?_
 have HKt := asd_ (At.store_to (i := 12) (v := nP) 1 (Sc.cells ⟨d, ⟨#[]⟩, nP, nP, nP, nP, nilS, nM, nM, nM, nM, nM, .nilIface⟩) HKs.out rfl Ggs.out rfl rfl)
 clear HKs; have HKs := HKt; clear HKt
 clear fgs_ cgs_
 refine hK.out _ _ ?_
 clear hK K
 refine pu_ 27 95 268435455 ?_
 refine pu_ 28 96 536870911 ?_
 refine lz_ 29 1073741823 (fun K hK => ?_)
 have fgs_ := fE HKs 1
 have cgs_ := cE HKs 1
 refine sk_ ?_
 have HKt := asd_ (At.store_to (i := 16) (v := nP) 1 (Sc.cells ⟨d, ⟨#[]⟩, nP, nP, nP, nP, nilS, nM, nM, nM, nM, nM, .nilIface⟩) HKs.out rfl Ggs.out rfl rfl)
 clear HKs; have HKs := HKt; clear HKt
 clear fgs_ cgs_
 refine hK.out _ _ ?_
 clear hK K
 refine pu_ 30 97 2147483647 ?_
 refine pu_ 31 98 4294967295 ?_
 refine lz_ 32 8589934591 (fun K hK => ?_)
 have fgs_ := fE HKs 1
 have cgs_ := cE HKs 1
 refine sk_ ?_
 have HKt := asd_ (At.store_to (i := 17) (v := nP) 1 (Sc.cells ⟨d, ⟨#[]⟩, nP, nP, nP, nP, nilS, nM, nM, nM, nM, nM, .nilIface⟩) HKs.out rfl Ggs.out rfl rfl)
 clear HKs; have HKs := HKt; clear HKt
 clear fgs_ cgs_
 refine hK.out _ _ ?_
 clear hK K
 refine pu_ 33 99 17179869183 ?_
 refine pu_ 34 100 34359738367 ?_
 refine lz_ 35 68719476735 (fun K hK => ?_)
 have fgs_ := fE HKs 1
 have cgs_ := cE HKs 1
 refine sk_ ?_
 have HKt := asd_ (At.store_to (i := 18) (v := nP) 1 (Sc.cells ⟨d, ⟨#[]⟩, nP, nP, nP, nP, nilS, nM, nM, nM, nM, nM, .nilIface⟩) HKs.out rfl Ggs.out rfl rfl)
 clear HKs; have HKs := HKt; clear HKt
 clear fgs_ cgs_
 refine hK.out _ _ ?_
 clear hK K
 refine done_ kr_ ?_
 clear HK; have HK := HKs; clear HKs
 clear hHeld
 clear bgs fgs bg7
 have bgs := cE HK 1
 have fgs := fE HK 1
 have bg7 := cE HK 0
 go_wp2_with (first | refine wp_loop_once ?_)
 refine st_ 14 (fun w' => At w0 (.b g7 (row (Nd.cells ⟨0, false, nilS, nilS, false, nilS, false, nilS, .slice A names.length c, nilS⟩) 45) :: .b gs (row (Sc.cells ⟨d, ⟨#[]⟩, nP, nP, nP, nP, nilS, nM, nM, nM, nM, nM, .nilIface⟩) 119) :: l) w' ∧ (∀ j, w'.cell? ⟨gs, j, none⟩ = (Sc.cells ⟨d, ⟨#[]⟩, nP, nP, nP, nP, nilS, nM, nM, nM, nM, nM, .nilIface⟩ : Array Value)[j]?) ∧ (∀ j, w'.cell? ⟨g7, j, none⟩ = (Nd.cells ⟨0, false, nilS, nilS, false, nilS, false, nilS, .slice A names.length c, nilS⟩ : Array Value)[j]?)) [10, 13] (fun A => ⟨A, (cA A 1), (cA A 0)⟩) (fun hHeld => ?_)
 refine pu_ 0 144 1 ?_
 refine pu_ 1 145 3 ?_
 refine pu_ 2 146 7 ?_
 refine pu_ 5 149 39 ?_
 refine ta3_ 3 147 47 hHeld ?_
 refine ta3_ 6 150 111 hHeld ?_
 refine on_ 4 148 127 (fun K hK => ?_)
 have HKc := hHeld.1
 refine ge_ Tryz.func92 #[.agg #[bF, i0]] ?_
 with_reducible refine (limit_none _ _).mono ?_
 rintro e w3 ⟨rfl, hb⟩
 refine ⟨_, rfl, ?_⟩
 have HKd := At.step HKc hb
 refine hK.out _ _ ⟨HKd, (cA HKd 1), (cA HKd 0)⟩ (fun hHeld => ?_)
 clear hK K
 refine nq_ 148 ?_
 refine on_ 7 151 255 (fun K hK => ?_)
 have HKc := hHeld.1
 refine ge_ Tryz.func92 #[.agg #[bF, i0]] ?_
 with_reducible refine (limit_none _ _).mono ?_
 rintro e w3 ⟨rfl, hb⟩
 refine ⟨_, rfl, ?_⟩
 have HKd := At.step HKc hb
 refine hK.out _ _ ⟨HKd, (cA HKd 1), (cA HKd 0)⟩ (fun hHeld => ?_)
 clear hK K
 refine nq_ 151 ?_
 refine pu_ 8 152 511 ?_
 refine pu_ 9 153 1023 ?_
 refine lz_ 10 2047 (fun K hK => ?_)
 have HKs := asd_ (hHeld.1)
 have fgs_ := fE HKs 1
 have cgs_ := cE HKs 1
 refine sk_ ?_
 have HKt := asd_ (At.store_to (i := 42) (v := nP) 1 (Sc.cells ⟨d, ⟨#[]⟩, nP, nP, nP, nP, nilS, nM, nM, nM, nM, nM, .nilIface⟩) HKs.out rfl Ggs.out rfl rfl)
 clear HKs; have HKs := HKt; clear HKt
 clear fgs_ cgs_
 refine hK.out _ _ ?_
 clear hK K
 refine pu_ 11 154 4095 ?_
 refine pu_ 12 155 8191 ?_
 refine lz_ 13 16383 (fun K hK => ?_)
 have fgs_ := fE HKs 1
 have cgs_ := cE HKs 1
 refine sk_ ?_
 have HKt := asd_ (At.store_to (i := 43) (v := nP) 1 (Sc.cells ⟨d, ⟨#[]⟩, nP, nP, nP, nP, nilS, nM, nM, nM, nM, nM, .nilIface⟩) HKs.out rfl Ggs.out rfl rfl)
 clear HKs; have HKs := HKt; clear HKt
 clear fgs_ cgs_
 refine hK.out _ _ ?_
 clear hK K
 refine done_ kr_ ?_
 clear HK; have HK := HKs; clear HKs
 clear hHeld
 clear bgs fgs bg7
 have bgs := cE HK 1
 have fgs := fE HK 1
 have bg7 := cE HK 0
 go_wp2_with (first | refine wp_loop_once ?_)
 refine st_ 28 (fun w' => At w0 (.b g7 (row (Nd.cells ⟨0, false, nilS, nilS, false, nilS, false, nilS, .slice A names.length c, nilS⟩) 45) :: .b gs (row (Sc.cells ⟨d, ⟨#[]⟩, nP, nP, nP, nP, nilS, nM, nM, nM, nM, nM, .nilIface⟩) 119) :: l) w' ∧ (∀ j, w'.cell? ⟨gs, j, none⟩ = (Sc.cells ⟨d, ⟨#[]⟩, nP, nP, nP, nP, nilS, nM, nM, nM, nM, nM, .nilIface⟩ : Array Value)[j]?) ∧ (∀ j, w'.cell? ⟨g7, j, none⟩ = (Nd.cells ⟨0, false, nilS, nilS, false, nilS, false, nilS, .slice A names.length c, nilS⟩ : Array Value)[j]?)) [18, 21, 24, 27] (fun A => ⟨A, (cA A 1), (cA A 0)⟩) (fun hHeld => ?_)
 refine pu_ 0 179 1 ?_
 refine pu_ 1 180 3 ?_
 refine pu_ 2 181 7 ?_
 refine pu_ 3 182 15 ?_
 refine pu_ 4 183 31 ?_
 refine pu_ 7 186 159 ?_
 refine pu_ 10 189 1183 ?_
 refine pu_ 13 192 9375 ?_
 refine ta3_ 5 184 9407 hHeld ?_
 refine ta3_ 8 187 9663 hHeld ?_
 refine ta3_ 11 190 11711 hHeld ?_
 refine ta3_ 14 193 28095 hHeld ?_
 refine on_ 6 185 28159 (fun K hK => ?_)
 have HKc := hHeld.1
 refine ge_ Tryz.func92 #[.agg #[bF, i0]] ?_
 with_reducible refine (limit_none _ _).mono ?_
 rintro e w3 ⟨rfl, hb⟩
 refine ⟨_, rfl, ?_⟩
 have HKd := At.step HKc hb
 refine hK.out _ _ ⟨HKd, (cA HKd 1), (cA HKd 0)⟩ (fun hHeld => ?_)
 clear hK K
 refine nq_ 185 ?_
 refine on_ 9 188 28671 (fun K hK => ?_)
 have HKc := hHeld.1
 refine ge_ Tryz.func92 #[.agg #[bF, i0]] ?_
 with_reducible refine (limit_none _ _).mono ?_
 rintro e w3 ⟨rfl, hb⟩
 refine ⟨_, rfl, ?_⟩
 have HKd := At.step HKc hb
 refine hK.out _ _ ⟨HKd, (cA HKd 1), (cA HKd 0)⟩ (fun hHeld => ?_)
 clear hK K
 refine nq_ 188 ?_
 refine on_ 12 191 32767 (fun K hK => ?_)
 have HKc := hHeld.1
 refine ge_ Tryz.func92 #[.agg #[bF, i0]] ?_
 with_reducible refine (limit_none _ _).mono ?_
 rintro e w3 ⟨rfl, hb⟩
 refine ⟨_, rfl, ?_⟩
 have HKd := At.step HKc hb
 refine hK.out _ _ ⟨HKd, (cA HKd 1), (cA HKd 0)⟩ (fun hHeld => ?_)
 clear hK K
 refine nq_ 191 ?_
 refine on_ 15 194 65535 (fun K hK => ?_)
 have HKc := hHeld.1
 refine ge_ Tryz.func92 #[.agg #[bF, i0]] ?_
 with_reducible refine (limit_none _ _).mono ?_
 rintro e w3 ⟨rfl, hb⟩
 refine ⟨_, rfl, ?_⟩
 have HKd := At.step HKc hb
 refine hK.out _ _ ⟨HKd, (cA HKd 1), (cA HKd 0)⟩ (fun hHeld => ?_)
 clear hK K
 refine nq_ 194 ?_
 refine pu_ 16 195 131071 ?_
 refine pu_ 17 196 262143 ?_
 refine lz_ 18 524287 (fun K hK => ?_)
 have HKs := asd_ (hHeld.1)
 have fgs_ := fE HKs 1
 have cgs_ := cE HKs 1
 refine sk_ ?_
 have HKt := asd_ (At.store_to (i := 31) (v := nP) 1 (Sc.cells ⟨d, ⟨#[]⟩, nP, nP, nP, nP, nilS, nM, nM, nM, nM, nM, .nilIface⟩) HKs.out rfl Ggs.out rfl rfl)
 clear HKs; have HKs := HKt; clear HKt
 clear fgs_ cgs_
 refine hK.out _ _ ?_
 clear hK K
 refine pu_ 19 197 1048575 ?_
 refine pu_ 20 198 2097151 ?_
 refine lz_ 21 4194303 (fun K hK => ?_)
 have fgs_ := fE HKs 1
 have cgs_ := cE HKs 1
 refine sk_ ?_
 have HKt := asd_ (At.store_to (i := 32) (v := nP) 1 (Sc.cells ⟨d, ⟨#[]⟩, nP, nP, nP, nP, nilS, nM, nM, nM, nM, nM, .nilIface⟩) HKs.out rfl Ggs.out rfl rfl)
 clear HKs; have HKs := HKt; clear HKt
 clear fgs_ cgs_
 refine hK.out _ _ ?_
 clear hK K
 refine pu_ 22 199 8388607 ?_
 refine pu_ 23 200 16777215 ?_
 refine lz_ 24 33554431 (fun K hK => ?_)
 have fgs_ := fE HKs 1
 have cgs_ := cE HKs 1
 refine sk_ ?_
 have HKt := asd_ (At.store_to (i := 35) (v := nP) 1 (Sc.cells ⟨d, ⟨#[]⟩, nP, nP, nP, nP, nilS, nM, nM, nM, nM, nM, .nilIface⟩) HKs.out rfl Ggs.out rfl rfl)
 clear HKs; have HKs := HKt; clear HKt
 clear fgs_ cgs_
 refine hK.out _ _ ?_
 clear hK K
 refine pu_ 25 201 67108863 ?_
 refine pu_ 26 202 134217727 ?_
 refine lz_ 27 268435455 (fun K hK => ?_)
 have fgs_ := fE HKs 1
 have cgs_ := cE HKs 1
 refine sk_ ?_
 have HKt := asd_ (At.store_to (i := 36) (v := nP) 1 (Sc.cells ⟨d, ⟨#[]⟩, nP, nP, nP, nP, nilS, nM, nM, nM, nM, nM, .nilIface⟩) HKs.out rfl Ggs.out rfl rfl)
 clear HKs; have HKs := HKt; clear HKt
 clear fgs_ cgs_
 refine hK.out _ _ ?_
 clear hK K
 refine done_ kr_ ?_
 clear HK; have HK := HKs; clear HKs
 clear hHeld
 clear bgs fgs bg7
 have bgs := cE HK 1
 have fgs := fE HK 1
 have bg7 := cE HK 0
 go_wp2_with (first | refine wp_loop_once ?_ | ((with_reducible refine gate_ (.store 4 (.tmp 207) (.tmp 205)) rfl ?_); refine store_at (t := 4) (p := 207) (g := gs) (i := 33) (v := bF) 1 (Sc.cells ⟨d, ⟨#[]⟩, nP, nP, nP, nP, nilS, nM, nM, nM, nM, nM, .nilIface⟩) rfl at_ rfl Ggs.out rfl rfl rfl rfl gs_ ?_; intro ws16 HK1; replace HK := asd_ HK1; clear HK1; clear bgs fgs bg7; have bgs := cE HK 1; have fgs := fE HK 1; have bg7 := cE HK 0) | ((with_reducible refine gd_ 212 ?_); refine cl_ #[lv, nilS, i0] (nilS) Tryz.func89 (all_nil _ _ _) ?_; intro wc212 HK1; replace HK := asd_ HK1; clear HK1; clear bgs fgs bg7; have bgs := cE HK 1; have fgs := fE HK 1; have bg7 := cE HK 0) | ((with_reducible refine gate_ (.store 103 (.tmp 214) (.tmp 212)) rfl ?_); refine store_at (t := 103) (p := 214) (g := gs) (i := 39) (v := nilS) 1 (Sc.cells ⟨d, ⟨#[]⟩, nP, nP, nP, nP, nilS, nM, nM, nM, nM, nM, .nilIface⟩) rfl at_ rfl Ggs.out rfl rfl rfl rfl gs_ ?_; intro ws17 HK1; replace HK := asd_ HK1; clear HK1; clear bgs fgs bg7; have bgs := cE HK 1; have fgs := fE HK 1; have bg7 := cE HK 0))
 refine st_ 24 (fun w' => At w0 (.b g7 (row (Nd.cells ⟨0, false, nilS, nilS, false, nilS, false, nilS, .slice A names.length c, nilS⟩) 45) :: .b gs (row (Sc.cells ⟨d, ⟨#[]⟩, nP, nP, nP, nP, nilS, nM, nM, nM, nM, nM, .nilIface⟩) 119) :: l) w' ∧ (∀ j, w'.cell? ⟨gs, j, none⟩ = (Sc.cells ⟨d, ⟨#[]⟩, nP, nP, nP, nP, nilS, nM, nM, nM, nM, nM, .nilIface⟩ : Array Value)[j]?) ∧ (∀ j, w'.cell? ⟨g7, j, none⟩ = (Nd.cells ⟨0, false, nilS, nilS, false, nilS, false, nilS, .slice A names.length c, nilS⟩ : Array Value)[j]?)) [17, 20, 23] (fun A => ⟨A, (cA A 1), (cA A 0)⟩) (fun hHeld => ?_)
 refine pu_ 0 215 1 ?_
 refine pu_ 1 216 3 ?_
 refine pu_ 2 217 7 ?_
 refine pu_ 3 218 15 ?_
 refine pu_ 4 219 31 ?_
 refine pu_ 7 222 159 ?_
 refine pu_ 8 223 415 ?_
 refine pu_ 11 226 2463 ?_
 refine pu_ 12 227 6559 ?_
 refine ta3_ 5 220 6591 hHeld ?_
 refine ta3_ 9 224 7103 hHeld ?_
 refine ta3_ 13 228 15295 hHeld ?_
 refine on_ 6 221 15359 (fun K hK => ?_)
 have HKc := hHeld.1
 refine ge_ Tryz.func52 #[lv, i0, .int .i64 0] ?_
 with_reducible refine (at_zero _ _ _ (Int.le_refl 0)).mono ?_
 rintro e w3 ⟨rfl, hb⟩
 refine ⟨_, rfl, ?_⟩
 have HKd := At.step HKc hb
 refine hK.out _ _ ⟨HKd, (cA HKd 1), (cA HKd 0)⟩ (fun hHeld => ?_)
 clear hK K
 refine nq_ 221 ?_
 refine on_ 10 225 16383 (fun K hK => ?_)
 have HKc := hHeld.1
 refine ge_ Tryz.func52 #[lv, i0, .int .i64 0] ?_
 with_reducible refine (at_zero _ _ _ (Int.le_refl 0)).mono ?_
 rintro e w3 ⟨rfl, hb⟩
 refine ⟨_, rfl, ?_⟩
 have HKd := At.step HKc hb
 refine hK.out _ _ ⟨HKd, (cA HKd 1), (cA HKd 0)⟩ (fun hHeld => ?_)
 clear hK K
 refine nq_ 225 ?_
 refine on_ 14 229 32767 (fun K hK => ?_)
 have HKc := hHeld.1
 refine ge_ Tryz.func52 #[lv, i0, .int .i64 0] ?_
 with_reducible refine (at_zero _ _ _ (Int.le_refl 0)).mono ?_
 rintro e w3 ⟨rfl, hb⟩
 refine ⟨_, rfl, ?_⟩
 have HKd := At.step HKc hb
 refine hK.out _ _ ⟨HKd, (cA HKd 1), (cA HKd 0)⟩ (fun hHeld => ?_)
 clear hK K
 refine nq_ 229 ?_
 refine pu_ 15 230 65535 ?_
 refine pu_ 16 231 131071 ?_
 refine lz_ 17 262143 (fun K hK => ?_)
 have HKs := asd_ (hHeld.1)
 have fgs_ := fE HKs 1
 have cgs_ := cE HKs 1
 refine sk_ ?_
 have HKt := asd_ (At.store_to (i := 40) (v := nP) 1 (Sc.cells ⟨d, ⟨#[]⟩, nP, nP, nP, nP, nilS, nM, nM, nM, nM, nM, .nilIface⟩) HKs.out rfl Ggs.out rfl rfl)
 clear HKs; have HKs := HKt; clear HKt
 clear fgs_ cgs_
 refine hK.out _ _ ?_
 clear hK K
 refine pu_ 18 232 524287 ?_
 refine pu_ 19 233 1048575 ?_
 refine lz_ 20 2097151 (fun K hK => ?_)
 have fgs_ := fE HKs 1
 have cgs_ := cE HKs 1
 refine sk_ ?_
 have HKt := asd_ (At.store_to (i := 34) (v := nP) 1 (Sc.cells ⟨d, ⟨#[]⟩, nP, nP, nP, nP, nilS, nM, nM, nM, nM, nM, .nilIface⟩) HKs.out rfl Ggs.out rfl rfl)
 clear HKs; have HKs := HKt; clear HKt
 clear fgs_ cgs_
 refine hK.out _ _ ?_
 clear hK K
 refine pu_ 21 234 4194303 ?_
 refine pu_ 22 235 8388607 ?_
 refine lz_ 23 16777215 (fun K hK => ?_)
 have fgs_ := fE HKs 1
 have cgs_ := cE HKs 1
 refine sk_ ?_
 have HKt := asd_ (At.store_to (i := 41) (v := nP) 1 (Sc.cells ⟨d, ⟨#[]⟩, nP, nP, nP, nP, nilS, nM, nM, nM, nM, nM, .nilIface⟩) HKs.out rfl Ggs.out rfl rfl)
 clear HKs; have HKs := HKt; clear HKt
 clear fgs_ cgs_
 refine hK.out _ _ ?_
 clear hK K
 refine done_ kr_ ?_
 clear HK; have HK := HKs; clear HKs
 clear hHeld
 clear bgs fgs bg7
 have bgs := cE HK 1
 have fgs := fE HK 1
 have bg7 := cE HK 0
 go_wp2_with fail
 refine st_ 14 (fun w' => At w0 (.b g7 (row (Nd.cells ⟨0, false, nilS, nilS, false, nilS, false, nilS, .slice A names.length c, nilS⟩) 45) :: .b gs (row (Sc.cells ⟨d, ⟨#[]⟩, nP, nP, nP, nP, nilS, nM, nM, nM, nM, nM, .nilIface⟩) 119) :: l) w' ∧ (∀ j, w'.cell? ⟨gs, j, none⟩ = (Sc.cells ⟨d, ⟨#[]⟩, nP, nP, nP, nP, nilS, nM, nM, nM, nM, nM, .nilIface⟩ : Array Value)[j]?) ∧ (∀ j, w'.cell? ⟨g7, j, none⟩ = (Nd.cells ⟨0, false, nilS, nilS, false, nilS, false, nilS, .slice A names.length c, nilS⟩ : Array Value)[j]?)) [10, 13] (fun A => ⟨A, (cA A 1), (cA A 0)⟩) (fun hHeld => ?_)
 refine pu_ 0 236 1 ?_
 refine pu_ 1 237 3 ?_
 refine pu_ 2 238 7 ?_
 refine pu_ 5 241 39 ?_
 refine ta3_ 3 239 47 hHeld ?_
 refine ta3_ 6 242 111 hHeld ?_
 refine on_ 4 240 127 (fun K hK => ?_)
 have HKc := hHeld.1
 refine ge_ Tryz.func92 #[.agg #[bF, i0]] ?_
 with_reducible refine (limit_none _ _).mono ?_
 rintro e w3 ⟨rfl, hb⟩
 refine ⟨_, rfl, ?_⟩
 have HKd := At.step HKc hb
 refine hK.out _ _ ⟨HKd, (cA HKd 1), (cA HKd 0)⟩ (fun hHeld => ?_)
 clear hK K
 refine nq_ 240 ?_
 refine on_ 7 243 255 (fun K hK => ?_)
 have HKc := hHeld.1
 refine ge_ Tryz.func92 #[.agg #[bF, i0]] ?_
 with_reducible refine (limit_none _ _).mono ?_
 rintro e w3 ⟨rfl, hb⟩
 refine ⟨_, rfl, ?_⟩
 have HKd := At.step HKc hb
 refine hK.out _ _ ⟨HKd, (cA HKd 1), (cA HKd 0)⟩ (fun hHeld => ?_)
 clear hK K
 refine nq_ 243 ?_
 refine pu_ 8 244 511 ?_
 refine pu_ 9 245 1023 ?_
 refine lz_ 10 2047 (fun K hK => ?_)
 have HKs := asd_ (hHeld.1)
 have fgs_ := fE HKs 1
 have cgs_ := cE HKs 1
 refine sk_ ?_
 have HKt := asd_ (At.store_to (i := 21) (v := nP) 1 (Sc.cells ⟨d, ⟨#[]⟩, nP, nP, nP, nP, nilS, nM, nM, nM, nM, nM, .nilIface⟩) HKs.out rfl Ggs.out rfl rfl)
 clear HKs; have HKs := HKt; clear HKt
 clear fgs_ cgs_
 refine hK.out _ _ ?_
 clear hK K
 refine pu_ 11 246 4095 ?_
 refine pu_ 12 247 8191 ?_
 refine lz_ 13 16383 (fun K hK => ?_)
 have fgs_ := fE HKs 1
 have cgs_ := cE HKs 1
 refine sk_ ?_
 have HKt := asd_ (At.store_to (i := 20) (v := nP) 1 (Sc.cells ⟨d, ⟨#[]⟩, nP, nP, nP, nP, nilS, nM, nM, nM, nM, nM, .nilIface⟩) HKs.out rfl Ggs.out rfl rfl)
 clear HKs; have HKs := HKt; clear HKt
 clear fgs_ cgs_
 refine hK.out _ _ ?_
 clear hK K
 refine done_ kr_ ?_
 clear HK; have HK := HKs; clear HKs
 clear hHeld
 clear bgs fgs bg7
 have bgs := cE HK 1
 have fgs := fE HK 1
 have bg7 := cE HK 0
 go_wp2_with (first | refine wp_loop_once ?_ | ((with_reducible refine gd_ 251 ?_); refine cw_ #[.slice A names.length c] Tryz.func55 (copied_of (Kd.C_below hr HK.out.b) hc hlen) ?_; rintro v251 wc251 HK0 ⟨A251, c251, rfl, hF⟩ hB; have HK1 := At.fact (Fact.strs (.slice A251 names.length c251) names) HK0 hF; clear HK0 hF hB; replace HK := asd_ HK1; clear HK1; clear bgs fgs bg7; have bgs := cE HK 2; have fgs := fE HK 2; have bg7 := cE HK 1) | ((with_reducible refine gate_ (.store 22 (.tmp 253) (.tmp 251)) rfl ?_); refine store_at (t := 22) (p := 253) (g := gs) (i := 22) (v := .slice A251 names.length c251) 2 (Sc.cells ⟨d, ⟨#[]⟩, nP, nP, nP, nP, (.slice A251 names.length c251), nM, nM, nM, nM, nM, .nilIface⟩) rfl at_ rfl Ggs.out rfl rfl rfl rfl gs_ ?_; intro ws23 HK1; replace HK := asd_ HK1; clear HK1; clear bgs fgs bg7; have bgs := cE HK 2; have fgs := fE HK 2; have bg7 := cE HK 1) | ((with_reducible refine gd_ 255 ?_); refine nw_ (.map #[] 0) (fun b => .map (some b)) ?_; clear HK bgs fgs bg7; intro gdr wb255 HK Ggdr; have bgs := cE HK 3; have fgs := fE HK 3; have bg7 := cE HK 2) | ((with_reducible refine gate_ (.store 114 (.tmp 257) (.tmp 255)) rfl ?_); refine store_at (t := 114) (p := 257) (g := gs) (i := 28) (v := .map (some gdr)) 3 (Sc.cells ⟨d, ⟨#[]⟩, nP, nP, nP, nP, (.slice A251 names.length c251), nM, nM, nM, (.map (some gdr)), nM, .nilIface⟩) rfl at_ rfl Ggs.out rfl rfl rfl rfl gs_ ?_; intro ws24 HK1; replace HK := asd_ HK1; clear HK1; clear bgs fgs bg7; have bgs := cE HK 3; have fgs := fE HK 3; have bg7 := cE HK 2) | ((with_reducible refine gd_ 280 ?_); refine cw_ #[lv, nilS, .int .i64 own] Tryz.func94 (props_nil _ _ _) ?_; rintro v280 wc280 HK0 ⟨gds, rfl, hsgds, hhgds⟩ hB; have HK1 := (At.came HK.out hB hhgds hsgds); have hgg : w0.heap.size ≤ gds := Nat.le_trans HK.out.b.size hsgds; have Ggds := asd_ hgg; clear HK0 hB hsgds hhgds hgg; replace HK := asd_ HK1; clear HK1; clear bgs fgs bg7; have bgs := cE HK 4; have fgs := fE HK 4; have bg7 := cE HK 3) | ((with_reducible refine gate_ (.store 111 (.tmp 282) (.tmp 280)) rfl ?_); refine store_at (t := 111) (p := 282) (g := gs) (i := 29) (v := .map (some gds)) 4 (Sc.cells ⟨d, ⟨#[]⟩, nP, nP, nP, nP, (.slice A251 names.length c251), nM, nM, nM, (.map (some gdr)), (.map (some gds)), .nilIface⟩) rfl at_ rfl Ggs.out rfl rfl rfl rfl gs_ ?_; intro ws25 HK1; replace HK := asd_ HK1; clear HK1; clear bgs fgs bg7; have bgs := cE HK 4; have fgs := fE HK 4; have bg7 := cE HK 3) | ((with_reducible refine gd_ 287 ?_); refine cw_ #[lv, nilS, .int .i64 0] Tryz.func94 (props_nil _ _ _) ?_; rintro v287 wc287 HK0 ⟨gpr, rfl, hsgpr, hhgpr⟩ hB; have HK1 := (At.came HK.out hB hhgpr hsgpr); have hgg : w0.heap.size ≤ gpr := Nat.le_trans HK.out.b.size hsgpr; have Ggpr := asd_ hgg; clear HK0 hB hsgpr hhgpr hgg; replace HK := asd_ HK1; clear HK1; clear bgs fgs bg7; have bgs := cE HK 5; have fgs := fE HK 5; have bg7 := cE HK 4) | ((with_reducible refine gate_ (.store 111 (.tmp 289) (.tmp 287)) rfl ?_); refine store_at (t := 111) (p := 289) (g := gs) (i := 24) (v := .map (some gpr)) 5 (Sc.cells ⟨d, ⟨#[]⟩, nP, nP, nP, nP, (.slice A251 names.length c251), (.map (some gpr)), nM, nM, (.map (some gdr)), (.map (some gds)), .nilIface⟩) rfl at_ rfl Ggs.out rfl rfl rfl rfl gs_ ?_; intro ws26 HK1; replace HK := asd_ HK1; clear HK1; clear bgs fgs bg7; have bgs := cE HK 5; have fgs := fE HK 5; have bg7 := cE HK 4) | ((with_reducible refine gd_ 291 ?_); refine nw_ (.map #[] 0) (fun b => .map (some b)) ?_; clear HK bgs fgs bg7; intro gpp wb291 HK Ggpp; have bgs := cE HK 6; have fgs := fE HK 6; have bg7 := cE HK 5) | ((with_reducible refine gate_ (.store 112 (.tmp 293) (.tmp 291)) rfl ?_); refine store_at (t := 112) (p := 293) (g := gs) (i := 25) (v := .map (some gpp)) 6 (Sc.cells ⟨d, ⟨#[]⟩, nP, nP, nP, nP, (.slice A251 names.length c251), (.map (some gpr)), (.map (some gpp)), nM, (.map (some gdr)), (.map (some gds)), .nilIface⟩) rfl at_ rfl Ggs.out rfl rfl rfl rfl gs_ ?_; intro ws27 HK1; replace HK := asd_ HK1; clear HK1; clear bgs fgs bg7; have bgs := cE HK 6; have fgs := fE HK 6; have bg7 := cE HK 5))
 refine st_ 16 (fun w' => At w0 (.b gpp (.map #[] 0) :: .b gpr (.map #[] 0) :: .b gds (.map #[] 0) :: .b gdr (.map #[] 0) :: .f (Fact.strs (.slice A251 names.length c251) names) :: .b g7 (row (Nd.cells ⟨0, false, nilS, nilS, false, nilS, false, nilS, .slice A names.length c, nilS⟩) 45) :: .b gs (row (Sc.cells ⟨d, ⟨#[]⟩, nP, nP, nP, nP, (.slice A251 names.length c251), (.map (some gpr)), (.map (some gpp)), nM, (.map (some gdr)), (.map (some gds)), .nilIface⟩) 119) :: l) w' ∧ (∀ j, w'.cell? ⟨gs, j, none⟩ = (Sc.cells ⟨d, ⟨#[]⟩, nP, nP, nP, nP, (.slice A251 names.length c251), (.map (some gpr)), (.map (some gpp)), nM, (.map (some gdr)), (.map (some gds)), .nilIface⟩ : Array Value)[j]?) ∧ (∀ j, w'.cell? ⟨g7, j, none⟩ = (Nd.cells ⟨0, false, nilS, nilS, false, nilS, false, nilS, .slice A names.length c, nilS⟩ : Array Value)[j]?)) [12, 15] (fun A => ⟨A, (cA A 6), (cA A 5)⟩) (fun hHeld => ?_)
 refine pu_ 0 319 1 ?_
 refine pu_ 1 320 3 ?_
 refine pu_ 2 321 7 ?_
 refine pu_ 3 322 15 ?_
 refine pu_ 6 325 79 ?_
 refine pu_ 7 326 207 ?_
 refine ta3_ 4 323 223 hHeld ?_
 refine ta3_ 8 327 479 hHeld ?_
 refine on_ 5 324 511 (fun K hK => ?_)
 have HKc := hHeld.1
 refine ge_ Tryz.func52 #[lv, i0, .int .i64 0] ?_
 with_reducible refine (at_zero _ _ _ (Int.le_refl 0)).mono ?_
 rintro e w3 ⟨rfl, hb⟩
 refine ⟨_, rfl, ?_⟩
 have HKd := At.step HKc hb
 refine hK.out _ _ ⟨HKd, (cA HKd 6), (cA HKd 5)⟩ (fun hHeld => ?_)
 clear hK K
 refine nq_ 324 ?_
 refine on_ 9 328 1023 (fun K hK => ?_)
 have HKc := hHeld.1
 refine ge_ Tryz.func52 #[lv, i0, .int .i64 0] ?_
 with_reducible refine (at_zero _ _ _ (Int.le_refl 0)).mono ?_
 rintro e w3 ⟨rfl, hb⟩
 refine ⟨_, rfl, ?_⟩
 have HKd := At.step HKc hb
 refine hK.out _ _ ⟨HKd, (cA HKd 6), (cA HKd 5)⟩ (fun hHeld => ?_)
 clear hK K
 refine nq_ 328 ?_
 refine pu_ 10 329 2047 ?_
 refine pu_ 11 330 4095 ?_
 refine lz_ 12 8191 (fun K hK => ?_)
 have HKs := asd_ (hHeld.1)
 have fgs_ := fE HKs 6
 have cgs_ := cE HKs 6
 refine sk_ ?_
 have HKt := asd_ (At.store_to (i := 23) (v := nP) 6 (Sc.cells ⟨d, ⟨#[]⟩, nP, nP, nP, nP, (.slice A251 names.length c251), (.map (some gpr)), (.map (some gpp)), nM, (.map (some gdr)), (.map (some gds)), .nilIface⟩) HKs.out rfl Ggs.out rfl rfl)
 clear HKs; have HKs := HKt; clear HKt
 clear fgs_ cgs_
 refine hK.out _ _ ?_
 clear hK K
 refine pu_ 13 331 16383 ?_
 refine pu_ 14 332 32767 ?_
 refine lz_ 15 65535 (fun K hK => ?_)
 have fgs_ := fE HKs 6
 have cgs_ := cE HKs 6
 refine sk_ ?_
 have HKt := asd_ (At.store_to (i := 30) (v := nP) 6 (Sc.cells ⟨d, ⟨#[]⟩, nP, nP, nP, nP, (.slice A251 names.length c251), (.map (some gpr)), (.map (some gpp)), nM, (.map (some gdr)), (.map (some gds)), .nilIface⟩) HKs.out rfl Ggs.out rfl rfl)
 clear HKs; have HKs := HKt; clear HKt
 clear fgs_ cgs_
 refine hK.out _ _ ?_
 clear hK K
 refine done_ kr_ ?_
 clear HK; have HK := HKs; clear HKs
 clear hHeld
 clear bgs fgs bg7
 have bgs := cE HK 6
 have fgs := fE HK 6
 have bg7 := cE HK 5
 go_wp2_with (first | ((with_reducible refine gd_ 337 ?_); refine cl_ #[lv, .agg #[i0, i0]] (.nilIface) Tryz.func95 (lmore_none _ _) ?_; intro wc337 HK1; replace HK := asd_ HK1; clear HK1; clear bgs fgs bg7; have bgs := cE HK 6; have fgs := fE HK 6; have bg7 := cE HK 5) | ((with_reducible refine gate_ (.store 20 (.tmp 339) (.tmp 337)) rfl ?_); refine store_at (t := 20) (p := 339) (g := gs) (i := 26) (v := .nilIface) 6 (Sc.cells ⟨d, ⟨#[]⟩, nP, nP, nP, nP, (.slice A251 names.length c251), (.map (some gpr)), (.map (some gpp)), nM, (.map (some gdr)), (.map (some gds)), .nilIface⟩) rfl at_ rfl Ggs.out rfl rfl rfl rfl gs_ ?_; intro ws30 HK1; replace HK := asd_ HK1; clear HK1; clear bgs fgs bg7; have bgs := cE HK 6; have fgs := fE HK 6; have bg7 := cE HK 5) | ((with_reducible refine gd_ 342 ?_); refine lo_ 45 7 g7 (Nd.cells ⟨0, false, nilS, nilS, false, nilS, false, nilS, .slice A names.length c, nilS⟩) HK.out.k.2.2.2.2.2.1 Tryz.underlying45 ?_) | ((with_reducible refine gd_ 344 ?_); refine call_to #[lv, .pointer (some ⟨gs, 0, none⟩), .agg (Nd.cells ⟨0, false, nilS, nilS, false, nilS, false, nilS, .slice A names.length c, nilS⟩), .int .i64 own] (.tuple #[]) _ rfl Tryz.func96 kr_ rfl rfl ar_ (older_none _ w0 _ gs lv own _ ⟨d, ⟨#[]⟩, nP, nP, nP, nP, (.slice A251 names.length c251), (.map (some gpr)), (.map (some gpp)), nM, (.map (some gdr)), (.map (some gds)), .nilIface⟩ (At.front 6 HK.out rfl) Ggs.out) ?_; rintro wc344 ⟨gm, Ggm0, HK1⟩; replace HK := asd_ HK1; clear HK1; have Ggm := asd_ Ggm0; clear Ggm0; clear bgs fgs bg7; have bg7 := cE HK 7; have bgs := cE HK 1; have fgs := fE HK 1))
 go_end0
 refine ⟨rfl, A251, c251, gm, gpp, gpr, gds, gdr, ?_⟩
 exact At.sub HK.out (.cons_cons _ (.cons_cons _ (.cons_cons _ (.cons_cons _ (.cons_cons _ (.cons_cons _ (.cons_cons _ (.cons _ (List.Sublist.refl _)))))))))
set_option maxHeartbeats 4000000 in
set_option maxRecDepth 100000 in
theorem evaluated_ok (w w0 : World) (l : List Blk) (gs : Nat) (s : Sc) (H : At w0 (.b gs (row (Sc.cells ⟨2020, s.loc, s.bool, s.enum, s.const, s.format, s.req, s.props, s.pats, s.deps, s.dreq, s.dsch, s.pat⟩) 119) :: l) w) (hgs : w0.heap.size ≤ gs) :
  Calls Tryz.prog 51 #[.pointer (some ⟨gs, 0, none⟩)] w fun e w' => e = .returned (.tuple #[]) ∧ At w0 (.b gs (row (Sc.cells ⟨2020, s.loc, s.bool, s.enum, s.const, s.format, s.req, s.props, s.pats, s.deps, s.dreq, s.dsch, s.pat⟩) 119) :: l) w' := by
 have Ggs := asd_ hgs
 have HK := asd_ H
 clear H
 have bgs := cE HK 0; have fgs := fE HK 0
 go_enter Tryz.func51, Tryz.ntmps51
 go_wp2_with (first | ((with_reducible refine gate_ (.store 4 (.tmp 11) (.tmp 9)) rfl ?_); refine store_at (t := 4) (p := 11) (g := gs) (i := 0) (v := bF) 0 (Sc.cells ⟨2020, s.loc, s.bool, s.enum, s.const, s.format, s.req, s.props, s.pats, s.deps, s.dreq, s.dsch, s.pat⟩) rfl at_ rfl Ggs.out rfl rfl rfl rfl gs_ ?_; intro ws1 HK1; replace HK := asd_ HK1; clear HK1; clear bgs fgs; have bgs := cE HK 0; have fgs := fE HK 0) | ((with_reducible refine gate_ (.store 4 (.tmp 50) (.tmp 48)) rfl ?_); refine store_at (t := 4) (p := 50) (g := gs) (i := 1) (v := bF) 0 (Sc.cells ⟨2020, s.loc, s.bool, s.enum, s.const, s.format, s.req, s.props, s.pats, s.deps, s.dreq, s.dsch, s.pat⟩) rfl at_ rfl Ggs.out rfl rfl rfl rfl gs_ ?_; intro ws2 HK1; replace HK := asd_ HK1; clear HK1; clear bgs fgs; have bgs := cE HK 0; have fgs := fE HK 0) | ((with_reducible refine gate_ (.store 3 (.tmp 58) (.tmp 56)) rfl ?_); refine store_at (t := 3) (p := 58) (g := gs) (i := 2) (v := i0) 0 (Sc.cells ⟨2020, s.loc, s.bool, s.enum, s.const, s.format, s.req, s.props, s.pats, s.deps, s.dreq, s.dsch, s.pat⟩) rfl at_ rfl Ggs.out rfl rfl rfl rfl gs_ ?_; intro ws3 HK1; replace HK := asd_ HK1; clear HK1; clear bgs fgs; have bgs := cE HK 0; have fgs := fE HK 0))
 go_end0
 exact ⟨rfl, HK.out⟩
set_option maxHeartbeats 4000000 in
set_option maxRecDepth 100000 in
theorem small_1 (w : World)  : Calls Tryz.prog 169 #[.int .i64 1] w fun e w' => e = .returned (.string ⟨#[49]⟩) ∧ Below w.heap.size w w' := by
 have HK : Aside0 (At w [] w) := asd_ (At.start w)
 go_enter Tryz.func169, Tryz.ntmps169
 go_wp2_with fail
 go_ret
 exact ⟨by kernel_rfl, be_⟩
set_option maxHeartbeats 4000000 in
set_option maxRecDepth 100000 in
theorem format_1 (w : World)  : Calls Tryz.prog 135 #[.int .i64 1, .int .i64 10] w fun e w' => e = .returned (.string ⟨#[49]⟩) ∧ Below w.heap.size w w' := by
 have HK : Aside0 (At w [] w) := asd_ (At.start w)
 go_enter Tryz.func135, Tryz.ntmps135
 go_wp2_with (first | ((with_reducible refine gd_ 19 ?_); refine cl_ #[.int .i64 1] (.string ⟨#[49]⟩) Tryz.func169 (small_1 _) ?_; intro wc19 HK1; replace HK := asd_ HK1; clear HK1; skip))
 go_ret
 exact ⟨rfl, be_⟩
set_option maxHeartbeats 4000000 in
set_option maxRecDepth 100000 in
theorem itoa_in (w : World)  : Calls Tryz.prog 97 #[.int .i64 1] w fun e w' => e = .returned (.string ⟨#[49]⟩) ∧ Below w.heap.size w w' := by
 have HK : Aside0 (At w [] w) := asd_ (At.start w)
 go_enter Tryz.func97, Tryz.ntmps97
 go_wp2_with (first | ((with_reducible refine gd_ 4 ?_); refine cl_ #[.int .i64 1, .int .i64 10] (.string ⟨#[49]⟩) Tryz.func135 (format_1 _) ?_; intro wc4 HK1; replace HK := asd_ HK1; clear HK1; skip))
 go_ret
 exact ⟨rfl, be_⟩
set_option maxHeartbeats 4000000 in
set_option maxRecDepth 100000 in
theorem itoa_one (w : World)  : Calls Tryz.prog 50 #[.int .i64 1] w fun e w' => e = .returned (.string ⟨#[49]⟩) ∧ Below w.heap.size w w' := by
 have HK : Aside0 (At w [] w) := asd_ (At.start w)
 go_enter Tryz.func50, Tryz.ntmps50
 go_wp2_with (first | ((with_reducible refine gd_ 4 ?_); refine cl_ #[.int .i64 1] (.string ⟨#[49]⟩) Tryz.func97 (itoa_in _) ?_; intro wc4 HK1; replace HK := asd_ HK1; clear HK1; skip))
 go_ret
 exact ⟨rfl, be_⟩
set_option maxHeartbeats 4000000 in
set_option maxRecDepth 100000 in
theorem at_one (w : World) (ad : Addr) (c : Nat) (p : Option Addr) (hp : w.cell? ad = some (.pointer p)) : Calls Tryz.prog 52 #[.slice (some ad) 1 c, .int .i64 1, i0] w fun e w' => e = .returned (.pointer p) ∧ Below w.heap.size w w' := by
 have HK : Aside0 (At w [] w) := asd_ (At.start w)
 go_enter Tryz.func52, Tryz.ntmps52
 go_wp2_with fail
 go_ret
 exact ⟨rfl, be_⟩
theorem itoa_w (w : World) : Calls Tryz.prog 50 #[.int .i64 (wrap64 (0 + 1))] w fun e w' => e = .returned (.string ⟨#[49]⟩) ∧ Below w.heap.size w w' := by
 have e : wrap64 (0 + 1) = 1 := by unfold wrap64; omega
 rw [e]
 exact itoa_one w
set_option maxHeartbeats 4000000 in
set_option maxRecDepth 100000 in
theorem compiled_req (w : World) (gn cS : Nat) {A : Option Addr} {names : List ByteArray} {c : Nat} (hr : Kd.C Kd.string w A names.length names) (hc : names.length ≤ c) (hlen : names.length < 8796093022208) (hn1 : (Nd.cells ⟨0, false, nilS, nilS, false, nilS, false, nilS, .slice A names.length c, nilS⟩).all (·.oneCell') = true) (hS : w.heap[gn]? = some (row (Nd.cells ⟨0, false, nilS, nilS, false, nilS, false, nilS, .slice A names.length c, nilS⟩) 45)) :
  Calls Tryz.prog 27 #[.slice (some ⟨gn, 0, none⟩) 1 cS, .int .i64 2020] w fun e w' => ∃ gs A2 c2 gm gpp gpr gds gdr, e = .returned (.pointer (some ⟨gs, 0, none⟩)) ∧ w'.heap[gs]? = some (row (Sc.cells ⟨2020, ⟨#[49]⟩, nP, nP, nP, nP, (.slice A2 names.length c2), (.map (some gpr)), (.map (some gpp)), (.map (some gm)), (.map (some gdr)), (.map (some gds)), .nilIface⟩) 119) ∧ w'.heap[gpr]? = some (.map #[] 0) ∧ w'.heap[gpp]? = some (.map #[] 0) ∧ w'.heap[gm]? = some (.map #[] 0) ∧ w'.heap[gds]? = some (.map #[] 0) ∧ w'.heap[gdr]? = some (.map #[] 0) ∧ (Fact.strs (.slice A2 names.length c2) names).P w' ∧ Below w.heap.size w w' := by
 have HK : Aside0 (At w [.b gn (row (Nd.cells ⟨0, false, nilS, nilS, false, nilS, false, nilS, .slice A names.length c, nilS⟩) 45)] w) := asd_ (At.hold (At.start w) hS (by simp [nums]))
 have bgn := cE HK 0
 go_enter Tryz.func27, Tryz.ntmps27
 go_wp2_with fail
 refine wp_loop_two ?_
 go_wp2_with (first | ((with_reducible refine gd_ 13 ?_); refine wpList_buildTo rfl 119 #[] rfl (some 13) rfl (Sc.cells ⟨0, ⟨#[]⟩, nP, nP, nP, nP, nilS, nM, nM, nM, nM, nM, .nilIface⟩) kr_ ?_) | ((with_reducible refine gd_ 14 ?_); refine bx_ (Sc.cells ⟨0, ⟨#[]⟩, nP, nP, nP, nP, nilS, nM, nM, nM, nM, nM, .nilIface⟩) 119 ?_; clear HK bgn; intro gs wb14 HK Ggs; have bgn := cE HK 1; have bgs := cE HK 0) | ((with_reducible refine gd_ 15 ?_); refine new_at at_ rfl (N := 15) rfl (ob := row #[.pointer (some ⟨gs, 0, none⟩)] 74) (v := (fun b => .slice (some ⟨b, 0, none⟩) 1 1)) (by exact lit1_run Tryz.underlying104 info74 rfl rfl rfl rfl) ?_; intro g15 wb15 HK1 hgg15; have Gg15 := asd_ hgg15; clear hgg15; replace HK := asd_ HK1; clear HK1; clear bgn bgs; have bgn := cE HK 2; have bgs := cE HK 1; have fgs := fE HK 1) | ((with_reducible refine gate_builtin (b := .append) (xs := #[.tmp 12, .tmp 15]) rfl ?_); at_builtin; refine append1n_at (hE := E74) (p := some ⟨gs, 0, none⟩) (g := g15) (t := 104) (s := .tmp 12) (x := .tmp 15) (At.front 0 HK.out rfl) rfl rfl Tryz.underlying104 info74 rfl (by decide) rfl rfl (by decide) ?_; intro A16 c16 wa16 HK0; obtain ⟨adl, e1, _⟩ := ptr_of HK0.k.1; subst e1; have HK1 := HK0; clear HK0; replace HK := asd_ HK1; clear HK1; clear bgn bgs fgs; have bgn := cE HK 2; have bgs := cE HK 1; have fgs := fE HK 1))
 refine wp_loop_two ?_
 go_wp2_with (first | ((with_reducible refine gd_ 24 ?_); refine lo_ 45 23 gn (Nd.cells ⟨0, false, nilS, nilS, false, nilS, false, nilS, .slice A names.length c, nilS⟩) HK.out.k.2.2.1 Tryz.underlying45 ?_) | ((with_reducible refine gd_ 7 ?_); refine bx_ (Nd.cells ⟨0, false, nilS, nilS, false, nilS, false, nilS, nilS, nilS⟩) 45 ?_; clear HK bgn bgs fgs; intro g7 wb7 HK Gg7; have bgn := cE HK 3; have bgs := cE HK 2; have fgs := fE HK 2; have bg7 := cE HK 0) | ((with_reducible refine gate_ (.store 45 (.tmp 7) (.tmp 24)) rfl ?_); refine storerow_at (cs := Nd.cells ⟨0, false, nilS, nilS, false, nilS, false, nilS, nilS, nilS⟩) (g := g7) 0 (Nd.cells ⟨0, false, nilS, nilS, false, nilS, false, nilS, .slice A names.length c, nilS⟩) at_ rfl Gg7.out rfl rfl rfl rfl rfl rfl kr_ rfl (hn1) ?_; intro wr1 HK1; replace HK := asd_ HK1; clear HK1; clear bgn bgs fgs bg7; have bgn := cE HK 3; have bgs := cE HK 2; have fgs := fE HK 2; have bg7 := cE HK 0))
 refine st_ 10 (fun w' => At w [.b g7 (row (Nd.cells ⟨0, false, nilS, nilS, false, nilS, false, nilS, .slice A names.length c, nilS⟩) 45), .f (Fact.rows kPtr 74 w.heap.size E74 (.slice (some adl) 1 c16) [some ⟨gs, 0, none⟩]), .b gs (row (Sc.cells ⟨0, ⟨#[]⟩, nP, nP, nP, nP, nilS, nM, nM, nM, nM, nM, .nilIface⟩) 119), .b gn (row (Nd.cells ⟨0, false, nilS, nilS, false, nilS, false, nilS, .slice A names.length c, nilS⟩) 45)] w' ∧ (∀ j, w'.cell? ⟨gn, j, none⟩ = (Nd.cells ⟨0, false, nilS, nilS, false, nilS, false, nilS, .slice A names.length c, nilS⟩ : Array Value)[j]?) ∧ (∀ j, w'.cell? ⟨gs, j, none⟩ = (Sc.cells ⟨0, ⟨#[]⟩, nP, nP, nP, nP, nilS, nM, nM, nM, nM, nM, .nilIface⟩ : Array Value)[j]?) ∧ (∀ j, w'.cell? ⟨g7, j, none⟩ = (Nd.cells ⟨0, false, nilS, nilS, false, nilS, false, nilS, .slice A names.length c, nilS⟩ : Array Value)[j]?) ∧ w'.cell? adl = some (.pointer (some ⟨gs, 0, none⟩))) [9] (fun A => ⟨A, (cA A 3), (cA A 2), (cA A 0), (ptr_at A.k.2.1)⟩) (fun hHeld => ?_)
 refine pu_ 0 25 1 ?_
 refine pu_ 1 26 3 ?_
 refine pu_ 2 27 7 ?_
 refine pu_ 3 28 15 ?_
 refine pu_ 6 31 79 ?_
 refine pu_ 7 32 207 ?_
 refine pu_ 8 33 463 ?_
 refine ta5_ 4 29 479 hHeld ?_
 refine on_ 5 30 511 (fun K hK => ?_)
 refine loadr_ (ty := 45) (x := .tmp 7) g7 (Nd.cells ⟨0, false, nilS, nilS, false, nilS, false, nilS, .slice A names.length c, nilS⟩) (by rfl) rfl rfl rfl hHeld.1.k.1 Tryz.underlying45 rfl kr_ ?_
 refine hK.out _ _ ⟨hHeld.1, hHeld.2.1, hHeld.2.2.1, hHeld.2.2.2.1, hHeld.2.2.2.2⟩ (fun hHeld => ?_)
 clear hK K
 refine nq_ 30 ?_
 refine la_ 9 34 1023 (fun K hK => ?_)
 have HE := asd_ (hHeld.1)
 refine ge_ Tryz.func49 #[.slice (some adl) 1 c16, .pointer (some ⟨gs, 0, none⟩), .agg (Nd.cells ⟨0, false, nilS, nilS, false, nilS, false, nilS, .slice A names.length c, nilS⟩), .int .i64 (wrap64 (0 + 1)), .int .i64 2020] ?_
 with_reducible refine (set_req _ w _ gs (.slice (some adl) 1 c16) (wrap64 (0 + 1)) 2020 (by unfold wrap64; omega) (At.front 2 HE.out rfl) Ggs.out hr hc hlen).mono ?_
 rintro e w3 ⟨rfl, A2, c2, gm, gpp, gpr, gds, gdr, HE0⟩
 refine ⟨_, rfl, ?_⟩
 replace HE := asd_ HE0; clear HE0
 refine hK.out _ _ ?_
 clear hK K
 refine nq_ 34 ?_
 refine done_ kr_ ?_
 clear HK; have HK := HE; clear HE
 clear hHeld
 clear bgn bgs fgs bg7
 have bgn := cE HK 9
 have bg7 := cE HK 7
 have bgs := cE HK 1
 have fgs := fE HK 1
 go_wp2_with fail
 refine st_ 10 (fun w' => At w [.b gm (.map #[] 0), .b gs (row (Sc.cells ⟨2020, ⟨#[]⟩, nP, nP, nP, nP, (.slice A2 names.length c2), (.map (some gpr)), (.map (some gpp)), (.map (some gm)), (.map (some gdr)), (.map (some gds)), .nilIface⟩) 119), .b gpp (.map #[] 0), .b gpr (.map #[] 0), .b gds (.map #[] 0), .b gdr (.map #[] 0), .f (Fact.strs (.slice A2 names.length c2) names), .b g7 (row (Nd.cells ⟨0, false, nilS, nilS, false, nilS, false, nilS, .slice A names.length c, nilS⟩) 45), .f (Fact.rows kPtr 74 w.heap.size E74 (.slice (some adl) 1 c16) [some ⟨gs, 0, none⟩]), .b gn (row (Nd.cells ⟨0, false, nilS, nilS, false, nilS, false, nilS, .slice A names.length c, nilS⟩) 45)] w' ∧ (∀ j, w'.cell? ⟨gn, j, none⟩ = (Nd.cells ⟨0, false, nilS, nilS, false, nilS, false, nilS, .slice A names.length c, nilS⟩ : Array Value)[j]?) ∧ (∀ j, w'.cell? ⟨g7, j, none⟩ = (Nd.cells ⟨0, false, nilS, nilS, false, nilS, false, nilS, .slice A names.length c, nilS⟩ : Array Value)[j]?) ∧ (∀ j, w'.cell? ⟨gs, j, none⟩ = (Sc.cells ⟨2020, ⟨#[]⟩, nP, nP, nP, nP, (.slice A2 names.length c2), (.map (some gpr)), (.map (some gpp)), (.map (some gm)), (.map (some gdr)), (.map (some gds)), .nilIface⟩ : Array Value)[j]?) ∧ w'.cell? adl = some (.pointer (some ⟨gs, 0, none⟩))) [9] (fun A => ⟨A, (cA A 9), (cA A 7), (cA A 1), (ptr_at A.k.2.2.2.2.2.2.2.2.1)⟩) (fun hHeld => ?_)
 refine pu_ 0 35 1 ?_
 refine pu_ 1 36 3 ?_
 refine pu_ 2 37 7 ?_
 refine pu_ 4 39 23 ?_
 refine pu_ 5 40 55 ?_
 refine ta5_ 3 38 63 hHeld ?_
 refine on_ 6 41 127 (fun K hK => ?_)
 have HE := asd_ (hHeld.1)
 refine ge_ Tryz.func50 #[.int .i64 (wrap64 (0 + 1))] ?_
 with_reducible refine (itoa_w _).mono ?_
 rintro e w3 ⟨rfl, hb⟩
 refine ⟨_, rfl, ?_⟩
 replace HE := asd_ (At.step HE.out hb)
 refine hK.out _ _ ⟨HE.out, (cE HE 9), (cE HE 7), (cE HE 1), (ptr_at HE.out.k.2.2.2.2.2.2.2.2.1)⟩ (fun hHeld => ?_)
 clear hK K
 refine nq_ 41 ?_
 refine pu_ 7 42 255 ?_
 refine pu_ 8 43 511 ?_
 refine lz_ 9 1023 (fun K hK => ?_)
 have fgs_ := fE HE 1
 have cgs_ := cE HE 1
 refine sk_ ?_
 replace HE := asd_ (At.store_to (i := 4) (v := .string ⟨#[49]⟩) 1 (Sc.cells ⟨2020, ⟨#[49]⟩, nP, nP, nP, nP, (.slice A2 names.length c2), (.map (some gpr)), (.map (some gpp)), (.map (some gm)), (.map (some gdr)), (.map (some gds)), .nilIface⟩) HE.out rfl Ggs.out rfl rfl)
 clear fgs_ cgs_
 refine hK.out _ _ ?_
 clear hK K
 refine done_ kr_ ?_
 clear HK; have HK := HE; clear HE
 clear hHeld
 clear bgn bg7 bgs fgs
 have bgn := cE HK 9
 have bg7 := cE HK 7
 have bgs := cE HK 1
 have fgs := fE HK 1
 have hq1 := ptr_at HK.out.k.2.2.2.2.2.2.2.2.1
 go_wp2_with (first | ((with_reducible refine gd_ 48 ?_); refine call_to #[.pointer (some ⟨gs, 0, none⟩)] (.tuple #[]) _ rfl Tryz.func51 kr_ rfl rfl ar_ (evaluated_ok _ w _ gs ⟨2020, ⟨#[49]⟩, nP, nP, nP, nP, (.slice A2 names.length c2), (.map (some gpr)), (.map (some gpp)), (.map (some gm)), (.map (some gdr)), (.map (some gds)), .nilIface⟩ (At.front 1 HK.out rfl) Ggs.out) ?_; rintro wc48 HK1; replace HK := asd_ HK1; clear HK1; clear hq1; clear bgn bg7 bgs fgs; have bgn := cE HK 9; have bg7 := cE HK 7; have bgs := cE HK 0; have fgs := fE HK 0) | ((with_reducible refine gd_ 51 ?_); refine cl_ #[.slice (some adl) 1 c16, .int .i64 1, i0] (.pointer (some ⟨gs, 0, none⟩)) Tryz.func52 (at_one _ adl c16 _ (ptr_at HK.out.k.2.2.2.2.2.2.2.2.1)) ?_; intro wc51 HK1; replace HK := asd_ HK1; clear HK1; clear bgn bg7 bgs fgs; have bgn := cE HK 9; have bg7 := cE HK 7; have bgs := cE HK 0; have fgs := fE HK 0))
 go_ret
 exact ⟨gs, rfl, A2, c2, gm, gpp, gpr, gds, gdr, HK.out.k.1, HK.out.k.2.2.2.1, HK.out.k.2.2.1, HK.out.k.2.1, HK.out.k.2.2.2.2.1, HK.out.k.2.2.2.2.2.1, HK.out.k.2.2.2.2.2.2.1, HK.out.b⟩
end Go.Proofs.YtkphbhncpdcbeaaGreatDoor.J
