/- Part of a proof. -/
import Derived.Test.YtkphbhncpdcbeaaGreatDoorQE
import Derived.Test.YtkphbhncpdcbeaaGreatDoorQH
import Derived.Test.YtkphbhncpdcbeaaGreatDoorQK
namespace Go.Proofs.YtkphbhncpdcbeaaGreatDoor.J
open Go.RowKit Go.Proofs.YtkphbhncpdcbeaaGreatDoorW.PrintWords Go.Proofs.YtkphbhncpdcbeaaGreatDoorW.PrintLast Go.Proofs.YtkphbhncpdcbeaaGreatDoorW.PrintMore Go.Proofs.YtkphbhncpdcbeaaGreatDoor.PJT
attribute [local go_sem] Nd.csize Sc.csize Nd.c0 Nd.c1 Nd.c2 Nd.c3 Nd.c4 Nd.c5 Nd.c6 Nd.c7 Nd.c8 Nd.c9 Nd.c10 Nd.c11 Nd.c12 Nd.c13 Nd.c14 Nd.c15 Nd.c16 Nd.c17 Nd.c18 Nd.c19 Nd.c20 Nd.c21 Nd.c22 Nd.c23 Nd.c24 Nd.c25 Nd.c26 Nd.c27 Nd.c28 Nd.c29 Nd.c30 Nd.c31 Nd.c32 Nd.c33 Nd.c34 Nd.c35 Nd.c36 Nd.c37 Nd.c38 Nd.c39 Nd.c40 Nd.c41 Nd.c42 Nd.c43 Nd.c44 Nd.c45 Nd.c46 Nd.c47 Nd.c48 Nd.c49 Nd.c50 Nd.c51 Nd.c52 Sc.c0 Sc.c1 Sc.c2 Sc.c3 Sc.c4 Sc.c5 Sc.c6 Sc.c7 Sc.c8 Sc.c9 Sc.c10 Sc.c11 Sc.c12 Sc.c13 Sc.c14 Sc.c15 Sc.c16 Sc.c17 Sc.c18 Sc.c19 Sc.c20 Sc.c21 Sc.c22 Sc.c23 Sc.c24 Sc.c25 Sc.c26 Sc.c27 Sc.c28 Sc.c29 Sc.c30 Sc.c31 Sc.c32 Sc.c33 Sc.c34 Sc.c35 Sc.c36 Sc.c37 Sc.c38 Sc.c39 Sc.c40 Sc.c41 Sc.c42 Sc.c43 Sc.c44 Sc.c45 Sc.c46 Sc.c47 Sc.c48 Sc.c49 Sc.c50 Sc.c51 Sc.c52
set_option linter.unusedVariables false
set_option linter.unusedSimpArgs false
set_option maxHeartbeats 4000000 in
set_option maxRecDepth 100000 in
theorem adderr_ok (w w0 : World) (l : List Blk) (gv gs gk : Nat) (tk : TypeId) (vv : Value) (ad : Addr) (cp up : Value) (s : Sc) (H : At w0 (.b gv (row (vdc vv ad (.pointer (some ⟨gs, 0, none⟩)) cp up nilS) 182) :: l) w) (hgv : w0.heap.size ≤ gv) (hS : w0.heap[gs]? = some (row s.cells 119)) :
  Calls Tryz.prog 178 #[.pointer (some ⟨gv, 0, none⟩), .iface tk (.pointer (some ⟨gk, 0, none⟩))] w fun e w' => e = .returned (.tuple #[]) ∧ ∃ A c ge Ae ce, At w0 (.f (Fact.rows kPtr 76 w0.heap.size E76 (.slice A 1 c) [some ⟨ge, 0, none⟩]) :: .b ge (row (vec s.loc Ae ce (.iface tk (.pointer (some ⟨gk, 0, none⟩))) nilS) 129) :: .b gv (row (vdc vv ad (.pointer (some ⟨gs, 0, none⟩)) cp up (.slice A 1 c)) 182) :: l) w' := by
 have HK := asd_ H
 clear H
 have bgv := cE HK 0; have fgv := fE HK 0; have bgs := cel_ (blk_below hS HK.out.b)
 have Ggv := asd_ hgv
 clear hgv
 go_enter Tryz.func178, Tryz.ntmps178
 refine st_ 13 (fun w' => At w0 (.b gv (row (vdc vv ad (.pointer (some ⟨gs, 0, none⟩)) cp up nilS) 182) :: l) w' ∧ (∀ j, w'.cell? ⟨gv, j, none⟩ = (vdc vv ad (.pointer (some ⟨gs, 0, none⟩)) cp up nilS : Array Value)[j]?) ∧ (∀ j, w'.cell? ⟨gs, j, none⟩ = (s.cells : Array Value)[j]?)) [12] (fun A => ⟨A, (cA A 0), (cel_ (blk_below hS A.b))⟩) (fun hHeld => ?_)
 refine pu_ 0 4 1 ?_
 refine pu_ 1 5 3 ?_
 refine pu_ 2 6 7 ?_
 refine pu_ 3 7 15 ?_
 refine pu_ 5 9 47 ?_
 refine pu_ 6 10 111 ?_
 refine ta3_ 4 8 127 hHeld ?_
 refine on_ 7 11 255 (fun K hK => ?_)
 have HE := asd_ (hHeld.1)
 refine ge_ Tryz.func136 #[.pointer (some ⟨gv, 0, none⟩), .iface tk (.pointer (some ⟨gk, 0, none⟩))] ?_
 with_reducible refine (error_ok _ gv gs gk tk vv ad cp up s HE.out.top (blk_below hS HE.out.b)).mono ?_
 rintro e w3 ⟨ge, Ae, ce, rfl, hge, hgn, hb⟩
 refine ⟨_, rfl, ?_⟩
 have HE0 := At.step HE.out hb
 have HE1 := asd_ (At.came HE.out hb hge hgn)
 clear hge hgn
 clear HE0
 clear HE; have HE := HE1; clear HE1
 refine hK.out _ _ ⟨HE.out.drop, (cel_ HE.out.drop.k.1), (cel_ (blk_below hS HE.out.drop.b))⟩ (fun hHeld => ?_)
 clear hK K
 refine nq_ 11 ?_
 refine on_ 8 12 511 (fun K hK => ?_)
 refine new_ HE.out (by rfl) (N := 12) (by rfl) (ob := row #[.pointer (some ⟨ge, 0, none⟩)] 76) (v := (fun b => .slice (some ⟨b, 0, none⟩) 1 1)) (by exact lit1_run Tryz.underlying127 info76 rfl rfl rfl rfl) ?_
 intro g12 w3 HE0 hgg12
 have Gg12 := asd_ hgg12
 clear hgg12
 replace HE := asd_ HE0; clear HE0
 refine hK.out _ _ ⟨HE.out.drop.drop, (cel_ HE.out.drop.drop.k.1), (cel_ (blk_below hS HE.out.drop.drop.b))⟩ (fun hHeld => ?_)
 clear hK K
 refine nq_ 12 ?_
 refine on_ 9 13 1023 (fun K hK => ?_)
 refine append1n_ (hE := E76) (p := some ⟨ge, 0, none⟩) (g := g12) (t := 127) (s := .tmp 8) (x := .tmp 12) (At.front 0 HE.out rfl) (by rfl) rfl Tryz.underlying127 info76 rfl (by decide) rfl rfl (by decide) ?_
 intro A13 c13 w3 HE0
 replace HE := asd_ HE0; clear HE0
 refine hK.out _ _ ⟨HE.out.drop.drop, (cel_ HE.out.drop.drop.k.1), (cel_ (blk_below hS HE.out.drop.drop.b))⟩ (fun hHeld => ?_)
 clear hK K
 refine nq_ 13 ?_
 refine pu_ 10 14 2047 ?_
 refine pu_ 11 15 4095 ?_
 refine lz_ 12 8191 (fun K hK => ?_)
 have fgv_ := fE HE 2
 have cgv_ := cE HE 2
 refine sk_ ?_
 replace HE := asd_ (At.store_to (i := 5) (v := .slice A13 1 c13) 2 (vdc vv ad (.pointer (some ⟨gs, 0, none⟩)) cp up (.slice A13 1 c13)) HE.out rfl Ggv.out rfl rfl)
 clear fgv_ cgv_
 refine hK.out _ _ ?_
 clear hK K
 refine done_ kr_ ?_
 clear HK; have HK := HE; clear HE
 clear hHeld
 clear bgv fgv bgs
 have bgv := cE HK 2
 have fgv := fE HK 2
 have bgs := cel_ (blk_below hS HK.out.b)
 go_wp2_with fail
 go_end0
 exact ⟨rfl, A13, c13, ge, Ae, ce, HK.out⟩
theorem ta_null_9 (W : World) : (Instr.typeAssert .nilIface 20 9 true).run Tryz.prog W = .ok (.tuple #[.string ⟨#[]⟩, .bool false]) W := by kernel_rfl
theorem ta_null_117 (W : World) : (Instr.typeAssert .nilIface 20 117 true).run Tryz.prog W = .ok (.tuple #[.slice none 0 0, .bool false]) W := by kernel_rfl
theorem ta_null_113 (W : World) : (Instr.typeAssert .nilIface 20 113 true).run Tryz.prog W = .ok (.tuple #[.map none, .bool false]) W := by kernel_rfl
theorem ta_bool_4 (v : Value) (W : World) : (Instr.typeAssert (.iface 4 v) 20 4 true).run Tryz.prog W = .ok (.tuple #[v, .bool true]) W := by kernel_rfl
theorem ta_bool_9 (v : Value) (W : World) : (Instr.typeAssert (.iface 4 v) 20 9 true).run Tryz.prog W = .ok (.tuple #[.string ⟨#[]⟩, .bool false]) W := by kernel_rfl
theorem ta_bool_117 (v : Value) (W : World) : (Instr.typeAssert (.iface 4 v) 20 117 true).run Tryz.prog W = .ok (.tuple #[.slice none 0 0, .bool false]) W := by kernel_rfl
theorem ta_bool_113 (v : Value) (W : World) : (Instr.typeAssert (.iface 4 v) 20 113 true).run Tryz.prog W = .ok (.tuple #[.map none, .bool false]) W := by kernel_rfl
theorem ta_text_4 (v : Value) (W : World) : (Instr.typeAssert (.iface 9 v) 20 4 true).run Tryz.prog W = .ok (.tuple #[.bool false, .bool false]) W := by kernel_rfl
theorem ta_text_340 (v : Value) (W : World) : (Instr.typeAssert (.iface 9 v) 20 340 true).run Tryz.prog W = .ok (.tuple #[.float .f64 0, .bool false]) W := by kernel_rfl
theorem ta_text_343 (v : Value) (W : World) : (Instr.typeAssert (.iface 9 v) 20 343 true).run Tryz.prog W = .ok (.tuple #[.float .f32 0, .bool false]) W := by kernel_rfl
theorem ta_text_3 (v : Value) (W : World) : (Instr.typeAssert (.iface 9 v) 20 3 true).run Tryz.prog W = .ok (.tuple #[.int .i64 0, .bool false]) W := by kernel_rfl
theorem ta_text_344 (v : Value) (W : World) : (Instr.typeAssert (.iface 9 v) 20 344 true).run Tryz.prog W = .ok (.tuple #[.int .i8 0, .bool false]) W := by kernel_rfl
theorem ta_text_345 (v : Value) (W : World) : (Instr.typeAssert (.iface 9 v) 20 345 true).run Tryz.prog W = .ok (.tuple #[.int .i16 0, .bool false]) W := by kernel_rfl
theorem ta_text_21 (v : Value) (W : World) : (Instr.typeAssert (.iface 9 v) 20 21 true).run Tryz.prog W = .ok (.tuple #[.int .i32 0, .bool false]) W := by kernel_rfl
theorem ta_text_2 (v : Value) (W : World) : (Instr.typeAssert (.iface 9 v) 20 2 true).run Tryz.prog W = .ok (.tuple #[.int .i64 0, .bool false]) W := by kernel_rfl
theorem ta_text_232 (v : Value) (W : World) : (Instr.typeAssert (.iface 9 v) 20 232 true).run Tryz.prog W = .ok (.tuple #[.int .u64 0, .bool false]) W := by kernel_rfl
theorem ta_text_5 (v : Value) (W : World) : (Instr.typeAssert (.iface 9 v) 20 5 true).run Tryz.prog W = .ok (.tuple #[.int .u8 0, .bool false]) W := by kernel_rfl
theorem ta_text_346 (v : Value) (W : World) : (Instr.typeAssert (.iface 9 v) 20 346 true).run Tryz.prog W = .ok (.tuple #[.int .u16 0, .bool false]) W := by kernel_rfl
theorem ta_text_324 (v : Value) (W : World) : (Instr.typeAssert (.iface 9 v) 20 324 true).run Tryz.prog W = .ok (.tuple #[.int .u32 0, .bool false]) W := by kernel_rfl
theorem ta_text_326 (v : Value) (W : World) : (Instr.typeAssert (.iface 9 v) 20 326 true).run Tryz.prog W = .ok (.tuple #[.int .u64 0, .bool false]) W := by kernel_rfl
theorem ta_text_9 (v : Value) (W : World) : (Instr.typeAssert (.iface 9 v) 20 9 true).run Tryz.prog W = .ok (.tuple #[v, .bool true]) W := by kernel_rfl
theorem ta_text_117 (v : Value) (W : World) : (Instr.typeAssert (.iface 9 v) 20 117 true).run Tryz.prog W = .ok (.tuple #[.slice none 0 0, .bool false]) W := by kernel_rfl
theorem ta_text_113 (v : Value) (W : World) : (Instr.typeAssert (.iface 9 v) 20 113 true).run Tryz.prog W = .ok (.tuple #[.map none, .bool false]) W := by kernel_rfl
theorem ta_array_4 (v : Value) (W : World) : (Instr.typeAssert (.iface 117 v) 20 4 true).run Tryz.prog W = .ok (.tuple #[.bool false, .bool false]) W := by kernel_rfl
theorem ta_array_340 (v : Value) (W : World) : (Instr.typeAssert (.iface 117 v) 20 340 true).run Tryz.prog W = .ok (.tuple #[.float .f64 0, .bool false]) W := by kernel_rfl
theorem ta_array_343 (v : Value) (W : World) : (Instr.typeAssert (.iface 117 v) 20 343 true).run Tryz.prog W = .ok (.tuple #[.float .f32 0, .bool false]) W := by kernel_rfl
theorem ta_array_3 (v : Value) (W : World) : (Instr.typeAssert (.iface 117 v) 20 3 true).run Tryz.prog W = .ok (.tuple #[.int .i64 0, .bool false]) W := by kernel_rfl
theorem ta_array_344 (v : Value) (W : World) : (Instr.typeAssert (.iface 117 v) 20 344 true).run Tryz.prog W = .ok (.tuple #[.int .i8 0, .bool false]) W := by kernel_rfl
theorem ta_array_345 (v : Value) (W : World) : (Instr.typeAssert (.iface 117 v) 20 345 true).run Tryz.prog W = .ok (.tuple #[.int .i16 0, .bool false]) W := by kernel_rfl
theorem ta_array_21 (v : Value) (W : World) : (Instr.typeAssert (.iface 117 v) 20 21 true).run Tryz.prog W = .ok (.tuple #[.int .i32 0, .bool false]) W := by kernel_rfl
theorem ta_array_2 (v : Value) (W : World) : (Instr.typeAssert (.iface 117 v) 20 2 true).run Tryz.prog W = .ok (.tuple #[.int .i64 0, .bool false]) W := by kernel_rfl
theorem ta_array_232 (v : Value) (W : World) : (Instr.typeAssert (.iface 117 v) 20 232 true).run Tryz.prog W = .ok (.tuple #[.int .u64 0, .bool false]) W := by kernel_rfl
theorem ta_array_5 (v : Value) (W : World) : (Instr.typeAssert (.iface 117 v) 20 5 true).run Tryz.prog W = .ok (.tuple #[.int .u8 0, .bool false]) W := by kernel_rfl
theorem ta_array_346 (v : Value) (W : World) : (Instr.typeAssert (.iface 117 v) 20 346 true).run Tryz.prog W = .ok (.tuple #[.int .u16 0, .bool false]) W := by kernel_rfl
theorem ta_array_324 (v : Value) (W : World) : (Instr.typeAssert (.iface 117 v) 20 324 true).run Tryz.prog W = .ok (.tuple #[.int .u32 0, .bool false]) W := by kernel_rfl
theorem ta_array_326 (v : Value) (W : World) : (Instr.typeAssert (.iface 117 v) 20 326 true).run Tryz.prog W = .ok (.tuple #[.int .u64 0, .bool false]) W := by kernel_rfl
theorem ta_array_9 (v : Value) (W : World) : (Instr.typeAssert (.iface 117 v) 20 9 true).run Tryz.prog W = .ok (.tuple #[.string ⟨#[]⟩, .bool false]) W := by kernel_rfl
theorem ta_array_117 (v : Value) (W : World) : (Instr.typeAssert (.iface 117 v) 20 117 true).run Tryz.prog W = .ok (.tuple #[v, .bool true]) W := by kernel_rfl
theorem ta_array_113 (v : Value) (W : World) : (Instr.typeAssert (.iface 117 v) 20 113 true).run Tryz.prog W = .ok (.tuple #[.map none, .bool false]) W := by kernel_rfl
theorem ta_object_4 (v : Value) (W : World) : (Instr.typeAssert (.iface 113 v) 20 4 true).run Tryz.prog W = .ok (.tuple #[.bool false, .bool false]) W := by kernel_rfl
theorem ta_object_340 (v : Value) (W : World) : (Instr.typeAssert (.iface 113 v) 20 340 true).run Tryz.prog W = .ok (.tuple #[.float .f64 0, .bool false]) W := by kernel_rfl
theorem ta_object_343 (v : Value) (W : World) : (Instr.typeAssert (.iface 113 v) 20 343 true).run Tryz.prog W = .ok (.tuple #[.float .f32 0, .bool false]) W := by kernel_rfl
theorem ta_object_3 (v : Value) (W : World) : (Instr.typeAssert (.iface 113 v) 20 3 true).run Tryz.prog W = .ok (.tuple #[.int .i64 0, .bool false]) W := by kernel_rfl
theorem ta_object_344 (v : Value) (W : World) : (Instr.typeAssert (.iface 113 v) 20 344 true).run Tryz.prog W = .ok (.tuple #[.int .i8 0, .bool false]) W := by kernel_rfl
theorem ta_object_345 (v : Value) (W : World) : (Instr.typeAssert (.iface 113 v) 20 345 true).run Tryz.prog W = .ok (.tuple #[.int .i16 0, .bool false]) W := by kernel_rfl
theorem ta_object_21 (v : Value) (W : World) : (Instr.typeAssert (.iface 113 v) 20 21 true).run Tryz.prog W = .ok (.tuple #[.int .i32 0, .bool false]) W := by kernel_rfl
theorem ta_object_2 (v : Value) (W : World) : (Instr.typeAssert (.iface 113 v) 20 2 true).run Tryz.prog W = .ok (.tuple #[.int .i64 0, .bool false]) W := by kernel_rfl
theorem ta_object_232 (v : Value) (W : World) : (Instr.typeAssert (.iface 113 v) 20 232 true).run Tryz.prog W = .ok (.tuple #[.int .u64 0, .bool false]) W := by kernel_rfl
theorem ta_object_5 (v : Value) (W : World) : (Instr.typeAssert (.iface 113 v) 20 5 true).run Tryz.prog W = .ok (.tuple #[.int .u8 0, .bool false]) W := by kernel_rfl
theorem ta_object_346 (v : Value) (W : World) : (Instr.typeAssert (.iface 113 v) 20 346 true).run Tryz.prog W = .ok (.tuple #[.int .u16 0, .bool false]) W := by kernel_rfl
theorem ta_object_324 (v : Value) (W : World) : (Instr.typeAssert (.iface 113 v) 20 324 true).run Tryz.prog W = .ok (.tuple #[.int .u32 0, .bool false]) W := by kernel_rfl
theorem ta_object_326 (v : Value) (W : World) : (Instr.typeAssert (.iface 113 v) 20 326 true).run Tryz.prog W = .ok (.tuple #[.int .u64 0, .bool false]) W := by kernel_rfl
theorem ta_object_9 (v : Value) (W : World) : (Instr.typeAssert (.iface 113 v) 20 9 true).run Tryz.prog W = .ok (.tuple #[.string ⟨#[]⟩, .bool false]) W := by kernel_rfl
theorem ta_object_117 (v : Value) (W : World) : (Instr.typeAssert (.iface 113 v) 20 117 true).run Tryz.prog W = .ok (.tuple #[.slice none 0 0, .bool false]) W := by kernel_rfl
theorem ta_object_113 (v : Value) (W : World) : (Instr.typeAssert (.iface 113 v) 20 113 true).run Tryz.prog W = .ok (.tuple #[v, .bool true]) W := by kernel_rfl
end Go.Proofs.YtkphbhncpdcbeaaGreatDoor.J
namespace Go.Proofs.YtkphbhncpdcbeaaGreatDoor.J
open Go.RowKit Go.Proofs.YtkphbhncpdcbeaaGreatDoorW.PrintWords Go.Proofs.YtkphbhncpdcbeaaGreatDoorW.PrintLast Go.Proofs.YtkphbhncpdcbeaaGreatDoorW.PrintMore Go.Proofs.YtkphbhncpdcbeaaGreatDoor.PJT
attribute [local go_sem] Nd.csize Sc.csize Nd.c0 Nd.c1 Nd.c2 Nd.c3 Nd.c4 Nd.c5 Nd.c6 Nd.c7 Nd.c8 Nd.c9 Nd.c10 Nd.c11 Nd.c12 Nd.c13 Nd.c14 Nd.c15 Nd.c16 Nd.c17 Nd.c18 Nd.c19 Nd.c20 Nd.c21 Nd.c22 Nd.c23 Nd.c24 Nd.c25 Nd.c26 Nd.c27 Nd.c28 Nd.c29 Nd.c30 Nd.c31 Nd.c32 Nd.c33 Nd.c34 Nd.c35 Nd.c36 Nd.c37 Nd.c38 Nd.c39 Nd.c40 Nd.c41 Nd.c42 Nd.c43 Nd.c44 Nd.c45 Nd.c46 Nd.c47 Nd.c48 Nd.c49 Nd.c50 Nd.c51 Nd.c52 Sc.c0 Sc.c1 Sc.c2 Sc.c3 Sc.c4 Sc.c5 Sc.c6 Sc.c7 Sc.c8 Sc.c9 Sc.c10 Sc.c11 Sc.c12 Sc.c13 Sc.c14 Sc.c15 Sc.c16 Sc.c17 Sc.c18 Sc.c19 Sc.c20 Sc.c21 Sc.c22 Sc.c23 Sc.c24 Sc.c25 Sc.c26 Sc.c27 Sc.c28 Sc.c29 Sc.c30 Sc.c31 Sc.c32 Sc.c33 Sc.c34 Sc.c35 Sc.c36 Sc.c37 Sc.c38 Sc.c39 Sc.c40 Sc.c41 Sc.c42 Sc.c43 Sc.c44 Sc.c45 Sc.c46 Sc.c47 Sc.c48 Sc.c49 Sc.c50 Sc.c51 Sc.c52
set_option linter.unusedVariables false
set_option linter.unusedSimpArgs false
attribute [local go_sem] ta_null_9 ta_null_117 ta_null_113 ta_bool_4 ta_bool_9 ta_bool_117 ta_bool_113 ta_text_4 ta_text_340 ta_text_343 ta_text_3 ta_text_344 ta_text_345 ta_text_21 ta_text_2 ta_text_232 ta_text_5 ta_text_346 ta_text_324 ta_text_326 ta_text_9 ta_text_117 ta_text_113 ta_array_4 ta_array_340 ta_array_343 ta_array_3 ta_array_344 ta_array_345 ta_array_21 ta_array_2 ta_array_232 ta_array_5 ta_array_346 ta_array_324 ta_array_326 ta_array_9 ta_array_117 ta_array_113 ta_object_4 ta_object_340 ta_object_343 ta_object_3 ta_object_344 ta_object_345 ta_object_21 ta_object_2 ta_object_232 ta_object_5 ta_object_346 ta_object_324 ta_object_326 ta_object_9 ta_object_117 ta_object_113
set_option maxHeartbeats 4000000 in
set_option maxRecDepth 100000 in
theorem min_zero (w : World) (n : Nat) : Calls Tryz.prog 182 #[i0, .int .i64 (n : Int)] w fun e w' => e = .returned i0 ∧ Below w.heap.size w w' := by
 have HK : Aside0 (At w [] w) := asd_ (At.start w)
 go_enter Tryz.func182, Tryz.ntmps182
 have hd : decide (0 ≤ (n : Int)) = true := decide_eq_true (by omega)
 rcases Nat.eq_zero_or_pos n with h0 | h0
 ·subst h0
  go_wp2_with fail
  go_ret
  exact ⟨rfl, be_⟩
 ·have hd2 : decide (0 < (n : Int)) = true := decide_eq_true (by omega)
  go_wp2_with fail
  go_ret
  exact ⟨rfl, be_⟩
set_option maxHeartbeats 4000000 in
set_option maxRecDepth 100000 in
theorem str_quiet (w : World) (gv gs : Nat) (vv : Value) (ad : Addr) (cp up er : Value) (s : Sc) (hv : w.heap[gv]? = some (row (vdc vv ad (.pointer (some ⟨gs, 0, none⟩)) cp up er) 182)) (hS : w.heap[gs]? = some (row (Sc.cells ⟨2020, s.loc, s.bool, s.enum, s.const, s.format, s.req, s.props, s.pats, s.deps, s.dreq, s.dsch, .nilIface⟩) 119)) (t : ByteArray) :
  Calls Tryz.prog 149 #[.pointer (some ⟨gv, 0, none⟩), .string t] w fun e w' => e = .returned (.tuple #[]) ∧ Below w.heap.size w w' := by
 have HK : Aside0 (At w [] w) := asd_ (At.start w)
 have bgv := cel_ (blk_below hv HK.out.b); have bgs := cel_ (blk_below hS HK.out.b)
 go_enter Tryz.func149, Tryz.ntmps149
 go_wp2_with fail
 go_end0
 exact ⟨rfl, be_⟩
set_option maxHeartbeats 4000000 in
set_option maxRecDepth 100000 in
theorem cycle_none (w : World) (gc gs : Nat) (hc : w.heap[gc]? = some (row (#[.pointer (some ⟨gs, 0, none⟩), eS, i0, nP]) 178)) :
  Calls Tryz.prog 137 #[.pointer (some ⟨gc, 0, none⟩)] w fun e w' => e = .returned nP ∧ Below w.heap.size w w' := by
 have HK : Aside0 (At w [] w) := asd_ (At.start w)
 have bgc := cel_ (blk_below hc HK.out.b)
 go_enter Tryz.func137, Tryz.ntmps137
 go_wp2_with fail
 refine wp_loop_once ?_
 go_wp2_with fail
 go_ret
 exact ⟨rfl, be_⟩
set_option maxHeartbeats 4000000 in
set_option maxRecDepth 100000 in
theorem type_null (w : World)  :
  Calls Tryz.prog 139 #[.nilIface] w fun e w' => e = .returned (.int .i64 2) ∧ Below w.heap.size w w' := by
 have HK : Aside0 (At w [] w) := asd_ (At.start w)
 go_enter Tryz.func139, Tryz.ntmps139
 go_wp2_with fail
 go_ret
 exact ⟨rfl, be_⟩
set_option maxHeartbeats 4000000 in
set_option maxRecDepth 100000 in
theorem type_bool (w : World) (b : Bool) :
  Calls Tryz.prog 139 #[.iface 4 (.bool b)] w fun e w' => e = .returned (.int .i64 4) ∧ Below w.heap.size w w' := by
 have HK : Aside0 (At w [] w) := asd_ (At.start w)
 go_enter Tryz.func139, Tryz.ntmps139
 go_wp2_with fail
 go_ret
 exact ⟨rfl, be_⟩
set_option maxHeartbeats 4000000 in
set_option maxRecDepth 100000 in
theorem type_text (w : World) (t : ByteArray) :
  Calls Tryz.prog 139 #[.iface 9 (.string t)] w fun e w' => e = .returned (.int .i64 32) ∧ Below w.heap.size w w' := by
 have HK : Aside0 (At w [] w) := asd_ (At.start w)
 go_enter Tryz.func139, Tryz.ntmps139
 go_wp2_with fail
 go_ret
 exact ⟨rfl, be_⟩
set_option maxHeartbeats 4000000 in
set_option maxRecDepth 100000 in
theorem type_array (w : World) (A : Option Addr) (n c : Nat) :
  Calls Tryz.prog 139 #[.iface 117 (.slice A n c)] w fun e w' => e = .returned (.int .i64 64) ∧ Below w.heap.size w w' := by
 have HK : Aside0 (At w [] w) := asd_ (At.start w)
 go_enter Tryz.func139, Tryz.ntmps139
 go_wp2_with fail
 go_ret
 exact ⟨rfl, be_⟩
set_option maxHeartbeats 4000000 in
set_option maxRecDepth 100000 in
theorem type_object (w : World) (g : Nat) :
  Calls Tryz.prog 139 #[.iface 113 (.map (some g))] w fun e w' => e = .returned (.int .i64 128) ∧ Below w.heap.size w w' := by
 have HK : Aside0 (At w [] w) := asd_ (At.start w)
 go_enter Tryz.func139, Tryz.ntmps139
 go_wp2_with fail
 go_ret
 exact ⟨rfl, be_⟩
set_option maxHeartbeats 4000000 in
set_option maxRecDepth 100000 in
theorem from_null (w : World) (gs : Nat)  (s : Sc) (hS : w.heap[gs]? = some (row (Sc.cells ⟨2020, s.loc, s.bool, s.enum, s.const, s.format, s.req, s.props, s.pats, s.deps, s.dreq, s.dsch, .nilIface⟩) 119)) :
  Calls Tryz.prog 98 #[.nilIface, .pointer (some ⟨gs, 0, none⟩), .bool false] w fun e w' => ∃ gu, e = .returned (.pointer (some ⟨gu, 0, none⟩)) ∧ w'.heap[gu]? = some (row #[nM, nM] 263) ∧ w.heap.size ≤ gu ∧ Below w.heap.size w w' := by
 have HK : Aside0 (At w [] w) := asd_ (At.start w)
 have bgs := cel_ (blk_below hS HK.out.b)
 go_enter Tryz.func98, Tryz.ntmps98
 go_wp2_with (first | ((with_reducible refine gd_ 13 ?_); refine bx_ #[nM, nM] 263 ?_; clear HK bgs; intro gu wb13 HK Ggu; have bgu := cE HK 0; have bgs := cel_ (blk_below hS HK.out.b)))
 go_ret
 exact ⟨gu, rfl, HK.out.k.1, Ggu.out, be_⟩
set_option maxHeartbeats 4000000 in
set_option maxRecDepth 100000 in
theorem from_bool (w : World) (gs : Nat) (b : Bool) (s : Sc) (hS : w.heap[gs]? = some (row (Sc.cells ⟨2020, s.loc, s.bool, s.enum, s.const, s.format, s.req, s.props, s.pats, s.deps, s.dreq, s.dsch, .nilIface⟩) 119)) :
  Calls Tryz.prog 98 #[.iface 4 (.bool b), .pointer (some ⟨gs, 0, none⟩), .bool false] w fun e w' => ∃ gu, e = .returned (.pointer (some ⟨gu, 0, none⟩)) ∧ w'.heap[gu]? = some (row #[nM, nM] 263) ∧ w.heap.size ≤ gu ∧ Below w.heap.size w w' := by
 have HK : Aside0 (At w [] w) := asd_ (At.start w)
 have bgs := cel_ (blk_below hS HK.out.b)
 go_enter Tryz.func98, Tryz.ntmps98
 go_wp2_with (first | ((with_reducible refine gd_ 13 ?_); refine bx_ #[nM, nM] 263 ?_; clear HK bgs; intro gu wb13 HK Ggu; have bgu := cE HK 0; have bgs := cel_ (blk_below hS HK.out.b)))
 go_ret
 exact ⟨gu, rfl, HK.out.k.1, Ggu.out, be_⟩
set_option maxHeartbeats 4000000 in
set_option maxRecDepth 100000 in
theorem from_text (w : World) (gs : Nat) (t : ByteArray) (s : Sc) (hS : w.heap[gs]? = some (row (Sc.cells ⟨2020, s.loc, s.bool, s.enum, s.const, s.format, s.req, s.props, s.pats, s.deps, s.dreq, s.dsch, .nilIface⟩) 119)) :
  Calls Tryz.prog 98 #[.iface 9 (.string t), .pointer (some ⟨gs, 0, none⟩), .bool false] w fun e w' => ∃ gu, e = .returned (.pointer (some ⟨gu, 0, none⟩)) ∧ w'.heap[gu]? = some (row #[nM, nM] 263) ∧ w.heap.size ≤ gu ∧ Below w.heap.size w w' := by
 have HK : Aside0 (At w [] w) := asd_ (At.start w)
 have bgs := cel_ (blk_below hS HK.out.b)
 go_enter Tryz.func98, Tryz.ntmps98
 go_wp2_with (first | ((with_reducible refine gd_ 13 ?_); refine bx_ #[nM, nM] 263 ?_; clear HK bgs; intro gu wb13 HK Ggu; have bgu := cE HK 0; have bgs := cel_ (blk_below hS HK.out.b)))
 go_ret
 exact ⟨gu, rfl, HK.out.k.1, Ggu.out, be_⟩
set_option maxHeartbeats 4000000 in
set_option maxRecDepth 100000 in
theorem from_array (w : World) (gs : Nat) (A : Option Addr) (n c : Nat) (s : Sc) (hS : w.heap[gs]? = some (row (Sc.cells ⟨2020, s.loc, s.bool, s.enum, s.const, s.format, s.req, s.props, s.pats, s.deps, s.dreq, s.dsch, .nilIface⟩) 119)) :
  Calls Tryz.prog 98 #[.iface 117 (.slice A n c), .pointer (some ⟨gs, 0, none⟩), .bool false] w fun e w' => ∃ gu, e = .returned (.pointer (some ⟨gu, 0, none⟩)) ∧ w'.heap[gu]? = some (row #[nM, nM] 263) ∧ w.heap.size ≤ gu ∧ Below w.heap.size w w' := by
 have HK : Aside0 (At w [] w) := asd_ (At.start w)
 have bgs := cel_ (blk_below hS HK.out.b)
 go_enter Tryz.func98, Tryz.ntmps98
 go_wp2_with (first | ((with_reducible refine gd_ 13 ?_); refine bx_ #[nM, nM] 263 ?_; clear HK bgs; intro gu wb13 HK Ggu; have bgu := cE HK 0; have bgs := cel_ (blk_below hS HK.out.b)))
 go_ret
 exact ⟨gu, rfl, HK.out.k.1, Ggu.out, be_⟩
set_option maxHeartbeats 4000000 in
set_option maxRecDepth 100000 in
theorem from_object (w : World) (gs : Nat) (g : Nat) (s : Sc) (hS : w.heap[gs]? = some (row (Sc.cells ⟨2020, s.loc, s.bool, s.enum, s.const, s.format, s.req, s.props, s.pats, s.deps, s.dreq, s.dsch, .nilIface⟩) 119)) :
  Calls Tryz.prog 98 #[.iface 113 (.map (some g)), .pointer (some ⟨gs, 0, none⟩), .bool false] w fun e w' => ∃ gu, e = .returned (.pointer (some ⟨gu, 0, none⟩)) ∧ w'.heap[gu]? = some (row #[nM, nM] 263) ∧ w.heap.size ≤ gu ∧ Below w.heap.size w w' := by
 have HK : Aside0 (At w [] w) := asd_ (At.start w)
 have bgs := cel_ (blk_below hS HK.out.b)
 go_enter Tryz.func98, Tryz.ntmps98
 go_wp2_with (first | ((with_reducible refine gd_ 13 ?_); refine bx_ #[nM, nM] 263 ?_; clear HK bgs; intro gu wb13 HK Ggu; have bgu := cE HK 0; have bgs := cel_ (blk_below hS HK.out.b)))
 go_ret
 exact ⟨gu, rfl, HK.out.k.1, Ggu.out, be_⟩
set_option maxHeartbeats 4000000 in
set_option maxRecDepth 100000 in
theorem uneval_null (w : World) (gv gs : Nat)  (ad : Addr) (cp up er : Value) (s : Sc) (hv : w.heap[gv]? = some (row (vdc (.nilIface) ad (.pointer (some ⟨gs, 0, none⟩)) cp up er) 182)) (hS : w.heap[gs]? = some (row (Sc.cells ⟨2020, s.loc, s.bool, s.enum, s.const, s.format, s.req, s.props, s.pats, s.deps, s.dreq, s.dsch, .nilIface⟩) 119)) :
  Calls Tryz.prog 151 #[.pointer (some ⟨gv, 0, none⟩)] w fun e w' => e = .returned (.tuple #[]) ∧ Below w.heap.size w w' := by
 have HK : Aside0 (At w [] w) := asd_ (At.start w)
 have bgv := cel_ (blk_below hv HK.out.b); have bgs := cel_ (blk_below hS HK.out.b)
 go_enter Tryz.func151, Tryz.ntmps151
 go_wp2_with fail
 go_end0
 exact ⟨rfl, be_⟩
set_option maxHeartbeats 4000000 in
set_option maxRecDepth 100000 in
theorem uneval_bool (w : World) (gv gs : Nat) (b : Bool) (ad : Addr) (cp up er : Value) (s : Sc) (hv : w.heap[gv]? = some (row (vdc (.iface 4 (.bool b)) ad (.pointer (some ⟨gs, 0, none⟩)) cp up er) 182)) (hS : w.heap[gs]? = some (row (Sc.cells ⟨2020, s.loc, s.bool, s.enum, s.const, s.format, s.req, s.props, s.pats, s.deps, s.dreq, s.dsch, .nilIface⟩) 119)) :
  Calls Tryz.prog 151 #[.pointer (some ⟨gv, 0, none⟩)] w fun e w' => e = .returned (.tuple #[]) ∧ Below w.heap.size w w' := by
 have HK : Aside0 (At w [] w) := asd_ (At.start w)
 have bgv := cel_ (blk_below hv HK.out.b); have bgs := cel_ (blk_below hS HK.out.b)
 go_enter Tryz.func151, Tryz.ntmps151
 go_wp2_with fail
 go_end0
 exact ⟨rfl, be_⟩
set_option maxHeartbeats 4000000 in
set_option maxRecDepth 100000 in
theorem uneval_text (w : World) (gv gs : Nat) (t : ByteArray) (ad : Addr) (cp up er : Value) (s : Sc) (hv : w.heap[gv]? = some (row (vdc (.iface 9 (.string t)) ad (.pointer (some ⟨gs, 0, none⟩)) cp up er) 182)) (hS : w.heap[gs]? = some (row (Sc.cells ⟨2020, s.loc, s.bool, s.enum, s.const, s.format, s.req, s.props, s.pats, s.deps, s.dreq, s.dsch, .nilIface⟩) 119)) :
  Calls Tryz.prog 151 #[.pointer (some ⟨gv, 0, none⟩)] w fun e w' => e = .returned (.tuple #[]) ∧ Below w.heap.size w w' := by
 have HK : Aside0 (At w [] w) := asd_ (At.start w)
 have bgv := cel_ (blk_below hv HK.out.b); have bgs := cel_ (blk_below hS HK.out.b)
 go_enter Tryz.func151, Tryz.ntmps151
 go_wp2_with fail
 go_end0
 exact ⟨rfl, be_⟩
set_option maxHeartbeats 4000000 in
set_option maxRecDepth 100000 in
theorem uneval_array (w : World) (gv gs : Nat) (A : Option Addr) (n c : Nat) (ad : Addr) (cp up er : Value) (s : Sc) (hv : w.heap[gv]? = some (row (vdc (.iface 117 (.slice A n c)) ad (.pointer (some ⟨gs, 0, none⟩)) cp up er) 182)) (hS : w.heap[gs]? = some (row (Sc.cells ⟨2020, s.loc, s.bool, s.enum, s.const, s.format, s.req, s.props, s.pats, s.deps, s.dreq, s.dsch, .nilIface⟩) 119)) :
  Calls Tryz.prog 151 #[.pointer (some ⟨gv, 0, none⟩)] w fun e w' => e = .returned (.tuple #[]) ∧ Below w.heap.size w w' := by
 have HK : Aside0 (At w [] w) := asd_ (At.start w)
 have bgv := cel_ (blk_below hv HK.out.b); have bgs := cel_ (blk_below hS HK.out.b)
 go_enter Tryz.func151, Tryz.ntmps151
 go_wp2_with fail
 go_end0
 exact ⟨rfl, be_⟩
set_option maxHeartbeats 4000000 in
set_option maxRecDepth 100000 in
theorem uneval_object (w : World) (gv gs : Nat) (g : Nat) (ad : Addr) (cp up er : Value) (s : Sc) (hv : w.heap[gv]? = some (row (vdc (.iface 113 (.map (some g))) ad (.pointer (some ⟨gs, 0, none⟩)) cp up er) 182)) (hS : w.heap[gs]? = some (row (Sc.cells ⟨2020, s.loc, s.bool, s.enum, s.const, s.format, s.req, s.props, s.pats, s.deps, s.dreq, s.dsch, .nilIface⟩) 119)) :
  Calls Tryz.prog 151 #[.pointer (some ⟨gv, 0, none⟩)] w fun e w' => e = .returned (.tuple #[]) ∧ Below w.heap.size w w' := by
 have HK : Aside0 (At w [] w) := asd_ (At.start w)
 have bgv := cel_ (blk_below hv HK.out.b); have bgs := cel_ (blk_below hS HK.out.b)
 go_enter Tryz.func151, Tryz.ntmps151
 go_wp2_with fail
 go_end0
 exact ⟨rfl, be_⟩
end Go.Proofs.YtkphbhncpdcbeaaGreatDoor.J
namespace Go.Proofs.YtkphbhncpdcbeaaGreatDoor.J
open Go.RowKit Go.Proofs.YtkphbhncpdcbeaaGreatDoorW.PrintWords Go.Proofs.YtkphbhncpdcbeaaGreatDoorW.PrintLast Go.Proofs.YtkphbhncpdcbeaaGreatDoorW.PrintMore Go.Proofs.YtkphbhncpdcbeaaGreatDoor.PJT
attribute [local go_sem] Nd.csize Sc.csize Nd.c0 Nd.c1 Nd.c2 Nd.c3 Nd.c4 Nd.c5 Nd.c6 Nd.c7 Nd.c8 Nd.c9 Nd.c10 Nd.c11 Nd.c12 Nd.c13 Nd.c14 Nd.c15 Nd.c16 Nd.c17 Nd.c18 Nd.c19 Nd.c20 Nd.c21 Nd.c22 Nd.c23 Nd.c24 Nd.c25 Nd.c26 Nd.c27 Nd.c28 Nd.c29 Nd.c30 Nd.c31 Nd.c32 Nd.c33 Nd.c34 Nd.c35 Nd.c36 Nd.c37 Nd.c38 Nd.c39 Nd.c40 Nd.c41 Nd.c42 Nd.c43 Nd.c44 Nd.c45 Nd.c46 Nd.c47 Nd.c48 Nd.c49 Nd.c50 Nd.c51 Nd.c52 Sc.c0 Sc.c1 Sc.c2 Sc.c3 Sc.c4 Sc.c5 Sc.c6 Sc.c7 Sc.c8 Sc.c9 Sc.c10 Sc.c11 Sc.c12 Sc.c13 Sc.c14 Sc.c15 Sc.c16 Sc.c17 Sc.c18 Sc.c19 Sc.c20 Sc.c21 Sc.c22 Sc.c23 Sc.c24 Sc.c25 Sc.c26 Sc.c27 Sc.c28 Sc.c29 Sc.c30 Sc.c31 Sc.c32 Sc.c33 Sc.c34 Sc.c35 Sc.c36 Sc.c37 Sc.c38 Sc.c39 Sc.c40 Sc.c41 Sc.c42 Sc.c43 Sc.c44 Sc.c45 Sc.c46 Sc.c47 Sc.c48 Sc.c49 Sc.c50 Sc.c51 Sc.c52
set_option linter.unusedVariables false
set_option linter.unusedSimpArgs false
set_option maxHeartbeats 4000000 in
set_option maxRecDepth 100000 in
theorem arr_quiet (w : World) (gv gs : Nat) (vv : Value) (ad : Addr) (cp up er : Value) (s : Sc) (hv : w.heap[gv]? = some (row (vdc vv ad (.pointer (some ⟨gs, 0, none⟩)) cp up er) 182)) (hS : w.heap[gs]? = some (row (Sc.cells ⟨2020, s.loc, s.bool, s.enum, s.const, s.format, s.req, s.props, s.pats, s.deps, s.dreq, s.dsch, .nilIface⟩) 119)) (A : Option Addr) (n c : Nat) :
  Calls Tryz.prog 148 #[.pointer (some ⟨gv, 0, none⟩), .slice A n c] w fun e w' => e = .returned (.tuple #[]) ∧ Below w.heap.size w w' := by
 have HK : Aside0 (At w [] w) := asd_ (At.start w)
 have bgv := cel_ (blk_below hv HK.out.b); have bgs := cel_ (blk_below hS HK.out.b)
 go_enter Tryz.func148, Tryz.ntmps148
 go_wp2_with (first | ((with_reducible refine gd_ 237 ?_); refine cl_ #[i0, .int .i64 (n : Int)] (i0) Tryz.func182 (min_zero _ n) ?_; intro wc237 HK1; replace HK := asd_ HK1; clear HK1; clear bgv bgs; have bgv := cel_ (blk_below hv HK.out.b); have bgs := cel_ (blk_below hS HK.out.b)))
 refine wp_loop_once ?_
 go_wp2_with fail
 go_end0
 exact ⟨rfl, be_⟩
set_option maxHeartbeats 4000000 in
set_option maxRecDepth 100000 in
theorem cond_quiet (w : World) (gv gs : Nat) (vv : Value) (ad : Addr) (cp up er : Value) (s : Sc) (hv : w.heap[gv]? = some (row (vdc vv ad (.pointer (some ⟨gs, 0, none⟩)) cp up er) 182)) (hS : w.heap[gs]? = some (row (Sc.cells ⟨2020, s.loc, s.bool, s.enum, s.const, s.format, s.req, s.props, s.pats, s.deps, s.dreq, s.dsch, .nilIface⟩) 119)) :
  Calls Tryz.prog 150 #[.pointer (some ⟨gv, 0, none⟩)] w fun e w' => e = .returned (.tuple #[]) ∧ Below w.heap.size w w' := by
 have HK : Aside0 (At w [] w) := asd_ (At.start w)
 have bgv := cel_ (blk_below hv HK.out.b); have bgs := cel_ (blk_below hS HK.out.b)
 go_enter Tryz.func150, Tryz.ntmps150
 go_wp2_with fail
 go_end0
 exact ⟨rfl, be_⟩
end Go.Proofs.YtkphbhncpdcbeaaGreatDoor.J
namespace Go.Proofs.YtkphbhncpdcbeaaGreatDoor.J
open Go.RowKit Go.Proofs.YtkphbhncpdcbeaaGreatDoorW.PrintWords Go.Proofs.YtkphbhncpdcbeaaGreatDoorW.PrintLast Go.Proofs.YtkphbhncpdcbeaaGreatDoorW.PrintMore Go.Proofs.YtkphbhncpdcbeaaGreatDoor.PJT
attribute [local go_sem] Nd.csize Sc.csize Nd.c0 Nd.c1 Nd.c2 Nd.c3 Nd.c4 Nd.c5 Nd.c6 Nd.c7 Nd.c8 Nd.c9 Nd.c10 Nd.c11 Nd.c12 Nd.c13 Nd.c14 Nd.c15 Nd.c16 Nd.c17 Nd.c18 Nd.c19 Nd.c20 Nd.c21 Nd.c22 Nd.c23 Nd.c24 Nd.c25 Nd.c26 Nd.c27 Nd.c28 Nd.c29 Nd.c30 Nd.c31 Nd.c32 Nd.c33 Nd.c34 Nd.c35 Nd.c36 Nd.c37 Nd.c38 Nd.c39 Nd.c40 Nd.c41 Nd.c42 Nd.c43 Nd.c44 Nd.c45 Nd.c46 Nd.c47 Nd.c48 Nd.c49 Nd.c50 Nd.c51 Nd.c52 Sc.c0 Sc.c1 Sc.c2 Sc.c3 Sc.c4 Sc.c5 Sc.c6 Sc.c7 Sc.c8 Sc.c9 Sc.c10 Sc.c11 Sc.c12 Sc.c13 Sc.c14 Sc.c15 Sc.c16 Sc.c17 Sc.c18 Sc.c19 Sc.c20 Sc.c21 Sc.c22 Sc.c23 Sc.c24 Sc.c25 Sc.c26 Sc.c27 Sc.c28 Sc.c29 Sc.c30 Sc.c31 Sc.c32 Sc.c33 Sc.c34 Sc.c35 Sc.c36 Sc.c37 Sc.c38 Sc.c39 Sc.c40 Sc.c41 Sc.c42 Sc.c43 Sc.c44 Sc.c45 Sc.c46 Sc.c47 Sc.c48 Sc.c49 Sc.c50 Sc.c51 Sc.c52
set_option linter.unusedVariables false
set_option linter.unusedSimpArgs false
attribute [local go_sem] ta_null_9 ta_null_117 ta_null_113 ta_bool_4 ta_bool_9 ta_bool_117 ta_bool_113 ta_text_4 ta_text_340 ta_text_343 ta_text_3 ta_text_344 ta_text_345 ta_text_21 ta_text_2 ta_text_232 ta_text_5 ta_text_346 ta_text_324 ta_text_326 ta_text_9 ta_text_117 ta_text_113 ta_array_4 ta_array_340 ta_array_343 ta_array_3 ta_array_344 ta_array_345 ta_array_21 ta_array_2 ta_array_232 ta_array_5 ta_array_346 ta_array_324 ta_array_326 ta_array_9 ta_array_117 ta_array_113 ta_object_4 ta_object_340 ta_object_343 ta_object_3 ta_object_344 ta_object_345 ta_object_21 ta_object_2 ta_object_232 ta_object_5 ta_object_346 ta_object_324 ta_object_326 ta_object_9 ta_object_117 ta_object_113
set_option maxHeartbeats 4000000 in
set_option maxRecDepth 100000 in
theorem val_null (w w0 : World) (l : List Blk) (gv gs gc : Nat)  (ad : Addr) (up : Value) (loc : ByteArray) (req props pats deps dreq dsch : Value) (H : At w0 (.b gv (row (vdc (.nilIface) ad (.pointer (some ⟨gs, 0, none⟩)) (.pointer (some ⟨gc, 0, none⟩)) up nilS) 182) :: .b gc (row (#[.pointer (some ⟨gs, 0, none⟩), eS, i0, nP]) 178) :: l) w) (hgv : w0.heap.size ≤ gv) (hS : w0.heap[gs]? = some (row (Sc.cells ⟨2020, loc, nP, nP, nP, nP, req, props, pats, deps, dreq, dsch, .nilIface⟩) 119))  :
  Calls Tryz.prog 99 #[.pointer (some ⟨gv, 0, none⟩)] w fun e w' => e = .returned (.tuple #[up, .nilIface]) ∧ At w0 (.b gv (row (vdc (.nilIface) ad (.pointer (some ⟨gs, 0, none⟩)) (.pointer (some ⟨gc, 0, none⟩)) up nilS) 182) :: .b gc (row (#[.pointer (some ⟨gs, 0, none⟩), eS, i0, nP]) 178) :: l) w' := by
 skip
 skip
 have HK := asd_ H
 clear H
 have bgc := cE HK 1; have bgv := cE HK 0; have fgv := fE HK 0; have bgs := cel_ (blk_below hS HK.out.b)
 have Ggv := asd_ hgv
 clear hgv
 go_enter Tryz.func99, Tryz.ntmps99
 go_wp2_with (first | ((with_reducible refine gd_ 55 ?_); refine cl_ #[.pointer (some ⟨gc, 0, none⟩)] (nP) Tryz.func137 (cycle_none _ gc gs (HK.out.k.2.1)) ?_; intro wc55 HK1; replace HK := asd_ HK1; clear HK1; clear bgc bgv fgv bgs; have bgc := cE HK 1; have bgv := cE HK 0; have fgv := fE HK 0; have bgs := cel_ (blk_below hS HK.out.b)) | ((with_reducible refine gd_ 76 ?_); refine cl_ #[.nilIface] (.int .i64 2) Tryz.func139 (type_null _ ) ?_; intro wc76 HK1; replace HK := asd_ HK1; clear HK1; clear bgc bgv fgv bgs; have bgc := cE HK 1; have bgv := cE HK 0; have fgv := fE HK 0; have bgs := cel_ (blk_below hS HK.out.b)) | ((with_reducible refine gd_ 311 ?_); refine cl_ #[.pointer (some ⟨gv, 0, none⟩)] (.tuple #[]) Tryz.func150 (cond_quiet _ gv gs (.nilIface) ad (.pointer (some ⟨gc, 0, none⟩)) up nilS ⟨2020, loc, nP, nP, nP, nP, req, props, pats, deps, dreq, dsch, .nilIface⟩ (HK.out.k.1) (blk_below hS HK.out.b)) ?_; intro wc311 HK1; replace HK := asd_ HK1; clear HK1; clear bgc bgv fgv bgs; have bgc := cE HK 1; have bgv := cE HK 0; have fgv := fE HK 0; have bgs := cel_ (blk_below hS HK.out.b)) | ((with_reducible refine gd_ 318 ?_); refine cl_ #[.pointer (some ⟨gv, 0, none⟩)] (.tuple #[]) Tryz.func151 (uneval_null _ gv gs  ad (.pointer (some ⟨gc, 0, none⟩)) up nilS ⟨2020, loc, nP, nP, nP, nP, req, props, pats, deps, dreq, dsch, .nilIface⟩ (HK.out.k.1) (blk_below hS HK.out.b)) ?_; intro wc318 HK1; replace HK := asd_ HK1; clear HK1; clear bgc bgv fgv bgs; have bgc := cE HK 1; have bgv := cE HK 0; have fgv := fE HK 0; have bgs := cel_ (blk_below hS HK.out.b)))
 go_ret2
 exact ⟨rfl, HK.out⟩
set_option maxHeartbeats 4000000 in
set_option maxRecDepth 100000 in
theorem val_bool (w w0 : World) (l : List Blk) (gv gs gc : Nat) (b : Bool) (ad : Addr) (up : Value) (loc : ByteArray) (req props pats deps dreq dsch : Value) (H : At w0 (.b gv (row (vdc (.iface 4 (.bool b)) ad (.pointer (some ⟨gs, 0, none⟩)) (.pointer (some ⟨gc, 0, none⟩)) up nilS) 182) :: .b gc (row (#[.pointer (some ⟨gs, 0, none⟩), eS, i0, nP]) 178) :: l) w) (hgv : w0.heap.size ≤ gv) (hS : w0.heap[gs]? = some (row (Sc.cells ⟨2020, loc, nP, nP, nP, nP, req, props, pats, deps, dreq, dsch, .nilIface⟩) 119))  :
  Calls Tryz.prog 99 #[.pointer (some ⟨gv, 0, none⟩)] w fun e w' => e = .returned (.tuple #[up, .nilIface]) ∧ At w0 (.b gv (row (vdc (.iface 4 (.bool b)) ad (.pointer (some ⟨gs, 0, none⟩)) (.pointer (some ⟨gc, 0, none⟩)) up nilS) 182) :: .b gc (row (#[.pointer (some ⟨gs, 0, none⟩), eS, i0, nP]) 178) :: l) w' := by
 skip
 skip
 have HK := asd_ H
 clear H
 have bgc := cE HK 1; have bgv := cE HK 0; have fgv := fE HK 0; have bgs := cel_ (blk_below hS HK.out.b)
 have Ggv := asd_ hgv
 clear hgv
 go_enter Tryz.func99, Tryz.ntmps99
 go_wp2_with (first | ((with_reducible refine gd_ 55 ?_); refine cl_ #[.pointer (some ⟨gc, 0, none⟩)] (nP) Tryz.func137 (cycle_none _ gc gs (HK.out.k.2.1)) ?_; intro wc55 HK1; replace HK := asd_ HK1; clear HK1; clear bgc bgv fgv bgs; have bgc := cE HK 1; have bgv := cE HK 0; have fgv := fE HK 0; have bgs := cel_ (blk_below hS HK.out.b)) | ((with_reducible refine gd_ 76 ?_); refine cl_ #[.iface 4 (.bool b)] (.int .i64 4) Tryz.func139 (type_bool _ b) ?_; intro wc76 HK1; replace HK := asd_ HK1; clear HK1; clear bgc bgv fgv bgs; have bgc := cE HK 1; have bgv := cE HK 0; have fgv := fE HK 0; have bgs := cel_ (blk_below hS HK.out.b)) | ((with_reducible refine gd_ 311 ?_); refine cl_ #[.pointer (some ⟨gv, 0, none⟩)] (.tuple #[]) Tryz.func150 (cond_quiet _ gv gs (.iface 4 (.bool b)) ad (.pointer (some ⟨gc, 0, none⟩)) up nilS ⟨2020, loc, nP, nP, nP, nP, req, props, pats, deps, dreq, dsch, .nilIface⟩ (HK.out.k.1) (blk_below hS HK.out.b)) ?_; intro wc311 HK1; replace HK := asd_ HK1; clear HK1; clear bgc bgv fgv bgs; have bgc := cE HK 1; have bgv := cE HK 0; have fgv := fE HK 0; have bgs := cel_ (blk_below hS HK.out.b)) | ((with_reducible refine gd_ 318 ?_); refine cl_ #[.pointer (some ⟨gv, 0, none⟩)] (.tuple #[]) Tryz.func151 (uneval_bool _ gv gs b ad (.pointer (some ⟨gc, 0, none⟩)) up nilS ⟨2020, loc, nP, nP, nP, nP, req, props, pats, deps, dreq, dsch, .nilIface⟩ (HK.out.k.1) (blk_below hS HK.out.b)) ?_; intro wc318 HK1; replace HK := asd_ HK1; clear HK1; clear bgc bgv fgv bgs; have bgc := cE HK 1; have bgv := cE HK 0; have fgv := fE HK 0; have bgs := cel_ (blk_below hS HK.out.b)))
 go_ret2
 exact ⟨rfl, HK.out⟩
set_option maxHeartbeats 4000000 in
set_option maxRecDepth 100000 in
theorem val_text (w w0 : World) (l : List Blk) (gv gs gc : Nat) (t : ByteArray) (ad : Addr) (up : Value) (loc : ByteArray) (req props pats deps dreq dsch : Value) (H : At w0 (.b gv (row (vdc (.iface 9 (.string t)) ad (.pointer (some ⟨gs, 0, none⟩)) (.pointer (some ⟨gc, 0, none⟩)) up nilS) 182) :: .b gc (row (#[.pointer (some ⟨gs, 0, none⟩), eS, i0, nP]) 178) :: l) w) (hgv : w0.heap.size ≤ gv) (hS : w0.heap[gs]? = some (row (Sc.cells ⟨2020, loc, nP, nP, nP, nP, req, props, pats, deps, dreq, dsch, .nilIface⟩) 119))  :
  Calls Tryz.prog 99 #[.pointer (some ⟨gv, 0, none⟩)] w fun e w' => e = .returned (.tuple #[up, .nilIface]) ∧ At w0 (.b gv (row (vdc (.iface 9 (.string t)) ad (.pointer (some ⟨gs, 0, none⟩)) (.pointer (some ⟨gc, 0, none⟩)) up nilS) 182) :: .b gc (row (#[.pointer (some ⟨gs, 0, none⟩), eS, i0, nP]) 178) :: l) w' := by
 skip
 skip
 have HK := asd_ H
 clear H
 have bgc := cE HK 1; have bgv := cE HK 0; have fgv := fE HK 0; have bgs := cel_ (blk_below hS HK.out.b)
 have Ggv := asd_ hgv
 clear hgv
 go_enter Tryz.func99, Tryz.ntmps99
 go_wp2_with (first | ((with_reducible refine gd_ 55 ?_); refine cl_ #[.pointer (some ⟨gc, 0, none⟩)] (nP) Tryz.func137 (cycle_none _ gc gs (HK.out.k.2.1)) ?_; intro wc55 HK1; replace HK := asd_ HK1; clear HK1; clear bgc bgv fgv bgs; have bgc := cE HK 1; have bgv := cE HK 0; have fgv := fE HK 0; have bgs := cel_ (blk_below hS HK.out.b)) | ((with_reducible refine gd_ 76 ?_); refine cl_ #[.iface 9 (.string t)] (.int .i64 32) Tryz.func139 (type_text _ t) ?_; intro wc76 HK1; replace HK := asd_ HK1; clear HK1; clear bgc bgv fgv bgs; have bgc := cE HK 1; have bgv := cE HK 0; have fgv := fE HK 0; have bgs := cel_ (blk_below hS HK.out.b)) | ((with_reducible refine gd_ 296 ?_); refine cl_ #[.pointer (some ⟨gv, 0, none⟩), .string t] (.tuple #[]) Tryz.func149 (str_quiet _ gv gs (.iface 9 (.string t)) ad (.pointer (some ⟨gc, 0, none⟩)) up nilS ⟨2020, loc, nP, nP, nP, nP, req, props, pats, deps, dreq, dsch, .nilIface⟩ (HK.out.k.1) (blk_below hS HK.out.b) t) ?_; intro wc296 HK1; replace HK := asd_ HK1; clear HK1; clear bgc bgv fgv bgs; have bgc := cE HK 1; have bgv := cE HK 0; have fgv := fE HK 0; have bgs := cel_ (blk_below hS HK.out.b)) | ((with_reducible refine gd_ 311 ?_); refine cl_ #[.pointer (some ⟨gv, 0, none⟩)] (.tuple #[]) Tryz.func150 (cond_quiet _ gv gs (.iface 9 (.string t)) ad (.pointer (some ⟨gc, 0, none⟩)) up nilS ⟨2020, loc, nP, nP, nP, nP, req, props, pats, deps, dreq, dsch, .nilIface⟩ (HK.out.k.1) (blk_below hS HK.out.b)) ?_; intro wc311 HK1; replace HK := asd_ HK1; clear HK1; clear bgc bgv fgv bgs; have bgc := cE HK 1; have bgv := cE HK 0; have fgv := fE HK 0; have bgs := cel_ (blk_below hS HK.out.b)) | ((with_reducible refine gd_ 318 ?_); refine cl_ #[.pointer (some ⟨gv, 0, none⟩)] (.tuple #[]) Tryz.func151 (uneval_text _ gv gs t ad (.pointer (some ⟨gc, 0, none⟩)) up nilS ⟨2020, loc, nP, nP, nP, nP, req, props, pats, deps, dreq, dsch, .nilIface⟩ (HK.out.k.1) (blk_below hS HK.out.b)) ?_; intro wc318 HK1; replace HK := asd_ HK1; clear HK1; clear bgc bgv fgv bgs; have bgc := cE HK 1; have bgv := cE HK 0; have fgv := fE HK 0; have bgs := cel_ (blk_below hS HK.out.b)))
 go_ret2
 exact ⟨rfl, HK.out⟩
set_option maxHeartbeats 4000000 in
set_option maxRecDepth 100000 in
theorem val_array (w w0 : World) (l : List Blk) (gv gs gc : Nat) (A : Option Addr) (n c : Nat) (ad : Addr) (up : Value) (loc : ByteArray) (req props pats deps dreq dsch : Value) (H : At w0 (.b gv (row (vdc (.iface 117 (.slice A n c)) ad (.pointer (some ⟨gs, 0, none⟩)) (.pointer (some ⟨gc, 0, none⟩)) up nilS) 182) :: .b gc (row (#[.pointer (some ⟨gs, 0, none⟩), eS, i0, nP]) 178) :: l) w) (hgv : w0.heap.size ≤ gv) (hS : w0.heap[gs]? = some (row (Sc.cells ⟨2020, loc, nP, nP, nP, nP, req, props, pats, deps, dreq, dsch, .nilIface⟩) 119))  :
  Calls Tryz.prog 99 #[.pointer (some ⟨gv, 0, none⟩)] w fun e w' => e = .returned (.tuple #[up, .nilIface]) ∧ At w0 (.b gv (row (vdc (.iface 117 (.slice A n c)) ad (.pointer (some ⟨gs, 0, none⟩)) (.pointer (some ⟨gc, 0, none⟩)) up nilS) 182) :: .b gc (row (#[.pointer (some ⟨gs, 0, none⟩), eS, i0, nP]) 178) :: l) w' := by
 skip
 skip
 have HK := asd_ H
 clear H
 have bgc := cE HK 1; have bgv := cE HK 0; have fgv := fE HK 0; have bgs := cel_ (blk_below hS HK.out.b)
 have Ggv := asd_ hgv
 clear hgv
 go_enter Tryz.func99, Tryz.ntmps99
 go_wp2_with (first | ((with_reducible refine gd_ 55 ?_); refine cl_ #[.pointer (some ⟨gc, 0, none⟩)] (nP) Tryz.func137 (cycle_none _ gc gs (HK.out.k.2.1)) ?_; intro wc55 HK1; replace HK := asd_ HK1; clear HK1; clear bgc bgv fgv bgs; have bgc := cE HK 1; have bgv := cE HK 0; have fgv := fE HK 0; have bgs := cel_ (blk_below hS HK.out.b)) | ((with_reducible refine gd_ 76 ?_); refine cl_ #[.iface 117 (.slice A n c)] (.int .i64 64) Tryz.func139 (type_array _ A n c) ?_; intro wc76 HK1; replace HK := asd_ HK1; clear HK1; clear bgc bgv fgv bgs; have bgc := cE HK 1; have bgv := cE HK 0; have fgv := fE HK 0; have bgs := cel_ (blk_below hS HK.out.b)) | ((with_reducible refine gd_ 290 ?_); refine cl_ #[.pointer (some ⟨gv, 0, none⟩), .slice A n c] (.tuple #[]) Tryz.func148 (arr_quiet _ gv gs (.iface 117 (.slice A n c)) ad (.pointer (some ⟨gc, 0, none⟩)) up nilS ⟨2020, loc, nP, nP, nP, nP, req, props, pats, deps, dreq, dsch, .nilIface⟩ (HK.out.k.1) (blk_below hS HK.out.b) A n c) ?_; intro wc290 HK1; replace HK := asd_ HK1; clear HK1; clear bgc bgv fgv bgs; have bgc := cE HK 1; have bgv := cE HK 0; have fgv := fE HK 0; have bgs := cel_ (blk_below hS HK.out.b)) | ((with_reducible refine gd_ 311 ?_); refine cl_ #[.pointer (some ⟨gv, 0, none⟩)] (.tuple #[]) Tryz.func150 (cond_quiet _ gv gs (.iface 117 (.slice A n c)) ad (.pointer (some ⟨gc, 0, none⟩)) up nilS ⟨2020, loc, nP, nP, nP, nP, req, props, pats, deps, dreq, dsch, .nilIface⟩ (HK.out.k.1) (blk_below hS HK.out.b)) ?_; intro wc311 HK1; replace HK := asd_ HK1; clear HK1; clear bgc bgv fgv bgs; have bgc := cE HK 1; have bgv := cE HK 0; have fgv := fE HK 0; have bgs := cel_ (blk_below hS HK.out.b)) | ((with_reducible refine gd_ 318 ?_); refine cl_ #[.pointer (some ⟨gv, 0, none⟩)] (.tuple #[]) Tryz.func151 (uneval_array _ gv gs A n c ad (.pointer (some ⟨gc, 0, none⟩)) up nilS ⟨2020, loc, nP, nP, nP, nP, req, props, pats, deps, dreq, dsch, .nilIface⟩ (HK.out.k.1) (blk_below hS HK.out.b)) ?_; intro wc318 HK1; replace HK := asd_ HK1; clear HK1; clear bgc bgv fgv bgs; have bgc := cE HK 1; have bgv := cE HK 0; have fgv := fE HK 0; have bgs := cel_ (blk_below hS HK.out.b)))
 go_ret2
 exact ⟨rfl, HK.out⟩
set_option maxHeartbeats 4000000 in
set_option maxRecDepth 100000 in
theorem val_object (w w0 : World) (l : List Blk) (gv gs gc : Nat) (g : Nat) (ad : Addr) (up : Value) (loc : ByteArray) (req props pats deps dreq dsch : Value) (H : At w0 (.b gv (row (vdc (.iface 113 (.map (some g))) ad (.pointer (some ⟨gs, 0, none⟩)) (.pointer (some ⟨gc, 0, none⟩)) up nilS) 182) :: .b gc (row (#[.pointer (some ⟨gs, 0, none⟩), eS, i0, nP]) 178) :: l) w) (hgv : w0.heap.size ≤ gv) (hS : w0.heap[gs]? = some (row (Sc.cells ⟨2020, loc, nP, nP, nP, nP, req, props, pats, deps, dreq, dsch, .nilIface⟩) 119)) (hO : ∀ W l, At w0 (.b gv (row (vdc (.iface 113 (.map (some g))) ad (.pointer (some ⟨gs, 0, none⟩)) (.pointer (some ⟨gc, 0, none⟩)) up nilS) 182) :: l) W → Calls Tryz.prog 147 #[.pointer (some ⟨gv, 0, none⟩), .map (some g)] W fun e w' => e = .returned (.tuple #[]) ∧ At w0 (.b gv (row (vdc (.iface 113 (.map (some g))) ad (.pointer (some ⟨gs, 0, none⟩)) (.pointer (some ⟨gc, 0, none⟩)) up nilS) 182) :: l) w') :
  Calls Tryz.prog 99 #[.pointer (some ⟨gv, 0, none⟩)] w fun e w' => e = .returned (.tuple #[up, .nilIface]) ∧ At w0 (.b gv (row (vdc (.iface 113 (.map (some g))) ad (.pointer (some ⟨gs, 0, none⟩)) (.pointer (some ⟨gc, 0, none⟩)) up nilS) 182) :: .b gc (row (#[.pointer (some ⟨gs, 0, none⟩), eS, i0, nP]) 178) :: l) w' := by
 have HO := asd_ hO
 clear hO
 have HK := asd_ H
 clear H
 have bgc := cE HK 1; have bgv := cE HK 0; have fgv := fE HK 0; have bgs := cel_ (blk_below hS HK.out.b)
 have Ggv := asd_ hgv
 clear hgv
 go_enter Tryz.func99, Tryz.ntmps99
 go_wp2_with (first | ((with_reducible refine gd_ 55 ?_); refine cl_ #[.pointer (some ⟨gc, 0, none⟩)] (nP) Tryz.func137 (cycle_none _ gc gs (HK.out.k.2.1)) ?_; intro wc55 HK1; replace HK := asd_ HK1; clear HK1; clear bgc bgv fgv bgs; have bgc := cE HK 1; have bgv := cE HK 0; have fgv := fE HK 0; have bgs := cel_ (blk_below hS HK.out.b)) | ((with_reducible refine gd_ 76 ?_); refine cl_ #[.iface 113 (.map (some g))] (.int .i64 128) Tryz.func139 (type_object _ g) ?_; intro wc76 HK1; replace HK := asd_ HK1; clear HK1; clear bgc bgv fgv bgs; have bgc := cE HK 1; have bgv := cE HK 0; have fgv := fE HK 0; have bgs := cel_ (blk_below hS HK.out.b)) | ((with_reducible refine gd_ 284 ?_); refine call_to #[.pointer (some ⟨gv, 0, none⟩), .map (some g)] (.tuple #[]) _ rfl Tryz.func147 kr_ rfl rfl ar_ (HO.out _ _ HK.out) ?_; intro wc284 HK1; replace HK := asd_ HK1; clear HK1; clear bgc bgv fgv bgs; have bgc := cE HK 1; have bgv := cE HK 0; have fgv := fE HK 0; have bgs := cel_ (blk_below hS HK.out.b)) | ((with_reducible refine gd_ 311 ?_); refine cl_ #[.pointer (some ⟨gv, 0, none⟩)] (.tuple #[]) Tryz.func150 (cond_quiet _ gv gs (.iface 113 (.map (some g))) ad (.pointer (some ⟨gc, 0, none⟩)) up nilS ⟨2020, loc, nP, nP, nP, nP, req, props, pats, deps, dreq, dsch, .nilIface⟩ (HK.out.k.1) (blk_below hS HK.out.b)) ?_; intro wc311 HK1; replace HK := asd_ HK1; clear HK1; clear bgc bgv fgv bgs; have bgc := cE HK 1; have bgv := cE HK 0; have fgv := fE HK 0; have bgs := cel_ (blk_below hS HK.out.b)) | ((with_reducible refine gd_ 318 ?_); refine cl_ #[.pointer (some ⟨gv, 0, none⟩)] (.tuple #[]) Tryz.func151 (uneval_object _ gv gs g ad (.pointer (some ⟨gc, 0, none⟩)) up nilS ⟨2020, loc, nP, nP, nP, nP, req, props, pats, deps, dreq, dsch, .nilIface⟩ (HK.out.k.1) (blk_below hS HK.out.b)) ?_; intro wc318 HK1; replace HK := asd_ HK1; clear HK1; clear bgc bgv fgv bgs; have bgc := cE HK 1; have bgv := cE HK 0; have fgv := fE HK 0; have bgs := cel_ (blk_below hS HK.out.b)))
 go_ret2
 exact ⟨rfl, HK.out⟩
theorem ptr_cell {W : World} {b : Nat} {A : Option Addr} {c : Nat} {p : Option Addr} (h : (Fact.rows kPtr 76 b E76 (.slice A 1 c) [p]).P W) : ∃ ad, A = some ad ∧ W.cell? ad = some (.pointer p) := by
 obtain ⟨A', c', e, _, hC⟩ := Kd.R_reads (show Kd.R kPtr 76 W b _ (.slice A 1 c) [p] from h)
 cases e
 obtain ⟨ad, rfl, hc⟩ := hC.2.2 (by simp)
 obtain ⟨cs, hs, hK, hcell⟩ := hc 0 p rfl
 have hK' : cs = [.pointer p] := hK
 subst hK'
 have := hcell 0 _ rfl
 exact ⟨ad, rfl, by simpa [Addr.add] using this⟩
set_option maxHeartbeats 4000000 in
set_option maxRecDepth 100000 in
theorem val_some (w w0 : World) (l : List Blk) (gv gs gc : Nat) (g : Nat) (ad : Addr) (up : Value) (loc : ByteArray) (req props pats deps dreq dsch : Value) (H : At w0 (.b gv (row (vdc (.iface 113 (.map (some g))) ad (.pointer (some ⟨gs, 0, none⟩)) (.pointer (some ⟨gc, 0, none⟩)) up nilS) 182) :: .b gc (row (#[.pointer (some ⟨gs, 0, none⟩), eS, i0, nP]) 178) :: l) w) (hgv : w0.heap.size ≤ gv) (hS : w0.heap[gs]? = some (row (Sc.cells ⟨2020, loc, nP, nP, nP, nP, req, props, pats, deps, dreq, dsch, .nilIface⟩) 119)) (PX : Nat → List Blk → Prop) (hO : ∀ W l, At w0 (.b gv (row (vdc (.iface 113 (.map (some g))) ad (.pointer (some ⟨gs, 0, none⟩)) (.pointer (some ⟨gc, 0, none⟩)) up nilS) 182) :: l) W → Calls Tryz.prog 147 #[.pointer (some ⟨gv, 0, none⟩), .map (some g)] W fun e w' => e = .returned (.tuple #[]) ∧ ∃ A c ge X, PX ge X ∧ At w0 (.f (Fact.rows kPtr 76 w0.heap.size E76 (.slice A 1 c) [some ⟨ge, 0, none⟩]) :: .b gv (row (vdc (.iface 113 (.map (some g))) ad (.pointer (some ⟨gs, 0, none⟩)) (.pointer (some ⟨gc, 0, none⟩)) up (.slice A 1 c)) 182) :: (X ++ l)) w') :
  Calls Tryz.prog 99 #[.pointer (some ⟨gv, 0, none⟩)] w fun e w' => ∃ ge X, e = .returned (.tuple #[nP, .iface 76 (.pointer (some ⟨ge, 0, none⟩))]) ∧ PX ge X ∧ At w0 (X ++ Blk.b gc (row (#[.pointer (some ⟨gs, 0, none⟩), eS, i0, nP]) 178) :: l) w' := by
 have HO := asd_ hO
 clear hO
 have HK := asd_ H
 clear H
 have bgc := cE HK 1; have bgv := cE HK 0; have fgv := fE HK 0; have bgs := cel_ (blk_below hS HK.out.b)
 have Ggv := asd_ hgv
 clear hgv
 go_enter Tryz.func99, Tryz.ntmps99
 go_wp2_with (first | ((with_reducible refine gd_ 55 ?_); refine cl_ #[.pointer (some ⟨gc, 0, none⟩)] (nP) Tryz.func137 (cycle_none _ gc gs (HK.out.k.2.1)) ?_; intro wc55 HK1; replace HK := asd_ HK1; clear HK1; clear bgc bgv fgv bgs; have bgc := cE HK 1; have bgv := cE HK 0; have fgv := fE HK 0; have bgs := cel_ (blk_below hS HK.out.b)) | ((with_reducible refine gd_ 76 ?_); refine cl_ #[.iface 113 (.map (some g))] (.int .i64 128) Tryz.func139 (type_object _ g) ?_; intro wc76 HK1; replace HK := asd_ HK1; clear HK1; clear bgc bgv fgv bgs; have bgc := cE HK 1; have bgv := cE HK 0; have fgv := fE HK 0; have bgs := cel_ (blk_below hS HK.out.b)) | ((with_reducible refine gd_ 284 ?_); refine call_to #[.pointer (some ⟨gv, 0, none⟩), .map (some g)] (.tuple #[]) _ rfl Tryz.func147 kr_ rfl rfl ar_ (HO.out _ _ HK.out) ?_; rintro wc284 ⟨Ax, cx, ge, X, hX, HK1⟩; obtain ⟨adx, e1, hcx⟩ := ptr_cell HK1.k.1; subst e1; have HX := asd_ hX; clear hX; have Hcx := asd_ hcx; clear hcx; have WX := asd_ (World.block_lt_of_cell? _ _ Hcx.out); replace HK := asd_ HK1; clear HK1; clear bgc bgv fgv bgs; have bgv := cE HK 1; have fgv := fE HK 1; have bgs := cel_ (blk_below hS HK.out.b)) | ((with_reducible refine gd_ 311 ?_); refine cl_ #[.pointer (some ⟨gv, 0, none⟩)] (.tuple #[]) Tryz.func150 (cond_quiet _ gv gs (.iface 113 (.map (some g))) ad (.pointer (some ⟨gc, 0, none⟩)) up (.slice (some adx) 1 cx) ⟨2020, loc, nP, nP, nP, nP, req, props, pats, deps, dreq, dsch, .nilIface⟩ (HK.out.k.2.1) (blk_below hS HK.out.b)) ?_; intro wc311 HK1; replace HK := asd_ HK1; clear HK1; clear bgv fgv bgs; have bgv := cE HK 1; have fgv := fE HK 1; have bgs := cel_ (blk_below hS HK.out.b)) | ((with_reducible refine gd_ 318 ?_); refine cl_ #[.pointer (some ⟨gv, 0, none⟩)] (.tuple #[]) Tryz.func151 (uneval_object _ gv gs g ad (.pointer (some ⟨gc, 0, none⟩)) up (.slice (some adx) 1 cx) ⟨2020, loc, nP, nP, nP, nP, req, props, pats, deps, dreq, dsch, .nilIface⟩ (HK.out.k.2.1) (blk_below hS HK.out.b)) ?_; intro wc318 HK1; replace HK := asd_ HK1; clear HK1; clear bgv fgv bgs; have bgv := cE HK 1; have fgv := fE HK 1; have bgs := cel_ (blk_below hS HK.out.b)))
 obtain ⟨adx2, e2, hcx2⟩ := ptr_cell HK.out.k.1
 cases e2
 refine st_ 9 (fun w' => At w0 (.f (Fact.rows kPtr 76 w0.heap.size E76 (.slice (some adx) 1 cx) [some ⟨ge, 0, none⟩]) :: .b gv (row (vdc (.iface 113 (.map (some g))) ad (.pointer (some ⟨gs, 0, none⟩)) (.pointer (some ⟨gc, 0, none⟩)) up (.slice (some adx) 1 cx)) 182) :: (X ++ Blk.b gc (row (#[.pointer (some ⟨gs, 0, none⟩), eS, i0, nP]) 178) :: l)) w' ∧ (∀ j, w'.cell? ⟨gv, j, none⟩ = (vdc (.iface 113 (.map (some g))) ad (.pointer (some ⟨gs, 0, none⟩)) (.pointer (some ⟨gc, 0, none⟩)) up (.slice (some adx) 1 cx) : Array Value)[j]?) ∧ (∀ j, w'.cell? ⟨gs, j, none⟩ = (Sc.cells ⟨2020, loc, nP, nP, nP, nP, req, props, pats, deps, dreq, dsch, .nilIface⟩ : Array Value)[j]?) ∧ w'.cell? adx = some (.pointer (some ⟨ge, 0, none⟩))) [] (fun A => ⟨A, (cA A 1), (cel_ (blk_below hS A.b)), (by obtain ⟨_, e2, hcx2⟩ := ptr_cell A.k.1; cases e2; exact hcx2)⟩) (fun hHeld => ?_)
 refine pu_ 0 346 1 ?_
 refine pu_ 1 347 3 ?_
 refine pu_ 2 348 7 ?_
 refine pu_ 7 2 135 ?_
 refine ta4_ 3 349 143 hHeld ?_
 refine pu_ 4 350 159 ?_
 refine ta4_ 5 351 191 hHeld ?_
 refine pu_ 6 352 255 ?_
 refine pu_ 8 3 511 ?_
 refine done_ kr_ ?_
 clear HK; have HK := asd_ hHeld.1
 clear hHeld
 clear bgv fgv bgs
 have bgv := cE HK 1
 have fgv := fE HK 1
 have bgs := cel_ (blk_below hS HK.out.b)
 go_wp2_with fail
 go_ret2
 exact ⟨ge, X, rfl, HX.out, HK.out.drop.drop⟩
end Go.Proofs.YtkphbhncpdcbeaaGreatDoor.J
namespace Go.Proofs.YtkphbhncpdcbeaaGreatDoor.J
open Go.RowKit Go.Proofs.YtkphbhncpdcbeaaGreatDoorW.PrintWords Go.Proofs.YtkphbhncpdcbeaaGreatDoorW.PrintLast Go.Proofs.YtkphbhncpdcbeaaGreatDoorW.PrintMore Go.Proofs.YtkphbhncpdcbeaaGreatDoor.PJT
attribute [local go_sem] Nd.csize Sc.csize Nd.c0 Nd.c1 Nd.c2 Nd.c3 Nd.c4 Nd.c5 Nd.c6 Nd.c7 Nd.c8 Nd.c9 Nd.c10 Nd.c11 Nd.c12 Nd.c13 Nd.c14 Nd.c15 Nd.c16 Nd.c17 Nd.c18 Nd.c19 Nd.c20 Nd.c21 Nd.c22 Nd.c23 Nd.c24 Nd.c25 Nd.c26 Nd.c27 Nd.c28 Nd.c29 Nd.c30 Nd.c31 Nd.c32 Nd.c33 Nd.c34 Nd.c35 Nd.c36 Nd.c37 Nd.c38 Nd.c39 Nd.c40 Nd.c41 Nd.c42 Nd.c43 Nd.c44 Nd.c45 Nd.c46 Nd.c47 Nd.c48 Nd.c49 Nd.c50 Nd.c51 Nd.c52 Sc.c0 Sc.c1 Sc.c2 Sc.c3 Sc.c4 Sc.c5 Sc.c6 Sc.c7 Sc.c8 Sc.c9 Sc.c10 Sc.c11 Sc.c12 Sc.c13 Sc.c14 Sc.c15 Sc.c16 Sc.c17 Sc.c18 Sc.c19 Sc.c20 Sc.c21 Sc.c22 Sc.c23 Sc.c24 Sc.c25 Sc.c26 Sc.c27 Sc.c28 Sc.c29 Sc.c30 Sc.c31 Sc.c32 Sc.c33 Sc.c34 Sc.c35 Sc.c36 Sc.c37 Sc.c38 Sc.c39 Sc.c40 Sc.c41 Sc.c42 Sc.c43 Sc.c44 Sc.c45 Sc.c46 Sc.c47 Sc.c48 Sc.c49 Sc.c50 Sc.c51 Sc.c52
set_option linter.unusedVariables false
set_option linter.unusedSimpArgs false
theorem error_form {args : Array Value} {W : World} {loc : ByteArray} {kd : Value} (h : Calls Tryz.prog 136 args W fun e w' => ∃ ge Ae ce, e = .returned (.pointer (some ⟨ge, 0, none⟩)) ∧ w'.heap[ge]? = some (row (vec loc Ae ce kd nilS) 129) ∧ W.heap.size ≤ ge ∧ Below W.heap.size W w') :
  Calls Tryz.prog 136 args W fun e w' => ∃ v, e = .returned v ∧ (∃ ge Ae ce, v = .pointer (some ⟨ge, 0, none⟩) ∧ w'.heap[ge]? = some (row (vec loc Ae ce kd nilS) 129) ∧ W.heap.size ≤ ge) ∧ Below W.heap.size W w' := by
 refine h.mono ?_
 rintro e w' ⟨ge, Ae, ce, rfl, h1, h2, hb⟩
 exact ⟨_, rfl, ⟨ge, Ae, ce, rfl, h1, h2⟩, hb⟩
set_option maxHeartbeats 4000000 in
set_option maxRecDepth 100000 in
theorem val_false (w w0 : World) (l : List Blk) (gv gs gc gb : Nat) (vv : Value) (ad : Addr) (up : Value) (loc : ByteArray) (enum const format req props pats deps dreq dsch pat : Value) (H : At w0 (.b gv (row (vdc (vv) ad (.pointer (some ⟨gs, 0, none⟩)) (.pointer (some ⟨gc, 0, none⟩)) up nilS) 182) :: l) w) (hgv : w0.heap.size ≤ gv) (hS : w0.heap[gs]? = some (row (Sc.cells ⟨2020, loc, .pointer (some ⟨gb, 0, none⟩), enum, const, format, req, props, pats, deps, dreq, dsch, pat⟩) 119)) (hb : w0.heap[gb]? = some (row #[.bool false] 4)) :
  Calls Tryz.prog 99 #[.pointer (some ⟨gv, 0, none⟩)] w fun e w' => ∃ ge gki Ae ce, e = .returned (.tuple #[nP, .iface 76 (.pointer (some ⟨ge, 0, none⟩))]) ∧ At w0 (.b ge (row (vec loc Ae ce (.iface 267 (.pointer (some ⟨gki, 0, none⟩))) nilS) 129) :: .b gki (row #[] 268) :: l) w' := by
 have HK := asd_ H
 clear H
 have bgv := cE HK 0; have fgv := fE HK 0; have bgs := cel_ (blk_below hS HK.out.b); have bgb := cel_ (blk_below hb HK.out.b)
 have Ggv := asd_ hgv
 clear hgv
 go_enter Tryz.func99, Tryz.ntmps99
 go_wp2_with (first | ((with_reducible refine gd_ 47 ?_); refine bx_ #[] 268 ?_; clear HK bgv fgv bgs bgb; intro gki wb47 HK Ggki; have bgv := cE HK 1; have fgv := fE HK 1; have bgki := cE HK 0; have bgs := cel_ (blk_below hS HK.out.b); have bgb := cel_ (blk_below hb HK.out.b)) | ((with_reducible refine gd_ 49 ?_); refine cw_ #[.pointer (some ⟨gv, 0, none⟩), .iface 267 (.pointer (some ⟨gki, 0, none⟩))] Tryz.func136 (error_form (error_ok _ gv gs gki 267 vv ad (.pointer (some ⟨gc, 0, none⟩)) up ⟨2020, loc, .pointer (some ⟨gb, 0, none⟩), enum, const, format, req, props, pats, deps, dreq, dsch, pat⟩ (HK.out.k.2.1) (blk_below hS HK.out.b))) ?_; rintro v49 wc49 HK0 ⟨ge, Ae, ce, rfl, hge, hgn⟩ hB; have HK1 := At.came at_ hB hge hgn; clear HK0 hge hgn hB; replace HK := asd_ HK1; clear HK1; clear bgv fgv bgki bgs bgb; have bgv := cE HK 2; have fgv := fE HK 2; have bgki := cE HK 1; have bgs := cel_ (blk_below hS HK.out.b); have bgb := cel_ (blk_below hb HK.out.b)))
 go_ret2
 exact ⟨ge, rfl, gki, Ae, ce, ((At.front 2 HK.out rfl).drop)⟩
end Go.Proofs.YtkphbhncpdcbeaaGreatDoor.J
