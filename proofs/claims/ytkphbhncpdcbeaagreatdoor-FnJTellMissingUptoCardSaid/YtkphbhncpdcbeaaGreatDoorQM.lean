/- Part of a proof. -/
import Derived.Test.YtkphbhncpdcbeaaGreatDoorQE
import Derived.Test.YtkphbhncpdcbeaaGreatDoorQL
namespace Go.Proofs.YtkphbhncpdcbeaaGreatDoor.J
open Go.RowKit Go.Proofs.YtkphbhncpdcbeaaGreatDoorW.PrintWords Go.Proofs.YtkphbhncpdcbeaaGreatDoorW.PrintLast Go.Proofs.YtkphbhncpdcbeaaGreatDoorW.PrintMore Go.Proofs.YtkphbhncpdcbeaaGreatDoor.PJT
attribute [local go_sem] Nd.csize Sc.csize Nd.c0 Nd.c1 Nd.c2 Nd.c3 Nd.c4 Nd.c5 Nd.c6 Nd.c7 Nd.c8 Nd.c9 Nd.c10 Nd.c11 Nd.c12 Nd.c13 Nd.c14 Nd.c15 Nd.c16 Nd.c17 Nd.c18 Nd.c19 Nd.c20 Nd.c21 Nd.c22 Nd.c23 Nd.c24 Nd.c25 Nd.c26 Nd.c27 Nd.c28 Nd.c29 Nd.c30 Nd.c31 Nd.c32 Nd.c33 Nd.c34 Nd.c35 Nd.c36 Nd.c37 Nd.c38 Nd.c39 Nd.c40 Nd.c41 Nd.c42 Nd.c43 Nd.c44 Nd.c45 Nd.c46 Nd.c47 Nd.c48 Nd.c49 Nd.c50 Nd.c51 Nd.c52 Sc.c0 Sc.c1 Sc.c2 Sc.c3 Sc.c4 Sc.c5 Sc.c6 Sc.c7 Sc.c8 Sc.c9 Sc.c10 Sc.c11 Sc.c12 Sc.c13 Sc.c14 Sc.c15 Sc.c16 Sc.c17 Sc.c18 Sc.c19 Sc.c20 Sc.c21 Sc.c22 Sc.c23 Sc.c24 Sc.c25 Sc.c26 Sc.c27 Sc.c28 Sc.c29 Sc.c30 Sc.c31 Sc.c32 Sc.c33 Sc.c34 Sc.c35 Sc.c36 Sc.c37 Sc.c38 Sc.c39 Sc.c40 Sc.c41 Sc.c42 Sc.c43 Sc.c44 Sc.c45 Sc.c46 Sc.c47 Sc.c48 Sc.c49 Sc.c50 Sc.c51 Sc.c52
set_option linter.unusedVariables false
set_option linter.unusedSimpArgs false
theorem zero74R0 (W : World) : (zeroValue 74).run Tryz.prog W = .ok (.pointer none) W := by kernel_rfl
set_option maxHeartbeats 4000000 in
set_option maxRecDepth 100000 in
theorem obj_R0 (w w0 : World) (l : List Blk) (gv gs gm gpr gpp gde gdr gds : Nat) (vv : Value) (ad : Addr) (cp up : Value) (loc : ByteArray) (es : Array MapEntry) (ck n : Nat) (keys : List ByteArray) (A2 : Option Addr) (c2 : Nat) (names : List ByteArray)
  (H : At w0 (.b gv (row (vdc vv ad (.pointer (some ⟨gs, 0, none⟩)) cp up nilS) 182) :: l) w) (hgv : w0.heap.size ≤ gv) (hS : w0.heap[gs]? = some (row (Sc.cells ⟨2020, loc, nP, nP, nP, nP, .slice A2 0 c2, .map (some gpr), .map (some gpp), .map (some gde), .map (some gdr), .map (some gds), .nilIface⟩) 119)) (hm : w0.heap[gm]? = some (.map es ck)) (hM : MapIs Tryz.prog 9 RT es ck n (mapOf keys))
  (hpr : w0.heap[gpr]? = some (.map #[] 0)) (hpp : w0.heap[gpp]? = some (.map #[] 0)) (hde : w0.heap[gde]? = some (.map #[] 0)) (hds : w0.heap[gds]? = some (.map #[] 0)) (hdr : w0.heap[gdr]? = some (.map #[] 0))
  (hr : Kd.C Kd.string w0 A2 names.length names) (hn : names.length ≤ LM) (hs : ∀ s ∈ names, s.size ≤ LM)  :
  Calls Tryz.prog 147 #[.pointer (some ⟨gv, 0, none⟩), .map (some gm)] w fun e w' => e = .returned (.tuple #[]) ∧ At w0 (.b gv (row (vdc vv ad (.pointer (some ⟨gs, 0, none⟩)) cp up nilS) 182) :: l) w' := by
 have Hr := asd_ hr
 have HM := asd_ hM
 have Ggv := asd_ hgv
 clear hr hM hgv
 have HK := asd_ H
 clear H
 have bgv := cE HK 0; have fgv := fE HK 0; have bgs := cel_ (blk_below hS HK.out.b)
 go_enter Tryz.func147, Tryz.ntmps147
 go_wp2_with (first | ((with_reducible refine gd_ 131 ?_); refine range_any at_ (blk_below hde be_) rfl rfl Tryz.underlying113 rfl ?_; intro r131 wm131 HK1 hr131; have Gr131 := asd_ hr131; clear hr131; replace HK := asd_ HK1; clear HK1; clear bgv fgv bgs; have bgv := cE HK 1; have fgv := fE HK 1; have bgs := cel_ (blk_below hS HK.out.b)))
 refine wp_loop_once ?_
 go_wp2_with (first | ((with_reducible refine gd_ 132 ?_); refine next_done at_ (blk_below hde be_) 0 rfl rfl (by simp) (Nat.le_refl _) rfl rfl rfl ?_) | ((with_reducible refine gd_ 170 ?_); refine rangeh_at KS at_ (blk_below hm be_) HM.out rfl rfl Tryz.underlying113 rfl ?_; intro r170 since seen c0 wm170 hI HK1 hr170; have Gr170 := asd_ hr170; clear hr170; have HI := asd_ hI; clear hI; replace HK := asd_ HK1; clear HK1; clear bgv fgv bgs; have bgv := cE HK 2; have fgv := fE HK 2; have bgs := cel_ (blk_below hS HK.out.b)))
 go_frame
 go_loopg [13] (Maps.size (mapOf keys)) (fun kq v13 w' => v13 = nilS ∧ ∃ (since : Nat) (seen : Array Nat) (c0 : Nat) (left : Lit → Bool), Aside0 (IterIs Tryz.prog 9 RT es ck since seen c0 left kq) ∧ Aside0 (At w0 (.b r170 (.mapIter (some gm) since seen c0) :: .b r131 (.mapIter (some gde) 0 #[] 0) :: .b gv (row (vdc vv ad (.pointer (some ⟨gs, 0, none⟩)) cp up nilS) 182) :: l) w'))
 case atStart => exact ⟨rfl, since, seen, c0, _, HI, ⟨at_⟩⟩
 case round =>
  clear HK HI bgv fgv bgs
  obtain ⟨rfl, since, seen, c0, left, HI, HK⟩ := hrel
  have bgv := cE HK 2; have fgv := fE HK 2; have bgs := cel_ (blk_below hS HK.out.b)
  cases gk with
  | zero =>
   go_wp2_with (first | ((with_reducible refine gd_ 171 ?_); refine next_done at_ (blk_below hm be_) 0 rfl HI.out.cnt HI.out.hold HI.out.s1 rfl rfl rfl ?_) | ((with_reducible refine gd_ 340 ?_); refine range_any at_ (blk_below hds be_) rfl rfl Tryz.underlying111 rfl ?_; intro r340 wm340 HK1 hr340; have Gr340 := asd_ hr340; clear hr340; replace HK := asd_ HK1; clear HK1; clear bgv fgv bgs; have bgv := cE HK 3; have fgv := fE HK 3; have bgs := cel_ (blk_below hS HK.out.b)))
   refine wp_loop_once ?_
   go_wp2_with (first | ((with_reducible refine gd_ 341 ?_); refine next_done at_ (blk_below hds be_) 0 rfl rfl (by simp) (Nat.le_refl _) rfl rfl rfl ?_) | ((with_reducible refine gd_ 362 ?_); refine range_any at_ (blk_below hdr be_) rfl rfl Tryz.underlying114 rfl ?_; intro r362 wm362 HK1 hr362; have Gr362 := asd_ hr362; clear hr362; replace HK := asd_ HK1; clear HK1; clear bgv fgv bgs; have bgv := cE HK 4; have fgv := fE HK 4; have bgs := cel_ (blk_below hS HK.out.b)))
   refine wp_loop_once ?_
   go_wp2_with (first | ((with_reducible refine gd_ 363 ?_); refine next_done at_ (blk_below hdr be_) 0 rfl rfl (by simp) (Nat.le_refl _) rfl rfl rfl ?_))
   go_end0
   exact ⟨rfl, ((At.front 3 (At.front 2 (At.front 1 (At.front 0 HK.out rfl) rfl) rfl) rfl).drop.drop.drop.drop)⟩
  | succ kk =>
   go_wp2_with (first | ((with_reducible refine gd_ 171 ?_); refine nexth_more (α := ByteArray) (β := Value) KS Value.string id (fun key kl h => let ⟨s, e, _⟩ := key_inv Tryz.underlying9 h; ⟨s, e⟩) (fun v _ _ => ⟨v, rfl⟩) at_ (blk_below hm be_) 0 rfl Gr170.out HM.out HI.out rfl rfl rfl ?_; intro pk pv kl since2 seen2 c02 cnt2 wn171 hkey hl2 hI2 hlt HK1 hent; have HI2 := asd_ hI2; have Hlt := asd_ hlt; have Hkey := asd_ hkey; clear hI2 hl2 hlt hkey HI; replace HK := asd_ HK1; clear HK1; clear bgv fgv bgs; have bgv := cE HK 2; have fgv := fE HK 2; have bgs := cel_ (blk_below hS HK.out.b)) | ((with_reducible refine gd_ 194 ?_); refine lookh_at KS (blk_below hpr be_) (map_made _ _ RT) rfl rfl Tryz.underlying111 (zero74R0 _) (zd := .lit (.bool true)) (zp := []) rfl rfl rfl Hkey.out false rfl ?_; intro v194) | ((with_reducible refine gd_ 209 ?_); refine range_any at_ (blk_below hpp be_) rfl rfl Tryz.underlying112 rfl ?_; intro r209 wm209 HK1 hr209; have Gr209 := asd_ hr209; clear hr209; replace HK := asd_ HK1; clear HK1; clear bgv fgv bgs; have bgv := cE HK 3; have fgv := fE HK 3; have bgs := cel_ (blk_below hS HK.out.b)))
   refine wp_loop_once ?_
   go_wp2_with (first | ((with_reducible refine gd_ 210 ?_); refine next_done at_ (blk_below hpp be_) 0 rfl rfl (by simp) (Nat.le_refl _) rfl rfl rfl ?_))
   go_roundg cnt2
   case measure => exact Hlt.out
   case rel =>
    exact ⟨rfl, since2, seen2, c02, _, HI2, ⟨((At.front 0 HK.out rfl).drop)⟩⟩
theorem zero74R1 (W : World) : (zeroValue 74).run Tryz.prog W = .ok (.pointer none) W := by kernel_rfl
set_option maxHeartbeats 4000000 in
set_option maxRecDepth 100000 in
theorem obj_R1 (w w0 : World) (l : List Blk) (gv gs gm gpr gpp gde gdr gds : Nat) (vv : Value) (ad : Addr) (cp up : Value) (loc : ByteArray) (es : Array MapEntry) (ck n : Nat) (keys : List ByteArray) (A2 : Option Addr) (c2 : Nat) (names : List ByteArray)
  (H : At w0 (.b gv (row (vdc vv ad (.pointer (some ⟨gs, 0, none⟩)) cp up nilS) 182) :: l) w) (hgv : w0.heap.size ≤ gv) (hS : w0.heap[gs]? = some (row (Sc.cells ⟨2020, loc, nP, nP, nP, nP, .slice A2 names.length c2, .map (some gpr), .map (some gpp), .map (some gde), .map (some gdr), .map (some gds), .nilIface⟩) 119)) (hm : w0.heap[gm]? = some (.map es ck)) (hM : MapIs Tryz.prog 9 RT es ck n (mapOf keys))
  (hpr : w0.heap[gpr]? = some (.map #[] 0)) (hpp : w0.heap[gpp]? = some (.map #[] 0)) (hde : w0.heap[gde]? = some (.map #[] 0)) (hds : w0.heap[gds]? = some (.map #[] 0)) (hdr : w0.heap[gdr]? = some (.map #[] 0))
  (hr : Kd.C Kd.string w0 A2 names.length names) (hn : names.length ≤ LM) (hs : ∀ s ∈ names, s.size ≤ LM) (hlen : 0 < names.length) (hlk : (lacks keys names) = []) :
  Calls Tryz.prog 147 #[.pointer (some ⟨gv, 0, none⟩), .map (some gm)] w fun e w' => e = .returned (.tuple #[]) ∧ At w0 (.b gv (row (vdc vv ad (.pointer (some ⟨gs, 0, none⟩)) cp up nilS) 182) :: l) w' := by
 have Hr := asd_ hr
 have HM := asd_ hM
 have Ggv := asd_ hgv
 clear hr hM hgv
 have HK := asd_ H
 clear H
 have bgv := cE HK 0; have fgv := fE HK 0; have bgs := cel_ (blk_below hS HK.out.b)
 go_enter Tryz.func147, Tryz.ntmps147
 have ht0 : decide (0 < (names.length : Int)) = true := decide_eq_true (by have := hlen; omega)
 go_wp2_with (first | ((with_reducible refine gd_ 106 ?_); refine cw_ #[.pointer (some ⟨gv, 0, none⟩), .map (some gm), .slice A2 names.length c2] Tryz.func179 (missing_ok _ gv gm vv ad (.pointer (some ⟨gs, 0, none⟩)) cp up nilS es ck n keys A2 c2 names (HK.out.k.1) (blk_below hm HK.out.b) HM.out (Kd.C_below Hr.out HK.out.b) hn hs) ?_; rintro v106 wc106 HK1 hMi hB; obtain rfl := hMi.1 hlk; clear hB hMi; have hne : ∀ W : World, (binOp BinOp.neq 22 nilS (Value.slice none 0 0)).run Tryz.prog W = .ok (.bool false) W := fun W => rfl; replace HK := asd_ HK1; clear HK1; clear bgv fgv bgs; have bgv := cE HK 0; have fgv := fE HK 0; have bgs := cel_ (blk_below hS HK.out.b)) | ((with_reducible refine gd_ 131 ?_); refine range_any at_ (blk_below hde be_) rfl rfl Tryz.underlying113 rfl ?_; intro r131 wm131 HK1 hr131; have Gr131 := asd_ hr131; clear hr131; replace HK := asd_ HK1; clear HK1; clear bgv fgv bgs; have bgv := cE HK 1; have fgv := fE HK 1; have bgs := cel_ (blk_below hS HK.out.b)))
 refine wp_loop_once ?_
 go_wp2_with (first | ((with_reducible refine gd_ 132 ?_); refine next_done at_ (blk_below hde be_) 0 rfl rfl (by simp) (Nat.le_refl _) rfl rfl rfl ?_) | ((with_reducible refine gd_ 170 ?_); refine rangeh_at KS at_ (blk_below hm be_) HM.out rfl rfl Tryz.underlying113 rfl ?_; intro r170 since seen c0 wm170 hI HK1 hr170; have Gr170 := asd_ hr170; clear hr170; have HI := asd_ hI; clear hI; replace HK := asd_ HK1; clear HK1; clear bgv fgv bgs; have bgv := cE HK 2; have fgv := fE HK 2; have bgs := cel_ (blk_below hS HK.out.b)))
 go_frame
 go_loopg [13] (Maps.size (mapOf keys)) (fun kq v13 w' => v13 = nilS ∧ ∃ (since : Nat) (seen : Array Nat) (c0 : Nat) (left : Lit → Bool), Aside0 (IterIs Tryz.prog 9 RT es ck since seen c0 left kq) ∧ Aside0 (At w0 (.b r170 (.mapIter (some gm) since seen c0) :: .b r131 (.mapIter (some gde) 0 #[] 0) :: .b gv (row (vdc vv ad (.pointer (some ⟨gs, 0, none⟩)) cp up nilS) 182) :: l) w'))
 case atStart => exact ⟨rfl, since, seen, c0, _, HI, ⟨at_⟩⟩
 case round =>
  clear HK HI bgv fgv bgs
  obtain ⟨rfl, since, seen, c0, left, HI, HK⟩ := hrel
  have bgv := cE HK 2; have fgv := fE HK 2; have bgs := cel_ (blk_below hS HK.out.b)
  cases gk with
  | zero =>
   go_wp2_with (first | ((with_reducible refine gd_ 171 ?_); refine next_done at_ (blk_below hm be_) 0 rfl HI.out.cnt HI.out.hold HI.out.s1 rfl rfl rfl ?_) | ((with_reducible refine gd_ 340 ?_); refine range_any at_ (blk_below hds be_) rfl rfl Tryz.underlying111 rfl ?_; intro r340 wm340 HK1 hr340; have Gr340 := asd_ hr340; clear hr340; replace HK := asd_ HK1; clear HK1; clear bgv fgv bgs; have bgv := cE HK 3; have fgv := fE HK 3; have bgs := cel_ (blk_below hS HK.out.b)))
   refine wp_loop_once ?_
   go_wp2_with (first | ((with_reducible refine gd_ 341 ?_); refine next_done at_ (blk_below hds be_) 0 rfl rfl (by simp) (Nat.le_refl _) rfl rfl rfl ?_) | ((with_reducible refine gd_ 362 ?_); refine range_any at_ (blk_below hdr be_) rfl rfl Tryz.underlying114 rfl ?_; intro r362 wm362 HK1 hr362; have Gr362 := asd_ hr362; clear hr362; replace HK := asd_ HK1; clear HK1; clear bgv fgv bgs; have bgv := cE HK 4; have fgv := fE HK 4; have bgs := cel_ (blk_below hS HK.out.b)))
   refine wp_loop_once ?_
   go_wp2_with (first | ((with_reducible refine gd_ 363 ?_); refine next_done at_ (blk_below hdr be_) 0 rfl rfl (by simp) (Nat.le_refl _) rfl rfl rfl ?_))
   go_end0
   exact ⟨rfl, ((At.front 3 (At.front 2 (At.front 1 (At.front 0 HK.out rfl) rfl) rfl) rfl).drop.drop.drop.drop)⟩
  | succ kk =>
   go_wp2_with (first | ((with_reducible refine gd_ 171 ?_); refine nexth_more (α := ByteArray) (β := Value) KS Value.string id (fun key kl h => let ⟨s, e, _⟩ := key_inv Tryz.underlying9 h; ⟨s, e⟩) (fun v _ _ => ⟨v, rfl⟩) at_ (blk_below hm be_) 0 rfl Gr170.out HM.out HI.out rfl rfl rfl ?_; intro pk pv kl since2 seen2 c02 cnt2 wn171 hkey hl2 hI2 hlt HK1 hent; have HI2 := asd_ hI2; have Hlt := asd_ hlt; have Hkey := asd_ hkey; clear hI2 hl2 hlt hkey HI; replace HK := asd_ HK1; clear HK1; clear bgv fgv bgs; have bgv := cE HK 2; have fgv := fE HK 2; have bgs := cel_ (blk_below hS HK.out.b)) | ((with_reducible refine gd_ 194 ?_); refine lookh_at KS (blk_below hpr be_) (map_made _ _ RT) rfl rfl Tryz.underlying111 (zero74R1 _) (zd := .lit (.bool true)) (zp := []) rfl rfl rfl Hkey.out false rfl ?_; intro v194) | ((with_reducible refine gd_ 209 ?_); refine range_any at_ (blk_below hpp be_) rfl rfl Tryz.underlying112 rfl ?_; intro r209 wm209 HK1 hr209; have Gr209 := asd_ hr209; clear hr209; replace HK := asd_ HK1; clear HK1; clear bgv fgv bgs; have bgv := cE HK 3; have fgv := fE HK 3; have bgs := cel_ (blk_below hS HK.out.b)))
   refine wp_loop_once ?_
   go_wp2_with (first | ((with_reducible refine gd_ 210 ?_); refine next_done at_ (blk_below hpp be_) 0 rfl rfl (by simp) (Nat.le_refl _) rfl rfl rfl ?_))
   go_roundg cnt2
   case measure => exact Hlt.out
   case rel =>
    exact ⟨rfl, since2, seen2, c02, _, HI2, ⟨((At.front 0 HK.out rfl).drop)⟩⟩
theorem zero74R2 (W : World) : (zeroValue 74).run Tryz.prog W = .ok (.pointer none) W := by kernel_rfl
set_option maxHeartbeats 4000000 in
set_option maxRecDepth 100000 in
theorem obj_R2 (w w0 : World) (l : List Blk) (gv gs gm gpr gpp gde gdr gds : Nat) (vv : Value) (ad : Addr) (cp up : Value) (loc : ByteArray) (es : Array MapEntry) (ck n : Nat) (keys : List ByteArray) (A2 : Option Addr) (c2 : Nat) (names : List ByteArray)
  (H : At w0 (.b gv (row (vdc vv ad (.pointer (some ⟨gs, 0, none⟩)) cp up nilS) 182) :: l) w) (hgv : w0.heap.size ≤ gv) (hS : w0.heap[gs]? = some (row (Sc.cells ⟨2020, loc, nP, nP, nP, nP, .slice A2 names.length c2, .map (some gpr), .map (some gpp), .map (some gde), .map (some gdr), .map (some gds), .nilIface⟩) 119)) (hm : w0.heap[gm]? = some (.map es ck)) (hM : MapIs Tryz.prog 9 RT es ck n (mapOf keys))
  (hpr : w0.heap[gpr]? = some (.map #[] 0)) (hpp : w0.heap[gpp]? = some (.map #[] 0)) (hde : w0.heap[gde]? = some (.map #[] 0)) (hds : w0.heap[gds]? = some (.map #[] 0)) (hdr : w0.heap[gdr]? = some (.map #[] 0))
  (hr : Kd.C Kd.string w0 A2 names.length names) (hn : names.length ≤ LM) (hs : ∀ s ∈ names, s.size ≤ LM) (hlen : 0 < names.length) (hlk : (lacks keys names) ≠ []) :
  Calls Tryz.prog 147 #[.pointer (some ⟨gv, 0, none⟩), .map (some gm)] w fun e w' => e = .returned (.tuple #[]) ∧ ∃ A13 c13 ge Ae ce gki ad1 c1, At w0 (.f (Fact.rows kPtr 76 w0.heap.size E76 (.slice A13 1 c13) [some ⟨ge, 0, none⟩]) :: .b ge (row (vec loc Ae ce (.iface 193 (.pointer (some ⟨gki, 0, none⟩))) nilS) 129) :: .b gv (row (vdc vv ad (.pointer (some ⟨gs, 0, none⟩)) cp up (.slice A13 1 c13)) 182) :: .b gki (row (#[.slice (some ad1) (lacks keys names).length c1]) 195) :: .f (Fact.strs (.slice (some ad1) (lacks keys names).length c1) (lacks keys names)) :: l) w' := by
 have Hr := asd_ hr
 have HM := asd_ hM
 have Ggv := asd_ hgv
 clear hr hM hgv
 have HK := asd_ H
 clear H
 have bgv := cE HK 0; have fgv := fE HK 0; have bgs := cel_ (blk_below hS HK.out.b)
 go_enter Tryz.func147, Tryz.ntmps147
 have ht0 : decide (0 < (names.length : Int)) = true := decide_eq_true (by have := hlen; omega)
 go_wp2_with (first | ((with_reducible refine gd_ 106 ?_); refine cw_ #[.pointer (some ⟨gv, 0, none⟩), .map (some gm), .slice A2 names.length c2] Tryz.func179 (missing_ok _ gv gm vv ad (.pointer (some ⟨gs, 0, none⟩)) cp up nilS es ck n keys A2 c2 names (HK.out.k.1) (blk_below hm HK.out.b) HM.out (Kd.C_below Hr.out HK.out.b) hn hs) ?_; rintro v106 wc106 HK0 hMi hB; obtain ⟨ad1, c1, e1⟩ := hMi.2.1 hlk; subst e1; have HK1 := At.fact (Fact.strs (.slice (some ad1) (lacks keys names).length c1) (lacks keys names)) HK0 hMi.2.2; clear HK0 hB hMi; have hne : ∀ W : World, (binOp BinOp.neq 22 (Value.slice (some ad1) (lacks keys names).length c1) (Value.slice none 0 0)).run Tryz.prog W = .ok (.bool true) W := fun W => rfl; replace HK := asd_ HK1; clear HK1; clear bgv fgv bgs; have bgv := cE HK 1; have fgv := fE HK 1; have bgs := cel_ (blk_below hS HK.out.b)) | ((with_reducible refine gd_ 112 ?_); refine bx_ #[.slice (some ad1) (lacks keys names).length c1] 195 ?_; clear HK bgv fgv bgs; intro gki wb112 HK Ggki; have bgv := cE HK 2; have fgv := fE HK 2; have bgki := cE HK 0; have bgs := cel_ (blk_below hS HK.out.b)) | ((with_reducible refine gd_ 114 ?_); refine call_to #[.pointer (some ⟨gv, 0, none⟩), .iface 193 (.pointer (some ⟨gki, 0, none⟩))] (.tuple #[]) _ rfl Tryz.func178 kr_ rfl rfl ar_ (adderr_ok _ w0 _ gv gs gki 193 vv ad cp up ⟨2020, loc, nP, nP, nP, nP, .slice A2 names.length c2, .map (some gpr), .map (some gpp), .map (some gde), .map (some gdr), .map (some gds), .nilIface⟩ (At.front 2 HK.out rfl) Ggv.out hS) ?_; rintro wc114 ⟨A13, c13, ge, Ae, ce, HK1⟩; replace HK := asd_ HK1; clear HK1; skip; clear bgv fgv bgki bgs; have bgki := cE HK 3; have bgv := cE HK 2; have fgv := fE HK 2; have bgs := cel_ (blk_below hS HK.out.b)) | ((with_reducible refine gd_ 131 ?_); refine range_any at_ (blk_below hde be_) rfl rfl Tryz.underlying113 rfl ?_; intro r131 wm131 HK1 hr131; have Gr131 := asd_ hr131; clear hr131; replace HK := asd_ HK1; clear HK1; clear bgki bgv fgv bgs; have bgki := cE HK 4; have bgv := cE HK 3; have fgv := fE HK 3; have bgs := cel_ (blk_below hS HK.out.b)))
 refine wp_loop_once ?_
 go_wp2_with (first | ((with_reducible refine gd_ 132 ?_); refine next_done at_ (blk_below hde be_) 0 rfl rfl (by simp) (Nat.le_refl _) rfl rfl rfl ?_) | ((with_reducible refine gd_ 170 ?_); refine rangeh_at KS at_ (blk_below hm be_) HM.out rfl rfl Tryz.underlying113 rfl ?_; intro r170 since seen c0 wm170 hI HK1 hr170; have Gr170 := asd_ hr170; clear hr170; have HI := asd_ hI; clear hI; replace HK := asd_ HK1; clear HK1; clear bgki bgv fgv bgs; have bgki := cE HK 5; have bgv := cE HK 4; have fgv := fE HK 4; have bgs := cel_ (blk_below hS HK.out.b)))
 go_frame
 go_loopg [13] (Maps.size (mapOf keys)) (fun kq v13 w' => v13 = nilS ∧ ∃ (since : Nat) (seen : Array Nat) (c0 : Nat) (left : Lit → Bool), Aside0 (IterIs Tryz.prog 9 RT es ck since seen c0 left kq) ∧ Aside0 (At w0 (.b r170 (.mapIter (some gm) since seen c0) :: .b r131 (.mapIter (some gde) 0 #[] 0) :: .f (Fact.rows kPtr 76 w0.heap.size E76 (.slice A13 1 c13) [some ⟨ge, 0, none⟩]) :: .b ge (row (vec loc Ae ce (.iface 193 (.pointer (some ⟨gki, 0, none⟩))) nilS) 129) :: .b gv (row (vdc vv ad (.pointer (some ⟨gs, 0, none⟩)) cp up (.slice A13 1 c13)) 182) :: .b gki (row (#[.slice (some ad1) (lacks keys names).length c1]) 195) :: .f (Fact.strs (.slice (some ad1) (lacks keys names).length c1) (lacks keys names)) :: l) w'))
 case atStart => exact ⟨rfl, since, seen, c0, _, HI, ⟨at_⟩⟩
 case round =>
  clear HK HI bgki bgv fgv bgs
  obtain ⟨rfl, since, seen, c0, left, HI, HK⟩ := hrel
  have bgki := cE HK 5; have bgv := cE HK 4; have fgv := fE HK 4; have bgs := cel_ (blk_below hS HK.out.b)
  cases gk with
  | zero =>
   go_wp2_with (first | ((with_reducible refine gd_ 171 ?_); refine next_done at_ (blk_below hm be_) 0 rfl HI.out.cnt HI.out.hold HI.out.s1 rfl rfl rfl ?_) | ((with_reducible refine gd_ 340 ?_); refine range_any at_ (blk_below hds be_) rfl rfl Tryz.underlying111 rfl ?_; intro r340 wm340 HK1 hr340; have Gr340 := asd_ hr340; clear hr340; replace HK := asd_ HK1; clear HK1; clear bgki bgv fgv bgs; have bgki := cE HK 6; have bgv := cE HK 5; have fgv := fE HK 5; have bgs := cel_ (blk_below hS HK.out.b)))
   refine wp_loop_once ?_
   go_wp2_with (first | ((with_reducible refine gd_ 341 ?_); refine next_done at_ (blk_below hds be_) 0 rfl rfl (by simp) (Nat.le_refl _) rfl rfl rfl ?_) | ((with_reducible refine gd_ 362 ?_); refine range_any at_ (blk_below hdr be_) rfl rfl Tryz.underlying114 rfl ?_; intro r362 wm362 HK1 hr362; have Gr362 := asd_ hr362; clear hr362; replace HK := asd_ HK1; clear HK1; clear bgki bgv fgv bgs; have bgki := cE HK 7; have bgv := cE HK 6; have fgv := fE HK 6; have bgs := cel_ (blk_below hS HK.out.b)))
   refine wp_loop_once ?_
   go_wp2_with (first | ((with_reducible refine gd_ 363 ?_); refine next_done at_ (blk_below hdr be_) 0 rfl rfl (by simp) (Nat.le_refl _) rfl rfl rfl ?_))
   go_end0
   exact ⟨rfl, A13, c13, ge, Ae, ce, gki, ad1, c1, ((At.front 3 (At.front 2 (At.front 1 (At.front 0 HK.out rfl) rfl) rfl) rfl).drop.drop.drop.drop)⟩
  | succ kk =>
   go_wp2_with (first | ((with_reducible refine gd_ 171 ?_); refine nexth_more (α := ByteArray) (β := Value) KS Value.string id (fun key kl h => let ⟨s, e, _⟩ := key_inv Tryz.underlying9 h; ⟨s, e⟩) (fun v _ _ => ⟨v, rfl⟩) at_ (blk_below hm be_) 0 rfl Gr170.out HM.out HI.out rfl rfl rfl ?_; intro pk pv kl since2 seen2 c02 cnt2 wn171 hkey hl2 hI2 hlt HK1 hent; have HI2 := asd_ hI2; have Hlt := asd_ hlt; have Hkey := asd_ hkey; clear hI2 hl2 hlt hkey HI; replace HK := asd_ HK1; clear HK1; clear bgki bgv fgv bgs; have bgki := cE HK 5; have bgv := cE HK 4; have fgv := fE HK 4; have bgs := cel_ (blk_below hS HK.out.b)) | ((with_reducible refine gd_ 194 ?_); refine lookh_at KS (blk_below hpr be_) (map_made _ _ RT) rfl rfl Tryz.underlying111 (zero74R2 _) (zd := .lit (.bool true)) (zp := []) rfl rfl rfl Hkey.out false rfl ?_; intro v194) | ((with_reducible refine gd_ 209 ?_); refine range_any at_ (blk_below hpp be_) rfl rfl Tryz.underlying112 rfl ?_; intro r209 wm209 HK1 hr209; have Gr209 := asd_ hr209; clear hr209; replace HK := asd_ HK1; clear HK1; clear bgki bgv fgv bgs; have bgki := cE HK 6; have bgv := cE HK 5; have fgv := fE HK 5; have bgs := cel_ (blk_below hS HK.out.b)))
   refine wp_loop_once ?_
   go_wp2_with (first | ((with_reducible refine gd_ 210 ?_); refine next_done at_ (blk_below hpp be_) 0 rfl rfl (by simp) (Nat.le_refl _) rfl rfl rfl ?_))
   go_roundg cnt2
   case measure => exact Hlt.out
   case rel =>
    exact ⟨rfl, since2, seen2, c02, _, HI2, ⟨((At.front 0 HK.out rfl).drop)⟩⟩
theorem zero74N0 (W : World) : (zeroValue 74).run Tryz.prog W = .ok (.pointer none) W := by kernel_rfl
set_option maxHeartbeats 4000000 in
set_option maxRecDepth 100000 in
theorem obj_N0 (w w0 : World) (l : List Blk) (gv gs gm gpr gpp gde gdr gds : Nat) (vv : Value) (ad : Addr) (cp up : Value) (loc : ByteArray) (es : Array MapEntry) (ck n : Nat) (keys : List ByteArray) (A2 : Option Addr) (c2 : Nat) (names : List ByteArray)
  (H : At w0 (.b gv (row (vdc vv ad (.pointer (some ⟨gs, 0, none⟩)) cp up nilS) 182) :: l) w) (hgv : w0.heap.size ≤ gv) (hS : w0.heap[gs]? = some (row (Sc.cells ⟨2020, loc, nP, nP, nP, nP, .slice A2 0 c2, .map (some gpr), .map (some gpp), .map (some gde), .map (some gdr), .map (some gds), .nilIface⟩) 119)) (hm : w0.heap[gm]? = some (.map es ck)) (hM : MapIs Tryz.prog 9 RT es ck n (mapOf keys))
  (hpr : w0.heap[gpr]? = some (.map #[] 0)) (hpp : w0.heap[gpp]? = some (.map #[] 0)) (hde : w0.heap[gde]? = some (.map #[] 0)) (hds : w0.heap[gds]? = some (.map #[] 0)) (name : ByteArray) (hns : name.size ≤ LM) (A3 : Option Addr) (c3 b0 c5 : Nat) (hb0 : b0 < c5) (hdr : w0.heap[gdr]? = some (.map #[⟨.string name, .slice A3 names.length c3, b0⟩] c5))
  (hr : Kd.C Kd.string w0 A3 names.length names) (hn : names.length ≤ LM) (hs : ∀ s ∈ names, s.size ≤ LM) (hhas : Maps.has (mapOf keys) (lit name) = false) :
  Calls Tryz.prog 147 #[.pointer (some ⟨gv, 0, none⟩), .map (some gm)] w fun e w' => e = .returned (.tuple #[]) ∧ At w0 (.b gv (row (vdc vv ad (.pointer (some ⟨gs, 0, none⟩)) cp up nilS) 182) :: l) w' := by
 have Hr := asd_ hr
 have HM := asd_ hM
 have Ggv := asd_ hgv
 clear hr hM hgv
 have HK := asd_ H
 clear H
 have bgv := cE HK 0; have fgv := fE HK 0; have bgs := cel_ (blk_below hS HK.out.b)
 go_enter Tryz.func147, Tryz.ntmps147
 go_wp2_with (first | ((with_reducible refine gd_ 131 ?_); refine range_any at_ (blk_below hde be_) rfl rfl Tryz.underlying113 rfl ?_; intro r131 wm131 HK1 hr131; have Gr131 := asd_ hr131; clear hr131; replace HK := asd_ HK1; clear HK1; clear bgv fgv bgs; have bgv := cE HK 1; have fgv := fE HK 1; have bgs := cel_ (blk_below hS HK.out.b)))
 refine wp_loop_once ?_
 go_wp2_with (first | ((with_reducible refine gd_ 132 ?_); refine next_done at_ (blk_below hde be_) 0 rfl rfl (by simp) (Nat.le_refl _) rfl rfl rfl ?_) | ((with_reducible refine gd_ 170 ?_); refine rangeh_at KS at_ (blk_below hm be_) HM.out rfl rfl Tryz.underlying113 rfl ?_; intro r170 since seen c0 wm170 hI HK1 hr170; have Gr170 := asd_ hr170; clear hr170; have HI := asd_ hI; clear hI; replace HK := asd_ HK1; clear HK1; clear bgv fgv bgs; have bgv := cE HK 2; have fgv := fE HK 2; have bgs := cel_ (blk_below hS HK.out.b)))
 go_frame
 go_loopg [13] (Maps.size (mapOf keys)) (fun kq v13 w' => v13 = nilS ∧ ∃ (since : Nat) (seen : Array Nat) (c0 : Nat) (left : Lit → Bool), Aside0 (IterIs Tryz.prog 9 RT es ck since seen c0 left kq) ∧ Aside0 (At w0 (.b r170 (.mapIter (some gm) since seen c0) :: .b r131 (.mapIter (some gde) 0 #[] 0) :: .b gv (row (vdc vv ad (.pointer (some ⟨gs, 0, none⟩)) cp up nilS) 182) :: l) w'))
 case atStart => exact ⟨rfl, since, seen, c0, _, HI, ⟨at_⟩⟩
 case round =>
  clear HK HI bgv fgv bgs
  obtain ⟨rfl, since, seen, c0, left, HI, HK⟩ := hrel
  have bgv := cE HK 2; have fgv := fE HK 2; have bgs := cel_ (blk_below hS HK.out.b)
  cases gk with
  | zero =>
   go_wp2_with (first | ((with_reducible refine gd_ 171 ?_); refine next_done at_ (blk_below hm be_) 0 rfl HI.out.cnt HI.out.hold HI.out.s1 rfl rfl rfl ?_) | ((with_reducible refine gd_ 340 ?_); refine range_any at_ (blk_below hds be_) rfl rfl Tryz.underlying111 rfl ?_; intro r340 wm340 HK1 hr340; have Gr340 := asd_ hr340; clear hr340; replace HK := asd_ HK1; clear HK1; clear bgv fgv bgs; have bgv := cE HK 3; have fgv := fE HK 3; have bgs := cel_ (blk_below hS HK.out.b)))
   refine wp_loop_once ?_
   go_wp2_with (first | ((with_reducible refine gd_ 341 ?_); refine next_done at_ (blk_below hds be_) 0 rfl rfl (by simp) (Nat.le_refl _) rfl rfl rfl ?_) | ((with_reducible refine gd_ 362 ?_); refine range_any at_ (blk_below hdr be_) rfl rfl Tryz.underlying114 rfl ?_; intro r362 wm362 HK1 hr362; have Gr362 := asd_ hr362; clear hr362; replace HK := asd_ HK1; clear HK1; clear bgv fgv bgs; have bgv := cE HK 4; have fgv := fE HK 4; have bgs := cel_ (blk_below hS HK.out.b)))
   refine wp_loop_two ?_
   go_wp2_with (first | ((with_reducible refine gd_ 363 ?_); refine next_one at_ (blk_below hdr be_) 0 rfl Gr362.out hb0 (Nat.le_refl _) rfl rfl rfl ?_; intro wn363 HK1 hent; replace HK := asd_ HK1; clear HK1; clear bgv fgv bgs; have bgv := cE HK 4; have fgv := fE HK 4; have bgs := cel_ (blk_below hS HK.out.b)) | ((with_reducible refine gd_ 371 ?_); refine lookh_at KS (blk_below hm be_) HM.out rfl rfl Tryz.underlying113 (zero20 _) (zd := .lit (.bool true)) (zp := []) rfl rfl rfl (key_of hns) false hhas ?_; intro v371) | ((with_reducible refine gd_ 363 ?_); refine next_done at_ (blk_below hdr be_) 0 rfl (by simp [leftOf]) (by simpa using hb0) (Nat.le_refl _) rfl rfl rfl ?_))
   go_end0
   exact ⟨rfl, ((At.front 3 (At.front 2 (At.front 1 (At.front 0 HK.out rfl) rfl) rfl) rfl).drop.drop.drop.drop)⟩
  | succ kk =>
   go_wp2_with (first | ((with_reducible refine gd_ 171 ?_); refine nexth_more (α := ByteArray) (β := Value) KS Value.string id (fun key kl h => let ⟨s, e, _⟩ := key_inv Tryz.underlying9 h; ⟨s, e⟩) (fun v _ _ => ⟨v, rfl⟩) at_ (blk_below hm be_) 0 rfl Gr170.out HM.out HI.out rfl rfl rfl ?_; intro pk pv kl since2 seen2 c02 cnt2 wn171 hkey hl2 hI2 hlt HK1 hent; have HI2 := asd_ hI2; have Hlt := asd_ hlt; have Hkey := asd_ hkey; clear hI2 hl2 hlt hkey HI; replace HK := asd_ HK1; clear HK1; clear bgv fgv bgs; have bgv := cE HK 2; have fgv := fE HK 2; have bgs := cel_ (blk_below hS HK.out.b)) | ((with_reducible refine gd_ 194 ?_); refine lookh_at KS (blk_below hpr be_) (map_made _ _ RT) rfl rfl Tryz.underlying111 (zero74N0 _) (zd := .lit (.bool true)) (zp := []) rfl rfl rfl Hkey.out false rfl ?_; intro v194) | ((with_reducible refine gd_ 209 ?_); refine range_any at_ (blk_below hpp be_) rfl rfl Tryz.underlying112 rfl ?_; intro r209 wm209 HK1 hr209; have Gr209 := asd_ hr209; clear hr209; replace HK := asd_ HK1; clear HK1; clear bgv fgv bgs; have bgv := cE HK 3; have fgv := fE HK 3; have bgs := cel_ (blk_below hS HK.out.b)))
   refine wp_loop_once ?_
   go_wp2_with (first | ((with_reducible refine gd_ 210 ?_); refine next_done at_ (blk_below hpp be_) 0 rfl rfl (by simp) (Nat.le_refl _) rfl rfl rfl ?_))
   go_roundg cnt2
   case measure => exact Hlt.out
   case rel =>
    exact ⟨rfl, since2, seen2, c02, _, HI2, ⟨((At.front 0 HK.out rfl).drop)⟩⟩
theorem zero74N1 (W : World) : (zeroValue 74).run Tryz.prog W = .ok (.pointer none) W := by kernel_rfl
set_option maxHeartbeats 4000000 in
set_option maxRecDepth 100000 in
theorem obj_N1 (w w0 : World) (l : List Blk) (gv gs gm gpr gpp gde gdr gds : Nat) (vv : Value) (ad : Addr) (cp up : Value) (loc : ByteArray) (es : Array MapEntry) (ck n : Nat) (keys : List ByteArray) (A2 : Option Addr) (c2 : Nat) (names : List ByteArray)
  (H : At w0 (.b gv (row (vdc vv ad (.pointer (some ⟨gs, 0, none⟩)) cp up nilS) 182) :: l) w) (hgv : w0.heap.size ≤ gv) (hS : w0.heap[gs]? = some (row (Sc.cells ⟨2020, loc, nP, nP, nP, nP, .slice A2 0 c2, .map (some gpr), .map (some gpp), .map (some gde), .map (some gdr), .map (some gds), .nilIface⟩) 119)) (hm : w0.heap[gm]? = some (.map es ck)) (hM : MapIs Tryz.prog 9 RT es ck n (mapOf keys))
  (hpr : w0.heap[gpr]? = some (.map #[] 0)) (hpp : w0.heap[gpp]? = some (.map #[] 0)) (hde : w0.heap[gde]? = some (.map #[] 0)) (hds : w0.heap[gds]? = some (.map #[] 0)) (name : ByteArray) (hns : name.size ≤ LM) (A3 : Option Addr) (c3 b0 c5 : Nat) (hb0 : b0 < c5) (hdr : w0.heap[gdr]? = some (.map #[⟨.string name, .slice A3 names.length c3, b0⟩] c5))
  (hr : Kd.C Kd.string w0 A3 names.length names) (hn : names.length ≤ LM) (hs : ∀ s ∈ names, s.size ≤ LM) (hhas : Maps.has (mapOf keys) (lit name) = true) (hlk : (lacks keys names) = []) :
  Calls Tryz.prog 147 #[.pointer (some ⟨gv, 0, none⟩), .map (some gm)] w fun e w' => e = .returned (.tuple #[]) ∧ At w0 (.b gv (row (vdc vv ad (.pointer (some ⟨gs, 0, none⟩)) cp up nilS) 182) :: l) w' := by
 have Hr := asd_ hr
 have HM := asd_ hM
 have Ggv := asd_ hgv
 clear hr hM hgv
 have HK := asd_ H
 clear H
 have bgv := cE HK 0; have fgv := fE HK 0; have bgs := cel_ (blk_below hS HK.out.b)
 go_enter Tryz.func147, Tryz.ntmps147
 go_wp2_with (first | ((with_reducible refine gd_ 131 ?_); refine range_any at_ (blk_below hde be_) rfl rfl Tryz.underlying113 rfl ?_; intro r131 wm131 HK1 hr131; have Gr131 := asd_ hr131; clear hr131; replace HK := asd_ HK1; clear HK1; clear bgv fgv bgs; have bgv := cE HK 1; have fgv := fE HK 1; have bgs := cel_ (blk_below hS HK.out.b)))
 refine wp_loop_once ?_
 go_wp2_with (first | ((with_reducible refine gd_ 132 ?_); refine next_done at_ (blk_below hde be_) 0 rfl rfl (by simp) (Nat.le_refl _) rfl rfl rfl ?_) | ((with_reducible refine gd_ 170 ?_); refine rangeh_at KS at_ (blk_below hm be_) HM.out rfl rfl Tryz.underlying113 rfl ?_; intro r170 since seen c0 wm170 hI HK1 hr170; have Gr170 := asd_ hr170; clear hr170; have HI := asd_ hI; clear hI; replace HK := asd_ HK1; clear HK1; clear bgv fgv bgs; have bgv := cE HK 2; have fgv := fE HK 2; have bgs := cel_ (blk_below hS HK.out.b)))
 go_frame
 go_loopg [13] (Maps.size (mapOf keys)) (fun kq v13 w' => v13 = nilS ∧ ∃ (since : Nat) (seen : Array Nat) (c0 : Nat) (left : Lit → Bool), Aside0 (IterIs Tryz.prog 9 RT es ck since seen c0 left kq) ∧ Aside0 (At w0 (.b r170 (.mapIter (some gm) since seen c0) :: .b r131 (.mapIter (some gde) 0 #[] 0) :: .b gv (row (vdc vv ad (.pointer (some ⟨gs, 0, none⟩)) cp up nilS) 182) :: l) w'))
 case atStart => exact ⟨rfl, since, seen, c0, _, HI, ⟨at_⟩⟩
 case round =>
  clear HK HI bgv fgv bgs
  obtain ⟨rfl, since, seen, c0, left, HI, HK⟩ := hrel
  have bgv := cE HK 2; have fgv := fE HK 2; have bgs := cel_ (blk_below hS HK.out.b)
  cases gk with
  | zero =>
   go_wp2_with (first | ((with_reducible refine gd_ 171 ?_); refine next_done at_ (blk_below hm be_) 0 rfl HI.out.cnt HI.out.hold HI.out.s1 rfl rfl rfl ?_) | ((with_reducible refine gd_ 340 ?_); refine range_any at_ (blk_below hds be_) rfl rfl Tryz.underlying111 rfl ?_; intro r340 wm340 HK1 hr340; have Gr340 := asd_ hr340; clear hr340; replace HK := asd_ HK1; clear HK1; clear bgv fgv bgs; have bgv := cE HK 3; have fgv := fE HK 3; have bgs := cel_ (blk_below hS HK.out.b)))
   refine wp_loop_once ?_
   go_wp2_with (first | ((with_reducible refine gd_ 341 ?_); refine next_done at_ (blk_below hds be_) 0 rfl rfl (by simp) (Nat.le_refl _) rfl rfl rfl ?_) | ((with_reducible refine gd_ 362 ?_); refine range_any at_ (blk_below hdr be_) rfl rfl Tryz.underlying114 rfl ?_; intro r362 wm362 HK1 hr362; have Gr362 := asd_ hr362; clear hr362; replace HK := asd_ HK1; clear HK1; clear bgv fgv bgs; have bgv := cE HK 4; have fgv := fE HK 4; have bgs := cel_ (blk_below hS HK.out.b)))
   refine wp_loop_two ?_
   go_wp2_with (first | ((with_reducible refine gd_ 363 ?_); refine next_one at_ (blk_below hdr be_) 0 rfl Gr362.out hb0 (Nat.le_refl _) rfl rfl rfl ?_; intro wn363 HK1 hent; replace HK := asd_ HK1; clear HK1; clear bgv fgv bgs; have bgv := cE HK 4; have fgv := fE HK 4; have bgs := cel_ (blk_below hS HK.out.b)) | ((with_reducible refine gd_ 371 ?_); refine lookh_at KS (blk_below hm be_) HM.out rfl rfl Tryz.underlying113 (zero20 _) (zd := .lit (.bool true)) (zp := []) rfl rfl rfl (key_of hns) true hhas ?_; intro v371) | ((with_reducible refine gd_ 378 ?_); refine cw_ #[.pointer (some ⟨gv, 0, none⟩), .map (some gm), .slice A3 names.length c3] Tryz.func179 (missing_ok _ gv gm vv ad (.pointer (some ⟨gs, 0, none⟩)) cp up nilS es ck n keys A3 c3 names (HK.out.k.2.2.2.2.1) (blk_below hm HK.out.b) HM.out (Kd.C_below Hr.out HK.out.b) hn hs) ?_; rintro v378 wc378 HK1 hMi hB; obtain rfl := hMi.1 hlk; clear hB hMi; have hne : ∀ W : World, (binOp BinOp.neq 22 nilS (Value.slice none 0 0)).run Tryz.prog W = .ok (.bool false) W := fun W => rfl; replace HK := asd_ HK1; clear HK1; clear bgv fgv bgs; have bgv := cE HK 4; have fgv := fE HK 4; have bgs := cel_ (blk_below hS HK.out.b)) | ((with_reducible refine gd_ 363 ?_); refine next_done at_ (blk_below hdr be_) 0 rfl (by simp [leftOf]) (by simpa using hb0) (Nat.le_refl _) rfl rfl rfl ?_))
   go_end0
   exact ⟨rfl, ((At.front 3 (At.front 2 (At.front 1 (At.front 0 HK.out rfl) rfl) rfl) rfl).drop.drop.drop.drop)⟩
  | succ kk =>
   go_wp2_with (first | ((with_reducible refine gd_ 171 ?_); refine nexth_more (α := ByteArray) (β := Value) KS Value.string id (fun key kl h => let ⟨s, e, _⟩ := key_inv Tryz.underlying9 h; ⟨s, e⟩) (fun v _ _ => ⟨v, rfl⟩) at_ (blk_below hm be_) 0 rfl Gr170.out HM.out HI.out rfl rfl rfl ?_; intro pk pv kl since2 seen2 c02 cnt2 wn171 hkey hl2 hI2 hlt HK1 hent; have HI2 := asd_ hI2; have Hlt := asd_ hlt; have Hkey := asd_ hkey; clear hI2 hl2 hlt hkey HI; replace HK := asd_ HK1; clear HK1; clear bgv fgv bgs; have bgv := cE HK 2; have fgv := fE HK 2; have bgs := cel_ (blk_below hS HK.out.b)) | ((with_reducible refine gd_ 194 ?_); refine lookh_at KS (blk_below hpr be_) (map_made _ _ RT) rfl rfl Tryz.underlying111 (zero74N1 _) (zd := .lit (.bool true)) (zp := []) rfl rfl rfl Hkey.out false rfl ?_; intro v194) | ((with_reducible refine gd_ 209 ?_); refine range_any at_ (blk_below hpp be_) rfl rfl Tryz.underlying112 rfl ?_; intro r209 wm209 HK1 hr209; have Gr209 := asd_ hr209; clear hr209; replace HK := asd_ HK1; clear HK1; clear bgv fgv bgs; have bgv := cE HK 3; have fgv := fE HK 3; have bgs := cel_ (blk_below hS HK.out.b)))
   refine wp_loop_once ?_
   go_wp2_with (first | ((with_reducible refine gd_ 210 ?_); refine next_done at_ (blk_below hpp be_) 0 rfl rfl (by simp) (Nat.le_refl _) rfl rfl rfl ?_))
   go_roundg cnt2
   case measure => exact Hlt.out
   case rel =>
    exact ⟨rfl, since2, seen2, c02, _, HI2, ⟨((At.front 0 HK.out rfl).drop)⟩⟩
theorem zero74N2 (W : World) : (zeroValue 74).run Tryz.prog W = .ok (.pointer none) W := by kernel_rfl
set_option maxHeartbeats 4000000 in
set_option maxRecDepth 100000 in
theorem obj_N2 (w w0 : World) (l : List Blk) (gv gs gm gpr gpp gde gdr gds : Nat) (vv : Value) (ad : Addr) (cp up : Value) (loc : ByteArray) (es : Array MapEntry) (ck n : Nat) (keys : List ByteArray) (A2 : Option Addr) (c2 : Nat) (names : List ByteArray)
  (H : At w0 (.b gv (row (vdc vv ad (.pointer (some ⟨gs, 0, none⟩)) cp up nilS) 182) :: l) w) (hgv : w0.heap.size ≤ gv) (hS : w0.heap[gs]? = some (row (Sc.cells ⟨2020, loc, nP, nP, nP, nP, .slice A2 0 c2, .map (some gpr), .map (some gpp), .map (some gde), .map (some gdr), .map (some gds), .nilIface⟩) 119)) (hm : w0.heap[gm]? = some (.map es ck)) (hM : MapIs Tryz.prog 9 RT es ck n (mapOf keys))
  (hpr : w0.heap[gpr]? = some (.map #[] 0)) (hpp : w0.heap[gpp]? = some (.map #[] 0)) (hde : w0.heap[gde]? = some (.map #[] 0)) (hds : w0.heap[gds]? = some (.map #[] 0)) (name : ByteArray) (hns : name.size ≤ LM) (A3 : Option Addr) (c3 b0 c5 : Nat) (hb0 : b0 < c5) (hdr : w0.heap[gdr]? = some (.map #[⟨.string name, .slice A3 names.length c3, b0⟩] c5))
  (hr : Kd.C Kd.string w0 A3 names.length names) (hn : names.length ≤ LM) (hs : ∀ s ∈ names, s.size ≤ LM) (hhas : Maps.has (mapOf keys) (lit name) = true) (hlk : (lacks keys names) ≠ []) :
  Calls Tryz.prog 147 #[.pointer (some ⟨gv, 0, none⟩), .map (some gm)] w fun e w' => e = .returned (.tuple #[]) ∧ ∃ A13 c13 ge Ae ce gki ad1 c1, At w0 (.f (Fact.rows kPtr 76 w0.heap.size E76 (.slice A13 1 c13) [some ⟨ge, 0, none⟩]) :: .b ge (row (vec loc Ae ce (.iface 199 (.pointer (some ⟨gki, 0, none⟩))) nilS) 129) :: .b gv (row (vdc vv ad (.pointer (some ⟨gs, 0, none⟩)) cp up (.slice A13 1 c13)) 182) :: .b gki (row (#[.string name, .slice (some ad1) (lacks keys names).length c1]) 200) :: .f (Fact.strs (.slice (some ad1) (lacks keys names).length c1) (lacks keys names)) :: l) w' := by
 have Hr := asd_ hr
 have HM := asd_ hM
 have Ggv := asd_ hgv
 clear hr hM hgv
 have HK := asd_ H
 clear H
 have bgv := cE HK 0; have fgv := fE HK 0; have bgs := cel_ (blk_below hS HK.out.b)
 go_enter Tryz.func147, Tryz.ntmps147
 go_wp2_with (first | ((with_reducible refine gd_ 131 ?_); refine range_any at_ (blk_below hde be_) rfl rfl Tryz.underlying113 rfl ?_; intro r131 wm131 HK1 hr131; have Gr131 := asd_ hr131; clear hr131; replace HK := asd_ HK1; clear HK1; clear bgv fgv bgs; have bgv := cE HK 1; have fgv := fE HK 1; have bgs := cel_ (blk_below hS HK.out.b)))
 refine wp_loop_once ?_
 go_wp2_with (first | ((with_reducible refine gd_ 132 ?_); refine next_done at_ (blk_below hde be_) 0 rfl rfl (by simp) (Nat.le_refl _) rfl rfl rfl ?_) | ((with_reducible refine gd_ 170 ?_); refine rangeh_at KS at_ (blk_below hm be_) HM.out rfl rfl Tryz.underlying113 rfl ?_; intro r170 since seen c0 wm170 hI HK1 hr170; have Gr170 := asd_ hr170; clear hr170; have HI := asd_ hI; clear hI; replace HK := asd_ HK1; clear HK1; clear bgv fgv bgs; have bgv := cE HK 2; have fgv := fE HK 2; have bgs := cel_ (blk_below hS HK.out.b)))
 go_frame
 go_loopg [13] (Maps.size (mapOf keys)) (fun kq v13 w' => v13 = nilS ∧ ∃ (since : Nat) (seen : Array Nat) (c0 : Nat) (left : Lit → Bool), Aside0 (IterIs Tryz.prog 9 RT es ck since seen c0 left kq) ∧ Aside0 (At w0 (.b r170 (.mapIter (some gm) since seen c0) :: .b r131 (.mapIter (some gde) 0 #[] 0) :: .b gv (row (vdc vv ad (.pointer (some ⟨gs, 0, none⟩)) cp up nilS) 182) :: l) w'))
 case atStart => exact ⟨rfl, since, seen, c0, _, HI, ⟨at_⟩⟩
 case round =>
  clear HK HI bgv fgv bgs
  obtain ⟨rfl, since, seen, c0, left, HI, HK⟩ := hrel
  have bgv := cE HK 2; have fgv := fE HK 2; have bgs := cel_ (blk_below hS HK.out.b)
  cases gk with
  | zero =>
   go_wp2_with (first | ((with_reducible refine gd_ 171 ?_); refine next_done at_ (blk_below hm be_) 0 rfl HI.out.cnt HI.out.hold HI.out.s1 rfl rfl rfl ?_) | ((with_reducible refine gd_ 340 ?_); refine range_any at_ (blk_below hds be_) rfl rfl Tryz.underlying111 rfl ?_; intro r340 wm340 HK1 hr340; have Gr340 := asd_ hr340; clear hr340; replace HK := asd_ HK1; clear HK1; clear bgv fgv bgs; have bgv := cE HK 3; have fgv := fE HK 3; have bgs := cel_ (blk_below hS HK.out.b)))
   refine wp_loop_once ?_
   go_wp2_with (first | ((with_reducible refine gd_ 341 ?_); refine next_done at_ (blk_below hds be_) 0 rfl rfl (by simp) (Nat.le_refl _) rfl rfl rfl ?_) | ((with_reducible refine gd_ 362 ?_); refine range_any at_ (blk_below hdr be_) rfl rfl Tryz.underlying114 rfl ?_; intro r362 wm362 HK1 hr362; have Gr362 := asd_ hr362; clear hr362; replace HK := asd_ HK1; clear HK1; clear bgv fgv bgs; have bgv := cE HK 4; have fgv := fE HK 4; have bgs := cel_ (blk_below hS HK.out.b)))
   refine wp_loop_two ?_
   go_wp2_with (first | ((with_reducible refine gd_ 363 ?_); refine next_one at_ (blk_below hdr be_) 0 rfl Gr362.out hb0 (Nat.le_refl _) rfl rfl rfl ?_; intro wn363 HK1 hent; replace HK := asd_ HK1; clear HK1; clear bgv fgv bgs; have bgv := cE HK 4; have fgv := fE HK 4; have bgs := cel_ (blk_below hS HK.out.b)) | ((with_reducible refine gd_ 371 ?_); refine lookh_at KS (blk_below hm be_) HM.out rfl rfl Tryz.underlying113 (zero20 _) (zd := .lit (.bool true)) (zp := []) rfl rfl rfl (key_of hns) true hhas ?_; intro v371) | ((with_reducible refine gd_ 378 ?_); refine cw_ #[.pointer (some ⟨gv, 0, none⟩), .map (some gm), .slice A3 names.length c3] Tryz.func179 (missing_ok _ gv gm vv ad (.pointer (some ⟨gs, 0, none⟩)) cp up nilS es ck n keys A3 c3 names (HK.out.k.2.2.2.2.1) (blk_below hm HK.out.b) HM.out (Kd.C_below Hr.out HK.out.b) hn hs) ?_; rintro v378 wc378 HK0 hMi hB; obtain ⟨ad1, c1, e1⟩ := hMi.2.1 hlk; subst e1; have HK1 := At.fact (Fact.strs (.slice (some ad1) (lacks keys names).length c1) (lacks keys names)) HK0 hMi.2.2; clear HK0 hB hMi; have hne : ∀ W : World, (binOp BinOp.neq 22 (Value.slice (some ad1) (lacks keys names).length c1) (Value.slice none 0 0)).run Tryz.prog W = .ok (.bool true) W := fun W => rfl; replace HK := asd_ HK1; clear HK1; clear bgv fgv bgs; have bgv := cE HK 5; have fgv := fE HK 5; have bgs := cel_ (blk_below hS HK.out.b)) | ((with_reducible refine gd_ 385 ?_); refine bx_ #[.string name, .slice (some ad1) (lacks keys names).length c1] 200 ?_; clear HK bgv fgv bgs; intro gki wb385 HK Ggki; have bgv := cE HK 6; have fgv := fE HK 6; have bgki := cE HK 0; have bgs := cel_ (blk_below hS HK.out.b)) | ((with_reducible refine gd_ 387 ?_); refine call_to #[.pointer (some ⟨gv, 0, none⟩), .iface 199 (.pointer (some ⟨gki, 0, none⟩))] (.tuple #[]) _ rfl Tryz.func178 kr_ rfl rfl ar_ (adderr_ok _ w0 _ gv gs gki 199 vv ad cp up ⟨2020, loc, nP, nP, nP, nP, .slice A2 0 c2, .map (some gpr), .map (some gpp), .map (some gde), .map (some gdr), .map (some gds), .nilIface⟩ (At.front 6 HK.out rfl) Ggv.out hS) ?_; rintro wc387 ⟨A13, c13, ge, Ae, ce, HK1⟩; replace HK := asd_ HK1; clear HK1; skip; clear bgv fgv bgki bgs; have bgki := cE HK 3; have bgv := cE HK 2; have fgv := fE HK 2; have bgs := cel_ (blk_below hS HK.out.b)) | ((with_reducible refine gd_ 363 ?_); refine next_done at_ (blk_below hdr be_) 5 rfl (by simp [leftOf]) (by simpa using hb0) (Nat.le_refl _) rfl rfl rfl ?_))
   go_end0
   exact ⟨rfl, A13, c13, ge, Ae, ce, gki, ad1, c1, ((At.front 8 (At.front 7 (At.front 6 (At.front 5 HK.out rfl) rfl) rfl) rfl).drop.drop.drop.drop)⟩
  | succ kk =>
   go_wp2_with (first | ((with_reducible refine gd_ 171 ?_); refine nexth_more (α := ByteArray) (β := Value) KS Value.string id (fun key kl h => let ⟨s, e, _⟩ := key_inv Tryz.underlying9 h; ⟨s, e⟩) (fun v _ _ => ⟨v, rfl⟩) at_ (blk_below hm be_) 0 rfl Gr170.out HM.out HI.out rfl rfl rfl ?_; intro pk pv kl since2 seen2 c02 cnt2 wn171 hkey hl2 hI2 hlt HK1 hent; have HI2 := asd_ hI2; have Hlt := asd_ hlt; have Hkey := asd_ hkey; clear hI2 hl2 hlt hkey HI; replace HK := asd_ HK1; clear HK1; clear bgv fgv bgs; have bgv := cE HK 2; have fgv := fE HK 2; have bgs := cel_ (blk_below hS HK.out.b)) | ((with_reducible refine gd_ 194 ?_); refine lookh_at KS (blk_below hpr be_) (map_made _ _ RT) rfl rfl Tryz.underlying111 (zero74N2 _) (zd := .lit (.bool true)) (zp := []) rfl rfl rfl Hkey.out false rfl ?_; intro v194) | ((with_reducible refine gd_ 209 ?_); refine range_any at_ (blk_below hpp be_) rfl rfl Tryz.underlying112 rfl ?_; intro r209 wm209 HK1 hr209; have Gr209 := asd_ hr209; clear hr209; replace HK := asd_ HK1; clear HK1; clear bgv fgv bgs; have bgv := cE HK 3; have fgv := fE HK 3; have bgs := cel_ (blk_below hS HK.out.b)))
   refine wp_loop_once ?_
   go_wp2_with (first | ((with_reducible refine gd_ 210 ?_); refine next_done at_ (blk_below hpp be_) 0 rfl rfl (by simp) (Nat.le_refl _) rfl rfl rfl ?_))
   go_roundg cnt2
   case measure => exact Hlt.out
   case rel =>
    exact ⟨rfl, since2, seen2, c02, _, HI2, ⟨((At.front 0 HK.out rfl).drop)⟩⟩
end Go.Proofs.YtkphbhncpdcbeaaGreatDoor.J
