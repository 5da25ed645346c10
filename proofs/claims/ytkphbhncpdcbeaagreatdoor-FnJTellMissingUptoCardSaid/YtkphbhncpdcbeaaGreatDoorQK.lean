/- Part of a proof. -/
import Derived.Test.YtkphbhncpdcbeaaGreatDoorQE
import Derived.Test.YtkphbhncpdcbeaaGreatDoorQF
namespace Go.Proofs.YtkphbhncpdcbeaaGreatDoor.J
open Go.RowKit Go.Proofs.YtkphbhncpdcbeaaGreatDoorW.PrintWords Go.Proofs.YtkphbhncpdcbeaaGreatDoorW.PrintLast Go.Proofs.YtkphbhncpdcbeaaGreatDoorW.PrintMore Go.Proofs.YtkphbhncpdcbeaaGreatDoor.PJT
attribute [local go_sem] Nd.csize Sc.csize Nd.c0 Nd.c1 Nd.c2 Nd.c3 Nd.c4 Nd.c5 Nd.c6 Nd.c7 Nd.c8 Nd.c9 Nd.c10 Nd.c11 Nd.c12 Nd.c13 Nd.c14 Nd.c15 Nd.c16 Nd.c17 Nd.c18 Nd.c19 Nd.c20 Nd.c21 Nd.c22 Nd.c23 Nd.c24 Nd.c25 Nd.c26 Nd.c27 Nd.c28 Nd.c29 Nd.c30 Nd.c31 Nd.c32 Nd.c33 Nd.c34 Nd.c35 Nd.c36 Nd.c37 Nd.c38 Nd.c39 Nd.c40 Nd.c41 Nd.c42 Nd.c43 Nd.c44 Nd.c45 Nd.c46 Nd.c47 Nd.c48 Nd.c49 Nd.c50 Nd.c51 Nd.c52 Sc.c0 Sc.c1 Sc.c2 Sc.c3 Sc.c4 Sc.c5 Sc.c6 Sc.c7 Sc.c8 Sc.c9 Sc.c10 Sc.c11 Sc.c12 Sc.c13 Sc.c14 Sc.c15 Sc.c16 Sc.c17 Sc.c18 Sc.c19 Sc.c20 Sc.c21 Sc.c22 Sc.c23 Sc.c24 Sc.c25 Sc.c26 Sc.c27 Sc.c28 Sc.c29 Sc.c30 Sc.c31 Sc.c32 Sc.c33 Sc.c34 Sc.c35 Sc.c36 Sc.c37 Sc.c38 Sc.c39 Sc.c40 Sc.c41 Sc.c42 Sc.c43 Sc.c44 Sc.c45 Sc.c46 Sc.c47 Sc.c48 Sc.c49 Sc.c50 Sc.c51 Sc.c52
set_option linter.unusedVariables false
set_option linter.unusedSimpArgs false
theorem E20 : ∀ q, q ∈ 20 :: kAny.E → datT q = true := by
 intro q hq
 have : q = 20 := by simpa [kAny, Kd.scalar] using hq
 rw [this]; rfl
theorem info20 : (Tryz.prog.info? 20).map (fun i => (i.zero, i.size, i.bytes)) = some (some .nilIface, 1, 16) := by kernel_rfl
set_option maxHeartbeats 4000000 in
set_option maxRecDepth 100000 in
theorem values_of (w : World) (A : Option Addr) (c : Nat) (l : List S25) (hx : Kd.C k25 w A l.length l) (hn : l.length ≤ LM)
  (hT : ∀ y ∈ l, ∀ W B4 B5 d4 d5, Below w.heap.size w W → Rep W y B4 d4 B5 d5 → Calls Tryz.prog 29 #[.agg (jvc y B4 B5 d4 d5)] W fun e w' => ∃ v, e = .returned v ∧ v.oneCell' = true ∧ Below W.heap.size W w') :
  Calls Tryz.prog 54 #[.slice A l.length c] w fun e w' => ∃ A' c', e = .returned (.slice A' l.length c') ∧ Below w.heap.size w w' := by
 have Hx := asd_ hx
 have HT := asd_ hT
 have hnL : l.length ≤ LM := Nat.le_trans hn (by decide)
 have Hn := asd_ hnL
 clear hx hT hn hnL
 have HK : Aside0 (At w [] w) := asd_ (At.start w)
 go_enter Tryz.func54, Tryz.ntmps54
 go_wp2_with (first | ((with_reducible refine gd_ 6 ?_); refine lit0_at kAny 20 (hE := E20) at_ rfl (N := 6) rfl gs_ ?_; intro v6 wl HK1; replace HK := asd_ HK1; clear HK1))
 go_loopg [3, 9] l.length (fun kq v3 v9 w' => ∃ (i : Int) (xs : List { v : Value // v.oneCell' = true }) (u3 : Value), u3 = v3 ∧ v9 = .int .i64 i ∧ 0 ≤ i ∧ i + kq = l.length ∧ (xs.length : Int) = i ∧ Aside0 (At w [.f (Fact.rows kAny 20 w.heap.size E20 u3 xs)] w'))
 case atStart => exact ⟨0, [], _, rfl, rfl, by omega, by omega, rfl, ⟨at_⟩⟩
 case round =>
  clear HK
  obtain ⟨i, xs, u3, rfl, rfl, hi0, hik, hxl, HK⟩ := hrel
  cases gk with
  | zero =>
   have ht : decide (i < (l.length : Int)) = false := decide_eq_false (by omega)
   go_wp2_with fail
   go_ret
   have hR : Kd.R kAny 20 _ _ _ u3 xs := HK.out.k.1
   obtain ⟨A', c', e⟩ := Kd.R_slice hR
   have hl2 : xs.length = l.length := by omega
   exact ⟨A', c', by rw [e, hl2]; rfl, HK.out.b⟩
  | succ kk =>
   have ht : decide (i < (l.length : Int)) = true := decide_eq_true (by omega)
   have hil : i < (l.length : Int) := by omega
   obtain ⟨ad5, B4, d4, B5, d5, e5, hc50, hc51, hc52, hc53, hc54, hc55, m4, n4, m5, n5⟩ := at_T25 Hx.out i hi0 hil
   subst e5
   have q0 := (HK.out.b.cell (World.block_lt_of_cell? _ _ hc50)).trans hc50
   have q1 := (HK.out.b.cell (World.block_lt_of_cell? _ _ hc51)).trans hc51
   have q2 := (HK.out.b.cell (World.block_lt_of_cell? _ _ hc52)).trans hc52
   have q3 := (HK.out.b.cell (World.block_lt_of_cell? _ _ hc53)).trans hc53
   have q4 := (HK.out.b.cell (World.block_lt_of_cell? _ _ hc54)).trans hc54
   have q5 := (HK.out.b.cell (World.block_lt_of_cell? _ _ hc55)).trans hc55
   clear hc50 hc51 hc52 hc53 hc54 hc55
   have hY := rd_T25_in hi0 hil
   have Hik := asd_ hik; have Hi0 := asd_ hi0; have Hil := asd_ hil; have Hxl := asd_ hxl; have HM := asd_ (And.intro m4 (And.intro n4 (And.intro m5 n5))); have HY := asd_ hY
   have p1 := eq_true hi0; have p2 := eq_true hil
   clear hik hi0 hil hxl m4 n4 m5 n5 hY
   go_wp2_with (first | ((with_reducible refine gd_ 5 ?_); refine bx_ #[i0, bF, i0, eS, nilS, nilS] 25 ?_; clear HK; intro g5 wb5 HK Gg5; have bg5 := cE HK 0) | ((with_reducible refine gate_ (.store 25 (.tmp 5) (.tmp 12)) rfl ?_); refine storerow_at (cs := #[i0, bF, i0, eS, nilS, nilS]) (g := g5) 0 (#[.int .i64 (rd_T25 l i).f0, .bool (rd_T25 l i).f1, .int .i64 (rd_T25 l i).f2, .string (rd_T25 l i).f3, .slice B4 (rd_T25 l i).f4.length d4, .slice B5 (rd_T25 l i).f5.length d5]) at_ rfl Gg5.out rfl rfl rfl rfl rfl rfl kr_ rfl (by simp [Value.oneCell']) ?_; intro wr1 HK1; replace HK := asd_ HK1; clear HK1; clear bg5; have bg5 := cE HK 0) | ((with_reducible refine gd_ 14 ?_); refine lo_ 25 5 g5 (#[.int .i64 (rd_T25 l i).f0, .bool (rd_T25 l i).f1, .int .i64 (rd_T25 l i).f2, .string (rd_T25 l i).f3, .slice B4 (rd_T25 l i).f4.length d4, .slice B5 (rd_T25 l i).f5.length d5]) HK.out.k.1 Tryz.underlying25 ?_) | ((with_reducible refine gd_ 15 ?_); refine cw_ #[.agg (#[.int .i64 (rd_T25 l i).f0, .bool (rd_T25 l i).f1, .int .i64 (rd_T25 l i).f2, .string (rd_T25 l i).f3, .slice B4 (rd_T25 l i).f4.length d4, .slice B5 (rd_T25 l i).f5.length d5])] Tryz.func29 (HT.out _ HY.out _ B4 B5 d4 d5 (HK.out.b) ⟨Kd.C_below HM.out.2.1 HK.out.b, HM.out.1, Kd.C_below HM.out.2.2.2 HK.out.b, HM.out.2.2.1⟩) ?_; intro v15 wc15 HK1 hF hB; have HF := asd_ hF; clear hF hB; replace HK := asd_ HK1; clear HK1; clear bg5; have bg5 := cE HK 0; skip) | ((with_reducible refine gd_ 16 ?_); refine new_at at_ rfl (N := 16) rfl (ob := row #[v15] 20) (v := (fun b => .slice (some ⟨b, 0, none⟩) 1 1)) (by exact lit1_run Tryz.underlying117 info20 rfl rfl rfl HF.out) ?_; intro g16 wb16 HK1 hgg16; have Gg16 := asd_ hgg16; clear hgg16; replace HK := asd_ HK1; clear HK1; clear bg5; have bg5 := cE HK 1) | ((with_reducible refine gate_builtin (b := .append) (xs := #[.tmp 13, .tmp 16]) rfl ?_); at_builtin; refine append1_at (p := ⟨v15, HF.out⟩) (xs := xs) (g := g16) (t := 117) (s := .tmp 13) (x := .tmp 16) (At.front 1 (At.front 2 HK.out rfl) rfl) rfl rfl rfl Tryz.underlying117 info20 rfl (by decide) rfl rfl (by have := Hxl.out; have := Hil.out; have := Hn.out; simp only [LM] at this; omega) ?_; intro v17 wa17 HK1; replace HK := asd_ HK1; clear HK1; clear bg5; have bg5 := cE HK 1))
   go_roundg kk
   case measure => exact Nat.lt_succ_self _
   case rel =>
    refine ⟨wrap64 (i + 1), xs ++ [⟨v15, HF.out⟩], _, rfl, rfl, by have := Hi0.out; rw [wup Hi0.out Hil.out Hn.out]; omega, by have := Hik.out; rw [wup Hi0.out Hil.out Hn.out]; omega, by have := Hxl.out; rw [wup Hi0.out Hil.out Hn.out]; simp; omega, ⟨?_⟩⟩
    exact ((At.front 1 HK.out rfl).drop)
theorem KS : Maps.Keyed Tryz.prog 9 := Maps.string_keyed Tryz.underlying9
theorem key_of {s : ByteArray} (h : s.size ≤ LM) : keyOf Tryz.prog 9 (.string s) = some (lit s) := WideMaps.keyOf_string_mk (P := Tryz.prog) Tryz.underlying9 (Nat.le_trans h (by decide))
theorem take_snoc {l : List ByteArray} {n : Nat} (h : n < l.length) : l.take (n + 1) = l.take n ++ [rdOf ByteArray.empty l (n : Int)] := by
 unfold rdOf
 rw [Int.toNat_natCast, getD_lt h, List.take_add_one, List.getElem?_eq_getElem h]
 rfl
set_option maxHeartbeats 4000000 in
set_option maxRecDepth 100000 in
theorem value_null (w : World) (x : S25) (A4 A5 : Option Addr) (c4 c5 : Nat) (k1 : (x.f0 == 1) = false) (k2 : (x.f0 == 2) = false) (k3 : (x.f0 == 3) = false) (k4 : (x.f0 == 4) = false) (k5 : (x.f0 == 5) = false) :
  Calls Tryz.prog 29 #[.agg (jvc x A4 A5 c4 c5)] w fun e w' => e = .returned (.nilIface) ∧ Below w.heap.size w w' := by
 have HK : Aside0 (At w [] w) := asd_ (At.start w)
 go_enter Tryz.func29, Tryz.ntmps29
 go_wp2_with (first | ((with_reducible refine gd_ 1 ?_); refine bx_ (jvc x A4 A5 c4 c5) 25 ?_; clear HK; intro g1 wb1 HK Gg1; have bg1 := cE HK 0))
 go_ret
 exact ⟨rfl, be_⟩
set_option maxHeartbeats 4000000 in
set_option maxRecDepth 100000 in
theorem value_bool (w : World) (x : S25) (A4 A5 : Option Addr) (c4 c5 : Nat) (k1 : (x.f0 == 1) = true) :
  Calls Tryz.prog 29 #[.agg (jvc x A4 A5 c4 c5)] w fun e w' => e = .returned (.iface 4 (.bool x.f1)) ∧ Below w.heap.size w w' := by
 have HK : Aside0 (At w [] w) := asd_ (At.start w)
 go_enter Tryz.func29, Tryz.ntmps29
 go_wp2_with (first | ((with_reducible refine gd_ 1 ?_); refine bx_ (jvc x A4 A5 c4 c5) 25 ?_; clear HK; intro g1 wb1 HK Gg1; have bg1 := cE HK 0))
 go_ret
 exact ⟨rfl, be_⟩
set_option maxHeartbeats 4000000 in
set_option maxRecDepth 100000 in
theorem value_text (w : World) (x : S25) (A4 A5 : Option Addr) (c4 c5 : Nat) (k1 : (x.f0 == 1) = false) (k2 : (x.f0 == 2) = false) (k3 : (x.f0 == 3) = true) :
  Calls Tryz.prog 29 #[.agg (jvc x A4 A5 c4 c5)] w fun e w' => e = .returned (.iface 9 (.string x.f3)) ∧ Below w.heap.size w w' := by
 have HK : Aside0 (At w [] w) := asd_ (At.start w)
 go_enter Tryz.func29, Tryz.ntmps29
 go_wp2_with (first | ((with_reducible refine gd_ 1 ?_); refine bx_ (jvc x A4 A5 c4 c5) 25 ?_; clear HK; intro g1 wb1 HK Gg1; have bg1 := cE HK 0))
 go_ret
 exact ⟨rfl, be_⟩
theorem values_form {f : FuncId} {args : Array Value} {W : World} {n : Nat} (h : Calls Tryz.prog f args W fun e w' => ∃ A' c', e = .returned (.slice A' n c') ∧ Below W.heap.size W w') :
  Calls Tryz.prog f args W fun e w' => ∃ u, e = .returned u ∧ (∃ A' c', u = .slice A' n c') ∧ Below W.heap.size W w' := by
 refine h.mono ?_
 rintro e w' ⟨A', c', rfl, hb⟩
 exact ⟨_, rfl, ⟨A', c', rfl⟩, hb⟩
set_option maxHeartbeats 4000000 in
set_option maxRecDepth 100000 in
theorem value_array (w : World) (x : S25) (A4 A5 : Option Addr) (c4 c5 : Nat) (hx : Rep w x A4 c4 A5 c5) (hn : x.f5.length ≤ LM) (k1 : (x.f0 == 1) = false) (k2 : (x.f0 == 2) = false) (k3 : (x.f0 == 3) = false) (k4 : (x.f0 == 4) = true)
  (hT : ∀ y ∈ x.f5, ∀ W B4 B5 d4 d5, Below w.heap.size w W → Rep W y B4 d4 B5 d5 → Calls Tryz.prog 29 #[.agg (jvc y B4 B5 d4 d5)] W fun e w' => ∃ v, e = .returned v ∧ v.oneCell' = true ∧ Below W.heap.size W w') :
  Calls Tryz.prog 29 #[.agg (jvc x A4 A5 c4 c5)] w fun e w' => ∃ A' c', e = .returned (.iface 117 (.slice A' x.f5.length c')) ∧ Below w.heap.size w w' := by
 have Hx := asd_ hx
 have HT := asd_ hT
 clear hx hT
 have HK : Aside0 (At w [] w) := asd_ (At.start w)
 go_enter Tryz.func29, Tryz.ntmps29
 go_wp2_with (first | ((with_reducible refine gd_ 1 ?_); refine bx_ (jvc x A4 A5 c4 c5) 25 ?_; clear HK; intro g1 wb1 HK Gg1; have bg1 := cE HK 0) | ((with_reducible refine gd_ 27 ?_); refine cw_ #[.slice A5 x.f5.length c5] Tryz.func54 (values_form (values_of _ A5 c5 x.f5 (Kd.C_below Hx.out.h5 HK.out.b) hn (fun y hy W B4 B5 d4 d5 hb => HT.out y hy W B4 B5 d4 d5 (below_step HK.out.b hb)))) ?_; rintro v27 wc27 HK1 ⟨A', c', rfl⟩ hB; clear hB; replace HK := asd_ HK1; clear HK1; clear bg1; have bg1 := cE HK 0))
 go_ret
 exact ⟨_, _, rfl, be_⟩
set_option maxHeartbeats 4000000 in
set_option maxRecDepth 100000 in
theorem value_object (w : World) (x : S25) (A4 A5 : Option Addr) (c4 c5 : Nat) (hx : Rep w x A4 c4 A5 c5) (hn : x.f5.length ≤ LM) (h45 : x.f4.length = x.f5.length) (ht4n : ∀ s ∈ x.f4, s.size ≤ LM) (k1 : (x.f0 == 1) = false) (k2 : (x.f0 == 2) = false) (k3 : (x.f0 == 3) = false) (k4 : (x.f0 == 4) = false) (k5 : (x.f0 == 5) = true)
  (hT : ∀ y ∈ x.f5, ∀ W B4 B5 d4 d5, Below w.heap.size w W → Rep W y B4 d4 B5 d5 → Calls Tryz.prog 29 #[.agg (jvc y B4 B5 d4 d5)] W fun e w' => ∃ v, e = .returned v ∧ v.oneCell' = true ∧ Below W.heap.size W w') :
  Calls Tryz.prog 29 #[.agg (jvc x A4 A5 c4 c5)] w fun e w' => ∃ g es ck, e = .returned (.iface 113 (.map (some g))) ∧ MapIs Tryz.prog 9 RT es ck x.f5.length (mapOf x.f4) ∧ w'.heap[g]? = some (.map es ck) ∧ w.heap.size ≤ g ∧ Below w.heap.size w w' := by
 have hmm := @run_makeMap Tryz.prog
 have Hx := asd_ hx
 have HT := asd_ hT
 have H45 := asd_ h45
 clear hx hT
 have HK : Aside0 (At w [] w) := asd_ (At.start w)
 go_enter Tryz.func29, Tryz.ntmps29
 go_wp2_with (first | ((with_reducible refine gd_ 1 ?_); refine bx_ (jvc x A4 A5 c4 c5) 25 ?_; clear HK; intro g1 wb1 HK Gg1; have bg1 := cE HK 0) | ((with_reducible refine gd_ 31 ?_); refine nw_ (.map #[] 0) (fun b => .map (some b)) ?_; clear HK bg1; intro gm wb31 HK Ggm; have bg1 := cE HK 1))
 go_loopg [35] x.f5.length (fun kq v35 w' => ∃ (i : Int) (es : Array MapEntry) (ck : Nat), v35 = .int .i64 i ∧ 0 ≤ i ∧ i + kq = x.f5.length ∧ Aside0 (MapIs Tryz.prog 9 RT es ck i.toNat (mapOf (x.f4.take i.toNat))) ∧ Aside0 (At w [.b gm (.map es ck), .b g1 (row (jvc x A4 A5 c4 c5) 25)] w'))
 case atStart => exact ⟨0, #[], 0, rfl, by omega, by omega, ⟨map_made _ _ _⟩, ⟨at_⟩⟩
 case round =>
  clear HK bg1
  obtain ⟨i, es, ck, rfl, hi0, hik, HM0, HK⟩ := hrel
  have bg1 := cE HK 1
  cases gk with
  | zero =>
   have ht : decide (i < (x.f5.length : Int)) = false := decide_eq_false (by omega)
   go_wp2_with fail
   go_ret
   have hl2 : x.f4.take i.toNat = x.f4 := List.take_of_length_le (by omega)
   have hM := HM0.out; rw [hl2] at hM
   exact ⟨gm, es, ck, rfl, ⟨hM.fit, by have := hM.size; omega, hM.eq⟩, HK.out.k.1, Ggm.out, HK.out.b⟩
  | succ kk =>
   have ht : decide (i < (x.f5.length : Int)) = true := decide_eq_true (by omega)
   have hil : i < (x.f5.length : Int) := by omega
   have hi4 : i < (x.f4.length : Int) := by omega
   have ht4 : decide (i < (x.f4.length : Int)) = true := decide_eq_true hi4
   obtain ⟨ad5, B4, d4, B5, d5, e5, hc50, hc51, hc52, hc53, hc54, hc55, m4, n4, m5, n5⟩ := at_T25 Hx.out.h5 i hi0 hil
   obtain ⟨ad4, e4, hc4⟩ := Kd.at_string Hx.out.h4 i hi0 hi4
   subst e5 e4
   have q0 := (HK.out.b.cell (World.block_lt_of_cell? _ _ hc50)).trans hc50
   have q1 := (HK.out.b.cell (World.block_lt_of_cell? _ _ hc51)).trans hc51
   have q2 := (HK.out.b.cell (World.block_lt_of_cell? _ _ hc52)).trans hc52
   have q3 := (HK.out.b.cell (World.block_lt_of_cell? _ _ hc53)).trans hc53
   have q4 := (HK.out.b.cell (World.block_lt_of_cell? _ _ hc54)).trans hc54
   have q5 := (HK.out.b.cell (World.block_lt_of_cell? _ _ hc55)).trans hc55
   have hY := rd_T25_in hi0 hil
   have hkey : keyOf Tryz.prog 9 (.string (rdOf ByteArray.empty x.f4 i)) = some (lit (rdOf ByteArray.empty x.f4 i)) := key_of (ht4n _ (by unfold rdOf; rw [getD_lt (by omega)]; exact List.getElem_mem _))
   have Hkey := asd_ hkey; have Hik := asd_ hik; have Hi0 := asd_ hi0; have Hil := asd_ hil; have HN := asd_ (And.intro m4 (And.intro n4 (And.intro m5 n5))); have HY := asd_ hY; have Hc4 := asd_ hc4
   have p1 := eq_true hi0; have p2 := eq_true hil; have p3 := eq_true hi4
   clear hkey hik hi0 hil hi4 hc4 m4 n4 m5 n5 hY hc50 hc51 hc52 hc53 hc54 hc55
   go_wp2_with (first | ((with_reducible refine gd_ 5 ?_); refine bx_ #[i0, bF, i0, eS, nilS, nilS] 25 ?_; clear HK bg1; intro g5 wb5 HK Gg5; have bg1 := cE HK 2; have bg5 := cE HK 0) | ((with_reducible refine gate_ (.store 25 (.tmp 5) (.tmp 39)) rfl ?_); refine storerow_at (cs := #[i0, bF, i0, eS, nilS, nilS]) (g := g5) 0 (#[.int .i64 (rd_T25 x.f5 i).f0, .bool (rd_T25 x.f5 i).f1, .int .i64 (rd_T25 x.f5 i).f2, .string (rd_T25 x.f5 i).f3, .slice B4 (rd_T25 x.f5 i).f4.length d4, .slice B5 (rd_T25 x.f5 i).f5.length d5]) at_ rfl Gg5.out rfl rfl rfl rfl rfl rfl kr_ rfl (by simp [Value.oneCell']) ?_; intro wr1 HK1; replace HK := asd_ HK1; clear HK1; clear bg1 bg5; have bg1 := cE HK 2; have bg5 := cE HK 0))
   refine st_ 9 (fun w' => At w [.b g5 (row (#[.int .i64 (rd_T25 x.f5 i).f0, .bool (rd_T25 x.f5 i).f1, .int .i64 (rd_T25 x.f5 i).f2, .string (rd_T25 x.f5 i).f3, .slice B4 (rd_T25 x.f5 i).f4.length d4, .slice B5 (rd_T25 x.f5 i).f5.length d5]) 25), .b gm (.map es ck), .b g1 (row (jvc x (some ad4) (some ad5) c4 c5) 25)] w' ∧ (∀ j, w'.cell? ⟨g1, j, none⟩ = (jvc x (some ad4) (some ad5) c4 c5 : Array Value)[j]?) ∧ (∀ j, w'.cell? ⟨g5, j, none⟩ = (#[.int .i64 (rd_T25 x.f5 i).f0, .bool (rd_T25 x.f5 i).f1, .int .i64 (rd_T25 x.f5 i).f2, .string (rd_T25 x.f5 i).f3, .slice B4 (rd_T25 x.f5 i).f4.length d4, .slice B5 (rd_T25 x.f5 i).f5.length d5] : Array Value)[j]?) ∧ w'.cell? (ad4.add i.toNat) = some (.string (rdOf ByteArray.empty x.f4 i))) [8] (fun A => ⟨A, (cA A 2), (cA A 0), ((A.b.cell (World.block_lt_of_cell? w _ Hc4.out)).trans Hc4.out)⟩) (fun hHeld => ?_)
   refine pu_ 0 45 1 ?_
   refine pu_ 1 46 3 ?_
   refine pu_ 3 48 11 ?_
   refine ta4_ 2 47 15 hHeld ?_
   refine pu_ 4 49 31 ?_
   refine ta4_ 5 50 63 hHeld ?_
   refine on_ 6 51 127 (fun K hK => ?_)
   refine loadr_ (ty := 25) (x := .tmp 5) g5 (#[.int .i64 (rd_T25 x.f5 i).f0, .bool (rd_T25 x.f5 i).f1, .int .i64 (rd_T25 x.f5 i).f2, .string (rd_T25 x.f5 i).f3, .slice B4 (rd_T25 x.f5 i).f4.length d4, .slice B5 (rd_T25 x.f5 i).f5.length d5]) (by rfl) rfl rfl rfl hHeld.1.k.1 Tryz.underlying25 rfl kr_ ?_
   refine hK.out _ _ ⟨hHeld.1, hHeld.2.1, hHeld.2.2.1, hHeld.2.2.2⟩ (fun hHeld => ?_)
   clear hK K
   refine nq_ 51 ?_
   refine on_ 7 52 255 (fun K hK => ?_)
   have HE := asd_ (hHeld.1)
   refine ge_ Tryz.func29 #[.agg (#[.int .i64 (rd_T25 x.f5 i).f0, .bool (rd_T25 x.f5 i).f1, .int .i64 (rd_T25 x.f5 i).f2, .string (rd_T25 x.f5 i).f3, .slice B4 (rd_T25 x.f5 i).f4.length d4, .slice B5 (rd_T25 x.f5 i).f5.length d5])] ?_
   with_reducible refine (HT.out _ HY.out _ B4 B5 d4 d5 HE.out.b ⟨Kd.C_below HN.out.2.1 HE.out.b, HN.out.1, Kd.C_below HN.out.2.2.2 HE.out.b, HN.out.2.2.1⟩).mono ?_
   rintro e w3 ⟨v52, rfl, hF, hb⟩
   refine ⟨_, rfl, ?_⟩
   have HE0 := At.step HE.out hb
   replace HE := asd_ HE0; clear HE0
   refine hK.out _ _ ⟨HE.out, (cE HE 2), (cE HE 0), ((HE.out.b.cell (World.block_lt_of_cell? w _ Hc4.out)).trans Hc4.out)⟩ (fun hHeld => ?_)
   clear hK K
   refine nq_ 52 ?_
   refine lz_ 8 511 (fun K hK => ?_)
   refine mapput_ KS 1 HE.out rfl Ggm.out HM0.out (by have := Hi0.out; have := Hil.out; have h2 := hn; simp only [LM] at h2; unfold maxLen; omega) (by rfl) rfl rfl Tryz.underlying113 rfl rfl rfl Hkey.out rfl ?_
   intro es2 ck2 w3 HM2 HE0
   have HM2 := asd_ HM2
   replace HE := asd_ HE0; clear HE0
   refine hK.out _ _ ?_
   clear hK K
   refine done_ kr_ ?_
   clear HK; have HK := HE; clear HE
   clear hHeld
   clear bg1 bg5
   have bg1 := cE HK 2
   have bg5 := cE HK 0
   go_wp2_with fail
   go_roundg kk
   case measure => exact Nat.lt_succ_self _
   case rel =>
    have e1 : wrap64 (i + 1) = i + 1 := wup Hi0.out Hil.out (Nat.le_trans hn (by decide))
    have e2 : (i + 1).toNat = i.toNat + 1 := by have := Hi0.out; omega
    refine ⟨wrap64 (i + 1), es2, ck2, rfl, by have := Hi0.out; rw [e1]; omega, by have := Hik.out; rw [e1]; omega, ⟨?_⟩, ⟨?_⟩⟩
    ·rw [e1, e2, take_snoc (by have := Hi0.out; have := Hil.out; omega), mapOf, putAll_snoc]; exact HM2.out
    ·exact ((At.front 0 HK.out rfl).drop)
end Go.Proofs.YtkphbhncpdcbeaaGreatDoor.J
namespace Go.Proofs.YtkphbhncpdcbeaaGreatDoor.J
open Go.RowKit Go.Proofs.YtkphbhncpdcbeaaGreatDoorW.PrintWords Go.Proofs.YtkphbhncpdcbeaaGreatDoorW.PrintLast Go.Proofs.YtkphbhncpdcbeaaGreatDoorW.PrintMore Go.Proofs.YtkphbhncpdcbeaaGreatDoor.PJT
inductive Out (x : S25) (v : Value) (W : World) : Prop
 | null (k : x.f0 = 0) (e : v = .nilIface)
 | bool (k : x.f0 = 1) (e : v = .iface 4 (.bool x.f1))
 | text (k : x.f0 = 3) (e : v = .iface 9 (.string x.f3))
 | array (k : x.f0 = 4) (A : Option Addr) (c : Nat) (e : v = .iface 117 (.slice A x.f5.length c))
 | object (k : x.f0 = 5) (g : Nat) (es : Array MapEntry) (ck : Nat) (e : v = .iface 113 (.map (some g))) (M : MapIs Tryz.prog 9 RT es ck x.f5.length (mapOf x.f4)) (h : W.heap[g]? = some (.map es ck))
theorem Out.one {x : S25} {v : Value} {W : World} (h : Out x v W) : v.oneCell' = true := by
 cases h with
 | null _ e => rw [e]; rfl
 | bool _ e => rw [e]; rfl
 | text _ e => rw [e]; rfl
 | array _ _ _ e => rw [e]; rfl
 | object _ _ _ _ e => rw [e]; rfl
theorem beq_t {a b : Int} (h : a = b) : (a == b) = true := by simp [h]
theorem beq_f {a b : Int} (h : a ≠ b) : (a == b) = false := by simp [h]
theorem value_ok (w : World) (x : S25) (A4 A5 : Option Addr) (c4 c5 : Nat) (hx : Rep w x A4 c4 A5 c5) (hV : V x)
  (hT : ∀ y ∈ x.f5, ∀ W B4 B5 d4 d5, Below w.heap.size w W → Rep W y B4 d4 B5 d5 → Calls Tryz.prog 29 #[.agg (jvc y B4 B5 d4 d5)] W fun e w' => ∃ v, e = .returned v ∧ v.oneCell' = true ∧ Below W.heap.size W w') :
  Calls Tryz.prog 29 #[.agg (jvc x A4 A5 c4 c5)] w fun e w' => ∃ v, e = .returned v ∧ Out x v w' ∧ Below w.heap.size w w' := by
 obtain ⟨k0, k5, k2, n3, n4, n5, t4, ee, sub⟩ := hV
 have hk : x.f0 = 0 ∨ x.f0 = 1 ∨ x.f0 = 3 ∨ x.f0 = 4 ∨ x.f0 = 5 := by omega
 rcases hk with h | h | h | h | h
 ·refine (value_null w x A4 A5 c4 c5 (beq_f (by omega)) (beq_f (by omega)) (beq_f (by omega)) (beq_f (by omega)) (beq_f (by omega))).mono ?_
  rintro e w' ⟨rfl, hb⟩
  exact ⟨_, rfl, .null h rfl, hb⟩
 ·refine (value_bool w x A4 A5 c4 c5 (beq_t h)).mono ?_
  rintro e w' ⟨rfl, hb⟩
  exact ⟨_, rfl, .bool h rfl, hb⟩
 ·refine (value_text w x A4 A5 c4 c5 (beq_f (by omega)) (beq_f (by omega)) (beq_t h)).mono ?_
  rintro e w' ⟨rfl, hb⟩
  exact ⟨_, rfl, .text h rfl, hb⟩
 ·refine (value_array w x A4 A5 c4 c5 hx n5 (beq_f (by omega)) (beq_f (by omega)) (beq_f (by omega)) (beq_t h) hT).mono ?_
  rintro e w' ⟨A', c', rfl, hb⟩
  exact ⟨_, rfl, .array h A' c' rfl, hb⟩
 ·refine (value_object w x A4 A5 c4 c5 hx n5 (ee h) t4 (beq_f (by omega)) (beq_f (by omega)) (beq_f (by omega)) (beq_f (by omega)) (beq_t h) hT).mono ?_
  rintro e w' ⟨g, es, ck, rfl, M, hg, _, hb⟩
  exact ⟨_, rfl, .object h g es ck rfl M hg, hb⟩
theorem value_weak {x : S25} (hV : V x) : ∀ (w : World) (A4 A5 : Option Addr) (c4 c5 : Nat), Rep w x A4 c4 A5 c5 →
  Calls Tryz.prog 29 #[.agg (jvc x A4 A5 c4 c5)] w fun e w' => ∃ v, e = .returned v ∧ v.oneCell' = true ∧ Below w.heap.size w w' := by
 induction hV with
 | @mk x k0 k5 k2 n3 n4 n5 t4 ee sub ih =>
  intro w A4 A5 c4 c5 hx
  refine (value_ok w x A4 A5 c4 c5 hx (.mk k0 k5 k2 n3 n4 n5 t4 ee sub) (fun y hy W B4 B5 d4 d5 _ hr => ih y hy W B4 B5 d4 d5 hr)).mono ?_
  rintro e w' ⟨v, rfl, ho, hb⟩
  exact ⟨v, rfl, ho.one, hb⟩
theorem value_out (w : World) (x : S25) (A4 A5 : Option Addr) (c4 c5 : Nat) (hx : Rep w x A4 c4 A5 c5) (hV : V x) :
  Calls Tryz.prog 29 #[.agg (jvc x A4 A5 c4 c5)] w fun e w' => ∃ v, e = .returned v ∧ Out x v w' ∧ Below w.heap.size w w' := by
 refine value_ok w x A4 A5 c4 c5 hx hV (fun y hy W B4 B5 d4 d5 _ hr => value_weak ?_ W B4 B5 d4 d5 hr)
 obtain ⟨k0, k5, k2, n3, n4, n5, t4, ee, sub⟩ := hV
 exact sub y hy
end Go.Proofs.YtkphbhncpdcbeaaGreatDoor.J
namespace Go.Proofs.YtkphbhncpdcbeaaGreatDoor.J
open Go.RowKit Go.Proofs.YtkphbhncpdcbeaaGreatDoorW.PrintWords Go.Proofs.YtkphbhncpdcbeaaGreatDoorW.PrintLast Go.Proofs.YtkphbhncpdcbeaaGreatDoorW.PrintMore Go.Proofs.YtkphbhncpdcbeaaGreatDoor.PJT
attribute [local go_sem] Nd.csize Sc.csize Nd.c0 Nd.c1 Nd.c2 Nd.c3 Nd.c4 Nd.c5 Nd.c6 Nd.c7 Nd.c8 Nd.c9 Nd.c10 Nd.c11 Nd.c12 Nd.c13 Nd.c14 Nd.c15 Nd.c16 Nd.c17 Nd.c18 Nd.c19 Nd.c20 Nd.c21 Nd.c22 Nd.c23 Nd.c24 Nd.c25 Nd.c26 Nd.c27 Nd.c28 Nd.c29 Nd.c30 Nd.c31 Nd.c32 Nd.c33 Nd.c34 Nd.c35 Nd.c36 Nd.c37 Nd.c38 Nd.c39 Nd.c40 Nd.c41 Nd.c42 Nd.c43 Nd.c44 Nd.c45 Nd.c46 Nd.c47 Nd.c48 Nd.c49 Nd.c50 Nd.c51 Nd.c52 Sc.c0 Sc.c1 Sc.c2 Sc.c3 Sc.c4 Sc.c5 Sc.c6 Sc.c7 Sc.c8 Sc.c9 Sc.c10 Sc.c11 Sc.c12 Sc.c13 Sc.c14 Sc.c15 Sc.c16 Sc.c17 Sc.c18 Sc.c19 Sc.c20 Sc.c21 Sc.c22 Sc.c23 Sc.c24 Sc.c25 Sc.c26 Sc.c27 Sc.c28 Sc.c29 Sc.c30 Sc.c31 Sc.c32 Sc.c33 Sc.c34 Sc.c35 Sc.c36 Sc.c37 Sc.c38 Sc.c39 Sc.c40 Sc.c41 Sc.c42 Sc.c43 Sc.c44 Sc.c45 Sc.c46 Sc.c47 Sc.c48 Sc.c49 Sc.c50 Sc.c51 Sc.c52
set_option linter.unusedVariables false
set_option linter.unusedSimpArgs false
abbrev vdc (vv : Value) (ad : Addr) (sp cp up er : Value) : Array Value := #[vv, .slice (some ad) 0 8, sp, cp, up, er, .bool false]
theorem E9 : ∀ q, q ∈ 9 :: Kd.string.E → datT q = true := by
 intro q hq
 have : q = 9 := by simpa [Kd.string, Kd.scalar] using hq
 rw [this]; rfl
theorem zero20 (W : World) : (zeroValue 20).run Tryz.prog W = .ok .nilIface W := by kernel_rfl
theorem mem_iff {xs : List ByteArray} {s : ByteArray} : mem xs s ↔ s ∈ xs := by
 constructor
 ·rintro ⟨y, hy, e⟩
  have : y = s := WideShapes.bytes_inj (by rw [← ByteArray.toList_eq, ← ByteArray.toList_eq]; exact e)
  exact this ▸ hy
 ·exact fun h => ⟨s, h, rfl⟩
def Missed (v : Value) (xs : List ByteArray) (W : World) : Prop := (xs = [] → v = nilS) ∧ (xs ≠ [] → ∃ ad c, v = .slice (some ad) xs.length c) ∧ (Fact.strs v xs).P W
theorem some_of {α : Type} {d : Kd α} {w : World} {A : Option Addr} {n : Nat} {xs : List α} (h : Kd.C d w A n xs) (h0 : 0 < n) : ∃ ad, A = some ad := by
 obtain ⟨ad, e, _⟩ := h.2.2 h0
 exact ⟨ad, e⟩
theorem missed {W : World} {base : Nat} {v : Value} {xs : List ByteArray} (h : Kd.R Kd.string 9 W base (fun _ => True) v xs) (hn : xs = [] → v = nilS) : Missed v xs W := by
 refine ⟨hn, fun hx => ?_, Kd.R_lower h (Nat.zero_le _)⟩
 obtain ⟨A, c, rfl, _, hC⟩ := Kd.R_reads h
 obtain ⟨ad, rfl⟩ := some_of hC (by cases xs with | nil => exact absurd rfl hx | cons _ _ => simp)
 exact ⟨ad, c, rfl⟩
theorem take_snoc_i {l : List ByteArray} {i : Int} (h0 : 0 ≤ i) (h : i < (l.length : Int)) : l.take (i.toNat + 1) = l.take i.toNat ++ [rdOf ByteArray.empty l i] := by
 have := take_snoc (l := l) (n := i.toNat) (by omega)
 rw [Int.toNat_of_nonneg h0] at this
 exact this
theorem lacks_len (keys names : List ByteArray) : (lacks keys names).length ≤ names.length := List.length_filter_le _ _
theorem lacks_snoc_out {keys l : List ByteArray} {s : ByteArray} (h : ¬ Maps.has (mapOf keys) (lit s) = true) : lacks keys (l ++ [s]) = lacks keys l ++ [s] := by
 have h' : ¬ mem keys s := fun hm => h ((has_mapOf keys s).2 (mem_iff.1 hm))
 simp [lacks, h']
theorem lacks_snoc_in {keys l : List ByteArray} {s : ByteArray} (h : Maps.has (mapOf keys) (lit s) = true) : lacks keys (l ++ [s]) = lacks keys l := by
 have h' : mem keys s := mem_iff.2 ((has_mapOf keys s).1 h)
 simp [lacks, h']
set_option maxHeartbeats 4000000 in
set_option maxRecDepth 100000 in
theorem missing_ok (w : World) (gv gm : Nat) (vv : Value) (ad : Addr) (sp cp up er : Value) (es : Array MapEntry) (ck n : Nat) (keys : List ByteArray) (A : Option Addr) (c : Nat) (names : List ByteArray) (hv : w.heap[gv]? = some (row (vdc vv ad sp cp up er) 182)) (hm : w.heap[gm]? = some (.map es ck)) (hM : MapIs Tryz.prog 9 RT es ck n (mapOf keys))
  (hr : Kd.C Kd.string w A names.length names) (hn : names.length ≤ LM) (hs : ∀ s ∈ names, s.size ≤ LM) :
  Calls Tryz.prog 179 #[.pointer (some ⟨gv, 0, none⟩), .map (some gm), .slice A names.length c] w fun e w' => ∃ v, e = .returned v ∧ Missed v (lacks keys names) w' ∧ Below w.heap.size w w' := by
 have Hr := asd_ hr
 have HM := asd_ hM
 clear hr hM
 have HK : Aside0 (At w [.b gm (.map es ck), .b gv (row (vdc vv ad sp cp up er) 182)] w) := asd_ (At.hold (At.hold (At.start w) hv (by simp [nums])) hm (by simp [nums]; rintro rfl; rw [hm] at hv; cases hv))
 have bgv := cE HK 1
 go_enter Tryz.func179, Tryz.ntmps179
 have HK1 := At.fact (Fact.rows Kd.string 9 w.heap.size E9 nilS []) HK.out (Kd.R_nil _ _ _ _ _)
 replace HK := asd_ HK1; clear HK1
 go_wp2_with fail
 go_loopg [7, 14] names.length (fun kq v7 v14 w' => ∃ (i : Int) (xs : List ByteArray) (u7 : Value), u7 = v7 ∧ v14 = .int .i64 i ∧ 0 ≤ i ∧ i + kq = names.length ∧ xs = lacks keys (names.take i.toNat) ∧ (xs = [] → u7 = nilS) ∧ Aside0 (At w [.f (Fact.rows Kd.string 9 w.heap.size E9 u7 xs), .b gm (.map es ck), .b gv (row (vdc vv ad sp cp up er) 182)] w'))
 case atStart => exact ⟨0, [], _, rfl, rfl, by omega, by omega, rfl, fun _ => rfl, ⟨at_⟩⟩
 case round =>
  clear HK bgv
  obtain ⟨i, xs, u7, rfl, rfl, hi0, hik, hxs, hnil, HK⟩ := hrel
  have bgv := cE HK 2
  cases gk with
  | zero =>
   have ht : decide (i < (names.length : Int)) = false := decide_eq_false (by omega)
   go_wp2_with fail
   go_ret
   have hR : Kd.R Kd.string 9 _ _ _ u7 xs := HK.out.k.1
   have hl2 : names.take i.toNat = names := List.take_of_length_le (by omega)
   rw [hl2] at hxs; subst hxs
   exact ⟨u7, rfl, missed hR hnil, HK.out.b⟩
  | succ kk =>
   have ht : decide (i < (names.length : Int)) = true := decide_eq_true (by omega)
   have hil : i < (names.length : Int) := by omega
   obtain ⟨ad4, e4, hc4⟩ := Kd.at_string Hr.out i hi0 hil
   subst e4
   have q0 := (HK.out.b.cell (World.block_lt_of_cell? _ _ hc4)).trans hc4
   have hkey : keyOf Tryz.prog 9 (.string (rdOf ByteArray.empty names i)) = some (lit (rdOf ByteArray.empty names i)) := key_of (hs _ (by unfold rdOf; rw [getD_lt (by omega)]; exact List.getElem_mem _))
   have Hkey := asd_ hkey; have Hik := asd_ hik; have Hi0 := asd_ hi0; have Hil := asd_ hil; have Hxs := asd_ hxs; have Hnil := asd_ hnil
   have p1 := eq_true hi0; have p2 := eq_true hil
   clear hkey hik hi0 hil hc4 hxs hnil
   cases hh : Maps.has (mapOf keys) (lit (rdOf ByteArray.empty names i))
   case false =>
    go_wp2_with (first | ((with_reducible refine gd_ 21 ?_); refine look_at KS 1 at_ rfl HM.out rfl rfl Tryz.underlying113 (zero20 _) (zd := .lit (.bool true)) (zp := []) rfl rfl rfl Hkey.out ?_; intro v21; try rw [hh]) | ((with_reducible refine gd_ 33 ?_); refine nw_ (row #[.string (rdOf ByteArray.empty names i)] 9) (fun b => .slice (some ⟨b, 0, none⟩) 1 1) ?_; clear HK bgv; intro g33 wb33 HK Gg33; have bgv := cE HK 3) | ((with_reducible refine gate_builtin (b := .append) (xs := #[.tmp 31, .tmp 33]) rfl ?_); at_builtin; refine append1_at (p := (rdOf ByteArray.empty names i)) (xs := xs) (g := g33) (t := 22) (s := .tmp 31) (x := .tmp 33) (At.front 1 (At.front 1 HK.out rfl) rfl) rfl rfl rfl Tryz.underlying22 info9 rfl (by decide) rfl rfl (by have := Hxs.out; have h3 := lacks_len keys (names.take i.toNat); have h2 := hn; simp only [LM] at h2; rw [this]; simp at h3 ⊢; omega) ?_; intro v34 wa34 HK1; replace HK := asd_ HK1; clear HK1; clear bgv; have bgv := cE HK 2))
    go_roundg kk
    case measure => exact Nat.lt_succ_self _
    case rel =>
     have e1 : wrap64 (i + 1) = i + 1 := wup Hi0.out Hil.out hn
     have e2 : (i + 1).toNat = i.toNat + 1 := by have := Hi0.out; omega
     refine ⟨wrap64 (i + 1), xs ++ [(rdOf ByteArray.empty names i)], _, rfl, rfl, by have := Hi0.out; rw [e1]; omega, by have := Hik.out; rw [e1]; omega, ?_, ?_, ⟨?_⟩⟩
     ·rw [e1, e2, take_snoc_i Hi0.out Hil.out, lacks_snoc_out (by rw [hh]; simp), Hxs.out]
     ·simp
     ·exact HK.out
   case true =>
    go_wp2_with (first | ((with_reducible refine gd_ 21 ?_); refine look_at KS 1 at_ rfl HM.out rfl rfl Tryz.underlying113 (zero20 _) (zd := .lit (.bool true)) (zp := []) rfl rfl rfl Hkey.out ?_; intro v21; try rw [hh]))
    go_roundg kk
    case measure => exact Nat.lt_succ_self _
    case rel =>
     have e1 : wrap64 (i + 1) = i + 1 := wup Hi0.out Hil.out hn
     have e2 : (i + 1).toNat = i.toNat + 1 := by have := Hi0.out; omega
     refine ⟨wrap64 (i + 1), xs, _, rfl, rfl, by have := Hi0.out; rw [e1]; omega, by have := Hik.out; rw [e1]; omega, ?_, ?_, ⟨?_⟩⟩
     ·rw [e1, e2, take_snoc_i Hi0.out Hil.out, lacks_snoc_in (hh), Hxs.out]
     ·exact Hnil.out
     ·exact HK.out
end Go.Proofs.YtkphbhncpdcbeaaGreatDoor.J
