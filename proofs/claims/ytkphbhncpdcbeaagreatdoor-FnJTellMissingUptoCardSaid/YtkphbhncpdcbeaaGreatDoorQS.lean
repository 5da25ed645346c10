/- Part of a proof. -/
import Derived.Test.YtkphbhncpdcbeaaGreatDoorQP
import Derived.Test.YtkphbhncpdcbeaaGreatDoorQQ
import Derived.Test.YtkphbhncpdcbeaaGreatDoorQF
import Derived.Test.YtkphbhncpdcbeaaGreatDoorQO
import Derived.Test.YtkphbhncpdcbeaaGreatDoorQG
import Derived.Test.YtkphbhncpdcbeaaGreatDoorQE
namespace Go.Proofs.YtkphbhncpdcbeaaGreatDoor.J
open Go.RowKit Go.Proofs.YtkphbhncpdcbeaaGreatDoorW.PrintWords Go.Proofs.YtkphbhncpdcbeaaGreatDoorW.PrintLast Go.Proofs.YtkphbhncpdcbeaaGreatDoorW.PrintMore Go.Proofs.YtkphbhncpdcbeaaGreatDoor.PJT
attribute [local go_sem] Nd.csize Sc.csize Nd.c0 Nd.c1 Nd.c2 Nd.c3 Nd.c4 Nd.c5 Nd.c6 Nd.c7 Nd.c8 Nd.c9 Nd.c10 Nd.c11 Nd.c12 Nd.c13 Nd.c14 Nd.c15 Nd.c16 Nd.c17 Nd.c18 Nd.c19 Nd.c20 Nd.c21 Nd.c22 Nd.c23 Nd.c24 Nd.c25 Nd.c26 Nd.c27 Nd.c28 Nd.c29 Nd.c30 Nd.c31 Nd.c32 Nd.c33 Nd.c34 Nd.c35 Nd.c36 Nd.c37 Nd.c38 Nd.c39 Nd.c40 Nd.c41 Nd.c42 Nd.c43 Nd.c44 Nd.c45 Nd.c46 Nd.c47 Nd.c48 Nd.c49 Nd.c50 Nd.c51 Nd.c52 Sc.c0 Sc.c1 Sc.c2 Sc.c3 Sc.c4 Sc.c5 Sc.c6 Sc.c7 Sc.c8 Sc.c9 Sc.c10 Sc.c11 Sc.c12 Sc.c13 Sc.c14 Sc.c15 Sc.c16 Sc.c17 Sc.c18 Sc.c19 Sc.c20 Sc.c21 Sc.c22 Sc.c23 Sc.c24 Sc.c25 Sc.c26 Sc.c27 Sc.c28 Sc.c29 Sc.c30 Sc.c31 Sc.c32 Sc.c33 Sc.c34 Sc.c35 Sc.c36 Sc.c37 Sc.c38 Sc.c39 Sc.c40 Sc.c41 Sc.c42 Sc.c43 Sc.c44 Sc.c45 Sc.c46 Sc.c47 Sc.c48 Sc.c49 Sc.c50 Sc.c51 Sc.c52
set_option linter.unusedVariables false
set_option linter.unusedSimpArgs false
theorem cell_of_take {curx : Array Value} {l : List Value} (h : curx.toList.take 8 = l) {i : Nat} {v : Value} (hv : l[i]? = some v) : curx[i]? = some v := by
 have h8 : i < 8 := by
  have := List.length_take_le 8 curx.toList
  rw [h] at this
  have := (List.getElem?_eq_some_iff.1 hv).1
  omega
 rw [← h, List.getElem?_take_of_lt h8] at hv
 simpa using hv
theorem cell_below {w W : World} {a : Addr} {v : Value} (hb : Below w.heap.size w W) (h : w.cell? a = some v) : W.cell? a = some v :=
 (hb.cell (World.block_lt_of_cell? w _ h)).trans h
theorem right16 (w : World) (tx kn : ByteArray) (Aq Aa Ap Aa2 An A2 : Option Addr) (cq ca gx cx np cp ca2 nn cn n2 c2 : Nat)
  (hC : ∀ (i : Nat) (v : Value), (#[.string ⟨#[49]⟩, .string kn, .slice Ap np cp, .slice Aa2 0 ca2, .string tx, .slice An nn cn, nilS, nilS] : Array Value)[i]? = some v → w.cell? ⟨gx, i, none⟩ = some v)
  (hA1 : ∀ W, Below w.heap.size w W → Calls Tryz.prog 21 #[.string kn, .slice A2 n2 c2] W fun e w' => e = .returned (.bool true) ∧ Below W.heap.size W w')
  (hA0 : ∀ W, Below w.heap.size w W → Calls Tryz.prog 21 #[.string ⟨#[83, 99, 104, 101, 109, 97]⟩, .slice A2 n2 c2] W fun e w' => e = .returned (.bool false) ∧ Below W.heap.size W w') :
  Calls Tryz.prog 16 #[.agg #[.string ⟨#[49]⟩, .string ⟨#[83, 99, 104, 101, 109, 97]⟩, .slice Aq 0 cq, .slice Aa 0 ca, .string ⟨#[]⟩, .slice none 0 0, nilS, .slice (some ⟨gx, 0, none⟩) 1 cx], .string ⟨#[49]⟩, .slice A2 n2 c2] w fun e w' => e = .returned (.int .i64 1) ∧ Below w.heap.size w w' :=
 kinds_root w ⟨#[]⟩ Aq Aa none cq ca 0 0 A2 n2 c2 gx cx ⟨#[49]⟩ kn tx Ap Aa2 An np cp ca2 nn cn hA0 hC
   (fun W2 h2 => kinds_leaf W2 tx kn Ap Aa2 An np cp ca2 nn cn A2 n2 c2 (fun W3 h3 => hA1 W3 (below_step h2 h3)))
theorem right17 (w : World) (gn cS : Nat) (x : S25) (A4 A5 : Option Addr) (c4 c5 : Nat) (tx kn : ByteArray) (Aq Aa Ap Aa2 An : Option Addr) (cq ca gx cx np cp ca2 nn cn : Nat)
  (hC : ∀ (i : Nat) (v : Value), (#[.string ⟨#[49]⟩, .string kn, .slice Ap np cp, .slice Aa2 0 ca2, .string tx, .slice An nn cn, nilS, nilS] : Array Value)[i]? = some v → w.cell? ⟨gx, i, none⟩ = some v)
  (hT : ∀ W, Below w.heap.size w W → Calls Tryz.prog 20 #[.int .i64 2020, .agg #[.slice (some ⟨gn, 0, none⟩) 1 cS, nilS], .int .i64 1, .agg (jvc x A4 A5 c4 c5)] W fun e w' => ∃ v, e = .returned (.tuple #[.bool false, v]) ∧ Below W.heap.size W w')
  (hP : ∀ W, Below w.heap.size w W → Calls Tryz.prog 41 #[.agg #[.string ⟨#[49]⟩, .string kn, .slice Ap np cp, .slice Aa2 0 ca2, .string tx, .slice An nn cn, nilS, nilS]] W fun e w' => e = .returned (.bool true) ∧ Below W.heap.size W w')
  (hR0 : ∀ W, Below w.heap.size w W → Calls Tryz.prog 43 #[.int .i64 2020, .agg #[.slice (some ⟨gn, 0, none⟩) 1 cS, nilS], .int .i64 1, .agg (jvc x A4 A5 c4 c5), .agg #[.string ⟨#[49]⟩, .string ⟨#[83, 99, 104, 101, 109, 97]⟩, .slice Aq 0 cq, .slice Aa 0 ca, .string ⟨#[]⟩, .slice none 0 0, nilS, .slice (some ⟨gx, 0, none⟩) 1 cx]] W fun e w' => e = .returned (.bool true) ∧ Below W.heap.size W w')
  (hR1 : ∀ W, Below w.heap.size w W → Calls Tryz.prog 43 #[.int .i64 2020, .agg #[.slice (some ⟨gn, 0, none⟩) 1 cS, nilS], .int .i64 1, .agg (jvc x A4 A5 c4 c5), .agg #[.string ⟨#[49]⟩, .string kn, .slice Ap np cp, .slice Aa2 0 ca2, .string tx, .slice An nn cn, nilS, nilS]] W fun e w' => e = .returned (.bool true) ∧ Below W.heap.size W w') :
  Calls Tryz.prog 17 #[.int .i64 2020, .slice (some ⟨gn, 0, none⟩) 1 cS, .agg (jvc x A4 A5 c4 c5), .agg #[.string ⟨#[49]⟩, .string ⟨#[83, 99, 104, 101, 109, 97]⟩, .slice Aq 0 cq, .slice Aa 0 ca, .string ⟨#[]⟩, .slice none 0 0, nilS, .slice (some ⟨gx, 0, none⟩) 1 cx]] w fun e w' => e = .returned (.bool true) ∧ Below w.heap.size w w' := by
 refine er17 w (some ⟨gn, 0, none⟩) cS x A4 A5 c4 c5 _ _ _ Aq Aa none (some ⟨gx, 0, none⟩) 0 cq 0 ca 0 0 1 cx (fun W2 gc hb2 hg => ?_)
 refine er_root W2 (.slice (some ⟨gn, 0, none⟩) 1 cS) gc x A4 A5 c4 c5 ⟨#[]⟩ Aq Aa none cq ca 0 0 gx cx ⟨#[49]⟩ kn tx Ap Aa2 An np cp ca2 nn cn (fun W h => pathright_schema W _ ⟨#[]⟩ Aq Aa none (some ⟨gx, 0, none⟩) cq ca 0 1 cx []) (fun W h => nodes_one W gc _ cS (blk_below hg h))
   (fun W h => takes_any W (.slice (some ⟨gn, 0, none⟩) 1 cS) nilS false x A4 A5 c4 c5 (fun W' h' => hT W' (below_step hb2 (below_step h h')))) (fun W h => hR0 W (below_step hb2 h)) (fun i v h => cell_below hb2 (hC i v h)) (fun W3 h3 => ?_)
 exact er_leaf W3 (.slice (some ⟨gn, 0, none⟩) 1 cS) gc x A4 A5 c4 c5 tx kn Ap Aa2 An np cp ca2 nn cn (fun W h => hP W (below_step hb2 (below_step h3 h))) (fun W h => nodes_one W gc _ cS (blk_below hg (below_step h3 h)))
   (fun W h => takes_any W (.slice (some ⟨gn, 0, none⟩) 1 cS) nilS false x A4 A5 c4 c5 (fun W' h' => hT W' (below_step hb2 (below_step h3 (below_step h h'))))) (fun W h => hR1 W (below_step hb2 (below_step h3 h)))
theorem tells_of (w : World) (gn cS : Nat) (x : S25) (A4 A5 : Option Addr) (c4 c5 : Nat) (tx kn : ByteArray) (path names : List ByteArray) (A2 : Option Addr) (n2 c2 : Nat)
  (h14 : ∀ W, Below w.heap.size w W → Calls Tryz.prog 14 #[.slice (some ⟨gn, 0, none⟩) 1 cS, .agg (jvc x A4 A5 c4 c5)] W fun e w' => Told ⟨#[49]⟩ kn (.string tx) path names W e w')
  (hT : ∀ W, Below w.heap.size w W → Calls Tryz.prog 20 #[.int .i64 2020, .agg #[.slice (some ⟨gn, 0, none⟩) 1 cS, nilS], .int .i64 1, .agg (jvc x A4 A5 c4 c5)] W fun e w' => ∃ v, e = .returned (.tuple #[.bool false, v]) ∧ Below W.heap.size W w')
  (hP : ∀ W Ap cp Aa2 ca2 An cn, Below w.heap.size w W → (Fact.strs (.slice Ap path.length cp) path).P W → Calls Tryz.prog 41 #[.agg #[.string ⟨#[49]⟩, .string kn, .slice Ap path.length cp, .slice Aa2 0 ca2, .string tx, .slice An names.length cn, nilS, nilS]] W fun e w' => e = .returned (.bool true) ∧ Below W.heap.size W w')
  (hR0 : ∀ W Aq cq Aa ca gx cx, Below w.heap.size w W → Calls Tryz.prog 43 #[.int .i64 2020, .agg #[.slice (some ⟨gn, 0, none⟩) 1 cS, nilS], .int .i64 1, .agg (jvc x A4 A5 c4 c5), .agg #[.string ⟨#[49]⟩, .string ⟨#[83, 99, 104, 101, 109, 97]⟩, .slice Aq 0 cq, .slice Aa 0 ca, .string ⟨#[]⟩, .slice none 0 0, nilS, .slice (some ⟨gx, 0, none⟩) 1 cx]] W fun e w' => e = .returned (.bool true) ∧ Below W.heap.size W w')
  (hR1 : ∀ W Ap cp Aa2 ca2 An cn, Below w.heap.size w W → (Fact.strs (.slice An names.length cn) names).P W → Calls Tryz.prog 43 #[.int .i64 2020, .agg #[.slice (some ⟨gn, 0, none⟩) 1 cS, nilS], .int .i64 1, .agg (jvc x A4 A5 c4 c5), .agg #[.string ⟨#[49]⟩, .string kn, .slice Ap path.length cp, .slice Aa2 0 ca2, .string tx, .slice An names.length cn, nilS, nilS]] W fun e w' => e = .returned (.bool true) ∧ Below W.heap.size W w')
  (hA1 : ∀ W, Below w.heap.size w W → Calls Tryz.prog 21 #[.string kn, .slice A2 n2 c2] W fun e w' => e = .returned (.bool true) ∧ Below W.heap.size W w')
  (hA0 : ∀ W, Below w.heap.size w W → Calls Tryz.prog 21 #[.string ⟨#[83, 99, 104, 101, 109, 97]⟩, .slice A2 n2 c2] W fun e w' => e = .returned (.bool false) ∧ Below W.heap.size W w') :
  Calls Tryz.prog 8 #[.slice (some ⟨gn, 0, none⟩) 1 cS, .agg (jvc x A4 A5 c4 c5), .slice A2 n2 c2] w fun e w' => e = .returned (.bool true) ∧ Below w.heap.size w w' := by
 refine tells_err w _ cS x A4 A5 c4 c5 A2 n2 c2 (fun W hb => (h14 W hb).mono ?_)
 rintro e w' ⟨Aq, cq, Aa, ca, gx, cx, curx, Ap, cp, Aa2, ca2, An, cn, rfl, hg, _, _, hcur, hs1, hs2, hb'⟩
 have hw := below_step hb hb'
 have hC : ∀ (i : Nat) (v : Value), (#[.string ⟨#[49]⟩, .string kn, .slice Ap path.length cp, .slice Aa2 0 ca2, .string tx, .slice An names.length cn, nilS, nilS] : Array Value)[i]? = some v → w'.cell? ⟨gx, i, none⟩ = some v := fun i v h => (blk_cell hg i).trans (cell_of_take hcur (by simpa using h))
 have h16 := fun W (h : Below w'.heap.size w' W) => right16 W tx kn Aq Aa Ap Aa2 An A2 cq ca gx cx path.length cp ca2 names.length cn n2 c2 (fun i v hv => cell_below h (hC i v hv)) (fun W1 h1 => hA1 W1 (below_step hw (below_step h h1))) (fun W1 h1 => hA0 W1 (below_step hw (below_step h h1)))
 have h17 := fun W (h : Below w'.heap.size w' W) => right17 W gn cS x A4 A5 c4 c5 tx kn Aq Aa Ap Aa2 An cq ca gx cx path.length cp ca2 names.length cn (fun i v hv => cell_below h (hC i v hv))
  (fun W1 h1 => hT W1 (below_step hw (below_step h h1))) (fun W1 h1 => hP W1 Ap cp Aa2 ca2 An cn (below_step hw (below_step h h1)) ((Fact.strs _ path).below hs1 (below_step h h1))) (fun W1 h1 => hR0 W1 Aq cq Aa ca gx cx (below_step hw (below_step h h1))) (fun W1 h1 => hR1 W1 Ap cp Aa2 ca2 An cn (below_step hw (below_step h h1)) ((Fact.strs _ names).below hs2 (below_step h h1)))
 exact ⟨_, _, _, Aq, Aa, none, some ⟨gx, 0, none⟩, 0, cq, 0, ca, 0, 0, 1, cx, rfl, h16, h17, hb'⟩
theorem judge_word (w : World) (gn cS : Nat) (x : S25) (A4 A5 : Option Addr) (c4 c5 : Nat) (hx : Rep w x A4 c4 A5 c5) (hV : V x) (rq ne : Value) (b : Bool) (hn1 : (Nd.cells ⟨0, false, nilS, nilS, false, nilS, false, nilS, rq, ne⟩).all (·.oneCell') = true) (hS : w.heap[gn]? = some (row (Nd.cells ⟨0, false, nilS, nilS, false, nilS, false, nilS, rq, ne⟩) 45))
  (h75 : x.f0 = 5 → ∀ W, Below w.heap.size w W → Calls Tryz.prog 75 #[.agg (Nd.cells ⟨0, false, nilS, nilS, false, nilS, false, nilS, rq, ne⟩), .agg (jvc x A4 A5 c4 c5)] W fun e w' => e = .returned (.bool b) ∧ Below W.heap.size W w') (hb : x.f0 ≠ 5 → b = true) :
  Calls Tryz.prog 20 #[.int .i64 2020, .agg #[.slice (some ⟨gn, 0, none⟩) 1 cS, nilS], .int .i64 1, .agg (jvc x A4 A5 c4 c5)] w fun e w' => ∃ v, e = .returned (.tuple #[.bool b, v]) ∧ Below w.heap.size w w' := by
 have hV' := hV
 obtain ⟨k0, k5, k2, n3, n4, n5, t4, ee, sub⟩ := hV'
 have e2 : (x.f0 == 2) = false := beq_eq_false_iff_ne.2 k2
 by_cases h5 : x.f0 = 5
 ·have e3 : (x.f0 == 3) = false := by rw [h5]; rfl
  have e4 : (x.f0 == 4) = false := by rw [h5]; rfl
  have e5 : (x.f0 == 5) = true := by rw [h5]; rfl
  cases b with
  | true => exact judge_object_true w nilS ⟨0, false, nilS, nilS, false, nilS, false, nilS, rq, ne⟩ gn cS x A4 A5 c4 c5 rfl rfl rfl e2 e3 e4 e5 n4 (Nat.le_of_eq (ee h5)) hn1 hS n5 hx (h75 h5)
  | false => exact judge_object_false w nilS ⟨0, false, nilS, nilS, false, nilS, false, nilS, rq, ne⟩ gn cS x A4 A5 c4 c5 rfl rfl rfl e2 e3 e4 e5 n4 (Nat.le_of_eq (ee h5)) hn1 hS n5 hx (h75 h5)
 ·have e5 : (x.f0 == 5) = false := beq_eq_false_iff_ne.2 h5
  rw [hb h5]
  by_cases h3 : x.f0 = 3
  ·exact judge_str w nilS gn cS x A4 A5 c4 c5 rq ne e2 (by rw [h3]; rfl) (by rw [h3]; rfl) e5 n3 hn1 hS n5
  ·have e3 : (x.f0 == 3) = false := beq_eq_false_iff_ne.2 h3
   by_cases h4 : x.f0 = 4
   ·exact judge_array w nilS ⟨0, false, nilS, nilS, false, nilS, false, nilS, rq, ne⟩ gn cS x A4 A5 c4 c5 rfl rfl rfl e2 e3 (by rw [h4]; rfl) hn1 hS n5 hx (fun W h => twins_ok W hV (hx.below h))
   ·exact judge_other w nilS ⟨0, false, nilS, nilS, false, nilS, false, nilS, rq, ne⟩ gn cS x A4 A5 c4 c5 rfl rfl rfl e2 e3 (beq_eq_false_iff_ne.2 h4) e5 hn1 hS hx n5
theorem lacks_nil {xs names : List ByteArray} : lacks xs names = [] ↔ there xs names = true := by
 unfold lacks there
 simp [List.filter_eq_nil_iff]
def x0 : S25 := ⟨0, false, 0, ⟨#[]⟩, [], []⟩
theorem rep0 (w : World) : Rep w x0 none 0 none 0 := ⟨⟨rfl, by decide, fun h => absurd h (by decide)⟩, Nat.le_refl _, ⟨rfl, by decide, fun h => absurd h (by decide)⟩, Nat.le_refl _⟩
theorem v0 : V x0 := V.mk (by decide) (by decide) (by decide) (by decide) (by decide) (by decide) (by intro s h; cases h) (by decide) (by intro y h; cases h)
theorem among_one (W : World) (g2 : Nat) (s kn : ByteArray) (b : Bool) (h : W.heap[g2]? = some (row #[.string kn] 9)) (hb : ∃ k, spec_JAmong.f k s [kn] = some b) :
  Calls Tryz.prog 21 #[.string s, .slice (some ⟨g2, 0, none⟩) 1 1] W fun e w' => e = .returned (.bool b) ∧ Below W.heap.size W w' := by
 obtain ⟨k, hk⟩ := hb
 exact (spec_JAmong.calls k s (some ⟨g2, 0, none⟩) 1 [kn] b W (reads_one (enc := Value.string) h) (Nat.le_refl _) hk).mono (fun e w' h => ⟨h.1, h.2.below⟩)
theorem among_false : ∃ k, spec_JAmong.f k ⟨#[70, 97, 108, 115, 101, 83, 99, 104, 101, 109, 97]⟩ [⟨#[70, 97, 108, 115, 101, 83, 99, 104, 101, 109, 97]⟩] = some true := ⟨4, by kernel_rfl⟩
theorem among_falseS : ∃ k, spec_JAmong.f k ⟨#[83, 99, 104, 101, 109, 97]⟩ [⟨#[70, 97, 108, 115, 101, 83, 99, 104, 101, 109, 97]⟩] = some false := ⟨4, by kernel_rfl⟩
theorem kid_cells {W : World} {gx : Nat} {curx : Array Value} {l : List Value} (hg : W.heap[gx]? = some (row curx 54)) (hcur : curx.toList.take 8 = l) {l' : Array Value} (e : l'.toList = l) (i : Nat) (v : Value) (h : l'[i]? = some v) : W.cell? ⟨gx, i, none⟩ = some v :=
 (blk_cell hg i).trans (cell_of_take hcur (by rw [← e]; simpa using h))
theorem false16 (w : World) (gk : Nat) (Aq Aa Ap Aa2 An : Option Addr) (cq ca gx cx cp ca2 cn : Nat) (curx : Array Value) (hg : w.heap[gx]? = some (row curx 54)) (hcur : curx.toList.take 8 = [.string ⟨#[49]⟩, .string ⟨#[70, 97, 108, 115, 101, 83, 99, 104, 101, 109, 97]⟩, .slice Ap 0 cp, .slice Aa2 0 ca2, .string ⟨#[]⟩, .slice An 0 cn, nilS, nilS]) (hk : w.heap[gk]? = some (row #[.string ⟨#[70, 97, 108, 115, 101, 83, 99, 104, 101, 109, 97]⟩] 9)) :
  Calls Tryz.prog 16 #[.agg #[.string ⟨#[49]⟩, .string ⟨#[83, 99, 104, 101, 109, 97]⟩, .slice Aq 0 cq, .slice Aa 0 ca, .string ⟨#[]⟩, .slice none 0 0, nilS, .slice (some ⟨gx, 0, none⟩) 1 cx], .string ⟨#[49]⟩, .slice (some ⟨gk, 0, none⟩) 1 1] w fun e w' => e = .returned (.int .i64 1) ∧ Below w.heap.size w w' :=
 right16 w ⟨#[]⟩ ⟨#[70, 97, 108, 115, 101, 83, 99, 104, 101, 109, 97]⟩ Aq Aa Ap Aa2 An (some ⟨gk, 0, none⟩) cq ca gx cx 0 cp ca2 0 cn 1 1 (kid_cells hg hcur rfl) (fun W h => among_one W gk _ _ true (blk_below hk h) among_false) (fun W h => among_one W gk _ _ false (blk_below hk h) among_falseS)
theorem false17 (w : World) (gn : Nat) (Aq Aa Ap Aa2 An : Option Addr) (cq ca gx cx cp ca2 cn : Nat) (curx : Array Value) (hg : w.heap[gx]? = some (row curx 54)) (hcur : curx.toList.take 8 = [.string ⟨#[49]⟩, .string ⟨#[70, 97, 108, 115, 101, 83, 99, 104, 101, 109, 97]⟩, .slice Ap 0 cp, .slice Aa2 0 ca2, .string ⟨#[]⟩, .slice An 0 cn, nilS, nilS]) (hS : w.heap[gn]? = some (row (Nd.cells ⟨2, false, nilS, nilS, false, nilS, false, nilS, nilS, nilS⟩) 45)) :
  Calls Tryz.prog 17 #[.int .i64 2020, .slice (some ⟨gn, 0, none⟩) 1 1, .agg (jvc x0 none none 0 0), .agg #[.string ⟨#[49]⟩, .string ⟨#[83, 99, 104, 101, 109, 97]⟩, .slice Aq 0 cq, .slice Aa 0 ca, .string ⟨#[]⟩, .slice none 0 0, nilS, .slice (some ⟨gx, 0, none⟩) 1 cx]] w fun e w' => e = .returned (.bool true) ∧ Below w.heap.size w w' :=
 right17 w gn 1 x0 none none 0 0 ⟨#[]⟩ ⟨#[70, 97, 108, 115, 101, 83, 99, 104, 101, 109, 97]⟩ Aq Aa Ap Aa2 An cq ca gx cx 0 cp ca2 0 cn (kid_cells hg hcur rfl)
  (fun W h => judge_false W nilS gn 1 x0 none none 0 0 (blk_below hS h) (by decide)) (fun W h => pathright_false W _ ⟨#[]⟩ Ap Aa2 An none cp ca2 cn 0 0 [])
  (fun W h => kr_schema_false W gn 1 x0 none none 0 0 (blk_below hS h) _ ⟨#[]⟩ Aq Aa none (some ⟨gx, 0, none⟩) 0 cq ca 0 cx []) (fun W h => kr_false W gn 1 x0 none none 0 0 (blk_below hS h) _ ⟨#[]⟩ Ap Aa2 An none 0 cp ca2 cn 0 [])
set_option maxHeartbeats 4000000 in
set_option maxRecDepth 100000 in
theorem tells_false (w : World) : Calls Tryz.prog 10 #[] w fun e w' => e = .returned (.bool true) ∧ Below w.heap.size w w' := by
 have HK : Aside0 (At w [] w) := asd_ (At.start w)
 go_enter Tryz.func10, Tryz.ntmps10
 go_wp2_with (first | ((with_reducible refine gd_ 4 ?_); refine build_at (Nd.cells ⟨2, false, nilS, nilS, false, nilS, false, nilS, nilS, nilS⟩) rfl rfl rfl kr_ ?_) | ((with_reducible refine gd_ 5 ?_); refine buildSlice_at (t := 31) (e := 45) (Nd.cells ⟨2, false, nilS, nilS, false, nilS, false, nilS, nilS, nilS⟩) at_ rfl rfl rfl Tryz.underlying31 kr_ ?_; intro gn wb5 HK1 hgn; have Ggn := asd_ hgn; clear hgn; replace HK := asd_ HK1; clear HK1; skip) | ((with_reducible refine gd_ 6 ?_); refine build_at (jvc x0 none none 0 0) rfl rfl rfl kr_ ?_) | (go_at_call 14; refine (errors_false _ gn 1 x0 none none 0 0 (rep0 _) v0 rfl HK.out.k.1).mono ?_; rintro e w3 ⟨Aq, cq, Aa, ca, gx, cx, curx, Ap, cp, Aa2, ca2, An, cn, rfl, hg, hgx, _, hcur, _, _, hB⟩; have Hcur := asd_ hcur; have HK1 := At.came HK.out hB hg hgx; clear hB hg hgx hcur; replace HK := asd_ HK1; clear HK1; skip) | ((with_reducible refine gd_ 1 ?_); refine bx_ #[eS, eS, nilS, nilS, eS, nilS, nilS, nilS] 54 ?_; clear HK; intro g1 wb1 HK Gg1; have bg1 := cE HK 0) | ((with_reducible refine gate_ (.store 54 (.tmp 1) (.tmp 8)) rfl ?_); refine storerow_at (cs := #[eS, eS, nilS, nilS, eS, nilS, nilS, nilS]) (g := g1) 0 (#[.string ⟨#[49]⟩, .string ⟨#[83, 99, 104, 101, 109, 97]⟩, .slice Aq 0 cq, .slice Aa 0 ca, .string ⟨#[]⟩, .slice none 0 0, nilS, .slice (some ⟨gx, 0, none⟩) 1 cx]) at_ rfl Gg1.out rfl rfl rfl rfl rfl rfl kr_ rfl (by simp [Value.oneCell']) ?_; intro wr1 HK1; replace HK := asd_ HK1; clear HK1; clear bg1; have bg1 := cE HK 0) | ((with_reducible refine gd_ 12 ?_); (try (refine gate_guard (by rfl) ?_; dsimp only)); refine build_at (Nd.cells ⟨2, false, nilS, nilS, false, nilS, false, nilS, nilS, nilS⟩) rfl rfl rfl kr_ ?_) | ((with_reducible refine gd_ 13 ?_); (try (refine gate_guard (by rfl) ?_; dsimp only)); refine buildSlice_at (t := 31) (e := 45) (Nd.cells ⟨2, false, nilS, nilS, false, nilS, false, nilS, nilS, nilS⟩) at_ rfl rfl rfl Tryz.underlying31 kr_ ?_; intro gm wb13 HK1 hgm; have Ggm := asd_ hgm; clear hgm; replace HK := asd_ HK1; clear HK1; clear bg1; have bg1 := cE HK 1) | ((with_reducible refine gd_ 14 ?_); (try (refine gate_guard (by rfl) ?_; dsimp only)); refine build_at (jvc x0 none none 0 0) rfl rfl rfl kr_ ?_) | ((with_reducible refine gd_ 15 ?_); (try (refine gate_guard (by rfl) ?_; dsimp only)); refine lo_ 54 1 g1 (#[.string ⟨#[49]⟩, .string ⟨#[83, 99, 104, 101, 109, 97]⟩, .slice Aq 0 cq, .slice Aa 0 ca, .string ⟨#[]⟩, .slice none 0 0, nilS, .slice (some ⟨gx, 0, none⟩) 1 cx]) HK.out.k.2.1 Tryz.underlying54 ?_) | ((with_reducible refine gd_ 16 ?_); (try (refine gate_guard (by rfl) ?_; dsimp only)); refine cl_ #[.int .i64 2020, .slice (some ⟨gm, 0, none⟩) 1 1, .agg (jvc x0 none none 0 0), .agg #[.string ⟨#[49]⟩, .string ⟨#[83, 99, 104, 101, 109, 97]⟩, .slice Aq 0 cq, .slice Aa 0 ca, .string ⟨#[]⟩, .slice none 0 0, nilS, .slice (some ⟨gx, 0, none⟩) 1 cx]] (.bool true) Tryz.func17 (false17 _ gm Aq Aa Ap Aa2 An cq ca gx cx cp ca2 cn curx HK.out.k.2.2.1 Hcur.out HK.out.k.1) ?_; intro wc16 HK1; replace HK := asd_ HK1; clear HK1; clear bg1; have bg1 := cE HK 1) | ((with_reducible refine gd_ 19 ?_); (try (refine gate_guard (by rfl) ?_; dsimp only)); refine lo_ 54 1 g1 (#[.string ⟨#[49]⟩, .string ⟨#[83, 99, 104, 101, 109, 97]⟩, .slice Aq 0 cq, .slice Aa 0 ca, .string ⟨#[]⟩, .slice none 0 0, nilS, .slice (some ⟨gx, 0, none⟩) 1 cx]) HK.out.k.2.1 Tryz.underlying54 ?_) | ((with_reducible refine gd_ 20 ?_); (try (refine gate_guard (by rfl) ?_; dsimp only)); refine buildSlice_at (t := 22) (e := 9) (#[.string ⟨#[70, 97, 108, 115, 101, 83, 99, 104, 101, 109, 97]⟩]) at_ rfl rfl rfl Tryz.underlying22 kr_ ?_; intro gk wb20 HK1 hgk; have Ggk := asd_ hgk; clear hgk; replace HK := asd_ HK1; clear HK1; clear bg1; have bg1 := cE HK 2) | ((with_reducible refine gd_ 21 ?_); (try (refine gate_guard (by rfl) ?_; dsimp only)); refine cl_ #[.agg #[.string ⟨#[49]⟩, .string ⟨#[83, 99, 104, 101, 109, 97]⟩, .slice Aq 0 cq, .slice Aa 0 ca, .string ⟨#[]⟩, .slice none 0 0, nilS, .slice (some ⟨gx, 0, none⟩) 1 cx], .string ⟨#[49]⟩, .slice (some ⟨gk, 0, none⟩) 1 1] (.int .i64 1) Tryz.func16 (false16 _ gk Aq Aa Ap Aa2 An cq ca gx cx cp ca2 cn curx HK.out.k.2.2.2.1 Hcur.out HK.out.k.1) ?_; intro wc21 HK1; replace HK := asd_ HK1; clear HK1; clear bg1; have bg1 := cE HK 2))
 go_ret
 exact ⟨by first | rfl | simp, be_⟩
theorem strs_at {W : World} {A : Option Addr} {n c : Nat} {xs : List ByteArray} (h : (Fact.strs (.slice A n c) xs).P W) (hp : 0 < xs.length) : ∃ ad, A = some ad ∧ ∀ j s, xs[j]? = some s → W.cell? (ad.add j) = some (.string s) := by
 obtain ⟨h1, h2, h3⟩ := strs_D h
 obtain ⟨ad, e, hc⟩ := h3 hp
 refine ⟨ad, e, fun j s hj => ?_⟩
 obtain ⟨c, hl, hR, hcell⟩ := hc j s hj
 have hR' : c = [.string s] := hR
 subst hR'
 have := hcell 0 _ rfl
 rwa [show Kd.string.sz = 1 from rfl, Nat.mul_one, Nat.add_zero] at this
set_option maxHeartbeats 4000000 in
set_option maxRecDepth 100000 in
theorem tells_req (w : World) (gn cS : Nat) (x : S25) (A4 A5 : Option Addr) (c4 c5 : Nat) (hx : Rep w x A4 c4 A5 c5) (hV : V x) {A : Option Addr} {c : Nat} (names : List ByteArray) (hr : Kd.C Kd.string w A names.length names) (hc : names.length ≤ c) (hn : names.length ≤ LM) (hs : ∀ s ∈ names, s.size ≤ LM)
  (hS : w.heap[gn]? = some (row (Nd.cells ⟨0, false, nilS, nilS, false, nilS, false, nilS, .slice A names.length c, nilS⟩) 45)) (g2 : Nat) (hk : w.heap[g2]? = some (row #[.string ⟨#[82, 101, 113, 117, 105, 114, 101, 100]⟩] 9)) : Calls Tryz.prog 8 #[.slice (some ⟨gn, 0, none⟩) 1 cS, .agg (jvc x A4 A5 c4 c5), .slice (some ⟨g2, 0, none⟩) 1 1] w fun e w' => e = .returned (.bool true) ∧ Below w.heap.size w w' := by
 have hn1 : (Nd.cells ⟨0, false, nilS, nilS, false, nilS, false, nilS, .slice A names.length c, nilS⟩).all (·.oneCell') = true := by simp [Nd.cells, Value.oneCell']
 obtain ⟨k0, k5, k2, n3, n4, n5, t4, ee, sub⟩ := id hV
 obtain ⟨r, hrr, _, _, hmem⟩ := member_is x.f0 x.f1 x.f2 x.f3 x.f4 x.f5 ⟨#[]⟩ n4
 by_cases hcase : x.f0 = 5 ∧ lacks x.f4 names ≠ []
 ·obtain ⟨h5, hl⟩ := hcase
  obtain ⟨m0, mt, hm⟩ := List.exists_cons_of_ne_nil hl
  have hml : (m0 :: mt).length ≤ LM := by rw [← hm]; exact Nat.le_trans (List.length_filter_le _ _) hn
  have hth : there x.f4 names = false := by
   cases e : there x.f4 names with
   | false => rfl
   | true => exact absurd (lacks_nil.2 e) hl
  have k2' : (x.f0 != 2) = true := by rw [h5]; rfl
  have k4' : (x.f0 != 4) = true := by rw [h5]; rfl
  have k5' : (x.f0 != 5) = false := by rw [h5]; rfl
  refine tells_of w gn cS x A4 A5 c4 c5 ⟨#[]⟩ ⟨#[82, 101, 113, 117, 105, 114, 101, 100]⟩ [⟨#[114, 101, 113, 117, 105, 114, 101, 100]⟩] (m0 :: mt) (some ⟨g2, 0, none⟩) 1 1 (fun W hb => ?_) (fun W hb => ?_) (fun W Ap cp Aa2 ca2 An cn hb hF => ?_) (fun W Aq cqq Aa ca gx cx hb => ?_) (fun W Ap cp Aa2 ca2 An cn hb hF => ?_) (fun W hb => among_one W g2 _ _ true (blk_below hk hb) ⟨4, by kernel_rfl⟩) (fun W hb => among_one W g2 _ _ false (blk_below hk hb) ⟨4, by kernel_rfl⟩)
  ·have h := errors_req_some W gn cS x A4 A5 c4 c5 (hx.below hb) hV names (Kd.C_below hr hb) hc hn hs (blk_below hS hb) h5 hl
   rw [hm] at h
   exact h
  ·exact judge_word W gn cS x A4 A5 c4 c5 (hx.below hb) hV (.slice A names.length c) nilS false hn1 (blk_below hS hb) (fun _ W1 h1 => by
    have hb1 := below_step hb h1
    have h := needs_req W1 A c names x A4 A5 c4 c5 (hx.below hb1) (Kd.C_below hr hb1) hc n4 hn; rw [hth] at h; exact h) (fun h => absurd h5 h)
  ·obtain ⟨ad, rfl, hcl⟩ := strs_at hF (Nat.succ_pos _)
   exact pathright_req W _ ⟨#[]⟩ ad Aa2 An none cp ca2 cn 0 0 (m0 :: mt) ⟨hcl 0 _ rfl, trivial⟩
  ·exact kr_schema W gn cS x A4 A5 c4 c5 ⟨0, false, nilS, nilS, false, nilS, false, nilS, .slice A names.length c, nilS⟩ rfl hn1 (blk_below hS hb) _ ⟨#[]⟩ Aq Aa none (some ⟨gx, 0, none⟩) 0 cqq ca 0 cx []
  ·exact kr_req W gn cS x A4 A5 c4 c5 A c names (blk_below hS hb) _ ⟨#[]⟩ Ap Aa2 An none 1 cp ca2 cn 0 m0 mt k2' k4' k5' n3 (hx.below hb) n4 (Kd.C_below hr hb) hc hn (strs_D hF) (strs_E hF) hml hm
 ·have hno : x.f0 = 5 → lacks x.f4 names = [] := fun h => Classical.byContradiction fun hl => hcase ⟨h, hl⟩
  refine tells_none w (some ⟨gn, 0, none⟩) cS x A4 A5 c4 c5 (some ⟨g2, 0, none⟩) 1 1 (fun W hb => ?_) (fun W hb => valid_any W (some ⟨gn, 0, none⟩) 1 cS true x A4 A5 c4 c5 (fun W0 h0 => ?_))
  ·exact errors_req_none W gn cS x A4 A5 c4 c5 (hx.below hb) hV names (Kd.C_below hr hb) hc hn hs (blk_below hS hb) hno
  ·exact judge_word W0 gn cS x A4 A5 c4 c5 (hx.below (below_step hb h0)) hV (.slice A names.length c) nilS true hn1 (blk_below hS (below_step hb h0)) (fun e5 W1 h1 => by
    have hb1 := below_step (below_step hb h0) h1
    have h := needs_req W1 A c names x A4 A5 c4 c5 (hx.below hb1) (Kd.C_below hr hb1) hc n4 hn; rw [lacks_nil.1 (hno e5)] at h; exact h) (fun _ => rfl)
set_option maxHeartbeats 4000000 in
set_option maxRecDepth 100000 in
theorem tells_dep (w : World) (gn cS : Nat) (x : S25) (A4 A5 : Option Addr) (c4 c5 : Nat) (hx : Rep w x A4 c4 A5 c5) (hV : V x) {A : Option Addr} {c : Nat} (names : List ByteArray) (hr : Kd.C Kd.string w A names.length names) (hc : names.length ≤ c) (hn : names.length ≤ LM) (hs : ∀ s ∈ names, s.size ≤ LM) (gq cq : Nat) (name : ByteArray) (hns : name.size ≤ LM) (hq : w.heap[gq]? = some (row #[.string name, .slice A names.length c] 47))
  (hS : w.heap[gn]? = some (row (Nd.cells ⟨0, false, nilS, nilS, false, nilS, false, nilS, nilS, .slice (some ⟨gq, 0, none⟩) 1 cq⟩) 45)) (g2 : Nat) (hk : w.heap[g2]? = some (row #[.string ⟨#[68, 101, 112, 101, 110, 100, 101, 110, 116, 82, 101, 113, 117, 105, 114, 101, 100]⟩] 9)) : Calls Tryz.prog 8 #[.slice (some ⟨gn, 0, none⟩) 1 cS, .agg (jvc x A4 A5 c4 c5), .slice (some ⟨g2, 0, none⟩) 1 1] w fun e w' => e = .returned (.bool true) ∧ Below w.heap.size w w' := by
 have hn1 : (Nd.cells ⟨0, false, nilS, nilS, false, nilS, false, nilS, nilS, .slice (some ⟨gq, 0, none⟩) 1 cq⟩).all (·.oneCell') = true := by simp [Nd.cells, Value.oneCell']
 obtain ⟨k0, k5, k2, n3, n4, n5, t4, ee, sub⟩ := id hV
 obtain ⟨r, hrr, _, _, hmem⟩ := member_is x.f0 x.f1 x.f2 x.f3 x.f4 x.f5 name n4
 by_cases hcase : x.f0 = 5 ∧ mem x.f4 name ∧ lacks x.f4 names ≠ []
 ·obtain ⟨h5, hm1, hl⟩ := hcase
  obtain ⟨m0, mt, hm⟩ := List.exists_cons_of_ne_nil hl
  have hml : (m0 :: mt).length ≤ LM := by rw [← hm]; exact Nat.le_trans (List.length_filter_le _ _) hn
  have hth : there x.f4 names = false := by
   cases e : there x.f4 names with
   | false => rfl
   | true => exact absurd (lacks_nil.2 e) hl
  have k2' : (x.f0 != 2) = true := by rw [h5]; rfl
  have k4' : (x.f0 != 4) = true := by rw [h5]; rfl
  have k5' : (x.f0 != 5) = false := by rw [h5]; rfl
  refine tells_of w gn cS x A4 A5 c4 c5 name ⟨#[68, 101, 112, 101, 110, 100, 101, 110, 116, 82, 101, 113, 117, 105, 114, 101, 100]⟩ [⟨#[100, 101, 112, 101, 110, 100, 101, 110, 116, 82, 101, 113, 117, 105, 114, 101, 100]⟩, name] (m0 :: mt) (some ⟨g2, 0, none⟩) 1 1 (fun W hb => ?_) (fun W hb => ?_) (fun W Ap cp Aa2 ca2 An cn hb hF => ?_) (fun W Aq cqq Aa ca gx cx hb => ?_) (fun W Ap cp Aa2 ca2 An cn hb hF => ?_) (fun W hb => among_one W g2 _ _ true (blk_below hk hb) ⟨4, by kernel_rfl⟩) (fun W hb => among_one W g2 _ _ false (blk_below hk hb) ⟨4, by kernel_rfl⟩)
  ·have h := errors_needs_some W gn cS x A4 A5 c4 c5 (hx.below hb) hV names (Kd.C_below hr hb) hc hn hs gq cq name hns (blk_below hq hb) (blk_below hS hb) h5 hm1 hl
   rw [hm] at h
   exact h
  ·exact judge_word W gn cS x A4 A5 c4 c5 (hx.below hb) hV nilS (.slice (some ⟨gq, 0, none⟩) 1 cq) false hn1 (blk_below hS hb) (fun _ W1 h1 => by
    have hb1 := below_step hb h1
    exact needs_N2 W1 gq cq name A c names x A4 A5 c4 c5 (hx.below hb1) (blk_below hq hb1) (Kd.C_below hr hb1) hc n4 hn r hrr (decide_eq_true (hmem.2 hm1)) hth) (fun h => absurd h5 h)
  ·obtain ⟨ad, rfl, hcl⟩ := strs_at hF (Nat.succ_pos _)
   exact pathright_dep W _ name ad Aa2 An none cp ca2 cn 0 0 (m0 :: mt) ⟨hcl 0 _ rfl, hcl 1 _ rfl⟩
  ·exact kr_schema W gn cS x A4 A5 c4 c5 ⟨0, false, nilS, nilS, false, nilS, false, nilS, nilS, .slice (some ⟨gq, 0, none⟩) 1 cq⟩ rfl hn1 (blk_below hS hb) _ ⟨#[]⟩ Aq Aa none (some ⟨gx, 0, none⟩) 0 cqq ca 0 cx []
  ·exact kr_dep W gn cS x A4 A5 c4 c5 A c names gq cq (blk_below hS hb) _ name Ap Aa2 An none 2 cp ca2 cn 0 m0 mt k2' k4' k5' n3 (hx.below hb) n4 (Kd.C_below hr hb) hc hn (strs_D hF) (strs_E hF) hml hm (blk_below hq hb) r hrr (decide_eq_true (hmem.2 hm1))
 ·have hno : x.f0 = 5 → mem x.f4 name → lacks x.f4 names = [] := fun h h1 => Classical.byContradiction fun hl => hcase ⟨h, h1, hl⟩
  refine tells_none w (some ⟨gn, 0, none⟩) cS x A4 A5 c4 c5 (some ⟨g2, 0, none⟩) 1 1 (fun W hb => ?_) (fun W hb => valid_any W (some ⟨gn, 0, none⟩) 1 cS true x A4 A5 c4 c5 (fun W0 h0 => ?_))
  ·exact errors_needs_none W gn cS x A4 A5 c4 c5 (hx.below hb) hV names (Kd.C_below hr hb) hc hn hs gq cq name hns (blk_below hq hb) (blk_below hS hb) hno
  ·exact judge_word W0 gn cS x A4 A5 c4 c5 (hx.below (below_step hb h0)) hV nilS (.slice (some ⟨gq, 0, none⟩) 1 cq) true hn1 (blk_below hS (below_step hb h0)) (fun e5 W1 h1 => by
    have hb1 := below_step (below_step hb h0) h1
    by_cases hm1 : mem x.f4 name
    ·exact needs_N1 W1 gq cq name A c names x A4 A5 c4 c5 (hx.below hb1) (blk_below hq hb1) (Kd.C_below hr hb1) hc n4 hn r hrr (decide_eq_true (hmem.2 hm1)) (lacks_nil.1 (hno e5 hm1))
    ·exact needs_N0 W1 gq cq name A c names x A4 A5 c4 c5 (hx.below hb1) (blk_below hq hb1) (Kd.C_below hr hb1) hc n4 hn r hrr (decide_eq_false (fun h => hm1 (hmem.1 h)))) (fun _ => rfl)
end Go.Proofs.YtkphbhncpdcbeaaGreatDoor.J
