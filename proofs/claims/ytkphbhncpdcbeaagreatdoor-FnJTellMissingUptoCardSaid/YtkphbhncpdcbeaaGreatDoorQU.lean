/- Part of a proof. -/
import Derived.Test.YtkphbhncpdcbeaaGreatDoorQF
import Derived.Test.YtkphbhncpdcbeaaGreatDoorRows
import Derived.SliceStrings
import Derived.Deep.Slices
import Derived.Test.YtkphbhncpdcbeaaGreatDoorCards
import Derived.Test.YtkphbhncpdcbeaaGreatDoorTie
import Derived.Test.YtkphbhncpdcbeaaGreatDoorQT
import Derived.WalkKit
import Derived.ProofKit
import Derived.OpenShut
import Derived.ShutString
import Derived.Carry
import Derived.Deep.DeepHandedRow
import Derived.Lib.LaidTab
namespace Go.Proofs.YtkphbhncpdcbeaaGreatDoor.J
open Go.RowKit Go.Proofs.YtkphbhncpdcbeaaGreatDoorW.PrintWords Go.Proofs.YtkphbhncpdcbeaaGreatDoorW.PrintLast Go.Proofs.YtkphbhncpdcbeaaGreatDoorW.PrintMore Go.Proofs.YtkphbhncpdcbeaaGreatDoor.PJT
attribute [local go_sem] Nd.csize Sc.csize Nd.c0 Nd.c1 Nd.c2 Nd.c3 Nd.c4 Nd.c5 Nd.c6 Nd.c7 Nd.c8 Nd.c9 Nd.c10 Nd.c11 Nd.c12 Nd.c13 Nd.c14 Nd.c15 Nd.c16 Nd.c17 Nd.c18 Nd.c19 Nd.c20 Nd.c21 Nd.c22 Nd.c23 Nd.c24 Nd.c25 Nd.c26 Nd.c27 Nd.c28 Nd.c29 Nd.c30 Nd.c31 Nd.c32 Nd.c33 Nd.c34 Nd.c35 Nd.c36 Nd.c37 Nd.c38 Nd.c39 Nd.c40 Nd.c41 Nd.c42 Nd.c43 Nd.c44 Nd.c45 Nd.c46 Nd.c47 Nd.c48 Nd.c49 Nd.c50 Nd.c51 Nd.c52 Sc.c0 Sc.c1 Sc.c2 Sc.c3 Sc.c4 Sc.c5 Sc.c6 Sc.c7 Sc.c8 Sc.c9 Sc.c10 Sc.c11 Sc.c12 Sc.c13 Sc.c14 Sc.c15 Sc.c16 Sc.c17 Sc.c18 Sc.c19 Sc.c20 Sc.c21 Sc.c22 Sc.c23 Sc.c24 Sc.c25 Sc.c26 Sc.c27 Sc.c28 Sc.c29 Sc.c30 Sc.c31 Sc.c32 Sc.c33 Sc.c34 Sc.c35 Sc.c36 Sc.c37 Sc.c38 Sc.c39 Sc.c40 Sc.c41 Sc.c42 Sc.c43 Sc.c44 Sc.c45 Sc.c46 Sc.c47 Sc.c48 Sc.c49 Sc.c50 Sc.c51 Sc.c52
set_option linter.unusedVariables false
set_option linter.unusedSimpArgs false
instance : Inhabited S25 := ⟨z25⟩
section
variable {H : Type} {enc : TypeId × Value → H} {w : World}
theorem one_bulk (d : DataW H) : 1 ≤ Rows.uptoBulk d := by
 cases d with
 | lit l => cases l <;> simp [Rows.uptoBulk]
 | nil => simp [Rows.uptoBulk]
 | ptr d => simp [Rows.uptoBulk]
 | slice elems spare => simp [Rows.uptoBulk]
 | agg parts => simp [Rows.uptoBulk]
 | iface t d => simp [Rows.uptoBulk]
 | map entries => simp [Rows.uptoBulk]
 | held h => simp [Rows.uptoBulk]
theorem part_bulk {d : DataW H} {l : List (DataW H)} (h : d ∈ l) : Rows.uptoBulk d ≤ Rows.uptoBulkAll l := by
 induction l with
 | nil => cases h
 | cons x r ih =>
  simp only [Rows.uptoBulkAll]
  cases List.mem_cons.1 h with
  | inl e => subst e; omega
  | inr e => have := ih e; omega
theorem length_bulk (l : List (DataW H)) : l.length ≤ Rows.uptoBulkAll l := by
 induction l with
 | nil => simp [Rows.uptoBulkAll]
 | cons x r ih => have := one_bulk x; simp only [Rows.uptoBulkAll, List.length_cons]; omega
theorem open_names {fuel : Nat} {cs : List Value} {x : DataW H × List MemPlace} (h : DataW.trod enc Tryz.prog w 0 (fun _ => true) true fuel 22 cs = some x) :
  ∃ (A : Option Addr) (c : Nat) (l : List ByteArray), cs = [.slice A l.length c] ∧ l.length ≤ c ∧ Kd.C Kd.string w A l.length l ∧ ∀ B, Rows.uptoBulk x.1 ≤ B → l.length ≤ B ∧ ∀ s ∈ l, s.size ≤ B := by
 rcases ChangeShapes.open_strings Tryz.underlying22 Tryz.underlying9 (by kernel_rfl) h with ⟨rfl, rfl⟩ | ⟨a, len, cap, ss, rfl, _, hl, hm, hz, rfl, hcell, hsz⟩
 ·exact ⟨none, 0, [], rfl, Nat.le_refl _, ⟨rfl, by decide, fun h => absurd h (by decide)⟩, fun B _ => ⟨Nat.zero_le _, fun s hs => by cases hs⟩⟩
 ·simp only [if_true] at hz
  have hlen : (ss.take len).length = len := by rw [List.length_take]; omega
  refine ⟨some a, cap, ss.take len, by rw [hlen], by rw [hlen]; exact hl, ⟨rfl, ?_, fun _ => ⟨a, rfl, fun j p hj => ?_⟩⟩, fun B hB => ?_⟩
  ·rw [hlen]
   exact Nat.le_trans hl hm
  ·have hj' : j < len := by have := (List.getElem?_eq_some_iff.1 hj).1; omega
   rw [List.getElem?_take_of_lt hj'] at hj
   refine ⟨[.string p], rfl, rfl, fun i u hu => ?_⟩
   have hc := hcell j (by omega)
   rw [List.getD_eq_getElem?_getD, hj] at hc
   cases i with
   | zero =>
    simp only [List.getElem?_cons_zero, Option.some.injEq] at hu
    subst hu
    rw [show Kd.string.sz = 1 from rfl, Nat.mul_one, Nat.add_zero]
    exact hc
   | succ i => simp at hu
  ·simp only [Rows.uptoBulk] at hB
   have h1 := length_bulk (ChangeShapes.strs (H := H) (ss.take len))
   have h2 : (ChangeShapes.strs (H := H) (ss.take len)).length = len := by simp only [ChangeShapes.strs, List.length_map]; exact hlen
   refine ⟨by rw [hlen]; omega, fun s hs => ?_⟩
   have h3 := part_bulk (H := H) (d := .lit (.string s.data.toList)) (l := ChangeShapes.strs (ss.take len)) (List.mem_map.2 ⟨s, hs, rfl⟩)
   simp only [Rows.uptoBulk, Array.length_toList] at h3
   have h4 : s.data.size = s.size := rfl
   omega
theorem six_one {t : TypeId} (h : Tryz.prog.cellsOf t = 1) (c0 c1 c2 c3 c4 c5 : Value) (i : Nat) (v : Value) (hv : [c0, c1, c2, c3, c4, c5][i]? = some v) : ([c0, c1, c2, c3, c4, c5].drop i).take (Tryz.prog.cellsOf t) = [v] := by
 rw [h]
 match i, hv with
 | 0, hv => simp at hv; simp [hv]
 | 1, hv => simp at hv; simp [hv]
 | 2, hv => simp at hv; simp [hv]
 | 3, hv => simp at hv; simp [hv]
 | 4, hv => simp at hv; simp [hv]
 | 5, hv => simp at hv; simp [hv]
theorem cof3 : Tryz.prog.cellsOf 3 = 1 := by kernel_rfl
theorem cof4 : Tryz.prog.cellsOf 4 = 1 := by kernel_rfl
theorem cof9 : Tryz.prog.cellsOf 9 = 1 := by kernel_rfl
theorem cof22 : Tryz.prog.cellsOf 22 = 1 := by kernel_rfl
theorem cof23 : Tryz.prog.cellsOf 23 = 1 := by kernel_rfl
theorem cof25 : Tryz.prog.cellsOf 25 = 6 := by kernel_rfl
theorem len6 {cs : List Value} (h : cs.length = 6) : ∃ a b c d e f, cs = [a, b, c, d, e, f] := by
 match cs, h with
 | [a, b, c, d, e, f], _ => exact ⟨a, b, c, d, e, f, rfl⟩
theorem len6' {α : Type} {cs : List α} (h : cs.length = 6) : ∃ a b c d e f, cs = [a, b, c, d, e, f] := by
 match cs, h with
 | [a, b, c, d, e, f], _ => exact ⟨a, b, c, d, e, f, rfl⟩
theorem open_value (fuel : Nat) : ∀ (cs : List Value) (x : DataW H × List MemPlace), DataW.trod enc Tryz.prog w 0 (fun _ => true) true fuel 25 cs = some x →
  ∃ (s : S25) (A4 A5 : Option Addr) (k4 k5 : Nat), cs = [.int .i64 s.f0, .bool s.f1, .int .i64 s.f2, .string s.f3, .slice A4 s.f4.length k4, .slice A5 s.f5.length k5] ∧ Rep w s A4 k4 A5 k5 ∧ (Rows.uptoBulk x.1 ≤ LM → Sz s) := by
 induction fuel using Nat.strongRecOn with
 | ind fuel ih =>
  intro cs x h
  obtain ⟨xs, n, rfl, rfl, hlen, hxs, hf⟩ := DataW.trod_struct Tryz.underlying25 h
  rw [cof25] at hlen
  obtain ⟨v0, v1, v2, v3, v4, v5, rfl⟩ := len6 hlen
  obtain ⟨y0, y1, y2, y3, y4, y5, rfl⟩ := len6' (show xs.length = 6 from hxs)
  have h0 : DataW.trod enc Tryz.prog w 0 (fun _ => true) true n 3 (([v0, v1, v2, v3, v4, v5].drop 0).take (Tryz.prog.cellsOf 3)) = some y0 := hf 0 _ rfl
  rw [six_one cof3 v0 v1 v2 v3 v4 v5 0 v0 rfl] at h0
  have h1 : DataW.trod enc Tryz.prog w 0 (fun _ => true) true n 4 (([v0, v1, v2, v3, v4, v5].drop 1).take (Tryz.prog.cellsOf 4)) = some y1 := hf 1 _ rfl
  rw [six_one cof4 v0 v1 v2 v3 v4 v5 1 v1 rfl] at h1
  have h2 : DataW.trod enc Tryz.prog w 0 (fun _ => true) true n 3 (([v0, v1, v2, v3, v4, v5].drop 2).take (Tryz.prog.cellsOf 3)) = some y2 := hf 2 _ rfl
  rw [six_one cof3 v0 v1 v2 v3 v4 v5 2 v2 rfl] at h2
  have h3 : DataW.trod enc Tryz.prog w 0 (fun _ => true) true n 9 (([v0, v1, v2, v3, v4, v5].drop 3).take (Tryz.prog.cellsOf 9)) = some y3 := hf 3 _ rfl
  rw [six_one cof9 v0 v1 v2 v3 v4 v5 3 v3 rfl] at h3
  have h4 : DataW.trod enc Tryz.prog w 0 (fun _ => true) true n 22 (([v0, v1, v2, v3, v4, v5].drop 4).take (Tryz.prog.cellsOf 22)) = some y4 := hf 4 _ rfl
  rw [six_one cof22 v0 v1 v2 v3 v4 v5 4 v4 rfl] at h4
  have h5 : DataW.trod enc Tryz.prog w 0 (fun _ => true) true n 23 (([v0, v1, v2, v3, v4, v5].drop 5).take (Tryz.prog.cellsOf 23)) = some y5 := hf 5 _ rfl
  rw [six_one cof23 v0 v1 v2 v3 v4 v5 5 v5 rfl] at h5
  obtain ⟨n0, e0, _, _⟩ := DataW.trod_int Tryz.underlying3 h0
  obtain ⟨b1, e1, _⟩ := DataW.trod_bool Tryz.underlying4 h1
  obtain ⟨n2, e2, _, _⟩ := DataW.trod_int Tryz.underlying3 h2
  obtain ⟨t3, e3, d3, _⟩ := DataW.trod_string Tryz.underlying9 h3
  obtain ⟨A4, k4, l4, e4, hl4, hC4, hB4⟩ := open_names h4
  have hitems : ∃ (A5 : Option Addr) (k5 : Nat) (l5 : List S25), [v5] = [Value.slice A5 l5.length k5] ∧ l5.length ≤ k5 ∧ Kd.C k25 w A5 l5.length l5 ∧ (Rows.uptoBulk y5.1 ≤ LM → l5.length ≤ LM ∧ ∀ y ∈ l5, Sz y) := by
   rcases DataW.trod_slice Tryz.underlying23 h5 with ⟨e, he⟩ | ⟨a, len, cap, elems, rest, m, hm, e, hy, _, hl, hmx, hel, hall, _⟩
   ·refine ⟨none, 0, [], e, Nat.le_refl _, ⟨rfl, by decide, fun h => absurd h (by decide)⟩, fun _ => ⟨by decide, fun y hy => by cases hy⟩⟩
   ·rw [cof25] at hall
    have hone : ∀ i, i < len → ∃ s : S25, ∃ y : DataW H × List MemPlace, elems[i]? = some y ∧ (∃ c, c.length = 6 ∧ k25.K w s c ∧ ∀ j u, c[j]? = some u → w.cell? (a.add (i * 6 + j)) = some u) ∧ (Rows.uptoBulk y.1 ≤ LM → Sz s) := by
     intro i hi
     have hi' := hall i hi
     rw [List.getElem?_eq_getElem (by omega)] at hi'
     obtain ⟨cs', hc1, hc2⟩ := Option.bind_eq_some_iff.1 hi'
     obtain ⟨s, B4, B5, q4, q5, rfl, hR, hS⟩ := ih m (by omega) cs' _ hc2
     obtain ⟨_, hcl, hcc⟩ := World.cells?_some hc1
     refine ⟨s, _, List.getElem?_eq_getElem (by omega), ⟨_, rfl, k25_mk w s hR.l4 hR.h4 hR.l5 hR.h5, fun j u hu => ?_⟩, hS⟩
     have hj : j < 6 := by have := (List.getElem?_eq_some_iff.1 hu).1; simpa using this
     rw [← Deep.add_add, hcc j hj, hu]
    obtain ⟨X, hX⟩ := Deep.choose_lt hone
    have hlX : ((List.range len).map X).length = len := by rw [List.length_map, List.length_range]
    refine ⟨some a, cap, (List.range len).map X, by rw [hlX]; exact e, by rw [hlX]; exact hl, ⟨rfl, by rw [hlX]; exact Nat.le_trans hl hmx, fun _ => ⟨a, rfl, fun j p hj => ?_⟩⟩, fun hB => ?_⟩
    ·have hj' : j < len := by have := (List.getElem?_eq_some_iff.1 hj).1; omega
     rw [List.getElem?_map, List.getElem?_range hj'] at hj
     simp only [Option.map_some, Option.some.injEq] at hj
     subst hj
     obtain ⟨y, _, ⟨c, hc6, hcK, hcc⟩, _⟩ := hX j hj'
     exact ⟨c, hc6, hcK, hcc⟩
    ·rw [hy] at hB
     simp only [Rows.uptoBulk] at hB
     have hlb := length_bulk (elems.map (·.1))
     rw [List.length_map] at hlb
     refine ⟨by rw [hlX]; omega, fun y hy => ?_⟩
     obtain ⟨i, hi, rfl⟩ := List.mem_map.1 hy
     obtain ⟨z, hz, _, hS⟩ := hX i (List.mem_range.1 hi)
     refine hS ?_
     have := part_bulk (H := H) (List.mem_map.2 ⟨z, List.mem_of_getElem? hz, rfl⟩ : z.1 ∈ elems.map (·.1))
     omega
  obtain ⟨A5, k5, l5, e5, hl5, hC5, hB5⟩ := hitems
  simp only [List.cons.injEq, and_true] at e0 e1 e2 e3 e4 e5
  subst e0 e1 e2 e3 e4 e5
  refine ⟨⟨n0, b1, n2, t3, l4, l5⟩, A4, A5, k4, k5, rfl, ⟨hC4, hl4, hC5, hl5⟩, fun hB => ?_⟩
  simp only [Rows.uptoBulk, List.map_cons, List.map_nil, Rows.uptoBulkAll] at hB
  have b3 : Rows.uptoBulk y3.1 = t3.size + 1 := by
   rw [d3]; simp only [Rows.uptoBulk, Array.length_toList]; rfl
  obtain ⟨s1, s2⟩ := hB4 LM (by omega)
  obtain ⟨s3, s4⟩ := hB5 (by omega)
  exact Sz.mk (by show t3.size ≤ LM; omega) s1 s3 s2 s4
end
end Go.Proofs.YtkphbhncpdcbeaaGreatDoor.J
namespace Go.Proofs.YtkphbhncpdcbeaaGreatDoor.fnJTellMissing
open Go.ChangeShapes Go.WideShapes Go.ChangeAt Go.RowKit
open Go.ChangeMaps (open_string shut_string)
open Go.Proofs.YtkphbhncpdcbeaaGreatDoor.J Go.Proofs.YtkphbhncpdcbeaaGreatDoor.PJT
theorem own : ownKnob Tryz.prog.godebug = none := by kernel_rfl
theorem laidOut : laidOutB Tryz.prog = true := by kernel_rfl
theorem c22 : Tryz.prog.readableRec 22 = true := by kernel_rfl
theorem c25' : Tryz.prog.readableRec 25 = true := by kernel_rfl
set_option maxRecDepth 100000 in
/-- What the walk gives, for every argument. -/
theorem contract (H : Type) (enc : TypeId × Value → H) (W : World) (base : Nat) (args : Array Value) (ds gs : List (DataW H)) (before : List MemPlace)
  (hval : ∀ (j : Nat) t v, Tryz.f3.params[j]? = some t → args[j]? = some v → Value.okWide Tryz.prog W .any base t v)
  (hW : DataW.Whole enc Tryz.prog Tryz.f3.params.toList Rows.fnJTellMissingSpec.vars false W args.toList ds gs before) (hk : Rows.uptoSmall H (ds ++ gs) = true) :
  Calls Tryz.prog 3 args W fun e W' => ∃ v, e = .returned v ∧ Rows.fnJTellMissingSpec.post enc Tryz.prog Tryz.f3 false true false false W args v W' := by
 have hW' := hW
 obtain ⟨p, q, hA0, hV, rfl, hfz, hnd⟩ := hW
 have hA : DataW.TrodAll enc Tryz.prog W 0 (fun _ => true) true Tryz.f3.params.toList args.toList ds p := hA0
 rw [Tryz.params3] at hA hval
 obtain ⟨v0, vs0, d0, ds0, p0, q0, hargs, rfl, rfl, h0, r0⟩ := trodAll_cons hA
 obtain ⟨v1, vs1, d1, ds1, p1, q1, rfl, rfl, rfl, h1, r1⟩ := trodAll_cons r0
 obtain ⟨v2, vs2, d2, ds2, p2, q2, rfl, rfl, rfl, h2, r2⟩ := trodAll_cons r1
 obtain ⟨rfl, rfl, rfl⟩ := trodAll_nil r2
 obtain rfl : args = #[v0, v1, v2] := by cases args; simp_all
 obtain ⟨rfl, rfl⟩ := trodVars_none hV
 have k0 := h0
 have k2 := h2
 have lt0 : ∀ x ∈ p0, x.block < W.heap.size := by obtain ⟨m, hm⟩ := k0; exact DataW.trod_lt m _ _ _ hm
 have lt2 : ∀ x ∈ p2, x.block < W.heap.size := by obtain ⟨m, hm⟩ := k2; exact DataW.trod_lt m _ _ _ hm
 obtain ⟨a0, len0, cap0, rfl⟩ := okWide_slice Tryz.underlying22 (hval 0 22 v0 rfl rfl)
 obtain ⟨cs2, rfl, _⟩ := okWide_struct Tryz.underlying25 (hval 2 25 v2 rfl rfl)
 obtain ⟨name, rfl, rfl, rfl, y1⟩ := open_string Tryz.underlying9 (hval 1 9 v1 rfl rfl) h1
 obtain ⟨fuel0, hf0⟩ := h0
 obtain ⟨fuel2, hf2⟩ := h2
 obtain ⟨A, c, names, e0, hc, hr, hB0⟩ := open_names hf0
 obtain ⟨x, A4, A5, c4, c5, e2, hx, hB2⟩ := open_value fuel2 _ _ hf2
 obtain ⟨rfl, rfl, rfl⟩ : a0 = A ∧ len0 = names.length ∧ cap0 = c := by
  have := List.cons.inj (show [Value.slice a0 len0 cap0] = [Value.slice A names.length c] from e0)
  have := this.1
  injection this with h1 h2 h3
  exact ⟨h1, h2, h3⟩
 obtain rfl : cs2 = jvc x A4 A5 c4 c5 := by
  apply Array.ext'
  exact e2
 clear hA0
 have hb : Rows.uptoBulkAll [d0, .lit (.string name.data.toList), d2] ≤ 1048576 := by
  simp only [List.append_nil] at hk
  exact of_decide_eq_true hk
 simp only [Rows.uptoBulkAll, Rows.uptoBulk, Array.length_toList] at hb
 have hns : name.size ≤ LM := by
  have h4 : name.data.size = name.size := rfl
  simp only [LM]; omega
 obtain ⟨hn, hs⟩ := hB0 LM (by simp only [LM]; omega)
 have hz := hB2 (by simp only [LM]; omega)
 refine (law_any W x A4 A5 c4 c5 a0 cap0 names name hx hz hr hc hn hs hns).mono fun e W' ⟨he, bel⟩ => ?_
 subst he
 exact ⟨_, rfl, _, _, _, [], _, [], hW', trodAll_mk1 (shut_bool Tryz.underlying4 _),
  (trodAll_cons_mk (Below.trod laidOut c22 (of_decide_eq_true (by kernel_rfl)) k0 bel lt0) (trodAll_cons_mk (shut_string Tryz.underlying9 y1) (trodAll_cons_mk (Below.trod laidOut c25' (of_decide_eq_true (by kernel_rfl)) k2 bel lt2) trodAll_mk0))), rfl, bel.frame _, fun h => by cases h⟩
def lay (g : Nat) (cs : Array Value) (h : Array Obj) : Array Obj := h.modify g fun
 | .cells _ t frozen => .cells cs t frozen
 | o => o
noncomputable def laidWorld (os : Os) : World :=
 { World.holding Tryz.prog os ⟨#[], #[], []⟩ with heap := lay 3 #[.int .u8 0, .int .u8 1, .int .u8 56, .int .u8 2, .int .u8 57, .int .u8 49, .int .u8 28, .int .u8 3, .int .u8 61, .int .u8 58, .int .u8 42, .int .u8 50, .int .u8 38, .int .u8 29, .int .u8 17, .int .u8 4, .int .u8 62, .int .u8 47, .int .u8 59, .int .u8 36, .int .u8 45, .int .u8 43, .int .u8 51, .int .u8 22, .int .u8 53, .int .u8 39, .int .u8 33, .int .u8 30, .int .u8 24, .int .u8 18, .int .u8 12, .int .u8 5, .int .u8 63, .int .u8 55, .int .u8 48, .int .u8 27, .int .u8 60, .int .u8 41, .int .u8 37, .int .u8 16, .int .u8 46, .int .u8 35, .int .u8 44, .int .u8 21, .int .u8 52, .int .u8 32, .int .u8 23, .int .u8 11, .int .u8 54, .int .u8 26, .int .u8 40, .int .u8 15, .int .u8 34, .int .u8 20, .int .u8 31, .int .u8 10, .int .u8 25, .int .u8 14, .int .u8 19, .int .u8 9, .int .u8 13, .int .u8 8, .int .u8 7, .int .u8 6] (lay 2 #[.int .u8 0, .int .u8 1, .int .u8 28, .int .u8 2, .int .u8 29, .int .u8 14, .int .u8 24, .int .u8 3, .int .u8 30, .int .u8 22, .int .u8 20, .int .u8 15, .int .u8 25, .int .u8 17, .int .u8 4, .int .u8 8, .int .u8 31, .int .u8 27, .int .u8 13, .int .u8 23, .int .u8 21, .int .u8 19, .int .u8 16, .int .u8 7, .int .u8 26, .int .u8 12, .int .u8 18, .int .u8 6, .int .u8 11, .int .u8 5, .int .u8 10, .int .u8 9] (lay 0 #[.int .u64 1, .int .u64 10, .int .u64 100, .int .u64 1000, .int .u64 10000, .int .u64 100000, .int .u64 1000000, .int .u64 10000000, .int .u64 100000000, .int .u64 1000000000, .int .u64 10000000000, .int .u64 100000000000, .int .u64 1000000000000, .int .u64 10000000000000, .int .u64 100000000000000, .int .u64 1000000000000000, .int .u64 10000000000000000, .int .u64 100000000000000000, .int .u64 1000000000000000000, .int .u64 10000000000000000000] (World.holding Tryz.prog os ⟨#[], #[], []⟩).heap)) }
def wargs : Array Value := #[.slice none 0 0, .string ⟨#[]⟩, .agg #[.int .i64 0, .bool false, .int .i64 0, .string ⟨#[]⟩, .slice none 0 0, .slice none 0 0]]
theorem laid_met (os : Os) : laidMet Tryz.prog Rows.fnJTellMissingUptoRow.laid ((laidWorld os).forCall (fun _ _ => 0) ⟨#[], wargs, []⟩).memory :=
 laidMet_of_run' 8 (by kernel_rfl) (by kernel_rfl)
theorem reads (os : Os) {H : Type} (enc : TypeId × Value → H) : ∃ places, DataW.whole enc Tryz.prog ((laidWorld os).forCall (fun _ _ => 0) ⟨#[], wargs, []⟩).memory Tryz.f3.params.toList Rows.fnJTellMissingSpec.vars false wargs.toList 8 =
  some ([.nil, .lit (.string []), .agg [.lit (.int .i64 0), .lit (.bool false), .lit (.int .i64 0), .lit (.string []), .nil, .nil]], [], places) :=
 ⟨[], by kernel_rfl⟩
set_option maxRecDepth 100000 in
theorem liftedUpto (os : Os) (started : os.Started) (H : Type) (enc : TypeId × Value → H) (F : Stop.Interp) :
  ReturnsInHanded {} Tryz.checked os 3 .any ((Rows.OpenSpec.upto Rows.fnJTellMissingSpec).preRow enc Tryz.prog Tryz.f3 Rows.fnJTellMissingUptoRow.domain false Rows.fnJTellMissingUptoRow.laid) (((Rows.OpenSpec.upto Rows.fnJTellMissingSpec).at F).post enc Tryz.prog Tryz.f3 false true false false) := by
 obtain ⟨places, hx⟩ := reads os enc
 refine returnsInHanded_of_row (C := Tryz.checked) (s := Rows.OpenSpec.upto Rows.fnJTellMissingSpec) own started (by kernel_rfl) Tryz.func3
  (witness_row_at (enc := enc) (C := Tryz.checked) false (laidWorld os) wargs rfl (by kernel_rfl) (by kernel_rfl) (by kernel_rfl)
   (OpenSpec.preRow_of_cond 8 hx (by kernel_rfl) (fun k hk => by cases hk; kernel_rfl) (by kernel_rfl) (laid_met os))) ?_
 intro W base args ds gs before hval hW _ hcond _ _ _ _
 exact contract H enc W base args ds gs before hval hW (hcond _ rfl)
theorem saidUpto : Rows.FnJTellMissingUptoSaid :=
 OpenClaim.holds_of_cond 3 Tryz.f3 rfl rfl rfl rfl rfl rfl rfl ⟨rfl, rfl, rfl, rfl, rfl⟩ rfl rfl rfl rfl rfl (by kernel_rfl) Tryz.func3 (by kernel_rfl)
  (of_decide_eq_true (by kernel_rfl)) (by unfold Func.isWrapper; first | (rw [if_pos (by decide +kernel)]; kernel_rfl) | (rw [if_neg (by decide +kernel)]; exact ⟨rfl, rfl⟩))
  (fun os started H enc _ F => by rw [OpenClaim.pre_eq_preRow]; exact liftedUpto os started H enc F)
theorem plain (f : FuncId) (fn : Func) (hf : Tryz.pinned.checked.prog.funcNamed "given.example/pub-querent/laws.FnJTellMissing" = some f) (hfn : Tryz.pinned.checked.prog.funcs[f]? = some fn) :
  true = Tryz.pinned.checked.prog.looks [] ∧ ∀ (j : Nat) t, fn.params[j]? = some t → Tryz.pinned.checked.prog.wantsStandIn t = false := by
 obtain rfl : f = 3 := Option.some.inj ((show Tryz.prog.funcNamed "given.example/pub-querent/laws.FnJTellMissing" = some 3 by kernel_rfl).symm.trans hf) |>.symm
 obtain rfl : fn = Tryz.f3 := (Option.some.inj (Tryz.func3.symm.trans hfn)).symm
 refine ⟨by kernel_rfl, fun j t ht => ?_⟩
 rw [Tryz.params3] at ht
 have hm : t = 22 ∨ t = 9 ∨ t = 25 := by simpa using Array.mem_of_getElem? ht
 rcases hm with rfl | rfl | rfl
 ·exact (show Tryz.prog.wantsStandIn 22 = false by kernel_rfl)
 ·exact (show Tryz.prog.wantsStandIn 9 = false by kernel_rfl)
 ·exact (show Tryz.prog.wantsStandIn 25 = false by kernel_rfl)
theorem cardUpto : Rows.FnJTellMissingUptoCardSaid :=
 Claim7.holds_tied_plain_at .later [] _ _ _ _ saidUpto (fun _ h => by cases h) (by kernel_rfl) (fun _ h => by cases h) fnJTellMissingUpto_row_tie rfl ⟨rfl, rfl⟩ (by kernel_rfl) rfl plain (by kernel_rfl)
end Go.Proofs.YtkphbhncpdcbeaaGreatDoor.fnJTellMissing
namespace Go.Proofs.YtkphbhncpdcbeaaGreatDoor
theorem fnJTellMissing_card : Rows.FnJTellMissingUptoCardSaid := fnJTellMissing.cardUpto
#print axioms fnJTellMissing_card
end Go.Proofs.YtkphbhncpdcbeaaGreatDoor
