/- Part of a proof. -/
import Derived.Test.YtkphbhncpdcbeaaGreatDoorQAB
import Derived.Test.YtkphbhncpdcbeaaGreatDoorQB
namespace Go.Proofs.YtkphbhncpdcbeaaGreatDoor.PJT
open Go.RowKit Go.Proofs.YtkphbhncpdcbeaaGreatDoorW.PrintWords Go.Proofs.YtkphbhncpdcbeaaGreatDoorW.PrintLast Go.Proofs.YtkphbhncpdcbeaaGreatDoorW.PrintMore
attribute [local go_sem] max2_int min2_int max_two min_two max_three min_three max_four min_four
set_option linter.unusedVariables false
set_option linter.unusedSimpArgs false
mutual
def spec_jProperIn.j0 : Nat → Int → Bool → Int → Bool → Int → ByteArray → List ByteArray → List (S25) → Option (Bool)
 | 0, _, _, _, _, _, _, _, _ => none
 | k + 1, x1, x52, x137000, x137001, x137002, x137003, x137004, x137005 => if x52 = true then (some false) else (spec_jProperIn.l0 k x1 0 x137000 x137001 x137002 x137003 x137004 x137005)
def spec_jProperIn.l0 : Nat → Int → Int → Int → Bool → Int → ByteArray → List ByteArray → List (S25) → Option (Bool)
 | 0, _, _, _, _, _, _, _, _ => none
 | k + 1, x1, x5, x137000, x137001, x137002, x137003, x137004, x137005 => if x5 < (x137004.length : Int) then (if 0 ≤ x5 then ((spec_JUtf8.f k (rdOf ByteArray.empty x137004 x5)).bind fun t140 => (if t140 = true then (spec_jProperIn.l0 k x1 (wrap64 (x5 + 1)) x137000 x137001 x137002 x137003 x137004 x137005) else (some false))) else (none)) else (spec_jProperIn.l1 k x1 0 x137000 x137001 x137002 x137003 x137004 x137005)
def spec_jProperIn.l1 : Nat → Int → Int → Int → Bool → Int → ByteArray → List ByteArray → List (S25) → Option (Bool)
 | 0, _, _, _, _, _, _, _, _ => none
 | k + 1, x1, x6, x137000, x137001, x137002, x137003, x137004, x137005 => if x6 < (x137005.length : Int) then (if 0 ≤ x6 then ((spec_jProperIn.f k ((rd_T25 x137005 x6).f0) ((rd_T25 x137005 x6).f1) ((rd_T25 x137005 x6).f2) ((rd_T25 x137005 x6).f3) ((rd_T25 x137005 x6).f4) ((rd_T25 x137005 x6).f5) (wrap64 (x1 - 1))).bind fun t142 => (if t142 = true then (spec_jProperIn.l1 k x1 (wrap64 (x6 + 1)) x137000 x137001 x137002 x137003 x137004 x137005) else (some false))) else (none)) else (some true)
def spec_jProperIn.f : Nat → Int → Bool → Int → ByteArray → List ByteArray → List (S25) → Int → Option (Bool)
 | 0, _, _, _, _, _, _, _ => none
 | k + 1, a0_0, a0_1, a0_2, a0_3, l0_4, l0_5, a1 => if a1 = 0 then (some false) else (if a0_0 < 0 then (spec_jProperIn.j0 k a1 true a0_0 a0_1 a0_2 a0_3 l0_4 l0_5) else (if a0_0 > 5 then (spec_jProperIn.j0 k a1 true a0_0 a0_1 a0_2 a0_3 l0_4 l0_5) else ((spec_JUtf8.f k a0_3).bind fun t137 => (if t137 = true then (if a0_0 = 2 then (if a0_3.toList = ([] : List UInt8) then (if a0_0 = 5 then (spec_jProperIn.j0 k a1 ((l0_4.length : Int) != (l0_5.length : Int)) a0_0 a0_1 a0_2 a0_3 l0_4 l0_5) else (spec_jProperIn.j0 k a1 false a0_0 a0_1 a0_2 a0_3 l0_4 l0_5)) else ((spec_JIsDecimal.f k a0_3).bind fun t138 => (if t138 = true then (if a0_0 = 5 then (spec_jProperIn.j0 k a1 ((l0_4.length : Int) != (l0_5.length : Int)) a0_0 a0_1 a0_2 a0_3 l0_4 l0_5) else (spec_jProperIn.j0 k a1 false a0_0 a0_1 a0_2 a0_3 l0_4 l0_5)) else (spec_jProperIn.j0 k a1 true a0_0 a0_1 a0_2 a0_3 l0_4 l0_5)))) else (if a0_0 = 5 then (spec_jProperIn.j0 k a1 ((l0_4.length : Int) != (l0_5.length : Int)) a0_0 a0_1 a0_2 a0_3 l0_4 l0_5) else (spec_jProperIn.j0 k a1 false a0_0 a0_1 a0_2 a0_3 l0_4 l0_5))) else (spec_jProperIn.j0 k a1 true a0_0 a0_1 a0_2 a0_3 l0_4 l0_5)))))
end
set_option maxHeartbeats 8000000 in
set_option maxRecDepth 100000 in
theorem spec_jProperIn.calls (k : Nat) : ∀ (a0_0 : Int) (a0_1 : Bool) (a0_2 : Int) (a0_3 : ByteArray) (A0_4 : Option Addr) (c0_4 : Nat) (l0_4 : List ByteArray) (A0_5 : Option Addr) (c0_5 : Nat) (l0_5 : List (S25)) (a1 : Int) (r : Bool) (w : World) (hr0_4 : Kd.C Kd.string w A0_4 l0_4.length l0_4) (hc0_4 : l0_4.length ≤ c0_4) (hr0_5 : Kd.C k25 w A0_5 l0_5.length l0_5) (hc0_5 : l0_5.length ≤ c0_5) (h : spec_jProperIn.f k a0_0 a0_1 a0_2 a0_3 l0_4 l0_5 a1 = some r),
  Calls Tryz.prog 18 #[.agg #[.int .i64 a0_0, .bool a0_1, .int .i64 a0_2, .string a0_3, .slice A0_4 l0_4.length c0_4, .slice A0_5 l0_5.length c0_5], .int .i64 a1] w fun e w' => e = .returned (.bool r) ∧ Below w.heap.size w w' := by
 induction k using Nat.strongRecOn with
 | _ k ih =>
 intro a0_0 a0_1 a0_2 a0_3 A0_4 c0_4 l0_4 A0_5 c0_5 l0_5 a1 r w hr0_4 hc0_4 hr0_5 hc0_5 h
 cases k with
 | zero => exact absurd h (by simp [spec_jProperIn.f])
 | succ k =>
 simp only [spec_jProperIn.f] at h
 have hu25 := Tryz.underlying25
 have HR0_4 := asd_ hr0_4
 have HC0_4 := asd_ hc0_4
 clear hr0_4 hc0_4
 have HR0_5 := asd_ hr0_5
 have HC0_5 := asd_ hc0_5
 clear hr0_5 hc0_5
 have HB := asd_ (Below.refl w.heap.size w)
 have H : (if a1 = 0 then (some false) else (if a0_0 < 0 then (spec_jProperIn.j0 k a1 true a0_0 a0_1 a0_2 a0_3 l0_4 l0_5) else (if a0_0 > 5 then (spec_jProperIn.j0 k a1 true a0_0 a0_1 a0_2 a0_3 l0_4 l0_5) else ((spec_JUtf8.f k a0_3).bind fun t137 => (if t137 = true then (if a0_0 = 2 then (if a0_3.toList = ([] : List UInt8) then (if a0_0 = 5 then (spec_jProperIn.j0 k a1 ((l0_4.length : Int) != (l0_5.length : Int)) a0_0 a0_1 a0_2 a0_3 l0_4 l0_5) else (spec_jProperIn.j0 k a1 false a0_0 a0_1 a0_2 a0_3 l0_4 l0_5)) else ((spec_JIsDecimal.f k a0_3).bind fun t138 => (if t138 = true then (if a0_0 = 5 then (spec_jProperIn.j0 k a1 ((l0_4.length : Int) != (l0_5.length : Int)) a0_0 a0_1 a0_2 a0_3 l0_4 l0_5) else (spec_jProperIn.j0 k a1 false a0_0 a0_1 a0_2 a0_3 l0_4 l0_5)) else (spec_jProperIn.j0 k a1 true a0_0 a0_1 a0_2 a0_3 l0_4 l0_5)))) else (if a0_0 = 5 then (spec_jProperIn.j0 k a1 ((l0_4.length : Int) != (l0_5.length : Int)) a0_0 a0_1 a0_2 a0_3 l0_4 l0_5) else (spec_jProperIn.j0 k a1 false a0_0 a0_1 a0_2 a0_3 l0_4 l0_5))) else (spec_jProperIn.j0 k a1 true a0_0 a0_1 a0_2 a0_3 l0_4 l0_5)))))) = some r := h
 clear h
 by_cases c3 : a1 = 0
 ·rw [if_pos c3] at H
  have c3b0 : (a1 == 0) = true := beq_iff_eq.mpr c3
  have c3b1 : (a1 != 0) = false := bne_eq_false_iff_eq.mpr c3
  clear c3
  obtain rfl := Option.some.inj H
  go_enter Tryz.func18, Tryz.ntmps18
  go_wp2_with (first | ((with_reducible refine gate_dst (N := 2) rfl ?_); (try (refine gate_guard (by rfl) ?_; dsimp only)); refine box_event ?hg (N := 2) ?hd (cs := #[.int .i64 a0_0, .bool a0_1, .int .i64 a0_2, .string a0_3, .slice A0_4 l0_4.length c0_4, .slice A0_5 l0_5.length c0_5]) (t := 25) ?hr ?_; (case hd => rfl); (case hg => rfl); (case hr => first | (go_simp; done) | (go_simp; rfl)); intro gb136 hg w4 hbox hb; have n0_ := asd_ (below_step wb_ hb); have n1_ := asd_ (hbox); have n2_ := asd_ ((by rw [hg]; exact (below_size wb_) : w.heap.size ≤ gb136)); have n3_ := asd_ ((by rw [hg]; exact (below_size wb_) : w.heap.size ≤ gb136)); clear HB; have HB := n0_; have BK136 := n1_; have GW136 := n2_; have GE136 := n3_; clear n0_ n1_ n2_ n3_; clear hb hbox hg))
  go_ret
  exact ⟨er_, wb_⟩
 ·rw [if_neg c3] at H
  have c3b0 : (a1 == 0) = false := beq_eq_false_iff_ne.mpr c3
  have c3b1 : (a1 != 0) = true := bne_iff_ne.mpr c3
  have HC5 := asd_ H
  clear H
  go_enter Tryz.func18, Tryz.ntmps18
  go_upto_region 3 with (first | ((with_reducible refine gate_dst (N := 2) rfl ?_); (try (refine gate_guard (by rfl) ?_; dsimp only)); refine box_event ?hg (N := 2) ?hd (cs := #[.int .i64 a0_0, .bool a0_1, .int .i64 a0_2, .string a0_3, .slice A0_4 l0_4.length c0_4, .slice A0_5 l0_5.length c0_5]) (t := 25) ?hr ?_; (case hd => rfl); (case hg => rfl); (case hr => first | (go_simp; done) | (go_simp; rfl)); intro gb136 hg w6 hbox hb; have n0_ := asd_ (below_step wb_ hb); have n1_ := asd_ (hbox); have n2_ := asd_ ((by rw [hg]; exact (below_size wb_) : w.heap.size ≤ gb136)); have n3_ := asd_ ((by rw [hg]; exact (below_size wb_) : w.heap.size ≤ gb136)); clear HB; have HB := n0_; have BK136 := n1_; have GW136 := n2_; have GE136 := n3_; clear n0_ n1_ n2_ n3_; clear hb hbox hg))
  (try simp only [Act.put, List.setIfInBounds_toArray, List.set_cons_zero, List.set_cons_succ])
  go_cut [52] (fun v52 wc => ∃ (kq : Nat) (x52_4 : Bool), v52 = .bool x52_4 ∧ Aside0 (spec_jProperIn.j0 kq a1 x52_4 a0_0 a0_1 a0_2 a0_3 l0_4 l0_5 = some r) ∧ Aside0 (kq ≤ k) ∧ Aside0 (wc.heap[gb136]? = some (.cells #[.int .i64 a0_0, .bool a0_1, .int .i64 a0_2, .string a0_3, (.slice A0_4 l0_4.length c0_4), (.slice A0_5 l0_5.length c0_5)] 25 (0, 0))) ∧ Aside0 (Below w.heap.size w wc))
  case first =>
   have H := HC5.out
   clear HC5
   by_cases c7 : a0_0 < 0
   ·rw [if_pos c7] at H
    have c7b0 : decide (a0_0 < 0) = true := decide_eq_true c7
    clear c7
    (first | rw [c7b0] | (simp only [i64_w, i32_w]; rw [c7b0]) | skip)
    have H' := asd_ H
    clear H
    have hcz8_0 := cz_ BK136.out 0
    have hcz8_1 := cz_ BK136.out 1
    have hcz8_2 := cz_ BK136.out 2
    have hcz8_3 := cz_ BK136.out 3
    have hcz8_4 := cz_ BK136.out 4
    have hcz8_5 := cz_ BK136.out 5
    have hfz8_0 := blk_frozen BK136.out 0
    have hfz8_1 := blk_frozen BK136.out 1
    have hfz8_2 := blk_frozen BK136.out 2
    have hfz8_3 := blk_frozen BK136.out 3
    have hfz8_4 := blk_frozen BK136.out 4
    have hfz8_5 := blk_frozen BK136.out 5
    go_wp2
    go_meet
    case rel => exact ⟨_, (true), r1_, H', ⟨by first | omega | exact Nat.le_refl _⟩, ⟨bk_⟩, ⟨wb_⟩⟩
   ·rw [if_neg c7] at H
    have c7b0 : decide (a0_0 < 0) = false := decide_eq_false c7
    clear c7
    (first | rw [c7b0] | (simp only [i64_w, i32_w]; rw [c7b0]) | skip)
    by_cases c9 : a0_0 > 5
    ·rw [if_pos c9] at H
     have c9b0 : decide (5 < a0_0) = true := decide_eq_true c9
     clear c9
     have H' := asd_ H
     clear H
     have hcz10_0 := cz_ BK136.out 0
     have hcz10_1 := cz_ BK136.out 1
     have hcz10_2 := cz_ BK136.out 2
     have hcz10_3 := cz_ BK136.out 3
     have hcz10_4 := cz_ BK136.out 4
     have hcz10_5 := cz_ BK136.out 5
     have hfz10_0 := blk_frozen BK136.out 0
     have hfz10_1 := blk_frozen BK136.out 1
     have hfz10_2 := blk_frozen BK136.out 2
     have hfz10_3 := blk_frozen BK136.out 3
     have hfz10_4 := blk_frozen BK136.out 4
     have hfz10_5 := blk_frozen BK136.out 5
     go_wp2
     go_meet
     case rel => exact ⟨_, (true), r1_, H', ⟨by first | omega | exact Nat.le_refl _⟩, ⟨bk_⟩, ⟨wb_⟩⟩
    ·rw [if_neg c9] at H
     have c9b0 : decide (5 < a0_0) = false := decide_eq_false c9
     clear c9
     replace H := Option.bind_eq_some_iff.mp H
     obtain ⟨t137, A110, H⟩ := H
     replace H : (if t137 = true then (if a0_0 = 2 then (if a0_3.toList = ([] : List UInt8) then (if a0_0 = 5 then (spec_jProperIn.j0 k a1 ((l0_4.length : Int) != (l0_5.length : Int)) a0_0 a0_1 a0_2 a0_3 l0_4 l0_5) else (spec_jProperIn.j0 k a1 false a0_0 a0_1 a0_2 a0_3 l0_4 l0_5)) else ((spec_JIsDecimal.f k a0_3).bind fun t138 => (if t138 = true then (if a0_0 = 5 then (spec_jProperIn.j0 k a1 ((l0_4.length : Int) != (l0_5.length : Int)) a0_0 a0_1 a0_2 a0_3 l0_4 l0_5) else (spec_jProperIn.j0 k a1 false a0_0 a0_1 a0_2 a0_3 l0_4 l0_5)) else (spec_jProperIn.j0 k a1 true a0_0 a0_1 a0_2 a0_3 l0_4 l0_5)))) else (if a0_0 = 5 then (spec_jProperIn.j0 k a1 ((l0_4.length : Int) != (l0_5.length : Int)) a0_0 a0_1 a0_2 a0_3 l0_4 l0_5) else (spec_jProperIn.j0 k a1 false a0_0 a0_1 a0_2 a0_3 l0_4 l0_5))) else (spec_jProperIn.j0 k a1 true a0_0 a0_1 a0_2 a0_3 l0_4 l0_5)) = some r := H
     have A11 := asd_ A110
     clear A110
     by_cases c12 : t137 = true
     ·subst c12
      have H1 : (if a0_0 = 2 then (if a0_3.toList = ([] : List UInt8) then (if a0_0 = 5 then (spec_jProperIn.j0 k a1 ((l0_4.length : Int) != (l0_5.length : Int)) a0_0 a0_1 a0_2 a0_3 l0_4 l0_5) else (spec_jProperIn.j0 k a1 false a0_0 a0_1 a0_2 a0_3 l0_4 l0_5)) else ((spec_JIsDecimal.f k a0_3).bind fun t138 => (if t138 = true then (if a0_0 = 5 then (spec_jProperIn.j0 k a1 ((l0_4.length : Int) != (l0_5.length : Int)) a0_0 a0_1 a0_2 a0_3 l0_4 l0_5) else (spec_jProperIn.j0 k a1 false a0_0 a0_1 a0_2 a0_3 l0_4 l0_5)) else (spec_jProperIn.j0 k a1 true a0_0 a0_1 a0_2 a0_3 l0_4 l0_5)))) else (if a0_0 = 5 then (spec_jProperIn.j0 k a1 ((l0_4.length : Int) != (l0_5.length : Int)) a0_0 a0_1 a0_2 a0_3 l0_4 l0_5) else (spec_jProperIn.j0 k a1 false a0_0 a0_1 a0_2 a0_3 l0_4 l0_5))) = some r := by rw [if_pos rfl] at H; exact H
      clear H
      have H := H1
      clear H1
      by_cases c13 : a0_0 = 2
      ·rw [if_pos c13] at H
       have c13b0 : (a0_0 == 2) = true := beq_iff_eq.mpr c13
       have c13b1 : (a0_0 != 2) = false := bne_eq_false_iff_eq.mpr c13
       clear c13
       by_cases c14 : a0_3.toList = ([] : List UInt8)
       ·rw [if_pos c14] at H
        have c14b0 : (a0_3.toList == ([] : List UInt8)) = true := beq_iff_eq.mpr c14
        have c14b1 : (a0_3.toList != ([] : List UInt8)) = false := bne_eq_false_iff_eq.mpr c14
        clear c14
        by_cases c15 : a0_0 = 5
        ·rw [if_pos c15] at H
         have c15b0 : (a0_0 == 5) = true := beq_iff_eq.mpr c15
         have c15b1 : (a0_0 != 5) = false := bne_eq_false_iff_eq.mpr c15
         clear c15
         have H' := asd_ H
         clear H
         have hcz16_0 := cz_ BK136.out 0
         have hcz16_1 := cz_ BK136.out 1
         have hcz16_2 := cz_ BK136.out 2
         have hcz16_3 := cz_ BK136.out 3
         have hcz16_4 := cz_ BK136.out 4
         have hcz16_5 := cz_ BK136.out 5
         have hfz16_0 := blk_frozen BK136.out 0
         have hfz16_1 := blk_frozen BK136.out 1
         have hfz16_2 := blk_frozen BK136.out 2
         have hfz16_3 := blk_frozen BK136.out 3
         have hfz16_4 := blk_frozen BK136.out 4
         have hfz16_5 := blk_frozen BK136.out 5
         go_wp2_with (first | (go_at_call 25; (with_reducible refine (spec_JUtf8.calls k a0_3 true _ A11.out).mono ?_); rintro e w' ⟨rfl, ⟨nd, rfl⟩⟩))
         go_meet
         case rel => exact ⟨_, (((l0_4.length : Int) != (l0_5.length : Int))), r1_, H', ⟨by first | omega | exact Nat.le_refl _⟩, ⟨bk_⟩, ⟨wb_⟩⟩
        ·rw [if_neg c15] at H
         have c15b0 : (a0_0 == 5) = false := beq_eq_false_iff_ne.mpr c15
         have c15b1 : (a0_0 != 5) = true := bne_iff_ne.mpr c15
         have H' := asd_ H
         clear H
         have hcz17_0 := cz_ BK136.out 0
         have hcz17_1 := cz_ BK136.out 1
         have hcz17_2 := cz_ BK136.out 2
         have hcz17_3 := cz_ BK136.out 3
         have hcz17_4 := cz_ BK136.out 4
         have hcz17_5 := cz_ BK136.out 5
         have hfz17_0 := blk_frozen BK136.out 0
         have hfz17_1 := blk_frozen BK136.out 1
         have hfz17_2 := blk_frozen BK136.out 2
         have hfz17_3 := blk_frozen BK136.out 3
         have hfz17_4 := blk_frozen BK136.out 4
         have hfz17_5 := blk_frozen BK136.out 5
         go_wp2_with (first | (go_at_call 25; (with_reducible refine (spec_JUtf8.calls k a0_3 true _ A11.out).mono ?_); rintro e w' ⟨rfl, ⟨nd, rfl⟩⟩))
         go_meet
         case rel => exact ⟨_, (false), r1_, H', ⟨by first | omega | exact Nat.le_refl _⟩, ⟨bk_⟩, ⟨wb_⟩⟩
       ·rw [if_neg c14] at H
        have c14b0 : (a0_3.toList == ([] : List UInt8)) = false := beq_eq_false_iff_ne.mpr c14
        have c14b1 : (a0_3.toList != ([] : List UInt8)) = true := bne_iff_ne.mpr c14
        replace H := Option.bind_eq_some_iff.mp H
        obtain ⟨t138, A180, H⟩ := H
        replace H : (if t138 = true then (if a0_0 = 5 then (spec_jProperIn.j0 k a1 ((l0_4.length : Int) != (l0_5.length : Int)) a0_0 a0_1 a0_2 a0_3 l0_4 l0_5) else (spec_jProperIn.j0 k a1 false a0_0 a0_1 a0_2 a0_3 l0_4 l0_5)) else (spec_jProperIn.j0 k a1 true a0_0 a0_1 a0_2 a0_3 l0_4 l0_5)) = some r := H
        have A18 := asd_ A180
        clear A180
        by_cases c19 : t138 = true
        ·subst c19
         have H1 : (if a0_0 = 5 then (spec_jProperIn.j0 k a1 ((l0_4.length : Int) != (l0_5.length : Int)) a0_0 a0_1 a0_2 a0_3 l0_4 l0_5) else (spec_jProperIn.j0 k a1 false a0_0 a0_1 a0_2 a0_3 l0_4 l0_5)) = some r := by rw [if_pos rfl] at H; exact H
         clear H
         have H := H1
         clear H1
         by_cases c20 : a0_0 = 5
         ·rw [if_pos c20] at H
          have c20b0 : (a0_0 == 5) = true := beq_iff_eq.mpr c20
          have c20b1 : (a0_0 != 5) = false := bne_eq_false_iff_eq.mpr c20
          clear c20
          have H' := asd_ H
          clear H
          have hcz21_0 := cz_ BK136.out 0
          have hcz21_1 := cz_ BK136.out 1
          have hcz21_2 := cz_ BK136.out 2
          have hcz21_3 := cz_ BK136.out 3
          have hcz21_4 := cz_ BK136.out 4
          have hcz21_5 := cz_ BK136.out 5
          have hfz21_0 := blk_frozen BK136.out 0
          have hfz21_1 := blk_frozen BK136.out 1
          have hfz21_2 := blk_frozen BK136.out 2
          have hfz21_3 := blk_frozen BK136.out 3
          have hfz21_4 := blk_frozen BK136.out 4
          have hfz21_5 := blk_frozen BK136.out 5
          go_wp2_with (first | (go_at_call 25; (with_reducible refine (spec_JUtf8.calls k a0_3 true _ A11.out).mono ?_); rintro e w' ⟨rfl, ⟨nd, rfl⟩⟩) | (go_at_call 26; (with_reducible refine (spec_JIsDecimal.calls k a0_3 true _ A18.out).mono ?_); rintro e w22 ⟨rfl, hb⟩; have n0_ := asd_ (blk_below (g := gb136) (o := .cells #[.int .i64 a0_0, .bool a0_1, .int .i64 a0_2, .string a0_3, .slice A0_4 l0_4.length c0_4, .slice A0_5 l0_5.length c0_5] 25 (0, 0)) bk_ hb); have n1_ := asd_ (below_step wb_ hb); clear BK136; clear HB; have BK136 := n0_; have HB := n1_; clear n0_ n1_; (try clear hb); (try clear hb2); (try clear hk); (try clear hi); have hcz23_0 := cz_ BK136.out 0; have hcz23_1 := cz_ BK136.out 1; have hcz23_2 := cz_ BK136.out 2; have hcz23_3 := cz_ BK136.out 3; have hcz23_4 := cz_ BK136.out 4; have hcz23_5 := cz_ BK136.out 5; have hfz23_0 := blk_frozen BK136.out 0; have hfz23_1 := blk_frozen BK136.out 1; have hfz23_2 := blk_frozen BK136.out 2; have hfz23_3 := blk_frozen BK136.out 3; have hfz23_4 := blk_frozen BK136.out 4; have hfz23_5 := blk_frozen BK136.out 5))
          go_meet
          case rel => exact ⟨_, (((l0_4.length : Int) != (l0_5.length : Int))), r1_, H', ⟨by first | omega | exact Nat.le_refl _⟩, ⟨bk_⟩, ⟨wb_⟩⟩
         ·rw [if_neg c20] at H
          have c20b0 : (a0_0 == 5) = false := beq_eq_false_iff_ne.mpr c20
          have c20b1 : (a0_0 != 5) = true := bne_iff_ne.mpr c20
          have H' := asd_ H
          clear H
          have hcz24_0 := cz_ BK136.out 0
          have hcz24_1 := cz_ BK136.out 1
          have hcz24_2 := cz_ BK136.out 2
          have hcz24_3 := cz_ BK136.out 3
          have hcz24_4 := cz_ BK136.out 4
          have hcz24_5 := cz_ BK136.out 5
          have hfz24_0 := blk_frozen BK136.out 0
          have hfz24_1 := blk_frozen BK136.out 1
          have hfz24_2 := blk_frozen BK136.out 2
          have hfz24_3 := blk_frozen BK136.out 3
          have hfz24_4 := blk_frozen BK136.out 4
          have hfz24_5 := blk_frozen BK136.out 5
          go_wp2_with (first | (go_at_call 25; (with_reducible refine (spec_JUtf8.calls k a0_3 true _ A11.out).mono ?_); rintro e w' ⟨rfl, ⟨nd, rfl⟩⟩) | (go_at_call 26; (with_reducible refine (spec_JIsDecimal.calls k a0_3 true _ A18.out).mono ?_); rintro e w25 ⟨rfl, hb⟩; have n0_ := asd_ (blk_below (g := gb136) (o := .cells #[.int .i64 a0_0, .bool a0_1, .int .i64 a0_2, .string a0_3, .slice A0_4 l0_4.length c0_4, .slice A0_5 l0_5.length c0_5] 25 (0, 0)) bk_ hb); have n1_ := asd_ (below_step wb_ hb); clear BK136; clear HB; have BK136 := n0_; have HB := n1_; clear n0_ n1_; (try clear hb); (try clear hb2); (try clear hk); (try clear hi); have hcz26_0 := cz_ BK136.out 0; have hcz26_1 := cz_ BK136.out 1; have hcz26_2 := cz_ BK136.out 2; have hcz26_3 := cz_ BK136.out 3; have hcz26_4 := cz_ BK136.out 4; have hcz26_5 := cz_ BK136.out 5; have hfz26_0 := blk_frozen BK136.out 0; have hfz26_1 := blk_frozen BK136.out 1; have hfz26_2 := blk_frozen BK136.out 2; have hfz26_3 := blk_frozen BK136.out 3; have hfz26_4 := blk_frozen BK136.out 4; have hfz26_5 := blk_frozen BK136.out 5))
          go_meet
          case rel => exact ⟨_, (false), r1_, H', ⟨by first | omega | exact Nat.le_refl _⟩, ⟨bk_⟩, ⟨wb_⟩⟩
        ·replace c19 := Bool.eq_false_iff.mpr c19
         subst c19
         have H1 : (spec_jProperIn.j0 k a1 true a0_0 a0_1 a0_2 a0_3 l0_4 l0_5) = some r := by rw [if_neg (show ¬ (false = true) by decide)] at H; exact H
         clear H
         have H := H1
         clear H1
         have H' := asd_ H
         clear H
         have hcz27_0 := cz_ BK136.out 0
         have hcz27_1 := cz_ BK136.out 1
         have hcz27_2 := cz_ BK136.out 2
         have hcz27_3 := cz_ BK136.out 3
         have hcz27_4 := cz_ BK136.out 4
         have hcz27_5 := cz_ BK136.out 5
         have hfz27_0 := blk_frozen BK136.out 0
         have hfz27_1 := blk_frozen BK136.out 1
         have hfz27_2 := blk_frozen BK136.out 2
         have hfz27_3 := blk_frozen BK136.out 3
         have hfz27_4 := blk_frozen BK136.out 4
         have hfz27_5 := blk_frozen BK136.out 5
         go_wp2_with (first | (go_at_call 25; (with_reducible refine (spec_JUtf8.calls k a0_3 true _ A11.out).mono ?_); rintro e w' ⟨rfl, ⟨nd, rfl⟩⟩) | (go_at_call 26; (with_reducible refine (spec_JIsDecimal.calls k a0_3 false _ A18.out).mono ?_); rintro e w28 ⟨rfl, hb⟩; have n0_ := asd_ (blk_below (g := gb136) (o := .cells #[.int .i64 a0_0, .bool a0_1, .int .i64 a0_2, .string a0_3, .slice A0_4 l0_4.length c0_4, .slice A0_5 l0_5.length c0_5] 25 (0, 0)) bk_ hb); have n1_ := asd_ (below_step wb_ hb); clear BK136; clear HB; have BK136 := n0_; have HB := n1_; clear n0_ n1_; (try clear hb); (try clear hb2); (try clear hk); (try clear hi)))
         go_meet
         case rel => exact ⟨_, (true), r1_, H', ⟨by first | omega | exact Nat.le_refl _⟩, ⟨bk_⟩, ⟨wb_⟩⟩
      ·rw [if_neg c13] at H
       have c13b0 : (a0_0 == 2) = false := beq_eq_false_iff_ne.mpr c13
       have c13b1 : (a0_0 != 2) = true := bne_iff_ne.mpr c13
       by_cases c29 : a0_0 = 5
       ·rw [if_pos c29] at H
        have c29b0 : (a0_0 == 5) = true := beq_iff_eq.mpr c29
        have c29b1 : (a0_0 != 5) = false := bne_eq_false_iff_eq.mpr c29
        clear c29
        have H' := asd_ H
        clear H
        have hcz30_0 := cz_ BK136.out 0
        have hcz30_1 := cz_ BK136.out 1
        have hcz30_2 := cz_ BK136.out 2
        have hcz30_3 := cz_ BK136.out 3
        have hcz30_4 := cz_ BK136.out 4
        have hcz30_5 := cz_ BK136.out 5
        have hfz30_0 := blk_frozen BK136.out 0
        have hfz30_1 := blk_frozen BK136.out 1
        have hfz30_2 := blk_frozen BK136.out 2
        have hfz30_3 := blk_frozen BK136.out 3
        have hfz30_4 := blk_frozen BK136.out 4
        have hfz30_5 := blk_frozen BK136.out 5
        go_wp2_with (first | (go_at_call 25; (with_reducible refine (spec_JUtf8.calls k a0_3 true _ A11.out).mono ?_); rintro e w' ⟨rfl, ⟨nd, rfl⟩⟩))
        go_meet
        case rel => exact ⟨_, (((l0_4.length : Int) != (l0_5.length : Int))), r1_, H', ⟨by first | omega | exact Nat.le_refl _⟩, ⟨bk_⟩, ⟨wb_⟩⟩
       ·rw [if_neg c29] at H
        have c29b0 : (a0_0 == 5) = false := beq_eq_false_iff_ne.mpr c29
        have c29b1 : (a0_0 != 5) = true := bne_iff_ne.mpr c29
        have H' := asd_ H
        clear H
        have hcz31_0 := cz_ BK136.out 0
        have hcz31_1 := cz_ BK136.out 1
        have hcz31_2 := cz_ BK136.out 2
        have hcz31_3 := cz_ BK136.out 3
        have hcz31_4 := cz_ BK136.out 4
        have hcz31_5 := cz_ BK136.out 5
        have hfz31_0 := blk_frozen BK136.out 0
        have hfz31_1 := blk_frozen BK136.out 1
        have hfz31_2 := blk_frozen BK136.out 2
        have hfz31_3 := blk_frozen BK136.out 3
        have hfz31_4 := blk_frozen BK136.out 4
        have hfz31_5 := blk_frozen BK136.out 5
        go_wp2_with (first | (go_at_call 25; (with_reducible refine (spec_JUtf8.calls k a0_3 true _ A11.out).mono ?_); rintro e w' ⟨rfl, ⟨nd, rfl⟩⟩))
        go_meet
        case rel => exact ⟨_, (false), r1_, H', ⟨by first | omega | exact Nat.le_refl _⟩, ⟨bk_⟩, ⟨wb_⟩⟩
     ·replace c12 := Bool.eq_false_iff.mpr c12
      subst c12
      have H1 : (spec_jProperIn.j0 k a1 true a0_0 a0_1 a0_2 a0_3 l0_4 l0_5) = some r := by rw [if_neg (show ¬ (false = true) by decide)] at H; exact H
      clear H
      have H := H1
      clear H1
      have H' := asd_ H
      clear H
      have hcz32_0 := cz_ BK136.out 0
      have hcz32_1 := cz_ BK136.out 1
      have hcz32_2 := cz_ BK136.out 2
      have hcz32_3 := cz_ BK136.out 3
      have hcz32_4 := cz_ BK136.out 4
      have hcz32_5 := cz_ BK136.out 5
      have hfz32_0 := blk_frozen BK136.out 0
      have hfz32_1 := blk_frozen BK136.out 1
      have hfz32_2 := blk_frozen BK136.out 2
      have hfz32_3 := blk_frozen BK136.out 3
      have hfz32_4 := blk_frozen BK136.out 4
      have hfz32_5 := blk_frozen BK136.out 5
      go_wp2_with (first | (go_at_call 25; (with_reducible refine (spec_JUtf8.calls k a0_3 false _ A11.out).mono ?_); rintro e w' ⟨rfl, ⟨nd, rfl⟩⟩))
      go_meet
      case rel => exact ⟨_, (true), r1_, H', ⟨by first | omega | exact Nat.le_refl _⟩, ⟨bk_⟩, ⟨wb_⟩⟩
  case rest =>
   clear HC5
   obtain ⟨kq, x52_4, rfl, HA, HJ4, BK136, HB⟩ := hcut
   cases kq with
   | zero => exact absurd HA.out (by simp [spec_jProperIn.j0])
   | succ kj4 =>
    have H := HA.out
    clear HA
    simp only [spec_jProperIn.j0] at H
    by_cases c33 : x52_4 = true
    ·subst c33
     have H1 : (some false) = some r := by rw [if_pos rfl] at H; exact H
     clear H
     have H := H1
     clear H1
     obtain rfl := Option.some.inj H
     go_wp2
     go_ret
     exact ⟨er_, wb_⟩
    ·replace c33 := Bool.eq_false_iff.mpr c33
     subst c33
     have H1 : (spec_jProperIn.l0 kj4 a1 0 a0_0 a0_1 a0_2 a0_3 l0_4 l0_5) = some r := by rw [if_neg (show ¬ (false = true) by decide)] at H; exact H
     clear H
     have H := H1
     clear H1
     have H' := asd_ H
     clear H
     go_wp2
     go_loopg [5] kj4 (fun kq v5 w' => ∃ (x5_2 : Int), v5 = .int .i64 x5_2 ∧ Aside0 (spec_jProperIn.l0 kq a1 x5_2 a0_0 a0_1 a0_2 a0_3 l0_4 l0_5 = some r) ∧ Aside0 (kq ≤ kj4) ∧ Aside0 (w'.heap[gb136]? = some (.cells #[.int .i64 a0_0, .bool a0_1, .int .i64 a0_2, .string a0_3, (.slice A0_4 l0_4.length c0_4), (.slice A0_5 l0_5.length c0_5)] 25 (0, 0))) ∧ Aside0 (Below w.heap.size w w'))
     case atStart => exact ⟨(0), r1_, H', ⟨Nat.le_refl _⟩, ⟨bk_⟩, ⟨wb_⟩⟩
     case round =>
      clear H'
      obtain ⟨x5_2, rfl, HA, HK2, BK136, HB⟩ := hrel
      cases gk with
      | zero => exact absurd HA.out (by simp [spec_jProperIn.l0])
      | succ k2 =>
       have H := HA.out
       clear HA
       simp only [spec_jProperIn.l0] at H
       by_cases c34 : x5_2 < (l0_4.length : Int)
       ·rw [if_pos c34] at H
        have c34b0 : decide (x5_2 < (l0_4.length : Int)) = true := decide_eq_true c34
        clear c34
        by_cases c35 : 0 ≤ x5_2
        ·rw [if_pos c35] at H
         have c35b0 : decide (0 ≤ x5_2) = true := decide_eq_true c35
         clear c35
         replace H := Option.bind_eq_some_iff.mp H
         obtain ⟨t140, A360, H⟩ := H
         replace H : (if t140 = true then (spec_jProperIn.l0 k2 a1 (wrap64 (x5_2 + 1)) a0_0 a0_1 a0_2 a0_3 l0_4 l0_5) else (some false)) = some r := H
         have A36 := asd_ A360
         clear A360
         by_cases c37 : t140 = true
         ·subst c37
          have H1 : (spec_jProperIn.l0 k2 a1 (wrap64 (x5_2 + 1)) a0_0 a0_1 a0_2 a0_3 l0_4 l0_5) = some r := by rw [if_pos rfl] at H; exact H
          clear H
          have H := H1
          clear H1
          have H' := asd_ H
          clear H
          have hcz38_0 := cz_ BK136.out 0
          have hcz38_1 := cz_ BK136.out 1
          have hcz38_2 := cz_ BK136.out 2
          have hcz38_3 := cz_ BK136.out 3
          have hcz38_4 := cz_ BK136.out 4
          have hcz38_5 := cz_ BK136.out 5
          have hfz38_0 := blk_frozen BK136.out 0
          have hfz38_1 := blk_frozen BK136.out 1
          have hfz38_2 := blk_frozen BK136.out 2
          have hfz38_3 := blk_frozen BK136.out 3
          have hfz38_4 := blk_frozen BK136.out 4
          have hfz38_5 := blk_frozen BK136.out 5
          have p139 : 0 ≤ (x5_2 : Int) := of_decide_eq_true as_
          have q139 : x5_2 < (l0_4.length : Int) := of_decide_eq_true as_
          obtain ⟨ad139, e139, hx139_0⟩ := Kd.at_string HR0_4.out x5_2 p139 q139
          cases e139
          replace hx139_0 := (HB.out.cell (World.block_lt_of_cell? w _ hx139_0)).trans hx139_0
          replace p139 := eq_true p139
          replace q139 := eq_true q139
          go_wp2_with (first | ((with_reducible refine gate_callee (f := 25) rfl ?_); refine goesL_ (some 65) rfl rfl Tryz.func25 kr_ rfl #[.string (rdOf ByteArray.empty l0_4 x5_2)] rfl ap_ ?_; (with_reducible refine (spec_JUtf8.calls k2 (rdOf ByteArray.empty l0_4 x5_2) true _ A36.out).mono ?_); rintro e w' ⟨rfl, ⟨nd, rfl⟩⟩; refine ⟨_, rfl, ?_⟩))
          go_roundg k2
          case measure => have := HJ4.out; have := HK2.out; omega
          case rel => exact ⟨(wrap64 (x5_2 + 1)), r1_, H', ⟨by have := HJ4.out; have := HK2.out; omega⟩, ⟨bk_⟩, ⟨wb_⟩⟩
         ·replace c37 := Bool.eq_false_iff.mpr c37
          subst c37
          have H1 : (some false) = some r := by rw [if_neg (show ¬ (false = true) by decide)] at H; exact H
          clear H
          have H := H1
          clear H1
          obtain rfl := Option.some.inj H
          have hcz39_0 := cz_ BK136.out 0
          have hcz39_1 := cz_ BK136.out 1
          have hcz39_2 := cz_ BK136.out 2
          have hcz39_3 := cz_ BK136.out 3
          have hcz39_4 := cz_ BK136.out 4
          have hcz39_5 := cz_ BK136.out 5
          have hfz39_0 := blk_frozen BK136.out 0
          have hfz39_1 := blk_frozen BK136.out 1
          have hfz39_2 := blk_frozen BK136.out 2
          have hfz39_3 := blk_frozen BK136.out 3
          have hfz39_4 := blk_frozen BK136.out 4
          have hfz39_5 := blk_frozen BK136.out 5
          have p139 : 0 ≤ (x5_2 : Int) := of_decide_eq_true as_
          have q139 : x5_2 < (l0_4.length : Int) := of_decide_eq_true as_
          obtain ⟨ad139, e139, hx139_0⟩ := Kd.at_string HR0_4.out x5_2 p139 q139
          cases e139
          replace hx139_0 := (HB.out.cell (World.block_lt_of_cell? w _ hx139_0)).trans hx139_0
          replace p139 := eq_true p139
          replace q139 := eq_true q139
          go_wp2_with (first | ((with_reducible refine gate_callee (f := 25) rfl ?_); refine goesL_ (some 65) rfl rfl Tryz.func25 kr_ rfl #[.string (rdOf ByteArray.empty l0_4 x5_2)] rfl ap_ ?_; (with_reducible refine (spec_JUtf8.calls k2 (rdOf ByteArray.empty l0_4 x5_2) false _ A36.out).mono ?_); rintro e w' ⟨rfl, ⟨nd, rfl⟩⟩; refine ⟨_, rfl, ?_⟩))
          go_ret
          exact ⟨er_, wb_⟩
        ·rw [if_neg c35] at H
         exact absurd H (by simp)
       ·rw [if_neg c34] at H
        have c34b0 : decide (x5_2 < (l0_4.length : Int)) = false := decide_eq_false c34
        clear c34
        have H' := asd_ H
        clear H
        have hcz40_0 := cz_ BK136.out 0
        have hcz40_1 := cz_ BK136.out 1
        have hcz40_2 := cz_ BK136.out 2
        have hcz40_3 := cz_ BK136.out 3
        have hcz40_4 := cz_ BK136.out 4
        have hcz40_5 := cz_ BK136.out 5
        have hfz40_0 := blk_frozen BK136.out 0
        have hfz40_1 := blk_frozen BK136.out 1
        have hfz40_2 := blk_frozen BK136.out 2
        have hfz40_3 := blk_frozen BK136.out 3
        have hfz40_4 := blk_frozen BK136.out 4
        have hfz40_5 := blk_frozen BK136.out 5
        go_wp2
        go_loopg [6] k2 (fun kq v6 w' => ∃ (x6_3 : Int), v6 = .int .i64 x6_3 ∧ Aside0 (spec_jProperIn.l1 kq a1 x6_3 a0_0 a0_1 a0_2 a0_3 l0_4 l0_5 = some r) ∧ Aside0 (kq ≤ k2) ∧ Aside0 (w'.heap[gb136]? = some (.cells #[.int .i64 a0_0, .bool a0_1, .int .i64 a0_2, .string a0_3, (.slice A0_4 l0_4.length c0_4), (.slice A0_5 l0_5.length c0_5)] 25 (0, 0))) ∧ Aside0 (Below w.heap.size w w'))
        case atStart => exact ⟨(0), r1_, H', ⟨Nat.le_refl _⟩, ⟨bk_⟩, ⟨wb_⟩⟩
        case round =>
         clear H'
         obtain ⟨x6_3, rfl, HA, HK3, BK136, HB⟩ := hrel
         cases gk with
         | zero => exact absurd HA.out (by simp [spec_jProperIn.l1])
         | succ k3 =>
          have H := HA.out
          clear HA
          simp only [spec_jProperIn.l1] at H
          by_cases c41 : x6_3 < (l0_5.length : Int)
          ·rw [if_pos c41] at H
           have c41b0 : decide (x6_3 < (l0_5.length : Int)) = true := decide_eq_true c41
           clear c41
           by_cases c42 : 0 ≤ x6_3
           ·rw [if_pos c42] at H
            have c42b0 : decide (0 ≤ x6_3) = true := decide_eq_true c42
            clear c42
            replace H := Option.bind_eq_some_iff.mp H
            obtain ⟨t142, A430, H⟩ := H
            replace H : (if t142 = true then (spec_jProperIn.l1 k3 a1 (wrap64 (x6_3 + 1)) a0_0 a0_1 a0_2 a0_3 l0_4 l0_5) else (some false)) = some r := H
            have A43 := asd_ A430
            clear A430
            by_cases c44 : t142 = true
            ·subst c44
             have H1 : (spec_jProperIn.l1 k3 a1 (wrap64 (x6_3 + 1)) a0_0 a0_1 a0_2 a0_3 l0_4 l0_5) = some r := by rw [if_pos rfl] at H; exact H
             clear H
             have H := H1
             clear H1
             have H' := asd_ H
             clear H
             have hcz45_0 := cz_ BK136.out 0
             have hcz45_1 := cz_ BK136.out 1
             have hcz45_2 := cz_ BK136.out 2
             have hcz45_3 := cz_ BK136.out 3
             have hcz45_4 := cz_ BK136.out 4
             have hcz45_5 := cz_ BK136.out 5
             have hfz45_0 := blk_frozen BK136.out 0
             have hfz45_1 := blk_frozen BK136.out 1
             have hfz45_2 := blk_frozen BK136.out 2
             have hfz45_3 := blk_frozen BK136.out 3
             have hfz45_4 := blk_frozen BK136.out 4
             have hfz45_5 := blk_frozen BK136.out 5
             have p141 : 0 ≤ (x6_3 : Int) := of_decide_eq_true as_
             have q141 : x6_3 < (l0_5.length : Int) := of_decide_eq_true as_
             obtain ⟨ad141, A141_4, c141_4, A141_5, c141_5, e141, hx141_0, hx141_1, hx141_2, hx141_3, hx141_4, hx141_5, hl141_4, hi141_4, hl141_5, hi141_5⟩ := at_T25 HR0_5.out x6_3 p141 q141
             cases e141
             replace hx141_0 := (HB.out.cell (World.block_lt_of_cell? w _ hx141_0)).trans hx141_0
             replace hx141_1 := (HB.out.cell (World.block_lt_of_cell? w _ hx141_1)).trans hx141_1
             replace hx141_2 := (HB.out.cell (World.block_lt_of_cell? w _ hx141_2)).trans hx141_2
             replace hx141_3 := (HB.out.cell (World.block_lt_of_cell? w _ hx141_3)).trans hx141_3
             replace hx141_4 := (HB.out.cell (World.block_lt_of_cell? w _ hx141_4)).trans hx141_4
             replace hx141_5 := (HB.out.cell (World.block_lt_of_cell? w _ hx141_5)).trans hx141_5
             have HR141_4 := asd_ hi141_4
             have HC141_4 := asd_ hl141_4
             clear hi141_4 hl141_4
             have HR141_5 := asd_ hi141_5
             have HC141_5 := asd_ hl141_5
             clear hi141_5 hl141_5
             replace p141 := eq_true p141
             replace q141 := eq_true q141
             go_wp2_with (first | ((with_reducible refine gate_callee (f := 18) rfl ?_); refine goesL_ (some 81) rfl rfl Tryz.func18 kr_ rfl #[.agg #[.int .i64 ((rd_T25 l0_5 x6_3).f0), .bool ((rd_T25 l0_5 x6_3).f1), .int .i64 ((rd_T25 l0_5 x6_3).f2), .string ((rd_T25 l0_5 x6_3).f3), .slice A141_4 ((rd_T25 l0_5 x6_3).f4).length c141_4, .slice A141_5 ((rd_T25 l0_5 x6_3).f5).length c141_5], .int .i64 (wrap64 (a1 - 1))] rfl ap_ ?_; (with_reducible refine (ih k3 (by have := HJ4.out; have := HK2.out; have := HK3.out; omega) ((rd_T25 l0_5 x6_3).f0) ((rd_T25 l0_5 x6_3).f1) ((rd_T25 l0_5 x6_3).f2) ((rd_T25 l0_5 x6_3).f3) _ _ ((rd_T25 l0_5 x6_3).f4) _ _ ((rd_T25 l0_5 x6_3).f5) (wrap64 (a1 - 1)) true _ ?side1 ?side2 ?side3 ?side4 A43.out).mono ?_); (case side1 => repeat (first | exact (Kd.C_below HR141_4.out HB.out) | (with_reducible refine Kd.C_alloc ?_ _) | (with_reducible refine Kd.C_drewN ?_ _) | (with_reducible refine Kd.C_drew ?_))); (case side2 => exact HC141_4.out); (case side3 => repeat (first | exact (Kd.C_below HR141_5.out HB.out) | (with_reducible refine Kd.C_alloc ?_ _) | (with_reducible refine Kd.C_drewN ?_ _) | (with_reducible refine Kd.C_drew ?_))); (case side4 => exact HC141_5.out); rintro e w46 ⟨rfl, hb⟩; refine ⟨_, rfl, ?_⟩; have n0_ := asd_ (blk_below (g := gb136) (o := .cells #[.int .i64 a0_0, .bool a0_1, .int .i64 a0_2, .string a0_3, .slice A0_4 l0_4.length c0_4, .slice (some ad141) l0_5.length c0_5] 25 (0, 0)) bk_ hb); have n1_ := asd_ (below_step wb_ hb); clear BK136; clear HB; have BK136 := n0_; have HB := n1_; clear n0_ n1_; (try clear hb); (try clear hb2); (try clear hk); (try clear hi)))
             go_roundg k3
             case measure => have := HJ4.out; have := HK2.out; have := HK3.out; omega
             case rel => exact ⟨(wrap64 (x6_3 + 1)), r1_, H', ⟨by have := HJ4.out; have := HK2.out; have := HK3.out; omega⟩, ⟨bk_⟩, ⟨wb_⟩⟩
            ·replace c44 := Bool.eq_false_iff.mpr c44
             subst c44
             have H1 : (some false) = some r := by rw [if_neg (show ¬ (false = true) by decide)] at H; exact H
             clear H
             have H := H1
             clear H1
             obtain rfl := Option.some.inj H
             have hcz47_0 := cz_ BK136.out 0
             have hcz47_1 := cz_ BK136.out 1
             have hcz47_2 := cz_ BK136.out 2
             have hcz47_3 := cz_ BK136.out 3
             have hcz47_4 := cz_ BK136.out 4
             have hcz47_5 := cz_ BK136.out 5
             have hfz47_0 := blk_frozen BK136.out 0
             have hfz47_1 := blk_frozen BK136.out 1
             have hfz47_2 := blk_frozen BK136.out 2
             have hfz47_3 := blk_frozen BK136.out 3
             have hfz47_4 := blk_frozen BK136.out 4
             have hfz47_5 := blk_frozen BK136.out 5
             have p141 : 0 ≤ (x6_3 : Int) := of_decide_eq_true as_
             have q141 : x6_3 < (l0_5.length : Int) := of_decide_eq_true as_
             obtain ⟨ad141, A141_4, c141_4, A141_5, c141_5, e141, hx141_0, hx141_1, hx141_2, hx141_3, hx141_4, hx141_5, hl141_4, hi141_4, hl141_5, hi141_5⟩ := at_T25 HR0_5.out x6_3 p141 q141
             cases e141
             replace hx141_0 := (HB.out.cell (World.block_lt_of_cell? w _ hx141_0)).trans hx141_0
             replace hx141_1 := (HB.out.cell (World.block_lt_of_cell? w _ hx141_1)).trans hx141_1
             replace hx141_2 := (HB.out.cell (World.block_lt_of_cell? w _ hx141_2)).trans hx141_2
             replace hx141_3 := (HB.out.cell (World.block_lt_of_cell? w _ hx141_3)).trans hx141_3
             replace hx141_4 := (HB.out.cell (World.block_lt_of_cell? w _ hx141_4)).trans hx141_4
             replace hx141_5 := (HB.out.cell (World.block_lt_of_cell? w _ hx141_5)).trans hx141_5
             have HR141_4 := asd_ hi141_4
             have HC141_4 := asd_ hl141_4
             clear hi141_4 hl141_4
             have HR141_5 := asd_ hi141_5
             have HC141_5 := asd_ hl141_5
             clear hi141_5 hl141_5
             replace p141 := eq_true p141
             replace q141 := eq_true q141
             go_wp2_with (first | ((with_reducible refine gate_callee (f := 18) rfl ?_); refine goesL_ (some 81) rfl rfl Tryz.func18 kr_ rfl #[.agg #[.int .i64 ((rd_T25 l0_5 x6_3).f0), .bool ((rd_T25 l0_5 x6_3).f1), .int .i64 ((rd_T25 l0_5 x6_3).f2), .string ((rd_T25 l0_5 x6_3).f3), .slice A141_4 ((rd_T25 l0_5 x6_3).f4).length c141_4, .slice A141_5 ((rd_T25 l0_5 x6_3).f5).length c141_5], .int .i64 (wrap64 (a1 - 1))] rfl ap_ ?_; (with_reducible refine (ih k3 (by have := HJ4.out; have := HK2.out; have := HK3.out; omega) ((rd_T25 l0_5 x6_3).f0) ((rd_T25 l0_5 x6_3).f1) ((rd_T25 l0_5 x6_3).f2) ((rd_T25 l0_5 x6_3).f3) _ _ ((rd_T25 l0_5 x6_3).f4) _ _ ((rd_T25 l0_5 x6_3).f5) (wrap64 (a1 - 1)) false _ ?side1 ?side2 ?side3 ?side4 A43.out).mono ?_); (case side1 => repeat (first | exact (Kd.C_below HR141_4.out HB.out) | (with_reducible refine Kd.C_alloc ?_ _) | (with_reducible refine Kd.C_drewN ?_ _) | (with_reducible refine Kd.C_drew ?_))); (case side2 => exact HC141_4.out); (case side3 => repeat (first | exact (Kd.C_below HR141_5.out HB.out) | (with_reducible refine Kd.C_alloc ?_ _) | (with_reducible refine Kd.C_drewN ?_ _) | (with_reducible refine Kd.C_drew ?_))); (case side4 => exact HC141_5.out); rintro e w48 ⟨rfl, hb⟩; refine ⟨_, rfl, ?_⟩; have n0_ := asd_ (blk_below (g := gb136) (o := .cells #[.int .i64 a0_0, .bool a0_1, .int .i64 a0_2, .string a0_3, .slice A0_4 l0_4.length c0_4, .slice (some ad141) l0_5.length c0_5] 25 (0, 0)) bk_ hb); have n1_ := asd_ (below_step wb_ hb); clear BK136; clear HB; have BK136 := n0_; have HB := n1_; clear n0_ n1_; (try clear hb); (try clear hb2); (try clear hk); (try clear hi)))
             go_ret
             exact ⟨er_, wb_⟩
           ·rw [if_neg c42] at H
            exact absurd H (by simp)
          ·rw [if_neg c41] at H
           have c41b0 : decide (x6_3 < (l0_5.length : Int)) = false := decide_eq_false c41
           clear c41
           obtain rfl := Option.some.inj H
           have hcz49_0 := cz_ BK136.out 0
           have hcz49_1 := cz_ BK136.out 1
           have hcz49_2 := cz_ BK136.out 2
           have hcz49_3 := cz_ BK136.out 3
           have hcz49_4 := cz_ BK136.out 4
           have hcz49_5 := cz_ BK136.out 5
           have hfz49_0 := blk_frozen BK136.out 0
           have hfz49_1 := blk_frozen BK136.out 1
           have hfz49_2 := blk_frozen BK136.out 2
           have hfz49_3 := blk_frozen BK136.out 3
           have hfz49_4 := blk_frozen BK136.out 4
           have hfz49_5 := blk_frozen BK136.out 5
           go_wp2
           go_ret
           exact ⟨er_, wb_⟩
def spec_JProper.f (k : Nat) (a0_0 : Int) (a0_1 : Bool) (a0_2 : Int) (a0_3 : ByteArray) (l0_4 : List ByteArray) (l0_5 : List (S25)) : Option (Bool) := (spec_jProperIn.f k a0_0 a0_1 a0_2 a0_3 l0_4 l0_5 1000).bind fun t144 => (some t144)
set_option maxHeartbeats 8000000 in
set_option maxRecDepth 100000 in
theorem spec_JProper.calls (k : Nat) (a0_0 : Int) (a0_1 : Bool) (a0_2 : Int) (a0_3 : ByteArray) (A0_4 : Option Addr) (c0_4 : Nat) (l0_4 : List ByteArray) (A0_5 : Option Addr) (c0_5 : Nat) (l0_5 : List (S25)) (r : Bool) (w : World) (hr0_4 : Kd.C Kd.string w A0_4 l0_4.length l0_4) (hc0_4 : l0_4.length ≤ c0_4) (hr0_5 : Kd.C k25 w A0_5 l0_5.length l0_5) (hc0_5 : l0_5.length ≤ c0_5) (h : spec_JProper.f k a0_0 a0_1 a0_2 a0_3 l0_4 l0_5 = some r) :
  Calls Tryz.prog 12 #[.agg #[.int .i64 a0_0, .bool a0_1, .int .i64 a0_2, .string a0_3, .slice A0_4 l0_4.length c0_4, .slice A0_5 l0_5.length c0_5]] w fun e w' => e = .returned (.bool r) ∧ Below w.heap.size w w' := by
 have hu25 := Tryz.underlying25
 have HR0_4 := asd_ hr0_4
 have HC0_4 := asd_ hc0_4
 clear hr0_4 hc0_4
 have HR0_5 := asd_ hr0_5
 have HC0_5 := asd_ hc0_5
 clear hr0_5 hc0_5
 have HB := asd_ (Below.refl w.heap.size w)
 have H : ((spec_jProperIn.f k a0_0 a0_1 a0_2 a0_3 l0_4 l0_5 1000).bind fun t144 => (some t144)) = some r := h
 clear h
 replace H := Option.bind_eq_some_iff.mp H
 obtain ⟨t144, A20, H⟩ := H
 replace H : (some t144) = some r := H
 have A2 := asd_ A20
 clear A20
 obtain rfl := Option.some.inj H
 go_enter Tryz.func12, Tryz.ntmps12
 go_wp2_with (first | ((with_reducible refine gate_dst (N := 1) rfl ?_); refine box_event ?hg (N := 1) ?hd (cs := #[.int .i64 a0_0, .bool a0_1, .int .i64 a0_2, .string a0_3, .slice A0_4 l0_4.length c0_4, .slice A0_5 l0_5.length c0_5]) (t := 25) ?hr ?_; (case hd => rfl); (case hg => rfl); (case hr => first | (go_simp; done) | (go_simp; rfl)); intro gb143 hg w3 hbox hb; have n0_ := asd_ (below_step wb_ hb); have n1_ := asd_ (hbox); have n2_ := asd_ ((by rw [hg]; exact (below_size wb_) : w.heap.size ≤ gb143)); have n3_ := asd_ ((by rw [hg]; exact (below_size wb_) : w.heap.size ≤ gb143)); clear HB; have HB := n0_; have BK143 := n1_; have GW143 := n2_; have GE143 := n3_; clear n0_ n1_ n2_ n3_; clear hb hbox hg; have hcz4_0 := cz_ BK143.out 0; have hcz4_1 := cz_ BK143.out 1; have hcz4_2 := cz_ BK143.out 2; have hcz4_3 := cz_ BK143.out 3; have hcz4_4 := cz_ BK143.out 4; have hcz4_5 := cz_ BK143.out 5; have hfz4_0 := blk_frozen BK143.out 0; have hfz4_1 := blk_frozen BK143.out 1; have hfz4_2 := blk_frozen BK143.out 2; have hfz4_3 := blk_frozen BK143.out 3; have hfz4_4 := blk_frozen BK143.out 4; have hfz4_5 := blk_frozen BK143.out 5) | ((with_reducible refine gate_callee (f := 18) rfl ?_); refine goesL_ (some 4) rfl rfl Tryz.func18 kr_ rfl #[.agg #[.int .i64 a0_0, .bool a0_1, .int .i64 a0_2, .string a0_3, .slice A0_4 l0_4.length c0_4, .slice A0_5 l0_5.length c0_5], .int .i64 1000] rfl ap_ ?_; (with_reducible refine (spec_jProperIn.calls k a0_0 a0_1 a0_2 a0_3 _ _ l0_4 _ _ l0_5 1000 t144 _ ?side1 ?side2 ?side3 ?side4 A2.out).mono ?_); (case side1 => repeat (first | exact (Kd.C_below HR0_4.out HB.out) | (with_reducible refine Kd.C_alloc ?_ _) | (with_reducible refine Kd.C_drewN ?_ _) | (with_reducible refine Kd.C_drew ?_))); (case side2 => exact HC0_4.out); (case side3 => repeat (first | exact (Kd.C_below HR0_5.out HB.out) | (with_reducible refine Kd.C_alloc ?_ _) | (with_reducible refine Kd.C_drewN ?_ _) | (with_reducible refine Kd.C_drew ?_))); (case side4 => exact HC0_5.out); rintro e w5 ⟨rfl, hb⟩; refine ⟨_, rfl, ?_⟩; have n0_ := asd_ (blk_below (g := gb143) (o := .cells #[.int .i64 a0_0, .bool a0_1, .int .i64 a0_2, .string a0_3, .slice A0_4 l0_4.length c0_4, .slice A0_5 l0_5.length c0_5] 25 (0, 0)) bk_ hb); have n1_ := asd_ (below_step wb_ hb); clear BK143; clear HB; have BK143 := n0_; have HB := n1_; clear n0_ n1_; (try clear hb); (try clear hb2); (try clear hk); (try clear hi)))
 go_ret
 exact ⟨er_, wb_⟩
mutual
def spec_JCounts.l0 : Nat → Int → Int → Bool → Int → ByteArray → List ByteArray → List (S25) → Option (Bool)
 | 0, _, _, _, _, _, _, _ => none
 | k + 1, x3, x146000, x146001, x146002, x146003, x146004, x146005 => if x3 < (x146005.length : Int) then (if 0 ≤ x3 then ((spec_JCounts.f k ((rd_T25 x146005 x3).f0) ((rd_T25 x146005 x3).f1) ((rd_T25 x146005 x3).f2) ((rd_T25 x146005 x3).f3) ((rd_T25 x146005 x3).f4) ((rd_T25 x146005 x3).f5)).bind fun t147 => (if t147 = true then (spec_JCounts.l0 k (wrap64 (x3 + 1)) x146000 x146001 x146002 x146003 x146004 x146005) else (some false))) else (none)) else (some true)
def spec_JCounts.f : Nat → Int → Bool → Int → ByteArray → List ByteArray → List (S25) → Option (Bool)
 | 0, _, _, _, _, _, _ => none
 | k + 1, a0_0, a0_1, a0_2, a0_3, l0_4, l0_5 => if a0_0 = 2 then (some false) else (spec_JCounts.l0 k 0 a0_0 a0_1 a0_2 a0_3 l0_4 l0_5)
end
set_option maxHeartbeats 8000000 in
set_option maxRecDepth 100000 in
theorem spec_JCounts.calls (k : Nat) : ∀ (a0_0 : Int) (a0_1 : Bool) (a0_2 : Int) (a0_3 : ByteArray) (A0_4 : Option Addr) (c0_4 : Nat) (l0_4 : List ByteArray) (A0_5 : Option Addr) (c0_5 : Nat) (l0_5 : List (S25)) (r : Bool) (w : World) (hr0_4 : Kd.C Kd.string w A0_4 l0_4.length l0_4) (hc0_4 : l0_4.length ≤ c0_4) (hr0_5 : Kd.C k25 w A0_5 l0_5.length l0_5) (hc0_5 : l0_5.length ≤ c0_5) (h : spec_JCounts.f k a0_0 a0_1 a0_2 a0_3 l0_4 l0_5 = some r),
  Calls Tryz.prog 13 #[.agg #[.int .i64 a0_0, .bool a0_1, .int .i64 a0_2, .string a0_3, .slice A0_4 l0_4.length c0_4, .slice A0_5 l0_5.length c0_5]] w fun e w' => e = .returned (.bool r) ∧ Below w.heap.size w w' := by
 induction k using Nat.strongRecOn with
 | _ k ih =>
 intro a0_0 a0_1 a0_2 a0_3 A0_4 c0_4 l0_4 A0_5 c0_5 l0_5 r w hr0_4 hc0_4 hr0_5 hc0_5 h
 cases k with
 | zero => exact absurd h (by simp [spec_JCounts.f])
 | succ k =>
 simp only [spec_JCounts.f] at h
 have hu25 := Tryz.underlying25
 have HR0_4 := asd_ hr0_4
 have HC0_4 := asd_ hc0_4
 clear hr0_4 hc0_4
 have HR0_5 := asd_ hr0_5
 have HC0_5 := asd_ hc0_5
 clear hr0_5 hc0_5
 have HB := asd_ (Below.refl w.heap.size w)
 have H : (if a0_0 = 2 then (some false) else (spec_JCounts.l0 k 0 a0_0 a0_1 a0_2 a0_3 l0_4 l0_5)) = some r := h
 clear h
 by_cases c2 : a0_0 = 2
 ·rw [if_pos c2] at H
  have c2b0 : (a0_0 == 2) = true := beq_iff_eq.mpr c2
  have c2b1 : (a0_0 != 2) = false := bne_eq_false_iff_eq.mpr c2
  clear c2
  obtain rfl := Option.some.inj H
  go_enter Tryz.func13, Tryz.ntmps13
  go_wp2_with (first | ((with_reducible refine gate_dst (N := 1) rfl ?_); refine box_event ?hg (N := 1) ?hd (cs := #[.int .i64 a0_0, .bool a0_1, .int .i64 a0_2, .string a0_3, .slice A0_4 l0_4.length c0_4, .slice A0_5 l0_5.length c0_5]) (t := 25) ?hr ?_; (case hd => rfl); (case hg => rfl); (case hr => first | (go_simp; done) | (go_simp; rfl)); intro gb145 hg w3 hbox hb; have n0_ := asd_ (below_step wb_ hb); have n1_ := asd_ (hbox); have n2_ := asd_ ((by rw [hg]; exact (below_size wb_) : w.heap.size ≤ gb145)); have n3_ := asd_ ((by rw [hg]; exact (below_size wb_) : w.heap.size ≤ gb145)); clear HB; have HB := n0_; have BK145 := n1_; have GW145 := n2_; have GE145 := n3_; clear n0_ n1_ n2_ n3_; clear hb hbox hg; have hcz4_0 := cz_ BK145.out 0; have hcz4_1 := cz_ BK145.out 1; have hcz4_2 := cz_ BK145.out 2; have hcz4_3 := cz_ BK145.out 3; have hcz4_4 := cz_ BK145.out 4; have hcz4_5 := cz_ BK145.out 5; have hfz4_0 := blk_frozen BK145.out 0; have hfz4_1 := blk_frozen BK145.out 1; have hfz4_2 := blk_frozen BK145.out 2; have hfz4_3 := blk_frozen BK145.out 3; have hfz4_4 := blk_frozen BK145.out 4; have hfz4_5 := blk_frozen BK145.out 5))
  go_ret
  exact ⟨er_, wb_⟩
 ·rw [if_neg c2] at H
  have c2b0 : (a0_0 == 2) = false := beq_eq_false_iff_ne.mpr c2
  have c2b1 : (a0_0 != 2) = true := bne_iff_ne.mpr c2
  have H' := asd_ H
  clear H
  go_enter Tryz.func13, Tryz.ntmps13
  go_wp2_with (first | ((with_reducible refine gate_dst (N := 1) rfl ?_); refine box_event ?hg (N := 1) ?hd (cs := #[.int .i64 a0_0, .bool a0_1, .int .i64 a0_2, .string a0_3, .slice A0_4 l0_4.length c0_4, .slice A0_5 l0_5.length c0_5]) (t := 25) ?hr ?_; (case hd => rfl); (case hg => rfl); (case hr => first | (go_simp; done) | (go_simp; rfl)); intro gb145 hg w5 hbox hb; have n0_ := asd_ (below_step wb_ hb); have n1_ := asd_ (hbox); have n2_ := asd_ ((by rw [hg]; exact (below_size wb_) : w.heap.size ≤ gb145)); have n3_ := asd_ ((by rw [hg]; exact (below_size wb_) : w.heap.size ≤ gb145)); clear HB; have HB := n0_; have BK145 := n1_; have GW145 := n2_; have GE145 := n3_; clear n0_ n1_ n2_ n3_; clear hb hbox hg; have hcz6_0 := cz_ BK145.out 0; have hcz6_1 := cz_ BK145.out 1; have hcz6_2 := cz_ BK145.out 2; have hcz6_3 := cz_ BK145.out 3; have hcz6_4 := cz_ BK145.out 4; have hcz6_5 := cz_ BK145.out 5; have hfz6_0 := blk_frozen BK145.out 0; have hfz6_1 := blk_frozen BK145.out 1; have hfz6_2 := blk_frozen BK145.out 2; have hfz6_3 := blk_frozen BK145.out 3; have hfz6_4 := blk_frozen BK145.out 4; have hfz6_5 := blk_frozen BK145.out 5))
  go_loopg [3] k (fun kq v3 w' => ∃ (x3_1 : Int), v3 = .int .i64 x3_1 ∧ Aside0 (spec_JCounts.l0 kq x3_1 a0_0 a0_1 a0_2 a0_3 l0_4 l0_5 = some r) ∧ Aside0 (kq ≤ k) ∧ Aside0 (w'.heap[gb145]? = some (.cells #[.int .i64 a0_0, .bool a0_1, .int .i64 a0_2, .string a0_3, (.slice A0_4 l0_4.length c0_4), (.slice A0_5 l0_5.length c0_5)] 25 (0, 0))) ∧ Aside0 (Below w.heap.size w w'))
  case atStart => exact ⟨(0), r1_, H', ⟨Nat.le_refl _⟩, ⟨bk_⟩, ⟨wb_⟩⟩
  case round =>
   clear H'
   obtain ⟨x3_1, rfl, HA, HK1, BK145, HB⟩ := hrel
   cases gk with
   | zero => exact absurd HA.out (by simp [spec_JCounts.l0])
   | succ k1 =>
    have H := HA.out
    clear HA
    simp only [spec_JCounts.l0] at H
    by_cases c7 : x3_1 < (l0_5.length : Int)
    ·rw [if_pos c7] at H
     have c7b0 : decide (x3_1 < (l0_5.length : Int)) = true := decide_eq_true c7
     clear c7
     by_cases c8 : 0 ≤ x3_1
     ·rw [if_pos c8] at H
      have c8b0 : decide (0 ≤ x3_1) = true := decide_eq_true c8
      clear c8
      replace H := Option.bind_eq_some_iff.mp H
      obtain ⟨t147, A90, H⟩ := H
      replace H : (if t147 = true then (spec_JCounts.l0 k1 (wrap64 (x3_1 + 1)) a0_0 a0_1 a0_2 a0_3 l0_4 l0_5) else (some false)) = some r := H
      have A9 := asd_ A90
      clear A90
      by_cases c10 : t147 = true
      ·subst c10
       have H1 : (spec_JCounts.l0 k1 (wrap64 (x3_1 + 1)) a0_0 a0_1 a0_2 a0_3 l0_4 l0_5) = some r := by rw [if_pos rfl] at H; exact H
       clear H
       have H := H1
       clear H1
       have H' := asd_ H
       clear H
       have hcz11_0 := cz_ BK145.out 0
       have hcz11_1 := cz_ BK145.out 1
       have hcz11_2 := cz_ BK145.out 2
       have hcz11_3 := cz_ BK145.out 3
       have hcz11_4 := cz_ BK145.out 4
       have hcz11_5 := cz_ BK145.out 5
       have hfz11_0 := blk_frozen BK145.out 0
       have hfz11_1 := blk_frozen BK145.out 1
       have hfz11_2 := blk_frozen BK145.out 2
       have hfz11_3 := blk_frozen BK145.out 3
       have hfz11_4 := blk_frozen BK145.out 4
       have hfz11_5 := blk_frozen BK145.out 5
       have p146 : 0 ≤ (x3_1 : Int) := of_decide_eq_true as_
       have q146 : x3_1 < (l0_5.length : Int) := of_decide_eq_true as_
       obtain ⟨ad146, A146_4, c146_4, A146_5, c146_5, e146, hx146_0, hx146_1, hx146_2, hx146_3, hx146_4, hx146_5, hl146_4, hi146_4, hl146_5, hi146_5⟩ := at_T25 HR0_5.out x3_1 p146 q146
       cases e146
       replace hx146_0 := (HB.out.cell (World.block_lt_of_cell? w _ hx146_0)).trans hx146_0
       replace hx146_1 := (HB.out.cell (World.block_lt_of_cell? w _ hx146_1)).trans hx146_1
       replace hx146_2 := (HB.out.cell (World.block_lt_of_cell? w _ hx146_2)).trans hx146_2
       replace hx146_3 := (HB.out.cell (World.block_lt_of_cell? w _ hx146_3)).trans hx146_3
       replace hx146_4 := (HB.out.cell (World.block_lt_of_cell? w _ hx146_4)).trans hx146_4
       replace hx146_5 := (HB.out.cell (World.block_lt_of_cell? w _ hx146_5)).trans hx146_5
       have HR146_4 := asd_ hi146_4
       have HC146_4 := asd_ hl146_4
       clear hi146_4 hl146_4
       have HR146_5 := asd_ hi146_5
       have HC146_5 := asd_ hl146_5
       clear hi146_5 hl146_5
       replace p146 := eq_true p146
       replace q146 := eq_true q146
       go_wp2_with (first | ((with_reducible refine gate_callee (f := 13) rfl ?_); refine goesL_ (some 19) rfl rfl Tryz.func13 kr_ rfl #[.agg #[.int .i64 ((rd_T25 l0_5 x3_1).f0), .bool ((rd_T25 l0_5 x3_1).f1), .int .i64 ((rd_T25 l0_5 x3_1).f2), .string ((rd_T25 l0_5 x3_1).f3), .slice A146_4 ((rd_T25 l0_5 x3_1).f4).length c146_4, .slice A146_5 ((rd_T25 l0_5 x3_1).f5).length c146_5]] rfl ap_ ?_; (with_reducible refine (ih k1 (by have := HK1.out; omega) ((rd_T25 l0_5 x3_1).f0) ((rd_T25 l0_5 x3_1).f1) ((rd_T25 l0_5 x3_1).f2) ((rd_T25 l0_5 x3_1).f3) _ _ ((rd_T25 l0_5 x3_1).f4) _ _ ((rd_T25 l0_5 x3_1).f5) true _ ?side1 ?side2 ?side3 ?side4 A9.out).mono ?_); (case side1 => repeat (first | exact (Kd.C_below HR146_4.out HB.out) | (with_reducible refine Kd.C_alloc ?_ _) | (with_reducible refine Kd.C_drewN ?_ _) | (with_reducible refine Kd.C_drew ?_))); (case side2 => exact HC146_4.out); (case side3 => repeat (first | exact (Kd.C_below HR146_5.out HB.out) | (with_reducible refine Kd.C_alloc ?_ _) | (with_reducible refine Kd.C_drewN ?_ _) | (with_reducible refine Kd.C_drew ?_))); (case side4 => exact HC146_5.out); rintro e w12 ⟨rfl, hb⟩; refine ⟨_, rfl, ?_⟩; have n0_ := asd_ (blk_below (g := gb145) (o := .cells #[.int .i64 a0_0, .bool a0_1, .int .i64 a0_2, .string a0_3, .slice A0_4 l0_4.length c0_4, .slice (some ad146) l0_5.length c0_5] 25 (0, 0)) bk_ hb); have n1_ := asd_ (below_step wb_ hb); clear BK145; clear HB; have BK145 := n0_; have HB := n1_; clear n0_ n1_; (try clear hb); (try clear hb2); (try clear hk); (try clear hi)))
       go_roundg k1
       case measure => have := HK1.out; omega
       case rel => exact ⟨(wrap64 (x3_1 + 1)), r1_, H', ⟨by have := HK1.out; omega⟩, ⟨bk_⟩, ⟨wb_⟩⟩
      ·replace c10 := Bool.eq_false_iff.mpr c10
       subst c10
       have H1 : (some false) = some r := by rw [if_neg (show ¬ (false = true) by decide)] at H; exact H
       clear H
       have H := H1
       clear H1
       obtain rfl := Option.some.inj H
       have hcz13_0 := cz_ BK145.out 0
       have hcz13_1 := cz_ BK145.out 1
       have hcz13_2 := cz_ BK145.out 2
       have hcz13_3 := cz_ BK145.out 3
       have hcz13_4 := cz_ BK145.out 4
       have hcz13_5 := cz_ BK145.out 5
       have hfz13_0 := blk_frozen BK145.out 0
       have hfz13_1 := blk_frozen BK145.out 1
       have hfz13_2 := blk_frozen BK145.out 2
       have hfz13_3 := blk_frozen BK145.out 3
       have hfz13_4 := blk_frozen BK145.out 4
       have hfz13_5 := blk_frozen BK145.out 5
       have p146 : 0 ≤ (x3_1 : Int) := of_decide_eq_true as_
       have q146 : x3_1 < (l0_5.length : Int) := of_decide_eq_true as_
       obtain ⟨ad146, A146_4, c146_4, A146_5, c146_5, e146, hx146_0, hx146_1, hx146_2, hx146_3, hx146_4, hx146_5, hl146_4, hi146_4, hl146_5, hi146_5⟩ := at_T25 HR0_5.out x3_1 p146 q146
       cases e146
       replace hx146_0 := (HB.out.cell (World.block_lt_of_cell? w _ hx146_0)).trans hx146_0
       replace hx146_1 := (HB.out.cell (World.block_lt_of_cell? w _ hx146_1)).trans hx146_1
       replace hx146_2 := (HB.out.cell (World.block_lt_of_cell? w _ hx146_2)).trans hx146_2
       replace hx146_3 := (HB.out.cell (World.block_lt_of_cell? w _ hx146_3)).trans hx146_3
       replace hx146_4 := (HB.out.cell (World.block_lt_of_cell? w _ hx146_4)).trans hx146_4
       replace hx146_5 := (HB.out.cell (World.block_lt_of_cell? w _ hx146_5)).trans hx146_5
       have HR146_4 := asd_ hi146_4
       have HC146_4 := asd_ hl146_4
       clear hi146_4 hl146_4
       have HR146_5 := asd_ hi146_5
       have HC146_5 := asd_ hl146_5
       clear hi146_5 hl146_5
       replace p146 := eq_true p146
       replace q146 := eq_true q146
       go_wp2_with (first | ((with_reducible refine gate_callee (f := 13) rfl ?_); refine goesL_ (some 19) rfl rfl Tryz.func13 kr_ rfl #[.agg #[.int .i64 ((rd_T25 l0_5 x3_1).f0), .bool ((rd_T25 l0_5 x3_1).f1), .int .i64 ((rd_T25 l0_5 x3_1).f2), .string ((rd_T25 l0_5 x3_1).f3), .slice A146_4 ((rd_T25 l0_5 x3_1).f4).length c146_4, .slice A146_5 ((rd_T25 l0_5 x3_1).f5).length c146_5]] rfl ap_ ?_; (with_reducible refine (ih k1 (by have := HK1.out; omega) ((rd_T25 l0_5 x3_1).f0) ((rd_T25 l0_5 x3_1).f1) ((rd_T25 l0_5 x3_1).f2) ((rd_T25 l0_5 x3_1).f3) _ _ ((rd_T25 l0_5 x3_1).f4) _ _ ((rd_T25 l0_5 x3_1).f5) false _ ?side1 ?side2 ?side3 ?side4 A9.out).mono ?_); (case side1 => repeat (first | exact (Kd.C_below HR146_4.out HB.out) | (with_reducible refine Kd.C_alloc ?_ _) | (with_reducible refine Kd.C_drewN ?_ _) | (with_reducible refine Kd.C_drew ?_))); (case side2 => exact HC146_4.out); (case side3 => repeat (first | exact (Kd.C_below HR146_5.out HB.out) | (with_reducible refine Kd.C_alloc ?_ _) | (with_reducible refine Kd.C_drewN ?_ _) | (with_reducible refine Kd.C_drew ?_))); (case side4 => exact HC146_5.out); rintro e w14 ⟨rfl, hb⟩; refine ⟨_, rfl, ?_⟩; have n0_ := asd_ (blk_below (g := gb145) (o := .cells #[.int .i64 a0_0, .bool a0_1, .int .i64 a0_2, .string a0_3, .slice A0_4 l0_4.length c0_4, .slice (some ad146) l0_5.length c0_5] 25 (0, 0)) bk_ hb); have n1_ := asd_ (below_step wb_ hb); clear BK145; clear HB; have BK145 := n0_; have HB := n1_; clear n0_ n1_; (try clear hb); (try clear hb2); (try clear hk); (try clear hi)))
       go_ret
       exact ⟨er_, wb_⟩
     ·rw [if_neg c8] at H
      exact absurd H (by simp)
    ·rw [if_neg c7] at H
     have c7b0 : decide (x3_1 < (l0_5.length : Int)) = false := decide_eq_false c7
     clear c7
     obtain rfl := Option.some.inj H
     have hcz15_0 := cz_ BK145.out 0
     have hcz15_1 := cz_ BK145.out 1
     have hcz15_2 := cz_ BK145.out 2
     have hcz15_3 := cz_ BK145.out 3
     have hcz15_4 := cz_ BK145.out 4
     have hcz15_5 := cz_ BK145.out 5
     have hfz15_0 := blk_frozen BK145.out 0
     have hfz15_1 := blk_frozen BK145.out 1
     have hfz15_2 := blk_frozen BK145.out 2
     have hfz15_3 := blk_frozen BK145.out 3
     have hfz15_4 := blk_frozen BK145.out 4
     have hfz15_5 := blk_frozen BK145.out 5
     go_wp2
     go_ret
     exact ⟨er_, wb_⟩
def spec_JMember.l0 : Nat → ByteArray → Int → Int → Bool → Int → ByteArray → List ByteArray → List (S25) → Option (Int)
 | 0, _, _, _, _, _, _, _, _ => none
 | k + 1, x1, x5, x149000, x149001, x149002, x149003, x149004, x149005 => if x5 ≥ 0 then (if 0 ≤ x5 then (if x5 < (x149004.length : Int) then (if (rdOf ByteArray.empty x149004 x5).toList = x1.toList then (some x5) else (spec_JMember.l0 k x1 (wrap64 (x5 - 1)) x149000 x149001 x149002 x149003 x149004 x149005)) else (none)) else (none)) else (some (-1))
def spec_JMember.f (k : Nat) (a0_0 : Int) (a0_1 : Bool) (a0_2 : Int) (a0_3 : ByteArray) (l0_4 : List ByteArray) (l0_5 : List (S25)) (a1 : ByteArray) : Option (Int) := spec_JMember.l0 k a1 (wrap64 ((l0_4.length : Int) - 1)) a0_0 a0_1 a0_2 a0_3 l0_4 l0_5
set_option maxHeartbeats 8000000 in
set_option maxRecDepth 100000 in
theorem spec_JMember.calls (k : Nat) (a0_0 : Int) (a0_1 : Bool) (a0_2 : Int) (a0_3 : ByteArray) (A0_4 : Option Addr) (c0_4 : Nat) (l0_4 : List ByteArray) (A0_5 : Option Addr) (c0_5 : Nat) (l0_5 : List (S25)) (a1 : ByteArray) (r : Int) (w : World) (hr0_4 : Kd.C Kd.string w A0_4 l0_4.length l0_4) (hc0_4 : l0_4.length ≤ c0_4) (hr0_5 : Kd.C k25 w A0_5 l0_5.length l0_5) (hc0_5 : l0_5.length ≤ c0_5) (h : spec_JMember.f k a0_0 a0_1 a0_2 a0_3 l0_4 l0_5 a1 = some r) :
  Calls Tryz.prog 65 #[.agg #[.int .i64 a0_0, .bool a0_1, .int .i64 a0_2, .string a0_3, .slice A0_4 l0_4.length c0_4, .slice A0_5 l0_5.length c0_5], .string a1] w fun e w' => e = .returned (.int .i64 r) ∧ Below w.heap.size w w' := by
 have hu25 := Tryz.underlying25
 have HR0_4 := asd_ hr0_4
 have HC0_4 := asd_ hc0_4
 clear hr0_4 hc0_4
 have HR0_5 := asd_ hr0_5
 have HC0_5 := asd_ hc0_5
 clear hr0_5 hc0_5
 have HB := asd_ (Below.refl w.heap.size w)
 have H : (spec_JMember.l0 k a1 (wrap64 ((l0_4.length : Int) - 1)) a0_0 a0_1 a0_2 a0_3 l0_4 l0_5) = some r := h
 clear h
 have H' := asd_ H
 clear H
 go_enter Tryz.func65, Tryz.ntmps65
 go_wp2_with (first | ((with_reducible refine gate_dst (N := 2) rfl ?_); refine box_event ?hg (N := 2) ?hd (cs := #[.int .i64 a0_0, .bool a0_1, .int .i64 a0_2, .string a0_3, .slice A0_4 l0_4.length c0_4, .slice A0_5 l0_5.length c0_5]) (t := 25) ?hr ?_; (case hd => rfl); (case hg => rfl); (case hr => first | (go_simp; done) | (go_simp; rfl)); intro gb148 hg w3 hbox hb; have n0_ := asd_ (below_step wb_ hb); have n1_ := asd_ (hbox); have n2_ := asd_ ((by rw [hg]; exact (below_size wb_) : w.heap.size ≤ gb148)); have n3_ := asd_ ((by rw [hg]; exact (below_size wb_) : w.heap.size ≤ gb148)); clear HB; have HB := n0_; have BK148 := n1_; have GW148 := n2_; have GE148 := n3_; clear n0_ n1_ n2_ n3_; clear hb hbox hg; have hcz4_0 := cz_ BK148.out 0; have hcz4_1 := cz_ BK148.out 1; have hcz4_2 := cz_ BK148.out 2; have hcz4_3 := cz_ BK148.out 3; have hcz4_4 := cz_ BK148.out 4; have hcz4_5 := cz_ BK148.out 5; have hfz4_0 := blk_frozen BK148.out 0; have hfz4_1 := blk_frozen BK148.out 1; have hfz4_2 := blk_frozen BK148.out 2; have hfz4_3 := blk_frozen BK148.out 3; have hfz4_4 := blk_frozen BK148.out 4; have hfz4_5 := blk_frozen BK148.out 5))
 go_loopg [5] k (fun kq v5 w' => ∃ (x5_1 : Int), v5 = .int .i64 x5_1 ∧ Aside0 (spec_JMember.l0 kq a1 x5_1 a0_0 a0_1 a0_2 a0_3 l0_4 l0_5 = some r) ∧ Aside0 (kq ≤ k) ∧ Aside0 (w'.heap[gb148]? = some (.cells #[.int .i64 a0_0, .bool a0_1, .int .i64 a0_2, .string a0_3, (.slice A0_4 l0_4.length c0_4), (.slice A0_5 l0_5.length c0_5)] 25 (0, 0))) ∧ Aside0 (Below w.heap.size w w'))
 case atStart => exact ⟨(wrap64 ((l0_4.length : Int) - 1)), r1_, H', ⟨Nat.le_refl _⟩, ⟨bk_⟩, ⟨wb_⟩⟩
 case round =>
  clear H'
  obtain ⟨x5_1, rfl, HA, HK1, BK148, HB⟩ := hrel
  cases gk with
  | zero => exact absurd HA.out (by simp [spec_JMember.l0])
  | succ k1 =>
   have H := HA.out
   clear HA
   simp only [spec_JMember.l0] at H
   by_cases c5 : x5_1 ≥ 0
   ·rw [if_pos c5] at H
    have c5b0 : decide (0 ≤ x5_1) = true := decide_eq_true c5
    clear c5
    by_cases c6 : 0 ≤ x5_1
    ·rw [if_pos c6] at H
     have c6b0 : decide (0 ≤ x5_1) = true := decide_eq_true c6
     clear c6
     by_cases c7 : x5_1 < (l0_4.length : Int)
     ·rw [if_pos c7] at H
      have c7b0 : decide (x5_1 < (l0_4.length : Int)) = true := decide_eq_true c7
      clear c7
      by_cases c8 : (rdOf ByteArray.empty l0_4 x5_1).toList = a1.toList
      ·rw [if_pos c8] at H
       have c8b0 : ((rdOf ByteArray.empty l0_4 x5_1).toList == a1.toList) = true := beq_iff_eq.mpr c8
       have c8b1 : ((rdOf ByteArray.empty l0_4 x5_1).toList != a1.toList) = false := bne_eq_false_iff_eq.mpr c8
       clear c8
       obtain rfl := Option.some.inj H
       have hcz9_0 := cz_ BK148.out 0
       have hcz9_1 := cz_ BK148.out 1
       have hcz9_2 := cz_ BK148.out 2
       have hcz9_3 := cz_ BK148.out 3
       have hcz9_4 := cz_ BK148.out 4
       have hcz9_5 := cz_ BK148.out 5
       have hfz9_0 := blk_frozen BK148.out 0
       have hfz9_1 := blk_frozen BK148.out 1
       have hfz9_2 := blk_frozen BK148.out 2
       have hfz9_3 := blk_frozen BK148.out 3
       have hfz9_4 := blk_frozen BK148.out 4
       have hfz9_5 := blk_frozen BK148.out 5
       have p149 : 0 ≤ (x5_1 : Int) := of_decide_eq_true as_
       have q149 : x5_1 < (l0_4.length : Int) := of_decide_eq_true as_
       obtain ⟨ad149, e149, hx149_0⟩ := Kd.at_string HR0_4.out x5_1 p149 q149
       cases e149
       replace hx149_0 := (HB.out.cell (World.block_lt_of_cell? w _ hx149_0)).trans hx149_0
       replace p149 := eq_true p149
       replace q149 := eq_true q149
       go_wp2
       go_ret
       exact ⟨er_, wb_⟩
      ·rw [if_neg c8] at H
       have c8b0 : ((rdOf ByteArray.empty l0_4 x5_1).toList == a1.toList) = false := beq_eq_false_iff_ne.mpr c8
       have c8b1 : ((rdOf ByteArray.empty l0_4 x5_1).toList != a1.toList) = true := bne_iff_ne.mpr c8
       have H' := asd_ H
       clear H
       have hcz10_0 := cz_ BK148.out 0
       have hcz10_1 := cz_ BK148.out 1
       have hcz10_2 := cz_ BK148.out 2
       have hcz10_3 := cz_ BK148.out 3
       have hcz10_4 := cz_ BK148.out 4
       have hcz10_5 := cz_ BK148.out 5
       have hfz10_0 := blk_frozen BK148.out 0
       have hfz10_1 := blk_frozen BK148.out 1
       have hfz10_2 := blk_frozen BK148.out 2
       have hfz10_3 := blk_frozen BK148.out 3
       have hfz10_4 := blk_frozen BK148.out 4
       have hfz10_5 := blk_frozen BK148.out 5
       have p149 : 0 ≤ (x5_1 : Int) := of_decide_eq_true as_
       have q149 : x5_1 < (l0_4.length : Int) := of_decide_eq_true as_
       obtain ⟨ad149, e149, hx149_0⟩ := Kd.at_string HR0_4.out x5_1 p149 q149
       cases e149
       replace hx149_0 := (HB.out.cell (World.block_lt_of_cell? w _ hx149_0)).trans hx149_0
       replace p149 := eq_true p149
       replace q149 := eq_true q149
       go_wp2
       go_roundg k1
       case measure => have := HK1.out; omega
       case rel => exact ⟨(wrap64 (x5_1 - 1)), r1_, H', ⟨by have := HK1.out; omega⟩, ⟨bk_⟩, ⟨wb_⟩⟩
     ·rw [if_neg c7] at H
      exact absurd H (by simp)
    ·rw [if_neg c6] at H
     exact absurd H (by simp)
   ·rw [if_neg c5] at H
    have c5b0 : decide (0 ≤ x5_1) = false := decide_eq_false c5
    clear c5
    obtain rfl := Option.some.inj H
    go_wp2
    go_ret
    exact ⟨er_, wb_⟩
def spec_JMembers.l0 : Nat → List Int → Int → Int → Bool → Int → ByteArray → List ByteArray → List (S25) → Option (List Int)
 | 0, _, _, _, _, _, _, _, _ => none
 | k + 1, x3, x4, x151000, x151001, x151002, x151003, x151004, x151005 => if x4 < (x151004.length : Int) then (if 0 ≤ x4 then ((spec_JMember.f k x151000 x151001 x151002 x151003 x151004 x151005 (rdOf ByteArray.empty x151004 x4)).bind fun t152 => (if t152 = x4 then (if x3.length < 17592186044416 then (spec_JMembers.l0 k (x3 ++ [x4]) (wrap64 (x4 + 1)) x151000 x151001 x151002 x151003 x151004 x151005) else (none)) else (spec_JMembers.l0 k x3 (wrap64 (x4 + 1)) x151000 x151001 x151002 x151003 x151004 x151005))) else (none)) else (some x3)
def spec_JMembers.f (k : Nat) (a0_0 : Int) (a0_1 : Bool) (a0_2 : Int) (a0_3 : ByteArray) (l0_4 : List ByteArray) (l0_5 : List (S25)) : Option (List Int) := spec_JMembers.l0 k ([] : List Int) 0 a0_0 a0_1 a0_2 a0_3 l0_4 l0_5
def spec_JMembers.T5 : Bool × List (List Nat × List Nat) := (true, [([], []), ([], []), ([1], [1]), ([], []), ([2, 3], [2, 3]), ([4], [4]), ([0, 5], [0, 5]), ([], []), ([6, 7], [6, 7])])
def spec_JMembers.B5 : List Nat := [0, 0, 2, 0, 14, 30, 63, 0, 255]
theorem spec_JMembers.tab5 : rtab .any (opsOf Tryz.f74 5) = spec_JMembers.T5 := by kernel_rfl
theorem spec_JMembers.bits5 : waitsOk spec_JMembers.T5.2 spec_JMembers.B5 = true := by kernel_rfl
set_option maxHeartbeats 8000000 in
set_option maxRecDepth 100000 in
theorem spec_JMembers.calls (k : Nat) (a0_0 : Int) (a0_1 : Bool) (a0_2 : Int) (a0_3 : ByteArray) (A0_4 : Option Addr) (c0_4 : Nat) (l0_4 : List ByteArray) (A0_5 : Option Addr) (c0_5 : Nat) (l0_5 : List (S25)) (r : List Int) (w : World) (hr0_4 : Kd.C Kd.string w A0_4 l0_4.length l0_4) (hc0_4 : l0_4.length ≤ c0_4) (hr0_5 : Kd.C k25 w A0_5 l0_5.length l0_5) (hc0_5 : l0_5.length ≤ c0_5) (h : spec_JMembers.f k a0_0 a0_1 a0_2 a0_3 l0_4 l0_5 = some r) :
  Calls Tryz.prog 74 #[.agg #[.int .i64 a0_0, .bool a0_1, .int .i64 a0_2, .string a0_3, .slice A0_4 l0_4.length c0_4, .slice A0_5 l0_5.length c0_5]] w fun e w' => ∃ v0_ : Value, e = .returned (v0_) ∧ Kd.R (Kd.int .i64) 3 w' w.heap.size (fun _ => True) v0_ r ∧ Below w.heap.size w w' := by
 have hu25 := Tryz.underlying25
 have HR0_4 := asd_ hr0_4
 have HC0_4 := asd_ hc0_4
 clear hr0_4 hc0_4
 have HR0_5 := asd_ hr0_5
 have HC0_5 := asd_ hc0_5
 clear hr0_5 hc0_5
 have HB := asd_ (Below.refl w.heap.size w)
 have H : (spec_JMembers.l0 k ([] : List Int) 0 a0_0 a0_1 a0_2 a0_3 l0_4 l0_5) = some r := h
 clear h
 have H' := asd_ H
 clear H
 go_enter Tryz.func74, Tryz.ntmps74
 go_wp2_with (first | ((with_reducible refine gate_dst (N := 1) rfl ?_); refine box_event ?hg (N := 1) ?hd (cs := #[.int .i64 a0_0, .bool a0_1, .int .i64 a0_2, .string a0_3, .slice A0_4 l0_4.length c0_4, .slice A0_5 l0_5.length c0_5]) (t := 25) ?hr ?_; (case hd => rfl); (case hg => rfl); (case hr => first | (go_simp; done) | (go_simp; rfl)); intro gb150 hg w2 hbox hb; have n0_ := asd_ (below_step wb_ hb); have n1_ := asd_ (hbox); have n2_ := asd_ ((by rw [hg]; exact (below_size wb_) : w.heap.size ≤ gb150)); have n3_ := asd_ ((by rw [hg]; exact (below_size wb_) : w.heap.size ≤ gb150)); clear HB; have HB := n0_; have BK150 := n1_; have GW150 := n2_; have GE150 := n3_; clear n0_ n1_ n2_ n3_; clear hb hbox hg))
 go_loopg [3, 4] k (fun kq v3 v4 w' => ∃ (x3_1 : List Int) (x4_1 : Int), v4 = .int .i64 x4_1 ∧ Aside0 (spec_JMembers.l0 kq x3_1 x4_1 a0_0 a0_1 a0_2 a0_3 l0_4 l0_5 = some r) ∧ Aside0 (kq ≤ k) ∧ Aside0 (Kd.R (Kd.int .i64) 3 w' w.heap.size (fun _ => True) v3 x3_1) ∧ Aside0 (w'.heap[gb150]? = some (.cells #[.int .i64 a0_0, .bool a0_1, .int .i64 a0_2, .string a0_3, (.slice A0_4 l0_4.length c0_4), (.slice A0_5 l0_5.length c0_5)] 25 (0, 0))) ∧ Aside0 (Below w.heap.size w w'))
 case atStart => exact ⟨(([] : List Int)), (0), r1_, H', ⟨Nat.le_refl _⟩, ⟨by first | exact Kd.R_nil _ _ _ _ _ | exact Kd.N_nil _ _ _ _ _ | exact Kd.V_nil _ _ _ _ _ | exact Kd.Q_nil _ _ _ _ _ | exact Kd.S_nil _ _ _ _ _⟩, ⟨bk_⟩, ⟨wb_⟩⟩
 case round =>
  clear H'
  obtain ⟨x3_1, x4_1, rfl, HA, HK1, HO_3, BK150, HB⟩ := hrel
  cases gk with
  | zero => exact absurd HA.out (by simp [spec_JMembers.l0])
  | succ k1 =>
   have H := HA.out
   clear HA
   simp only [spec_JMembers.l0] at H
   by_cases c3 : x4_1 < (l0_4.length : Int)
   ·rw [if_pos c3] at H
    have c3b0 : decide (x4_1 < (l0_4.length : Int)) = true := decide_eq_true c3
    clear c3
    by_cases c4 : 0 ≤ x4_1
    ·rw [if_pos c4] at H
     have c4b0 : decide (0 ≤ x4_1) = true := decide_eq_true c4
     clear c4
     replace H := Option.bind_eq_some_iff.mp H
     obtain ⟨t152, A50, H⟩ := H
     replace H : (if t152 = x4_1 then (if x3_1.length < 17592186044416 then (spec_JMembers.l0 k1 (x3_1 ++ [x4_1]) (wrap64 (x4_1 + 1)) a0_0 a0_1 a0_2 a0_3 l0_4 l0_5) else (none)) else (spec_JMembers.l0 k1 x3_1 (wrap64 (x4_1 + 1)) a0_0 a0_1 a0_2 a0_3 l0_4 l0_5)) = some r := H
     have A5 := asd_ A50
     clear A50
     by_cases c6 : t152 = x4_1
     ·rw [if_pos c6] at H
      have c6b0 : (t152 == x4_1) = true := beq_iff_eq.mpr c6
      have c6b1 : (t152 != x4_1) = false := bne_eq_false_iff_eq.mpr c6
      clear c6
      by_cases c7 : x3_1.length < 17592186044416
      ·rw [if_pos c7] at H
       have LMc7 := asd_ c7
       clear c7
       obtain ⟨y153, hy153⟩ : ∃ y_ : List Int, y_ = (x3_1 ++ [x4_1]) := ⟨_, rfl⟩
       replace H : (spec_JMembers.l0 k1 y153 (wrap64 (x4_1 + 1)) a0_0 a0_1 a0_2 a0_3 l0_4 l0_5) = some r := by first | (rw [hy153]; with_reducible exact H) | (have H2_ := (Option.bind_some _ _).symm.trans H; rw [hy153]; with_reducible exact H2_) | (have H2_ := (Option.bind_some _ _).symm.trans H; with_reducible exact H2_) | with_reducible exact H | (rw [hy153]; exact H) | exact H
       have Ny153 := asd_ hy153
       clear hy153
       have H' := asd_ H
       clear H
       have hcz8_0 := cz_ BK150.out 0
       have hcz8_1 := cz_ BK150.out 1
       have hcz8_2 := cz_ BK150.out 2
       have hcz8_3 := cz_ BK150.out 3
       have hcz8_4 := cz_ BK150.out 4
       have hcz8_5 := cz_ BK150.out 5
       have hfz8_0 := blk_frozen BK150.out 0
       have hfz8_1 := blk_frozen BK150.out 1
       have hfz8_2 := blk_frozen BK150.out 2
       have hfz8_3 := blk_frozen BK150.out 3
       have hfz8_4 := blk_frozen BK150.out 4
       have hfz8_5 := blk_frozen BK150.out 5
       try go_wp2
       have n0_ := asd_ (Kd.R_drew HO_3.out)
       have n1_ := asd_ (blk_drew BK150.out)
       have n2_ := asd_ (below_drew1 HB.out)
       clear HO_3
       clear BK150
       clear HB
       have HO_3 := n0_
       have BK150 := n1_
       have HB := n2_
       clear n0_ n1_ n2_
       have p151 : 0 ≤ (x4_1 : Int) := of_decide_eq_true as_
       have q151 : x4_1 < (l0_4.length : Int) := of_decide_eq_true as_
       obtain ⟨ad151, e151, hx151_0⟩ := Kd.at_string HR0_4.out x4_1 p151 q151
       have hw151_0 := hx151_0
       cases e151
       replace hx151_0 := (HB.out.cell (World.block_lt_of_cell? w _ hx151_0)).trans hx151_0
       replace p151 := eq_true p151
       replace q151 := eq_true q151
       refine start_ (n := 9) (S := fun w' => w'.cell? ⟨gb150, 0, none⟩ = some (.int .i64 a0_0) ∧ w'.cell? ⟨gb150, 1, none⟩ = some (.bool a0_1) ∧ w'.cell? ⟨gb150, 2, none⟩ = some (.int .i64 a0_2) ∧ w'.cell? ⟨gb150, 3, none⟩ = some (.string a0_3) ∧ w'.cell? ⟨gb150, 4, none⟩ = some (.slice (some ad151) l0_4.length c0_4) ∧ w'.cell? ⟨gb150, 5, none⟩ = some (.slice A0_5 l0_5.length c0_5) ∧ w'.cell? (ad151.add (x4_1).toNat) = some (.string (rdOf ByteArray.empty l0_4 x4_1))) (ds := []) #[false, false, false, false, false, false, false, false, false] kr_ rfl rfl ⟨(blk_cell BK150.out 0).trans rfl, (blk_cell BK150.out 1).trans rfl, (blk_cell BK150.out 2).trans rfl, (blk_cell BK150.out 3).trans rfl, (blk_cell BK150.out 4).trans rfl, (blk_cell BK150.out 5).trans rfl, ((HB.out.cell (World.block_lt_of_cell? w _ hw151_0)).trans hw151_0)⟩ (fun hHeld => ?_); refine with_tabW spec_JMembers.tab5 spec_JMembers.bits5 (fun HT_ HW_ => ?_)
       generalize wr.drew = w9 at HO_3 BK150 HB hx151_0 hHeld ⊢
       refine pure_ (i := 1) (N := some 13) (v := ?_) (a' := ?_) #[false, true, false, false, false, false, false, false, false] rfl rfl (any_of HT_.out kr_) (fun _ _ _ h => h) (Or.inl ⟨by rfl, ?_⟩) ?_ ?_
       rotate_left
       ·intro w'
        go_simp
        with_reducible rfl
       rotate_left
       ·simp only [Act.put, List.setIfInBounds_toArray, List.set_cons_zero, List.set_cons_succ, i64_w, i32_w]
        rfl
       refine pure_ (i := 3) (N := some 15) (v := ?_) (a' := ?_) #[false, true, false, true, false, false, false, false, false] rfl rfl (any_of HT_.out kr_) (fun _ _ _ h => h) (Or.inl ⟨by rfl, ?_⟩) ?_ ?_
       rotate_left
       ·intro w'
        go_simp
        with_reducible rfl
       rotate_left
       ·simp only [Act.put, List.setIfInBounds_toArray, List.set_cons_zero, List.set_cons_succ, i64_w, i32_w]
        rfl
       refine pure_ (i := 7) (N := some 19) (v := ?_) (a' := ?_) #[false, true, false, true, false, false, false, true, false] rfl rfl (any_of HT_.out kr_) (fun _ _ _ h => h) (Or.inl ⟨by rfl, ?_⟩) ?_ ?_
       rotate_left
       ·intro w'
        go_simp
        with_reducible rfl
       rotate_left
       ·simp only [Act.put, List.setIfInBounds_toArray, List.set_cons_zero, List.set_cons_succ, i64_w, i32_w]
        rfl
       refine take_ (i := 0) (N := some 12) (v := ?_) (a' := ?_) #[true, true, false, true, false, false, false, true, false] rfl rfl (take_ofW HT_.out HW_.out kr_) (fun _ _ _ h => h) (Or.inl ⟨by rfl, ?_⟩) hHeld ?_ ?_
       rotate_left
       ·rintro w' ⟨s0, s1, s2, s3, s4, s5, s6⟩
        go_simp
        with_reducible rfl
       rotate_left
       ·simp only [Act.put, List.setIfInBounds_toArray, List.set_cons_zero, List.set_cons_succ, i64_w, i32_w]
        rfl
       refine take_ (i := 2) (N := some 14) (v := ?_) (a' := ?_) #[true, true, true, true, false, false, false, true, false] rfl rfl (take_ofW HT_.out HW_.out kr_) (fun _ _ _ h => h) (Or.inl ⟨by rfl, ?_⟩) hHeld ?_ ?_
       rotate_left
       ·rintro w' ⟨s0, s1, s2, s3, s4, s5, s6⟩
        go_simp
        with_reducible rfl
       rotate_left
       ·simp only [Act.put, List.setIfInBounds_toArray, List.set_cons_zero, List.set_cons_succ, i64_w, i32_w]
        rfl
       refine pure_ (i := 4) (N := some 16) (v := ?_) (a' := ?_) #[true, true, true, true, true, false, false, true, false] rfl rfl (any_of HT_.out kr_) (fun _ _ _ h => h) (Or.inl ⟨by rfl, ?_⟩) ?_ ?_
       rotate_left
       ·intro w'
        go_simp
        with_reducible rfl
       rotate_left
       ·simp only [Act.put, List.setIfInBounds_toArray, List.set_cons_zero, List.set_cons_succ, i64_w, i32_w]
        rfl
       refine take_ (i := 5) (N := some 17) (v := ?_) (a' := ?_) #[true, true, true, true, true, true, false, true, false] rfl rfl (take_ofW HT_.out HW_.out kr_) (fun _ _ _ h => h) (Or.inl ⟨by rfl, ?_⟩) hHeld ?_ ?_
       rotate_left
       ·rintro w' ⟨s0, s1, s2, s3, s4, s5, s6⟩
        go_simp
        with_reducible rfl
       rotate_left
       ·simp only [Act.put, List.setIfInBounds_toArray, List.set_cons_zero, List.set_cons_succ, i64_w, i32_w]
        rfl
       refine one_ (i := 6) (N := some 18) #[true, true, true, true, true, true, true, true, false] rfl rfl (one_of HT_.out kr_) (by decide) (fun K hK => ?_)
       refine goes_ Tryz.func65 kr_ rfl #[.agg #[.int .i64 a0_0, .bool a0_1, .int .i64 a0_2, .string a0_3, .slice (some ad151) l0_4.length c0_4, .slice A0_5 l0_5.length c0_5], .string (rdOf ByteArray.empty l0_4 x4_1)] (by rfl) rfl rfl ap_ ?_
       with_reducible refine (spec_JMember.calls k1 a0_0 a0_1 a0_2 a0_3 _ _ l0_4 _ _ l0_5 (rdOf ByteArray.empty l0_4 x4_1) t152 _ ?side1 ?side2 ?side3 ?side4 A5.out).mono ?_
       (case side1 => repeat (first | exact (Kd.C_below HR0_4.out HB.out) | (with_reducible refine Kd.C_alloc ?_ _) | (with_reducible refine Kd.C_drewN ?_ _) | (with_reducible refine Kd.C_drew ?_)))
       (case side2 => exact HC0_4.out)
       (case side3 => repeat (first | exact (Kd.C_below HR0_5.out HB.out) | (with_reducible refine Kd.C_alloc ?_ _) | (with_reducible refine Kd.C_drewN ?_ _) | (with_reducible refine Kd.C_drew ?_)))
       (case side4 => exact HC0_5.out)
       rintro e w10 ⟨rfl, hb⟩
       refine ⟨_, rfl, ?_⟩
       have n0_ := asd_ (Kd.R_below (by (with_reducible repeat (first | apply Kd.R_alloc | apply Kd.R_drewN | apply Kd.R_drew)); exact HO_3.out) hb)
       have n1_ := asd_ (blk_below (g := gb150) (o := .cells #[.int .i64 a0_0, .bool a0_1, .int .i64 a0_2, .string a0_3, .slice (some ad151) l0_4.length c0_4, .slice A0_5 l0_5.length c0_5] 25 (0, 0)) bk_ hb)
       have n2_ := asd_ (below_step wb_ hb)
       clear HO_3
       clear BK150
       clear HB
       have HO_3 := n0_
       have BK150 := n1_
       have HB := n2_
       clear n0_ n1_ n2_
       (try clear hb)
       (try clear hb2)
       (try clear hk)
       (try clear hi)
       refine hK.out _ _ ⟨(blk_cell BK150.out 0).trans rfl, (blk_cell BK150.out 1).trans rfl, (blk_cell BK150.out 2).trans rfl, (blk_cell BK150.out 3).trans rfl, (blk_cell BK150.out 4).trans rfl, (blk_cell BK150.out 5).trans rfl, ((HB.out.cell (World.block_lt_of_cell? w _ hw151_0)).trans hw151_0)⟩ (fun hHeld => ?_)
       clear hK K
       refine norm_ (a' := ?_) ?_ ?_
       rotate_left
       ·show Act.put _ (some 18) _ = _
        simp only [Act.put, List.setIfInBounds_toArray, List.set_cons_zero, List.set_cons_succ, i64_w, i32_w]
        rfl
       refine pure_ (i := 8) (N := some 20) (v := ?_) (a' := ?_) #[true, true, true, true, true, true, true, true, true] rfl rfl (any_of HT_.out kr_) (fun _ _ _ h => h) (Or.inl ⟨by rfl, ?_⟩) ?_ ?_
       rotate_left
       ·intro w'
        go_simp
        with_reducible rfl
       rotate_left
       ·simp only [Act.put, List.setIfInBounds_toArray, List.set_cons_zero, List.set_cons_succ, i64_w, i32_w]
        rfl
       refine done_ (done_of HT_.out kr_) ?_
       try go_wp2_with (first | ((with_reducible refine gate_builtin (b := .append) (xs := #[.tmp 21, .tmp 23]) rfl ?_); at_builtin; refine Kd.R_append (Kd.int .i64) (w0 := w) w.heap.size rfl (.tmp 21) (.tmp 23) 33 3 (.int .i64 0) 8 rfl Tryz.underlying33 info3 rfl (by decide) (by omega) u3 x3_1 x4_1 [.int .i64 x4_1] (fun _ => True) (fun _ => False) rfl rfl ?aP (fun _ hk => hk.elim) ?aF ?aO ?aB ?aS ?aL ?_; (case aP => exact rfl); (case aB => exact wb_); (case aF => exact (fun _ _ => trivial)); (case aO => exact (by (with_reducible repeat (first | apply Kd.R_alloc | apply Kd.R_drewN | apply Kd.R_drew)); exact HO_3.out)); (case aS => exact (below_size wb_)); (case aL => have := LMc7.out; omega); intro v154 w11 ho hb hg hat; rw [← Ny153.out] at ho; have n0_ := asd_ (blk_grown (g := gb150) (o := .cells #[.int .i64 a0_0, .bool a0_1, .int .i64 a0_2, .string a0_3, .slice (some ad151) l0_4.length c0_4, .slice A0_5 l0_5.length c0_5] 25 (0, 0)) bk_ hg (Kd.R_ne HO_3.out BK150.out (by decide))); have n1_ := asd_ (hb); have n2_ := asd_ (ho); clear BK150; clear HB; clear HO_3; have BK150 := n0_; have HB := n1_; have HO155 := n2_; clear n0_ n1_ n2_; clear ho hb hg hat))
       go_roundg k1
       case measure => have := HK1.out; omega
       case rel => exact ⟨(y153), (wrap64 (x4_1 + 1)), r1_, H', ⟨by have := HK1.out; omega⟩, ⟨by (with_reducible repeat (first | apply Kd.R_alloc | apply Kd.R_drewN | apply Kd.R_drew)); exact HO155.out⟩, ⟨bk_⟩, ⟨wb_⟩⟩
      ·rw [if_neg c7] at H
       exact absurd H (by simp)
     ·rw [if_neg c6] at H
      have c6b0 : (t152 == x4_1) = false := beq_eq_false_iff_ne.mpr c6
      have c6b1 : (t152 != x4_1) = true := bne_iff_ne.mpr c6
      have H' := asd_ H
      clear H
      have hcz12_0 := cz_ BK150.out 0
      have hcz12_1 := cz_ BK150.out 1
      have hcz12_2 := cz_ BK150.out 2
      have hcz12_3 := cz_ BK150.out 3
      have hcz12_4 := cz_ BK150.out 4
      have hcz12_5 := cz_ BK150.out 5
      have hfz12_0 := blk_frozen BK150.out 0
      have hfz12_1 := blk_frozen BK150.out 1
      have hfz12_2 := blk_frozen BK150.out 2
      have hfz12_3 := blk_frozen BK150.out 3
      have hfz12_4 := blk_frozen BK150.out 4
      have hfz12_5 := blk_frozen BK150.out 5
      try go_wp2
      have n0_ := asd_ (Kd.R_drew HO_3.out)
      have n1_ := asd_ (blk_drew BK150.out)
      have n2_ := asd_ (below_drew1 HB.out)
      clear HO_3
      clear BK150
      clear HB
      have HO_3 := n0_
      have BK150 := n1_
      have HB := n2_
      clear n0_ n1_ n2_
      have p151 : 0 ≤ (x4_1 : Int) := of_decide_eq_true as_
      have q151 : x4_1 < (l0_4.length : Int) := of_decide_eq_true as_
      obtain ⟨ad151, e151, hx151_0⟩ := Kd.at_string HR0_4.out x4_1 p151 q151
      have hw151_0 := hx151_0
      cases e151
      replace hx151_0 := (HB.out.cell (World.block_lt_of_cell? w _ hx151_0)).trans hx151_0
      replace p151 := eq_true p151
      replace q151 := eq_true q151
      refine start_ (n := 9) (S := fun w' => w'.cell? ⟨gb150, 0, none⟩ = some (.int .i64 a0_0) ∧ w'.cell? ⟨gb150, 1, none⟩ = some (.bool a0_1) ∧ w'.cell? ⟨gb150, 2, none⟩ = some (.int .i64 a0_2) ∧ w'.cell? ⟨gb150, 3, none⟩ = some (.string a0_3) ∧ w'.cell? ⟨gb150, 4, none⟩ = some (.slice (some ad151) l0_4.length c0_4) ∧ w'.cell? ⟨gb150, 5, none⟩ = some (.slice A0_5 l0_5.length c0_5) ∧ w'.cell? (ad151.add (x4_1).toNat) = some (.string (rdOf ByteArray.empty l0_4 x4_1))) (ds := []) #[false, false, false, false, false, false, false, false, false] kr_ rfl rfl ⟨(blk_cell BK150.out 0).trans rfl, (blk_cell BK150.out 1).trans rfl, (blk_cell BK150.out 2).trans rfl, (blk_cell BK150.out 3).trans rfl, (blk_cell BK150.out 4).trans rfl, (blk_cell BK150.out 5).trans rfl, ((HB.out.cell (World.block_lt_of_cell? w _ hw151_0)).trans hw151_0)⟩ (fun hHeld => ?_); refine with_tabW spec_JMembers.tab5 spec_JMembers.bits5 (fun HT_ HW_ => ?_)
      generalize wr.drew = w13 at HO_3 BK150 HB hx151_0 hHeld ⊢
      refine pure_ (i := 1) (N := some 13) (v := ?_) (a' := ?_) #[false, true, false, false, false, false, false, false, false] rfl rfl (any_of HT_.out kr_) (fun _ _ _ h => h) (Or.inl ⟨by rfl, ?_⟩) ?_ ?_
      rotate_left
      ·intro w'
       go_simp
       with_reducible rfl
      rotate_left
      ·simp only [Act.put, List.setIfInBounds_toArray, List.set_cons_zero, List.set_cons_succ, i64_w, i32_w]
       rfl
      refine pure_ (i := 3) (N := some 15) (v := ?_) (a' := ?_) #[false, true, false, true, false, false, false, false, false] rfl rfl (any_of HT_.out kr_) (fun _ _ _ h => h) (Or.inl ⟨by rfl, ?_⟩) ?_ ?_
      rotate_left
      ·intro w'
       go_simp
       with_reducible rfl
      rotate_left
      ·simp only [Act.put, List.setIfInBounds_toArray, List.set_cons_zero, List.set_cons_succ, i64_w, i32_w]
       rfl
      refine pure_ (i := 7) (N := some 19) (v := ?_) (a' := ?_) #[false, true, false, true, false, false, false, true, false] rfl rfl (any_of HT_.out kr_) (fun _ _ _ h => h) (Or.inl ⟨by rfl, ?_⟩) ?_ ?_
      rotate_left
      ·intro w'
       go_simp
       with_reducible rfl
      rotate_left
      ·simp only [Act.put, List.setIfInBounds_toArray, List.set_cons_zero, List.set_cons_succ, i64_w, i32_w]
       rfl
      refine take_ (i := 0) (N := some 12) (v := ?_) (a' := ?_) #[true, true, false, true, false, false, false, true, false] rfl rfl (take_ofW HT_.out HW_.out kr_) (fun _ _ _ h => h) (Or.inl ⟨by rfl, ?_⟩) hHeld ?_ ?_
      rotate_left
      ·rintro w' ⟨s0, s1, s2, s3, s4, s5, s6⟩
       go_simp
       with_reducible rfl
      rotate_left
      ·simp only [Act.put, List.setIfInBounds_toArray, List.set_cons_zero, List.set_cons_succ, i64_w, i32_w]
       rfl
      refine take_ (i := 2) (N := some 14) (v := ?_) (a' := ?_) #[true, true, true, true, false, false, false, true, false] rfl rfl (take_ofW HT_.out HW_.out kr_) (fun _ _ _ h => h) (Or.inl ⟨by rfl, ?_⟩) hHeld ?_ ?_
      rotate_left
      ·rintro w' ⟨s0, s1, s2, s3, s4, s5, s6⟩
       go_simp
       with_reducible rfl
      rotate_left
      ·simp only [Act.put, List.setIfInBounds_toArray, List.set_cons_zero, List.set_cons_succ, i64_w, i32_w]
       rfl
      refine pure_ (i := 4) (N := some 16) (v := ?_) (a' := ?_) #[true, true, true, true, true, false, false, true, false] rfl rfl (any_of HT_.out kr_) (fun _ _ _ h => h) (Or.inl ⟨by rfl, ?_⟩) ?_ ?_
      rotate_left
      ·intro w'
       go_simp
       with_reducible rfl
      rotate_left
      ·simp only [Act.put, List.setIfInBounds_toArray, List.set_cons_zero, List.set_cons_succ, i64_w, i32_w]
       rfl
      refine take_ (i := 5) (N := some 17) (v := ?_) (a' := ?_) #[true, true, true, true, true, true, false, true, false] rfl rfl (take_ofW HT_.out HW_.out kr_) (fun _ _ _ h => h) (Or.inl ⟨by rfl, ?_⟩) hHeld ?_ ?_
      rotate_left
      ·rintro w' ⟨s0, s1, s2, s3, s4, s5, s6⟩
       go_simp
       with_reducible rfl
      rotate_left
      ·simp only [Act.put, List.setIfInBounds_toArray, List.set_cons_zero, List.set_cons_succ, i64_w, i32_w]
       rfl
      refine one_ (i := 6) (N := some 18) #[true, true, true, true, true, true, true, true, false] rfl rfl (one_of HT_.out kr_) (by decide) (fun K hK => ?_)
      refine goes_ Tryz.func65 kr_ rfl #[.agg #[.int .i64 a0_0, .bool a0_1, .int .i64 a0_2, .string a0_3, .slice (some ad151) l0_4.length c0_4, .slice A0_5 l0_5.length c0_5], .string (rdOf ByteArray.empty l0_4 x4_1)] (by rfl) rfl rfl ap_ ?_
      with_reducible refine (spec_JMember.calls k1 a0_0 a0_1 a0_2 a0_3 _ _ l0_4 _ _ l0_5 (rdOf ByteArray.empty l0_4 x4_1) t152 _ ?side1 ?side2 ?side3 ?side4 A5.out).mono ?_
      (case side1 => repeat (first | exact (Kd.C_below HR0_4.out HB.out) | (with_reducible refine Kd.C_alloc ?_ _) | (with_reducible refine Kd.C_drewN ?_ _) | (with_reducible refine Kd.C_drew ?_)))
      (case side2 => exact HC0_4.out)
      (case side3 => repeat (first | exact (Kd.C_below HR0_5.out HB.out) | (with_reducible refine Kd.C_alloc ?_ _) | (with_reducible refine Kd.C_drewN ?_ _) | (with_reducible refine Kd.C_drew ?_)))
      (case side4 => exact HC0_5.out)
      rintro e w14 ⟨rfl, hb⟩
      refine ⟨_, rfl, ?_⟩
      have n0_ := asd_ (Kd.R_below (by (with_reducible repeat (first | apply Kd.R_alloc | apply Kd.R_drewN | apply Kd.R_drew)); exact HO_3.out) hb)
      have n1_ := asd_ (blk_below (g := gb150) (o := .cells #[.int .i64 a0_0, .bool a0_1, .int .i64 a0_2, .string a0_3, .slice (some ad151) l0_4.length c0_4, .slice A0_5 l0_5.length c0_5] 25 (0, 0)) bk_ hb)
      have n2_ := asd_ (below_step wb_ hb)
      clear HO_3
      clear BK150
      clear HB
      have HO_3 := n0_
      have BK150 := n1_
      have HB := n2_
      clear n0_ n1_ n2_
      (try clear hb)
      (try clear hb2)
      (try clear hk)
      (try clear hi)
      refine hK.out _ _ ⟨(blk_cell BK150.out 0).trans rfl, (blk_cell BK150.out 1).trans rfl, (blk_cell BK150.out 2).trans rfl, (blk_cell BK150.out 3).trans rfl, (blk_cell BK150.out 4).trans rfl, (blk_cell BK150.out 5).trans rfl, ((HB.out.cell (World.block_lt_of_cell? w _ hw151_0)).trans hw151_0)⟩ (fun hHeld => ?_)
      clear hK K
      refine norm_ (a' := ?_) ?_ ?_
      rotate_left
      ·show Act.put _ (some 18) _ = _
       simp only [Act.put, List.setIfInBounds_toArray, List.set_cons_zero, List.set_cons_succ, i64_w, i32_w]
       rfl
      refine pure_ (i := 8) (N := some 20) (v := ?_) (a' := ?_) #[true, true, true, true, true, true, true, true, true] rfl rfl (any_of HT_.out kr_) (fun _ _ _ h => h) (Or.inl ⟨by rfl, ?_⟩) ?_ ?_
      rotate_left
      ·intro w'
       go_simp
       with_reducible rfl
      rotate_left
      ·simp only [Act.put, List.setIfInBounds_toArray, List.set_cons_zero, List.set_cons_succ, i64_w, i32_w]
       rfl
      refine done_ (done_of HT_.out kr_) ?_
      try go_wp2
      go_roundg k1
      case measure => have := HK1.out; omega
      case rel => exact ⟨(x3_1), (wrap64 (x4_1 + 1)), r1_, H', ⟨by have := HK1.out; omega⟩, ⟨by (with_reducible repeat (first | apply Kd.R_alloc | apply Kd.R_drewN | apply Kd.R_drew)); exact HO_3.out⟩, ⟨bk_⟩, ⟨wb_⟩⟩
    ·rw [if_neg c4] at H
     exact absurd H (by simp)
   ·rw [if_neg c3] at H
    have c3b0 : decide (x4_1 < (l0_4.length : Int)) = false := decide_eq_false c3
    clear c3
    obtain rfl := Option.some.inj H
    have hcz15_0 := cz_ BK150.out 0
    have hcz15_1 := cz_ BK150.out 1
    have hcz15_2 := cz_ BK150.out 2
    have hcz15_3 := cz_ BK150.out 3
    have hcz15_4 := cz_ BK150.out 4
    have hcz15_5 := cz_ BK150.out 5
    have hfz15_0 := blk_frozen BK150.out 0
    have hfz15_1 := blk_frozen BK150.out 1
    have hfz15_2 := blk_frozen BK150.out 2
    have hfz15_3 := blk_frozen BK150.out 3
    have hfz15_4 := blk_frozen BK150.out 4
    have hfz15_5 := blk_frozen BK150.out 5
    go_wp2
    go_ret
    exact ⟨_, er_, by (with_reducible repeat (first | apply Kd.R_alloc | apply Kd.R_drewN | apply Kd.R_drew)); exact HO_3.out, wb_⟩
def spec_jLacks.l0 : Nat → List ByteArray → List ByteArray → Int → Int → Bool → Int → ByteArray → List ByteArray → List (S25) → Option (List ByteArray)
 | 0, _, _, _, _, _, _, _, _, _ => none
 | k + 1, x1, x5, x6, x168000, x168001, x168002, x168003, x168004, x168005 => if x6 < (x1.length : Int) then (if 0 ≤ x6 then ((spec_JMember.f k x168000 x168001 x168002 x168003 x168004 x168005 (rdOf ByteArray.empty x1 x6)).bind fun t169 => (if t169 < 0 then (if x5.length < 8796093022208 then (spec_jLacks.l0 k x1 (x5 ++ [rdOf ByteArray.empty x1 x6]) (wrap64 (x6 + 1)) x168000 x168001 x168002 x168003 x168004 x168005) else (none)) else (spec_jLacks.l0 k x1 x5 (wrap64 (x6 + 1)) x168000 x168001 x168002 x168003 x168004 x168005))) else (none)) else (some x5)
def spec_jLacks.f (k : Nat) (a0_0 : Int) (a0_1 : Bool) (a0_2 : Int) (a0_3 : ByteArray) (l0_4 : List ByteArray) (l0_5 : List (S25)) (l1 : List ByteArray) : Option (List ByteArray) := spec_jLacks.l0 k l1 ([] : List ByteArray) 0 a0_0 a0_1 a0_2 a0_3 l0_4 l0_5
set_option maxHeartbeats 8000000 in
set_option maxRecDepth 100000 in
theorem spec_jLacks.calls (k : Nat) (a0_0 : Int) (a0_1 : Bool) (a0_2 : Int) (a0_3 : ByteArray) (A0_4 : Option Addr) (c0_4 : Nat) (l0_4 : List ByteArray) (A0_5 : Option Addr) (c0_5 : Nat) (l0_5 : List (S25)) (A1 : Option Addr) (c1 : Nat) (l1 : List ByteArray) (r : List ByteArray) (w : World) (hr0_4 : Kd.C Kd.string w A0_4 l0_4.length l0_4) (hc0_4 : l0_4.length ≤ c0_4) (hr0_5 : Kd.C k25 w A0_5 l0_5.length l0_5) (hc0_5 : l0_5.length ≤ c0_5) (hr1 : Kd.C Kd.string w A1 l1.length l1) (hc1 : l1.length ≤ c1) (h : spec_jLacks.f k a0_0 a0_1 a0_2 a0_3 l0_4 l0_5 l1 = some r) :
  Calls Tryz.prog 125 #[.agg #[.int .i64 a0_0, .bool a0_1, .int .i64 a0_2, .string a0_3, .slice A0_4 l0_4.length c0_4, .slice A0_5 l0_5.length c0_5], .slice A1 l1.length c1] w fun e w' => ∃ v0_ : Value, e = .returned (v0_) ∧ Kd.R Kd.string 9 w' w.heap.size (fun _ => True) v0_ r ∧ Below w.heap.size w w' := by
 have hu25 := Tryz.underlying25
 have HR0_4 := asd_ hr0_4
 have HC0_4 := asd_ hc0_4
 clear hr0_4 hc0_4
 have HR0_5 := asd_ hr0_5
 have HC0_5 := asd_ hc0_5
 clear hr0_5 hc0_5
 have HR1 := asd_ hr1
 have HC1 := asd_ hc1
 clear hr1 hc1
 have HB := asd_ (Below.refl w.heap.size w)
 have H : (spec_jLacks.l0 k l1 ([] : List ByteArray) 0 a0_0 a0_1 a0_2 a0_3 l0_4 l0_5) = some r := h
 clear h
 have H' := asd_ H
 clear H
 go_enter Tryz.func125, Tryz.ntmps125
 go_wp2_with (first | ((with_reducible refine gate_dst (N := 2) rfl ?_); refine box_event ?hg (N := 2) ?hd (cs := #[.int .i64 a0_0, .bool a0_1, .int .i64 a0_2, .string a0_3, .slice A0_4 l0_4.length c0_4, .slice A0_5 l0_5.length c0_5]) (t := 25) ?hr ?_; (case hd => rfl); (case hg => rfl); (case hr => first | (go_simp; done) | (go_simp; rfl)); intro gb167 hg w3 hbox hb; have n0_ := asd_ (below_step wb_ hb); have n1_ := asd_ (hbox); have n2_ := asd_ ((by rw [hg]; exact (below_size wb_) : w.heap.size ≤ gb167)); have n3_ := asd_ ((by rw [hg]; exact (below_size wb_) : w.heap.size ≤ gb167)); clear HB; have HB := n0_; have BK167 := n1_; have GW167 := n2_; have GE167 := n3_; clear n0_ n1_ n2_ n3_; clear hb hbox hg))
 go_loopg [5, 6] k (fun kq v5 v6 w' => ∃ (x5_1 : List ByteArray) (x6_1 : Int), v6 = .int .i64 x6_1 ∧ Aside0 (spec_jLacks.l0 kq l1 x5_1 x6_1 a0_0 a0_1 a0_2 a0_3 l0_4 l0_5 = some r) ∧ Aside0 (kq ≤ k) ∧ Aside0 (Kd.R Kd.string 9 w' w.heap.size (fun _ => True) v5 x5_1) ∧ Aside0 (w'.heap[gb167]? = some (.cells #[.int .i64 a0_0, .bool a0_1, .int .i64 a0_2, .string a0_3, (.slice A0_4 l0_4.length c0_4), (.slice A0_5 l0_5.length c0_5)] 25 (0, 0))) ∧ Aside0 (Below w.heap.size w w'))
 case atStart => exact ⟨(([] : List ByteArray)), (0), r1_, H', ⟨Nat.le_refl _⟩, ⟨by first | exact Kd.R_nil _ _ _ _ _ | exact Kd.N_nil _ _ _ _ _ | exact Kd.V_nil _ _ _ _ _ | exact Kd.Q_nil _ _ _ _ _ | exact Kd.S_nil _ _ _ _ _⟩, ⟨bk_⟩, ⟨wb_⟩⟩
 case round =>
  clear H'
  obtain ⟨x5_1, x6_1, rfl, HA, HK1, HO_5, BK167, HB⟩ := hrel
  cases gk with
  | zero => exact absurd HA.out (by simp [spec_jLacks.l0])
  | succ k1 =>
   have H := HA.out
   clear HA
   simp only [spec_jLacks.l0] at H
   by_cases c4 : x6_1 < (l1.length : Int)
   ·rw [if_pos c4] at H
    have c4b0 : decide (x6_1 < (l1.length : Int)) = true := decide_eq_true c4
    clear c4
    by_cases c5 : 0 ≤ x6_1
    ·rw [if_pos c5] at H
     have c5b0 : decide (0 ≤ x6_1) = true := decide_eq_true c5
     clear c5
     replace H := Option.bind_eq_some_iff.mp H
     obtain ⟨t169, A60, H⟩ := H
     replace H : (if t169 < 0 then (if x5_1.length < 8796093022208 then (spec_jLacks.l0 k1 l1 (x5_1 ++ [rdOf ByteArray.empty l1 x6_1]) (wrap64 (x6_1 + 1)) a0_0 a0_1 a0_2 a0_3 l0_4 l0_5) else (none)) else (spec_jLacks.l0 k1 l1 x5_1 (wrap64 (x6_1 + 1)) a0_0 a0_1 a0_2 a0_3 l0_4 l0_5)) = some r := H
     have A6 := asd_ A60
     clear A60
     by_cases c7 : t169 < 0
     ·rw [if_pos c7] at H
      have c7b0 : decide (t169 < 0) = true := decide_eq_true c7
      clear c7
      by_cases c8 : x5_1.length < 8796093022208
      ·rw [if_pos c8] at H
       have LMc8 := asd_ c8
       clear c8
       obtain ⟨y171, hy171⟩ : ∃ y_ : List ByteArray, y_ = (x5_1 ++ [rdOf ByteArray.empty l1 x6_1]) := ⟨_, rfl⟩
       replace H : (spec_jLacks.l0 k1 l1 y171 (wrap64 (x6_1 + 1)) a0_0 a0_1 a0_2 a0_3 l0_4 l0_5) = some r := by first | (rw [hy171]; with_reducible exact H) | (have H2_ := (Option.bind_some _ _).symm.trans H; rw [hy171]; with_reducible exact H2_) | (have H2_ := (Option.bind_some _ _).symm.trans H; with_reducible exact H2_) | with_reducible exact H | (rw [hy171]; exact H) | exact H
       have Ny171 := asd_ hy171
       clear hy171
       have H' := asd_ H
       clear H
       try go_wp2
       have n0_ := asd_ (Kd.R_drew HO_5.out)
       have n1_ := asd_ (blk_drew BK167.out)
       have n2_ := asd_ (below_drew1 HB.out)
       clear HO_5
       clear BK167
       clear HB
       have HO_5 := n0_
       have BK167 := n1_
       have HB := n2_
       clear n0_ n1_ n2_
       have p168 : 0 ≤ (x6_1 : Int) := of_decide_eq_true as_
       have q168 : x6_1 < (l1.length : Int) := of_decide_eq_true as_
       obtain ⟨ad168, e168, hx168_0⟩ := Kd.at_string HR1.out x6_1 p168 q168
       have hw168_0 := hx168_0
       cases e168
       replace hx168_0 := (HB.out.cell (World.block_lt_of_cell? w _ hx168_0)).trans hx168_0
       replace p168 := eq_true p168
       replace q168 := eq_true q168
       refine start_ (n := 7) (S := fun w' => w'.cell? ⟨gb167, 0, none⟩ = some (.int .i64 a0_0) ∧ w'.cell? ⟨gb167, 1, none⟩ = some (.bool a0_1) ∧ w'.cell? ⟨gb167, 2, none⟩ = some (.int .i64 a0_2) ∧ w'.cell? ⟨gb167, 3, none⟩ = some (.string a0_3) ∧ w'.cell? ⟨gb167, 4, none⟩ = some (.slice A0_4 l0_4.length c0_4) ∧ w'.cell? ⟨gb167, 5, none⟩ = some (.slice A0_5 l0_5.length c0_5) ∧ w'.cell? (ad168.add (x6_1).toNat) = some (.string (rdOf ByteArray.empty l1 x6_1))) (ds := []) #[false, false, false, false, false, false, false] kr_ rfl rfl ⟨(blk_cell BK167.out 0).trans rfl, (blk_cell BK167.out 1).trans rfl, (blk_cell BK167.out 2).trans rfl, (blk_cell BK167.out 3).trans rfl, (blk_cell BK167.out 4).trans rfl, (blk_cell BK167.out 5).trans rfl, ((HB.out.cell (World.block_lt_of_cell? w _ hw168_0)).trans hw168_0)⟩ (fun hHeld => ?_)
       generalize wr.drew = w9 at HO_5 BK167 HB hx168_0 hHeld ⊢
       refine pure_ (i := 1) (N := some 14) (v := ?_) (a' := ?_) #[false, true, false, false, false, false, false] rfl rfl kr_ (fun _ _ _ h => h) (Or.inl ⟨by rfl, ?_⟩) ?_ ?_
       rotate_left
       ·intro w'
        go_simp
        with_reducible rfl
       rotate_left
       ·simp only [Act.put, List.setIfInBounds_toArray, List.set_cons_zero, List.set_cons_succ, i64_w, i32_w]
        rfl
       refine pure_ (i := 2) (N := some 15) (v := ?_) (a' := ?_) #[false, true, true, false, false, false, false] rfl rfl kr_ (fun _ _ _ h => h) (Or.inl ⟨by rfl, ?_⟩) ?_ ?_
       rotate_left
       ·intro w'
        go_simp
        with_reducible rfl
       rotate_left
       ·simp only [Act.put, List.setIfInBounds_toArray, List.set_cons_zero, List.set_cons_succ, i64_w, i32_w]
        rfl
       refine pure_ (i := 3) (N := some 16) (v := ?_) (a' := ?_) #[false, true, true, true, false, false, false] rfl rfl kr_ (fun _ _ _ h => h) (Or.inl ⟨by rfl, ?_⟩) ?_ ?_
       rotate_left
       ·intro w'
        go_simp
        with_reducible rfl
       rotate_left
       ·simp only [Act.put, List.setIfInBounds_toArray, List.set_cons_zero, List.set_cons_succ, i64_w, i32_w]
        rfl
       refine take_ (i := 0) (N := some 13) (v := ?_) (a' := ?_) #[true, true, true, true, false, false, false] rfl rfl kr_ (fun _ _ _ h => h) (Or.inl ⟨by rfl, ?_⟩) hHeld ?_ ?_
       rotate_left
       ·rintro w' ⟨s0, s1, s2, s3, s4, s5, s6⟩
        go_simp
        with_reducible rfl
       rotate_left
       ·simp only [Act.put, List.setIfInBounds_toArray, List.set_cons_zero, List.set_cons_succ, i64_w, i32_w]
        rfl
       refine take_ (i := 4) (N := some 17) (v := ?_) (a' := ?_) #[true, true, true, true, true, false, false] rfl rfl kr_ (fun _ _ _ h => h) (Or.inl ⟨by rfl, ?_⟩) hHeld ?_ ?_
       rotate_left
       ·rintro w' ⟨s0, s1, s2, s3, s4, s5, s6⟩
        go_simp
        with_reducible rfl
       rotate_left
       ·simp only [Act.put, List.setIfInBounds_toArray, List.set_cons_zero, List.set_cons_succ, i64_w, i32_w]
        rfl
       refine one_ (i := 5) (N := some 18) #[true, true, true, true, true, true, false] rfl rfl kr_ (by decide) (fun K hK => ?_)
       refine goes_ Tryz.func65 kr_ rfl #[.agg #[.int .i64 a0_0, .bool a0_1, .int .i64 a0_2, .string a0_3, .slice A0_4 l0_4.length c0_4, .slice A0_5 l0_5.length c0_5], .string (rdOf ByteArray.empty l1 x6_1)] (by rfl) rfl rfl ap_ ?_
       with_reducible refine (spec_JMember.calls k1 a0_0 a0_1 a0_2 a0_3 _ _ l0_4 _ _ l0_5 (rdOf ByteArray.empty l1 x6_1) t169 _ ?side1 ?side2 ?side3 ?side4 A6.out).mono ?_
       (case side1 => repeat (first | exact (Kd.C_below HR0_4.out HB.out) | (with_reducible refine Kd.C_alloc ?_ _) | (with_reducible refine Kd.C_drewN ?_ _) | (with_reducible refine Kd.C_drew ?_)))
       (case side2 => exact HC0_4.out)
       (case side3 => repeat (first | exact (Kd.C_below HR0_5.out HB.out) | (with_reducible refine Kd.C_alloc ?_ _) | (with_reducible refine Kd.C_drewN ?_ _) | (with_reducible refine Kd.C_drew ?_)))
       (case side4 => exact HC0_5.out)
       rintro e w10 ⟨rfl, hb⟩
       refine ⟨_, rfl, ?_⟩
       have n0_ := asd_ (Kd.R_below (by (with_reducible repeat (first | apply Kd.R_alloc | apply Kd.R_drewN | apply Kd.R_drew)); exact HO_5.out) hb)
       have n1_ := asd_ (blk_below (g := gb167) (o := .cells #[.int .i64 a0_0, .bool a0_1, .int .i64 a0_2, .string a0_3, .slice A0_4 l0_4.length c0_4, .slice A0_5 l0_5.length c0_5] 25 (0, 0)) bk_ hb)
       have n2_ := asd_ (below_step wb_ hb)
       clear HO_5
       clear BK167
       clear HB
       have HO_5 := n0_
       have BK167 := n1_
       have HB := n2_
       clear n0_ n1_ n2_
       (try clear hb)
       (try clear hb2)
       (try clear hk)
       (try clear hi)
       refine hK.out _ _ ⟨(blk_cell BK167.out 0).trans rfl, (blk_cell BK167.out 1).trans rfl, (blk_cell BK167.out 2).trans rfl, (blk_cell BK167.out 3).trans rfl, (blk_cell BK167.out 4).trans rfl, (blk_cell BK167.out 5).trans rfl, ((HB.out.cell (World.block_lt_of_cell? w _ hw168_0)).trans hw168_0)⟩ (fun hHeld => ?_)
       clear hK K
       refine norm_ (a' := ?_) ?_ ?_
       rotate_left
       ·show Act.put _ (some 18) _ = _
        simp only [Act.put, List.setIfInBounds_toArray, List.set_cons_zero, List.set_cons_succ, i64_w, i32_w]
        rfl
       refine pure_ (i := 6) (N := some 19) (v := ?_) (a' := ?_) #[true, true, true, true, true, true, true] rfl rfl kr_ (fun _ _ _ h => h) (Or.inl ⟨by rfl, ?_⟩) ?_ ?_
       rotate_left
       ·intro w'
        go_simp
        with_reducible rfl
       rotate_left
       ·simp only [Act.put, List.setIfInBounds_toArray, List.set_cons_zero, List.set_cons_succ, i64_w, i32_w]
        rfl
       refine done_ kr_ ?_
       have p170 : 0 ≤ (x6_1 : Int) := of_decide_eq_true as_
       have q170 : x6_1 < (l1.length : Int) := of_decide_eq_true as_
       obtain ⟨ad170, e170, hx170_0⟩ := Kd.at_string HR1.out x6_1 p170 q170
       obtain rfl : ad168 = ad170 := (by injection e170)
       replace hx170_0 := (HB.out.cell (World.block_lt_of_cell? w _ hx170_0)).trans hx170_0
       replace p170 := eq_true p170
       replace q170 := eq_true q170
       try go_wp2_with (first | ((with_reducible refine gate_builtin (b := .append) (xs := #[.tmp 20, .tmp 25]) rfl ?_); at_builtin; refine Kd.R_append Kd.string (w0 := w) w.heap.size rfl (.tmp 20) (.tmp 25) 22 9 (.string ⟨#[]⟩) 16 rfl Tryz.underlying22 info9 rfl (by decide) (by omega) u5 x5_1 (rdOf ByteArray.empty l1 x6_1) [.string (rdOf ByteArray.empty l1 x6_1)] (fun _ => True) (fun _ => False) rfl rfl ?aP (fun _ hk => hk.elim) ?aF ?aO ?aB ?aS ?aL ?_; (case aP => exact rfl); (case aB => exact wb_); (case aF => exact (fun _ _ => trivial)); (case aO => exact (by (with_reducible repeat (first | apply Kd.R_alloc | apply Kd.R_drewN | apply Kd.R_drew)); exact HO_5.out)); (case aS => exact (below_size wb_)); (case aL => have := LMc8.out; omega); intro v172 w11 ho hb hg hat; rw [← Ny171.out] at ho; have n0_ := asd_ (blk_grown (g := gb167) (o := .cells #[.int .i64 a0_0, .bool a0_1, .int .i64 a0_2, .string a0_3, .slice A0_4 l0_4.length c0_4, .slice A0_5 l0_5.length c0_5] 25 (0, 0)) bk_ hg (Kd.R_ne HO_5.out BK167.out (by decide))); have n1_ := asd_ (hb); have n2_ := asd_ (ho); clear BK167; clear HB; clear HO_5; have BK167 := n0_; have HB := n1_; have HO173 := n2_; clear n0_ n1_ n2_; clear ho hb hg hat))
       go_roundg k1
       case measure => have := HK1.out; omega
       case rel => exact ⟨(y171), (wrap64 (x6_1 + 1)), r1_, H', ⟨by have := HK1.out; omega⟩, ⟨by (with_reducible repeat (first | apply Kd.R_alloc | apply Kd.R_drewN | apply Kd.R_drew)); exact HO173.out⟩, ⟨bk_⟩, ⟨wb_⟩⟩
      ·rw [if_neg c8] at H
       exact absurd H (by simp)
     ·rw [if_neg c7] at H
      have c7b0 : decide (t169 < 0) = false := decide_eq_false c7
      clear c7
      have H' := asd_ H
      clear H
      try go_wp2
      have n0_ := asd_ (Kd.R_drew HO_5.out)
      have n1_ := asd_ (blk_drew BK167.out)
      have n2_ := asd_ (below_drew1 HB.out)
      clear HO_5
      clear BK167
      clear HB
      have HO_5 := n0_
      have BK167 := n1_
      have HB := n2_
      clear n0_ n1_ n2_
      have p168 : 0 ≤ (x6_1 : Int) := of_decide_eq_true as_
      have q168 : x6_1 < (l1.length : Int) := of_decide_eq_true as_
      obtain ⟨ad168, e168, hx168_0⟩ := Kd.at_string HR1.out x6_1 p168 q168
      have hw168_0 := hx168_0
      cases e168
      replace hx168_0 := (HB.out.cell (World.block_lt_of_cell? w _ hx168_0)).trans hx168_0
      replace p168 := eq_true p168
      replace q168 := eq_true q168
      refine start_ (n := 7) (S := fun w' => w'.cell? ⟨gb167, 0, none⟩ = some (.int .i64 a0_0) ∧ w'.cell? ⟨gb167, 1, none⟩ = some (.bool a0_1) ∧ w'.cell? ⟨gb167, 2, none⟩ = some (.int .i64 a0_2) ∧ w'.cell? ⟨gb167, 3, none⟩ = some (.string a0_3) ∧ w'.cell? ⟨gb167, 4, none⟩ = some (.slice A0_4 l0_4.length c0_4) ∧ w'.cell? ⟨gb167, 5, none⟩ = some (.slice A0_5 l0_5.length c0_5) ∧ w'.cell? (ad168.add (x6_1).toNat) = some (.string (rdOf ByteArray.empty l1 x6_1))) (ds := []) #[false, false, false, false, false, false, false] kr_ rfl rfl ⟨(blk_cell BK167.out 0).trans rfl, (blk_cell BK167.out 1).trans rfl, (blk_cell BK167.out 2).trans rfl, (blk_cell BK167.out 3).trans rfl, (blk_cell BK167.out 4).trans rfl, (blk_cell BK167.out 5).trans rfl, ((HB.out.cell (World.block_lt_of_cell? w _ hw168_0)).trans hw168_0)⟩ (fun hHeld => ?_)
      generalize wr.drew = w12 at HO_5 BK167 HB hx168_0 hHeld ⊢
      refine pure_ (i := 1) (N := some 14) (v := ?_) (a' := ?_) #[false, true, false, false, false, false, false] rfl rfl kr_ (fun _ _ _ h => h) (Or.inl ⟨by rfl, ?_⟩) ?_ ?_
      rotate_left
      ·intro w'
       go_simp
       with_reducible rfl
      rotate_left
      ·simp only [Act.put, List.setIfInBounds_toArray, List.set_cons_zero, List.set_cons_succ, i64_w, i32_w]
       rfl
      refine pure_ (i := 2) (N := some 15) (v := ?_) (a' := ?_) #[false, true, true, false, false, false, false] rfl rfl kr_ (fun _ _ _ h => h) (Or.inl ⟨by rfl, ?_⟩) ?_ ?_
      rotate_left
      ·intro w'
       go_simp
       with_reducible rfl
      rotate_left
      ·simp only [Act.put, List.setIfInBounds_toArray, List.set_cons_zero, List.set_cons_succ, i64_w, i32_w]
       rfl
      refine pure_ (i := 3) (N := some 16) (v := ?_) (a' := ?_) #[false, true, true, true, false, false, false] rfl rfl kr_ (fun _ _ _ h => h) (Or.inl ⟨by rfl, ?_⟩) ?_ ?_
      rotate_left
      ·intro w'
       go_simp
       with_reducible rfl
      rotate_left
      ·simp only [Act.put, List.setIfInBounds_toArray, List.set_cons_zero, List.set_cons_succ, i64_w, i32_w]
       rfl
      refine take_ (i := 0) (N := some 13) (v := ?_) (a' := ?_) #[true, true, true, true, false, false, false] rfl rfl kr_ (fun _ _ _ h => h) (Or.inl ⟨by rfl, ?_⟩) hHeld ?_ ?_
      rotate_left
      ·rintro w' ⟨s0, s1, s2, s3, s4, s5, s6⟩
       go_simp
       with_reducible rfl
      rotate_left
      ·simp only [Act.put, List.setIfInBounds_toArray, List.set_cons_zero, List.set_cons_succ, i64_w, i32_w]
       rfl
      refine take_ (i := 4) (N := some 17) (v := ?_) (a' := ?_) #[true, true, true, true, true, false, false] rfl rfl kr_ (fun _ _ _ h => h) (Or.inl ⟨by rfl, ?_⟩) hHeld ?_ ?_
      rotate_left
      ·rintro w' ⟨s0, s1, s2, s3, s4, s5, s6⟩
       go_simp
       with_reducible rfl
      rotate_left
      ·simp only [Act.put, List.setIfInBounds_toArray, List.set_cons_zero, List.set_cons_succ, i64_w, i32_w]
       rfl
      refine one_ (i := 5) (N := some 18) #[true, true, true, true, true, true, false] rfl rfl kr_ (by decide) (fun K hK => ?_)
      refine goes_ Tryz.func65 kr_ rfl #[.agg #[.int .i64 a0_0, .bool a0_1, .int .i64 a0_2, .string a0_3, .slice A0_4 l0_4.length c0_4, .slice A0_5 l0_5.length c0_5], .string (rdOf ByteArray.empty l1 x6_1)] (by rfl) rfl rfl ap_ ?_
      with_reducible refine (spec_JMember.calls k1 a0_0 a0_1 a0_2 a0_3 _ _ l0_4 _ _ l0_5 (rdOf ByteArray.empty l1 x6_1) t169 _ ?side1 ?side2 ?side3 ?side4 A6.out).mono ?_
      (case side1 => repeat (first | exact (Kd.C_below HR0_4.out HB.out) | (with_reducible refine Kd.C_alloc ?_ _) | (with_reducible refine Kd.C_drewN ?_ _) | (with_reducible refine Kd.C_drew ?_)))
      (case side2 => exact HC0_4.out)
      (case side3 => repeat (first | exact (Kd.C_below HR0_5.out HB.out) | (with_reducible refine Kd.C_alloc ?_ _) | (with_reducible refine Kd.C_drewN ?_ _) | (with_reducible refine Kd.C_drew ?_)))
      (case side4 => exact HC0_5.out)
      rintro e w13 ⟨rfl, hb⟩
      refine ⟨_, rfl, ?_⟩
      have n0_ := asd_ (Kd.R_below (by (with_reducible repeat (first | apply Kd.R_alloc | apply Kd.R_drewN | apply Kd.R_drew)); exact HO_5.out) hb)
      have n1_ := asd_ (blk_below (g := gb167) (o := .cells #[.int .i64 a0_0, .bool a0_1, .int .i64 a0_2, .string a0_3, .slice A0_4 l0_4.length c0_4, .slice A0_5 l0_5.length c0_5] 25 (0, 0)) bk_ hb)
      have n2_ := asd_ (below_step wb_ hb)
      clear HO_5
      clear BK167
      clear HB
      have HO_5 := n0_
      have BK167 := n1_
      have HB := n2_
      clear n0_ n1_ n2_
      (try clear hb)
      (try clear hb2)
      (try clear hk)
      (try clear hi)
      refine hK.out _ _ ⟨(blk_cell BK167.out 0).trans rfl, (blk_cell BK167.out 1).trans rfl, (blk_cell BK167.out 2).trans rfl, (blk_cell BK167.out 3).trans rfl, (blk_cell BK167.out 4).trans rfl, (blk_cell BK167.out 5).trans rfl, ((HB.out.cell (World.block_lt_of_cell? w _ hw168_0)).trans hw168_0)⟩ (fun hHeld => ?_)
      clear hK K
      refine norm_ (a' := ?_) ?_ ?_
      rotate_left
      ·show Act.put _ (some 18) _ = _
       simp only [Act.put, List.setIfInBounds_toArray, List.set_cons_zero, List.set_cons_succ, i64_w, i32_w]
       rfl
      refine pure_ (i := 6) (N := some 19) (v := ?_) (a' := ?_) #[true, true, true, true, true, true, true] rfl rfl kr_ (fun _ _ _ h => h) (Or.inl ⟨by rfl, ?_⟩) ?_ ?_
      rotate_left
      ·intro w'
       go_simp
       with_reducible rfl
      rotate_left
      ·simp only [Act.put, List.setIfInBounds_toArray, List.set_cons_zero, List.set_cons_succ, i64_w, i32_w]
       rfl
      refine done_ kr_ ?_
      try go_wp2
      go_roundg k1
      case measure => have := HK1.out; omega
      case rel => exact ⟨(x5_1), (wrap64 (x6_1 + 1)), r1_, H', ⟨by have := HK1.out; omega⟩, ⟨by (with_reducible repeat (first | apply Kd.R_alloc | apply Kd.R_drewN | apply Kd.R_drew)); exact HO_5.out⟩, ⟨bk_⟩, ⟨wb_⟩⟩
    ·rw [if_neg c5] at H
     exact absurd H (by simp)
   ·rw [if_neg c4] at H
    have c4b0 : decide (x6_1 < (l1.length : Int)) = false := decide_eq_false c4
    clear c4
    obtain rfl := Option.some.inj H
    go_wp2
    go_ret
    exact ⟨_, er_, by (with_reducible repeat (first | apply Kd.R_alloc | apply Kd.R_drewN | apply Kd.R_drew)); exact HO_5.out, wb_⟩
def spec_jHas.l0 : Nat → Int → Int → Bool → Int → ByteArray → List ByteArray → List (S25) → Int → Bool → Int → ByteArray → List ByteArray → List (S25) → Option (Bool)
 | 0, _, _, _, _, _, _, _, _, _, _, _, _, _ => none
 | k + 1, x5, x175000, x175001, x175002, x175003, x175004, x175005, x176000, x176001, x176002, x176003, x176004, x176005 => if x5 < (x175004.length : Int) then (if 0 ≤ x5 then ((spec_JMember.f k x176000 x176001 x176002 x176003 x176004 x176005 (rdOf ByteArray.empty x175004 x5)).bind fun t177 => (if t177 < 0 then (some false) else (spec_jHas.l0 k (wrap64 (x5 + 1)) x175000 x175001 x175002 x175003 x175004 x175005 x176000 x176001 x176002 x176003 x176004 x176005))) else (none)) else (some true)
def spec_jHas.f (k : Nat) (a0_0 : Int) (a0_1 : Bool) (a0_2 : Int) (a0_3 : ByteArray) (l0_4 : List ByteArray) (l0_5 : List (S25)) (a1_0 : Int) (a1_1 : Bool) (a1_2 : Int) (a1_3 : ByteArray) (l1_4 : List ByteArray) (l1_5 : List (S25)) : Option (Bool) := spec_jHas.l0 k 0 a0_0 a0_1 a0_2 a0_3 l0_4 l0_5 a1_0 a1_1 a1_2 a1_3 l1_4 l1_5
def spec_jHas.T4 : Bool × List (List Nat × List Nat) := (true, [([], []), ([], []), ([1], [1]), ([], []), ([2, 3], [2, 3]), ([4], [4]), ([0, 5], [0, 5]), ([6], [6])])
def spec_jHas.B4 : List Nat := [0, 0, 2, 0, 14, 30, 63, 127]
theorem spec_jHas.tab4 : rtab .any (opsOf Tryz.f114 4) = spec_jHas.T4 := by kernel_rfl
theorem spec_jHas.bits4 : waitsOk spec_jHas.T4.2 spec_jHas.B4 = true := by kernel_rfl
set_option maxHeartbeats 8000000 in
set_option maxRecDepth 100000 in
theorem spec_jHas.calls (k : Nat) (a0_0 : Int) (a0_1 : Bool) (a0_2 : Int) (a0_3 : ByteArray) (A0_4 : Option Addr) (c0_4 : Nat) (l0_4 : List ByteArray) (A0_5 : Option Addr) (c0_5 : Nat) (l0_5 : List (S25)) (a1_0 : Int) (a1_1 : Bool) (a1_2 : Int) (a1_3 : ByteArray) (A1_4 : Option Addr) (c1_4 : Nat) (l1_4 : List ByteArray) (A1_5 : Option Addr) (c1_5 : Nat) (l1_5 : List (S25)) (r : Bool) (w : World) (hr0_4 : Kd.C Kd.string w A0_4 l0_4.length l0_4) (hc0_4 : l0_4.length ≤ c0_4) (hr0_5 : Kd.C k25 w A0_5 l0_5.length l0_5) (hc0_5 : l0_5.length ≤ c0_5) (hr1_4 : Kd.C Kd.string w A1_4 l1_4.length l1_4) (hc1_4 : l1_4.length ≤ c1_4) (hr1_5 : Kd.C k25 w A1_5 l1_5.length l1_5) (hc1_5 : l1_5.length ≤ c1_5) (h : spec_jHas.f k a0_0 a0_1 a0_2 a0_3 l0_4 l0_5 a1_0 a1_1 a1_2 a1_3 l1_4 l1_5 = some r) :
  Calls Tryz.prog 114 #[.agg #[.int .i64 a0_0, .bool a0_1, .int .i64 a0_2, .string a0_3, .slice A0_4 l0_4.length c0_4, .slice A0_5 l0_5.length c0_5], .agg #[.int .i64 a1_0, .bool a1_1, .int .i64 a1_2, .string a1_3, .slice A1_4 l1_4.length c1_4, .slice A1_5 l1_5.length c1_5]] w fun e w' => e = .returned (.bool r) ∧ Below w.heap.size w w' := by
 have hu25 := Tryz.underlying25
 have HR0_4 := asd_ hr0_4
 have HC0_4 := asd_ hc0_4
 clear hr0_4 hc0_4
 have HR0_5 := asd_ hr0_5
 have HC0_5 := asd_ hc0_5
 clear hr0_5 hc0_5
 have HR1_4 := asd_ hr1_4
 have HC1_4 := asd_ hc1_4
 clear hr1_4 hc1_4
 have HR1_5 := asd_ hr1_5
 have HC1_5 := asd_ hc1_5
 clear hr1_5 hc1_5
 have HB := asd_ (Below.refl w.heap.size w)
 have H : (spec_jHas.l0 k 0 a0_0 a0_1 a0_2 a0_3 l0_4 l0_5 a1_0 a1_1 a1_2 a1_3 l1_4 l1_5) = some r := h
 clear h
 have H' := asd_ H
 clear H
 go_enter Tryz.func114, Tryz.ntmps114
 go_wp2_with (first | ((with_reducible refine gate_dst (N := 2) rfl ?_); refine box_event ?hg (N := 2) ?hd (cs := #[.int .i64 a0_0, .bool a0_1, .int .i64 a0_2, .string a0_3, .slice A0_4 l0_4.length c0_4, .slice A0_5 l0_5.length c0_5]) (t := 25) ?hr ?_; (case hd => rfl); (case hg => rfl); (case hr => first | (go_simp; done) | (go_simp; rfl)); intro gb174 hg w3 hbox hb; have n0_ := asd_ (below_step wb_ hb); have n1_ := asd_ (hbox); have n2_ := asd_ ((by rw [hg]; exact (below_size wb_) : w.heap.size ≤ gb174)); have n3_ := asd_ ((by rw [hg]; exact (below_size wb_) : w.heap.size ≤ gb174)); clear HB; have HB := n0_; have BK174 := n1_; have GW174 := n2_; have GE174 := n3_; clear n0_ n1_ n2_ n3_; clear hb hbox hg) | ((with_reducible refine gate_dst (N := 3) rfl ?_); refine box_event ?hg (N := 3) ?hd (cs := #[.int .i64 a1_0, .bool a1_1, .int .i64 a1_2, .string a1_3, .slice A1_4 l1_4.length c1_4, .slice A1_5 l1_5.length c1_5]) (t := 25) ?hr ?_; (case hd => rfl); (case hg => rfl); (case hr => first | (go_simp; done) | (go_simp; rfl)); intro gb175 hg w4 hbox hb; have n0_ := asd_ (blk_below (g := gb174) (o := .cells #[.int .i64 a0_0, .bool a0_1, .int .i64 a0_2, .string a0_3, .slice A0_4 l0_4.length c0_4, .slice A0_5 l0_5.length c0_5] 25 (0, 0)) bk_ hb); have n1_ := asd_ (below_step wb_ hb); have n2_ := asd_ (hbox); have n3_ := asd_ ((by rw [hg]; exact (below_size wb_) : w.heap.size ≤ gb175)); have n4_ := asd_ ((by rw [hg]; exact (below_size wb_) : w.heap.size ≤ gb175)); have n5_ := asd_ ((by rw [hg]; exact Nat.ne_of_lt (blk_lt (g := gb174) (o := .cells #[.int .i64 a0_0, .bool a0_1, .int .i64 a0_2, .string a0_3, .slice A0_4 l0_4.length c0_4, .slice A0_5 l0_5.length c0_5] 25 (0, 0)) bk_) : gb174 ≠ gb175)); have n6_ := asd_ ((by rw [hg]; exact Nat.ne_of_gt (blk_lt (g := gb174) (o := .cells #[.int .i64 a0_0, .bool a0_1, .int .i64 a0_2, .string a0_3, .slice A0_4 l0_4.length c0_4, .slice A0_5 l0_5.length c0_5] 25 (0, 0)) bk_) : gb175 ≠ gb174)); clear BK174; clear HB; have BK174 := n0_; have HB := n1_; have BK175 := n2_; have GW175 := n3_; have GE175 := n4_; have NB174_175 := n5_; have NB175_174 := n6_; clear n0_ n1_ n2_ n3_ n4_ n5_ n6_; clear hb hbox hg))
 go_loopg [5] k (fun kq v5 w' => ∃ (x5_1 : Int), v5 = .int .i64 x5_1 ∧ Aside0 (spec_jHas.l0 kq x5_1 a0_0 a0_1 a0_2 a0_3 l0_4 l0_5 a1_0 a1_1 a1_2 a1_3 l1_4 l1_5 = some r) ∧ Aside0 (kq ≤ k) ∧ Aside0 (w'.heap[gb174]? = some (.cells #[.int .i64 a0_0, .bool a0_1, .int .i64 a0_2, .string a0_3, (.slice A0_4 l0_4.length c0_4), (.slice A0_5 l0_5.length c0_5)] 25 (0, 0))) ∧ Aside0 (w'.heap[gb175]? = some (.cells #[.int .i64 a1_0, .bool a1_1, .int .i64 a1_2, .string a1_3, (.slice A1_4 l1_4.length c1_4), (.slice A1_5 l1_5.length c1_5)] 25 (0, 0))) ∧ Aside0 (Below w.heap.size w w'))
 case atStart => exact ⟨(0), r1_, H', ⟨Nat.le_refl _⟩, ⟨bk_⟩, ⟨bk_⟩, ⟨wb_⟩⟩
 case round =>
  clear H'
  obtain ⟨x5_1, rfl, HA, HK1, BK174, BK175, HB⟩ := hrel
  cases gk with
  | zero => exact absurd HA.out (by simp [spec_jHas.l0])
  | succ k1 =>
   have H := HA.out
   clear HA
   simp only [spec_jHas.l0] at H
   by_cases c5 : x5_1 < (l0_4.length : Int)
   ·rw [if_pos c5] at H
    have c5b0 : decide (x5_1 < (l0_4.length : Int)) = true := decide_eq_true c5
    clear c5
    by_cases c6 : 0 ≤ x5_1
    ·rw [if_pos c6] at H
     have c6b0 : decide (0 ≤ x5_1) = true := decide_eq_true c6
     clear c6
     replace H := Option.bind_eq_some_iff.mp H
     obtain ⟨t177, A70, H⟩ := H
     replace H : (if t177 < 0 then (some false) else (spec_jHas.l0 k1 (wrap64 (x5_1 + 1)) a0_0 a0_1 a0_2 a0_3 l0_4 l0_5 a1_0 a1_1 a1_2 a1_3 l1_4 l1_5)) = some r := H
     have A7 := asd_ A70
     clear A70
     by_cases c8 : t177 < 0
     ·rw [if_pos c8] at H
      have c8b0 : decide (t177 < 0) = true := decide_eq_true c8
      clear c8
      obtain rfl := Option.some.inj H
      have hnb9 := NB174_175.out
      have hnc9 := NB175_174.out
      have hcz10_0 := cz_ BK174.out 0
      have hcz10_1 := cz_ BK174.out 1
      have hcz10_2 := cz_ BK174.out 2
      have hcz10_3 := cz_ BK174.out 3
      have hcz10_4 := cz_ BK174.out 4
      have hcz10_5 := cz_ BK174.out 5
      have hfz10_0 := blk_frozen BK174.out 0
      have hfz10_1 := blk_frozen BK174.out 1
      have hfz10_2 := blk_frozen BK174.out 2
      have hfz10_3 := blk_frozen BK174.out 3
      have hfz10_4 := blk_frozen BK174.out 4
      have hfz10_5 := blk_frozen BK174.out 5
      try go_wp2
      have n0_ := asd_ (blk_drew BK174.out)
      have n1_ := asd_ (blk_drew BK175.out)
      have n2_ := asd_ (below_drew1 HB.out)
      clear BK174
      clear BK175
      clear HB
      have BK174 := n0_
      have BK175 := n1_
      have HB := n2_
      clear n0_ n1_ n2_
      have p176 : 0 ≤ (x5_1 : Int) := of_decide_eq_true as_
      have q176 : x5_1 < (l0_4.length : Int) := of_decide_eq_true as_
      obtain ⟨ad176, e176, hx176_0⟩ := Kd.at_string HR0_4.out x5_1 p176 q176
      have hw176_0 := hx176_0
      cases e176
      replace hx176_0 := (HB.out.cell (World.block_lt_of_cell? w _ hx176_0)).trans hx176_0
      replace p176 := eq_true p176
      replace q176 := eq_true q176
      refine start_ (n := 8) (S := fun w' => w'.cell? ⟨gb175, 0, none⟩ = some (.int .i64 a1_0) ∧ w'.cell? ⟨gb175, 1, none⟩ = some (.bool a1_1) ∧ w'.cell? ⟨gb175, 2, none⟩ = some (.int .i64 a1_2) ∧ w'.cell? ⟨gb175, 3, none⟩ = some (.string a1_3) ∧ w'.cell? ⟨gb175, 4, none⟩ = some (.slice A1_4 l1_4.length c1_4) ∧ w'.cell? ⟨gb175, 5, none⟩ = some (.slice A1_5 l1_5.length c1_5) ∧ w'.cell? ⟨gb174, 0, none⟩ = some (.int .i64 a0_0) ∧ w'.cell? ⟨gb174, 1, none⟩ = some (.bool a0_1) ∧ w'.cell? ⟨gb174, 2, none⟩ = some (.int .i64 a0_2) ∧ w'.cell? ⟨gb174, 3, none⟩ = some (.string a0_3) ∧ w'.cell? ⟨gb174, 4, none⟩ = some (.slice (some ad176) l0_4.length c0_4) ∧ w'.cell? ⟨gb174, 5, none⟩ = some (.slice A0_5 l0_5.length c0_5) ∧ w'.cell? (ad176.add (x5_1).toNat) = some (.string (rdOf ByteArray.empty l0_4 x5_1))) (ds := []) #[false, false, false, false, false, false, false, false] kr_ rfl rfl ⟨(blk_cell BK175.out 0).trans rfl, (blk_cell BK175.out 1).trans rfl, (blk_cell BK175.out 2).trans rfl, (blk_cell BK175.out 3).trans rfl, (blk_cell BK175.out 4).trans rfl, (blk_cell BK175.out 5).trans rfl, (blk_cell BK174.out 0).trans rfl, (blk_cell BK174.out 1).trans rfl, (blk_cell BK174.out 2).trans rfl, (blk_cell BK174.out 3).trans rfl, (blk_cell BK174.out 4).trans rfl, (blk_cell BK174.out 5).trans rfl, ((HB.out.cell (World.block_lt_of_cell? w _ hw176_0)).trans hw176_0)⟩ (fun hHeld => ?_); refine with_tabW spec_jHas.tab4 spec_jHas.bits4 (fun HT_ HW_ => ?_)
      generalize wr.drew = w11 at BK174 BK175 HB hx176_0 hHeld ⊢
      refine pure_ (i := 1) (N := some 14) (v := ?_) (a' := ?_) #[false, true, false, false, false, false, false, false] rfl rfl (any_of HT_.out kr_) (fun _ _ _ h => h) (Or.inl ⟨by rfl, ?_⟩) ?_ ?_
      rotate_left
      ·intro w'
       go_simp
       with_reducible rfl
      rotate_left
      ·simp only [Act.put, List.setIfInBounds_toArray, List.set_cons_zero, List.set_cons_succ, i64_w, i32_w]
       rfl
      refine pure_ (i := 3) (N := some 16) (v := ?_) (a' := ?_) #[false, true, false, true, false, false, false, false] rfl rfl (any_of HT_.out kr_) (fun _ _ _ h => h) (Or.inl ⟨by rfl, ?_⟩) ?_ ?_
      rotate_left
      ·intro w'
       go_simp
       with_reducible rfl
      rotate_left
      ·simp only [Act.put, List.setIfInBounds_toArray, List.set_cons_zero, List.set_cons_succ, i64_w, i32_w]
       rfl
      refine take_ (i := 0) (N := some 13) (v := ?_) (a' := ?_) #[true, true, false, true, false, false, false, false] rfl rfl (take_ofW HT_.out HW_.out kr_) (fun _ _ _ h => h) (Or.inl ⟨by rfl, ?_⟩) hHeld ?_ ?_
      rotate_left
      ·rintro w' ⟨s0, s1, s2, s3, s4, s5, s6, s7, s8, s9, s10, s11, s12⟩
       go_simp
       with_reducible rfl
      rotate_left
      ·simp only [Act.put, List.setIfInBounds_toArray, List.set_cons_zero, List.set_cons_succ, i64_w, i32_w]
       rfl
      refine take_ (i := 2) (N := some 15) (v := ?_) (a' := ?_) #[true, true, true, true, false, false, false, false] rfl rfl (take_ofW HT_.out HW_.out kr_) (fun _ _ _ h => h) (Or.inl ⟨by rfl, ?_⟩) hHeld ?_ ?_
      rotate_left
      ·rintro w' ⟨s0, s1, s2, s3, s4, s5, s6, s7, s8, s9, s10, s11, s12⟩
       go_simp
       with_reducible rfl
      rotate_left
      ·simp only [Act.put, List.setIfInBounds_toArray, List.set_cons_zero, List.set_cons_succ, i64_w, i32_w]
       rfl
      refine pure_ (i := 4) (N := some 17) (v := ?_) (a' := ?_) #[true, true, true, true, true, false, false, false] rfl rfl (any_of HT_.out kr_) (fun _ _ _ h => h) (Or.inl ⟨by rfl, ?_⟩) ?_ ?_
      rotate_left
      ·intro w'
       go_simp
       with_reducible rfl
      rotate_left
      ·simp only [Act.put, List.setIfInBounds_toArray, List.set_cons_zero, List.set_cons_succ, i64_w, i32_w]
       rfl
      refine take_ (i := 5) (N := some 18) (v := ?_) (a' := ?_) #[true, true, true, true, true, true, false, false] rfl rfl (take_ofW HT_.out HW_.out kr_) (fun _ _ _ h => h) (Or.inl ⟨by rfl, ?_⟩) hHeld ?_ ?_
      rotate_left
      ·rintro w' ⟨s0, s1, s2, s3, s4, s5, s6, s7, s8, s9, s10, s11, s12⟩
       go_simp
       with_reducible rfl
      rotate_left
      ·simp only [Act.put, List.setIfInBounds_toArray, List.set_cons_zero, List.set_cons_succ, i64_w, i32_w]
       rfl
      refine one_ (i := 6) (N := some 19) #[true, true, true, true, true, true, true, false] rfl rfl (one_of HT_.out kr_) (by decide) (fun K hK => ?_)
      refine goes_ Tryz.func65 kr_ rfl #[.agg #[.int .i64 a1_0, .bool a1_1, .int .i64 a1_2, .string a1_3, .slice A1_4 l1_4.length c1_4, .slice A1_5 l1_5.length c1_5], .string (rdOf ByteArray.empty l0_4 x5_1)] (by rfl) rfl rfl ap_ ?_
      with_reducible refine (spec_JMember.calls k1 a1_0 a1_1 a1_2 a1_3 _ _ l1_4 _ _ l1_5 (rdOf ByteArray.empty l0_4 x5_1) t177 _ ?side1 ?side2 ?side3 ?side4 A7.out).mono ?_
      (case side1 => repeat (first | exact (Kd.C_below HR1_4.out HB.out) | (with_reducible refine Kd.C_alloc ?_ _) | (with_reducible refine Kd.C_drewN ?_ _) | (with_reducible refine Kd.C_drew ?_)))
      (case side2 => exact HC1_4.out)
      (case side3 => repeat (first | exact (Kd.C_below HR1_5.out HB.out) | (with_reducible refine Kd.C_alloc ?_ _) | (with_reducible refine Kd.C_drewN ?_ _) | (with_reducible refine Kd.C_drew ?_)))
      (case side4 => exact HC1_5.out)
      rintro e w12 ⟨rfl, hb⟩
      refine ⟨_, rfl, ?_⟩
      have n0_ := asd_ (blk_below (g := gb174) (o := .cells #[.int .i64 a0_0, .bool a0_1, .int .i64 a0_2, .string a0_3, .slice (some ad176) l0_4.length c0_4, .slice A0_5 l0_5.length c0_5] 25 (0, 0)) bk_ hb)
      have n1_ := asd_ (blk_below (g := gb175) (o := .cells #[.int .i64 a1_0, .bool a1_1, .int .i64 a1_2, .string a1_3, .slice A1_4 l1_4.length c1_4, .slice A1_5 l1_5.length c1_5] 25 (0, 0)) bk_ hb)
      have n2_ := asd_ (below_step wb_ hb)
      clear BK174
      clear BK175
      clear HB
      have BK174 := n0_
      have BK175 := n1_
      have HB := n2_
      clear n0_ n1_ n2_
      (try clear hb)
      (try clear hb2)
      (try clear hk)
      (try clear hi)
      refine hK.out _ _ ⟨(blk_cell BK175.out 0).trans rfl, (blk_cell BK175.out 1).trans rfl, (blk_cell BK175.out 2).trans rfl, (blk_cell BK175.out 3).trans rfl, (blk_cell BK175.out 4).trans rfl, (blk_cell BK175.out 5).trans rfl, (blk_cell BK174.out 0).trans rfl, (blk_cell BK174.out 1).trans rfl, (blk_cell BK174.out 2).trans rfl, (blk_cell BK174.out 3).trans rfl, (blk_cell BK174.out 4).trans rfl, (blk_cell BK174.out 5).trans rfl, ((HB.out.cell (World.block_lt_of_cell? w _ hw176_0)).trans hw176_0)⟩ (fun hHeld => ?_)
      clear hK K
      refine norm_ (a' := ?_) ?_ ?_
      rotate_left
      ·show Act.put _ (some 19) _ = _
       simp only [Act.put, List.setIfInBounds_toArray, List.set_cons_zero, List.set_cons_succ, i64_w, i32_w]
       rfl
      refine pure_ (i := 7) (N := some 20) (v := ?_) (a' := ?_) #[true, true, true, true, true, true, true, true] rfl rfl (any_of HT_.out kr_) (fun _ _ _ h => h) (Or.inl ⟨by rfl, ?_⟩) ?_ ?_
      rotate_left
      ·intro w'
       go_simp
       with_reducible rfl
      rotate_left
      ·simp only [Act.put, List.setIfInBounds_toArray, List.set_cons_zero, List.set_cons_succ, i64_w, i32_w]
       rfl
      refine done_ (done_of HT_.out kr_) ?_
      try go_wp2
      go_ret
      exact ⟨er_, wb_⟩
     ·rw [if_neg c8] at H
      have c8b0 : decide (t177 < 0) = false := decide_eq_false c8
      clear c8
      have H' := asd_ H
      clear H
      have hnb13 := NB174_175.out
      have hnc13 := NB175_174.out
      have hcz14_0 := cz_ BK174.out 0
      have hcz14_1 := cz_ BK174.out 1
      have hcz14_2 := cz_ BK174.out 2
      have hcz14_3 := cz_ BK174.out 3
      have hcz14_4 := cz_ BK174.out 4
      have hcz14_5 := cz_ BK174.out 5
      have hfz14_0 := blk_frozen BK174.out 0
      have hfz14_1 := blk_frozen BK174.out 1
      have hfz14_2 := blk_frozen BK174.out 2
      have hfz14_3 := blk_frozen BK174.out 3
      have hfz14_4 := blk_frozen BK174.out 4
      have hfz14_5 := blk_frozen BK174.out 5
      try go_wp2
      have n0_ := asd_ (blk_drew BK174.out)
      have n1_ := asd_ (blk_drew BK175.out)
      have n2_ := asd_ (below_drew1 HB.out)
      clear BK174
      clear BK175
      clear HB
      have BK174 := n0_
      have BK175 := n1_
      have HB := n2_
      clear n0_ n1_ n2_
      have p176 : 0 ≤ (x5_1 : Int) := of_decide_eq_true as_
      have q176 : x5_1 < (l0_4.length : Int) := of_decide_eq_true as_
      obtain ⟨ad176, e176, hx176_0⟩ := Kd.at_string HR0_4.out x5_1 p176 q176
      have hw176_0 := hx176_0
      cases e176
      replace hx176_0 := (HB.out.cell (World.block_lt_of_cell? w _ hx176_0)).trans hx176_0
      replace p176 := eq_true p176
      replace q176 := eq_true q176
      refine start_ (n := 8) (S := fun w' => w'.cell? ⟨gb175, 0, none⟩ = some (.int .i64 a1_0) ∧ w'.cell? ⟨gb175, 1, none⟩ = some (.bool a1_1) ∧ w'.cell? ⟨gb175, 2, none⟩ = some (.int .i64 a1_2) ∧ w'.cell? ⟨gb175, 3, none⟩ = some (.string a1_3) ∧ w'.cell? ⟨gb175, 4, none⟩ = some (.slice A1_4 l1_4.length c1_4) ∧ w'.cell? ⟨gb175, 5, none⟩ = some (.slice A1_5 l1_5.length c1_5) ∧ w'.cell? ⟨gb174, 0, none⟩ = some (.int .i64 a0_0) ∧ w'.cell? ⟨gb174, 1, none⟩ = some (.bool a0_1) ∧ w'.cell? ⟨gb174, 2, none⟩ = some (.int .i64 a0_2) ∧ w'.cell? ⟨gb174, 3, none⟩ = some (.string a0_3) ∧ w'.cell? ⟨gb174, 4, none⟩ = some (.slice (some ad176) l0_4.length c0_4) ∧ w'.cell? ⟨gb174, 5, none⟩ = some (.slice A0_5 l0_5.length c0_5) ∧ w'.cell? (ad176.add (x5_1).toNat) = some (.string (rdOf ByteArray.empty l0_4 x5_1))) (ds := []) #[false, false, false, false, false, false, false, false] kr_ rfl rfl ⟨(blk_cell BK175.out 0).trans rfl, (blk_cell BK175.out 1).trans rfl, (blk_cell BK175.out 2).trans rfl, (blk_cell BK175.out 3).trans rfl, (blk_cell BK175.out 4).trans rfl, (blk_cell BK175.out 5).trans rfl, (blk_cell BK174.out 0).trans rfl, (blk_cell BK174.out 1).trans rfl, (blk_cell BK174.out 2).trans rfl, (blk_cell BK174.out 3).trans rfl, (blk_cell BK174.out 4).trans rfl, (blk_cell BK174.out 5).trans rfl, ((HB.out.cell (World.block_lt_of_cell? w _ hw176_0)).trans hw176_0)⟩ (fun hHeld => ?_); refine with_tabW spec_jHas.tab4 spec_jHas.bits4 (fun HT_ HW_ => ?_)
      generalize wr.drew = w15 at BK174 BK175 HB hx176_0 hHeld ⊢
      refine pure_ (i := 1) (N := some 14) (v := ?_) (a' := ?_) #[false, true, false, false, false, false, false, false] rfl rfl (any_of HT_.out kr_) (fun _ _ _ h => h) (Or.inl ⟨by rfl, ?_⟩) ?_ ?_
      rotate_left
      ·intro w'
       go_simp
       with_reducible rfl
      rotate_left
      ·simp only [Act.put, List.setIfInBounds_toArray, List.set_cons_zero, List.set_cons_succ, i64_w, i32_w]
       rfl
      refine pure_ (i := 3) (N := some 16) (v := ?_) (a' := ?_) #[false, true, false, true, false, false, false, false] rfl rfl (any_of HT_.out kr_) (fun _ _ _ h => h) (Or.inl ⟨by rfl, ?_⟩) ?_ ?_
      rotate_left
      ·intro w'
       go_simp
       with_reducible rfl
      rotate_left
      ·simp only [Act.put, List.setIfInBounds_toArray, List.set_cons_zero, List.set_cons_succ, i64_w, i32_w]
       rfl
      refine take_ (i := 0) (N := some 13) (v := ?_) (a' := ?_) #[true, true, false, true, false, false, false, false] rfl rfl (take_ofW HT_.out HW_.out kr_) (fun _ _ _ h => h) (Or.inl ⟨by rfl, ?_⟩) hHeld ?_ ?_
      rotate_left
      ·rintro w' ⟨s0, s1, s2, s3, s4, s5, s6, s7, s8, s9, s10, s11, s12⟩
       go_simp
       with_reducible rfl
      rotate_left
      ·simp only [Act.put, List.setIfInBounds_toArray, List.set_cons_zero, List.set_cons_succ, i64_w, i32_w]
       rfl
      refine take_ (i := 2) (N := some 15) (v := ?_) (a' := ?_) #[true, true, true, true, false, false, false, false] rfl rfl (take_ofW HT_.out HW_.out kr_) (fun _ _ _ h => h) (Or.inl ⟨by rfl, ?_⟩) hHeld ?_ ?_
      rotate_left
      ·rintro w' ⟨s0, s1, s2, s3, s4, s5, s6, s7, s8, s9, s10, s11, s12⟩
       go_simp
       with_reducible rfl
      rotate_left
      ·simp only [Act.put, List.setIfInBounds_toArray, List.set_cons_zero, List.set_cons_succ, i64_w, i32_w]
       rfl
      refine pure_ (i := 4) (N := some 17) (v := ?_) (a' := ?_) #[true, true, true, true, true, false, false, false] rfl rfl (any_of HT_.out kr_) (fun _ _ _ h => h) (Or.inl ⟨by rfl, ?_⟩) ?_ ?_
      rotate_left
      ·intro w'
       go_simp
       with_reducible rfl
      rotate_left
      ·simp only [Act.put, List.setIfInBounds_toArray, List.set_cons_zero, List.set_cons_succ, i64_w, i32_w]
       rfl
      refine take_ (i := 5) (N := some 18) (v := ?_) (a' := ?_) #[true, true, true, true, true, true, false, false] rfl rfl (take_ofW HT_.out HW_.out kr_) (fun _ _ _ h => h) (Or.inl ⟨by rfl, ?_⟩) hHeld ?_ ?_
      rotate_left
      ·rintro w' ⟨s0, s1, s2, s3, s4, s5, s6, s7, s8, s9, s10, s11, s12⟩
       go_simp
       with_reducible rfl
      rotate_left
      ·simp only [Act.put, List.setIfInBounds_toArray, List.set_cons_zero, List.set_cons_succ, i64_w, i32_w]
       rfl
      refine one_ (i := 6) (N := some 19) #[true, true, true, true, true, true, true, false] rfl rfl (one_of HT_.out kr_) (by decide) (fun K hK => ?_)
      refine goes_ Tryz.func65 kr_ rfl #[.agg #[.int .i64 a1_0, .bool a1_1, .int .i64 a1_2, .string a1_3, .slice A1_4 l1_4.length c1_4, .slice A1_5 l1_5.length c1_5], .string (rdOf ByteArray.empty l0_4 x5_1)] (by rfl) rfl rfl ap_ ?_
      with_reducible refine (spec_JMember.calls k1 a1_0 a1_1 a1_2 a1_3 _ _ l1_4 _ _ l1_5 (rdOf ByteArray.empty l0_4 x5_1) t177 _ ?side1 ?side2 ?side3 ?side4 A7.out).mono ?_
      (case side1 => repeat (first | exact (Kd.C_below HR1_4.out HB.out) | (with_reducible refine Kd.C_alloc ?_ _) | (with_reducible refine Kd.C_drewN ?_ _) | (with_reducible refine Kd.C_drew ?_)))
      (case side2 => exact HC1_4.out)
      (case side3 => repeat (first | exact (Kd.C_below HR1_5.out HB.out) | (with_reducible refine Kd.C_alloc ?_ _) | (with_reducible refine Kd.C_drewN ?_ _) | (with_reducible refine Kd.C_drew ?_)))
      (case side4 => exact HC1_5.out)
      rintro e w16 ⟨rfl, hb⟩
      refine ⟨_, rfl, ?_⟩
      have n0_ := asd_ (blk_below (g := gb174) (o := .cells #[.int .i64 a0_0, .bool a0_1, .int .i64 a0_2, .string a0_3, .slice (some ad176) l0_4.length c0_4, .slice A0_5 l0_5.length c0_5] 25 (0, 0)) bk_ hb)
      have n1_ := asd_ (blk_below (g := gb175) (o := .cells #[.int .i64 a1_0, .bool a1_1, .int .i64 a1_2, .string a1_3, .slice A1_4 l1_4.length c1_4, .slice A1_5 l1_5.length c1_5] 25 (0, 0)) bk_ hb)
      have n2_ := asd_ (below_step wb_ hb)
      clear BK174
      clear BK175
      clear HB
      have BK174 := n0_
      have BK175 := n1_
      have HB := n2_
      clear n0_ n1_ n2_
      (try clear hb)
      (try clear hb2)
      (try clear hk)
      (try clear hi)
      refine hK.out _ _ ⟨(blk_cell BK175.out 0).trans rfl, (blk_cell BK175.out 1).trans rfl, (blk_cell BK175.out 2).trans rfl, (blk_cell BK175.out 3).trans rfl, (blk_cell BK175.out 4).trans rfl, (blk_cell BK175.out 5).trans rfl, (blk_cell BK174.out 0).trans rfl, (blk_cell BK174.out 1).trans rfl, (blk_cell BK174.out 2).trans rfl, (blk_cell BK174.out 3).trans rfl, (blk_cell BK174.out 4).trans rfl, (blk_cell BK174.out 5).trans rfl, ((HB.out.cell (World.block_lt_of_cell? w _ hw176_0)).trans hw176_0)⟩ (fun hHeld => ?_)
      clear hK K
      refine norm_ (a' := ?_) ?_ ?_
      rotate_left
      ·show Act.put _ (some 19) _ = _
       simp only [Act.put, List.setIfInBounds_toArray, List.set_cons_zero, List.set_cons_succ, i64_w, i32_w]
       rfl
      refine pure_ (i := 7) (N := some 20) (v := ?_) (a' := ?_) #[true, true, true, true, true, true, true, true] rfl rfl (any_of HT_.out kr_) (fun _ _ _ h => h) (Or.inl ⟨by rfl, ?_⟩) ?_ ?_
      rotate_left
      ·intro w'
       go_simp
       with_reducible rfl
      rotate_left
      ·simp only [Act.put, List.setIfInBounds_toArray, List.set_cons_zero, List.set_cons_succ, i64_w, i32_w]
       rfl
      refine done_ (done_of HT_.out kr_) ?_
      try go_wp2
      go_roundg k1
      case measure => have := HK1.out; omega
      case rel => exact ⟨(wrap64 (x5_1 + 1)), r1_, H', ⟨by have := HK1.out; omega⟩, ⟨bk_⟩, ⟨bk_⟩, ⟨wb_⟩⟩
    ·rw [if_neg c6] at H
     exact absurd H (by simp)
   ·rw [if_neg c5] at H
    have c5b0 : decide (x5_1 < (l0_4.length : Int)) = false := decide_eq_false c5
    clear c5
    obtain rfl := Option.some.inj H
    have hnb17 := NB174_175.out
    have hnc17 := NB175_174.out
    have hcz18_0 := cz_ BK174.out 0
    have hcz18_1 := cz_ BK174.out 1
    have hcz18_2 := cz_ BK174.out 2
    have hcz18_3 := cz_ BK174.out 3
    have hcz18_4 := cz_ BK174.out 4
    have hcz18_5 := cz_ BK174.out 5
    have hfz18_0 := blk_frozen BK174.out 0
    have hfz18_1 := blk_frozen BK174.out 1
    have hfz18_2 := blk_frozen BK174.out 2
    have hfz18_3 := blk_frozen BK174.out 3
    have hfz18_4 := blk_frozen BK174.out 4
    have hfz18_5 := blk_frozen BK174.out 5
    go_wp2
    go_ret
    exact ⟨er_, wb_⟩
def spec_jBegins.l0 : Nat → List ByteArray → List ByteArray → Int → Option (Bool)
 | 0, _, _, _ => none
 | k + 1, x0, x1, x5 => if x5 < (x1.length : Int) then (if x5 ≥ (x0.length : Int) then (some false) else (if 0 ≤ x5 then (if x5 < (x0.length : Int) then (if (rdOf ByteArray.empty x0 x5).toList = (rdOf ByteArray.empty x1 x5).toList then (spec_jBegins.l0 k x0 x1 (wrap64 (x5 + 1))) else (some false)) else (none)) else (none))) else (some true)
def spec_jBegins.f (k : Nat) (l0 : List ByteArray) (l1 : List ByteArray) : Option (Bool) := spec_jBegins.l0 k l0 l1 0
set_option maxHeartbeats 8000000 in
set_option maxRecDepth 100000 in
theorem spec_jBegins.calls (k : Nat) (A0 : Option Addr) (c0 : Nat) (l0 : List ByteArray) (A1 : Option Addr) (c1 : Nat) (l1 : List ByteArray) (r : Bool) (w : World) (hr0 : Kd.C Kd.string w A0 l0.length l0) (hc0 : l0.length ≤ c0) (hr1 : Kd.C Kd.string w A1 l1.length l1) (hc1 : l1.length ≤ c1) (h : spec_jBegins.f k l0 l1 = some r) :
  Calls Tryz.prog 44 #[.slice A0 l0.length c0, .slice A1 l1.length c1] w fun e w' => e = .returned (.bool r) ∧ Drawn0 w w' := by
 have HR0 := asd_ hr0
 have HC0 := asd_ hc0
 clear hr0 hc0
 have HR1 := asd_ hr1
 have HC1 := asd_ hc1
 clear hr1 hc1
 have H : (spec_jBegins.l0 k l0 l1 0) = some r := h
 clear h
 have H' := asd_ H
 clear H
 go_enter Tryz.func44, Tryz.ntmps44
 go_wp2
 repeat (go_quiet (fail); try go_wp2)
 go_loopg [5] k (fun kq v5 w' => ∃ (x5_1 : Int), v5 = .int .i64 x5_1 ∧ Aside0 (spec_jBegins.l0 kq l0 l1 x5_1 = some r) ∧ Aside0 (kq ≤ k) ∧ Drawn0 w w')
 case atStart => exact ⟨(0), r1_, H', ⟨Nat.le_refl _⟩, dr_⟩
 case round =>
  clear H'
  obtain ⟨x5_1, rfl, HA, HK1, ⟨m1, rfl⟩⟩ := hrel
  cases gk with
  | zero => exact absurd HA.out (by simp [spec_jBegins.l0])
  | succ k1 =>
   have H := HA.out
   clear HA
   simp only [spec_jBegins.l0] at H
   by_cases c3 : x5_1 < (l1.length : Int)
   ·rw [if_pos c3] at H
    have c3b0 : decide (x5_1 < (l1.length : Int)) = true := decide_eq_true c3
    clear c3
    by_cases c4 : x5_1 ≥ (l0.length : Int)
    ·rw [if_pos c4] at H
     have c4b0 : decide ((l0.length : Int) ≤ x5_1) = true := decide_eq_true c4
     clear c4
     obtain rfl := Option.some.inj H
     go_wp2
     repeat (go_quiet (fail); try go_wp2)
     go_ret
     exact ⟨r1_, dr_⟩
    ·rw [if_neg c4] at H
     have c4b0 : decide ((l0.length : Int) ≤ x5_1) = false := decide_eq_false c4
     clear c4
     by_cases c5 : 0 ≤ x5_1
     ·rw [if_pos c5] at H
      have c5b0 : decide (0 ≤ x5_1) = true := decide_eq_true c5
      clear c5
      by_cases c6 : x5_1 < (l0.length : Int)
      ·rw [if_pos c6] at H
       have c6b0 : decide (x5_1 < (l0.length : Int)) = true := decide_eq_true c6
       clear c6
       by_cases c7 : (rdOf ByteArray.empty l0 x5_1).toList = (rdOf ByteArray.empty l1 x5_1).toList
       ·rw [if_pos c7] at H
        have c7b0 : ((rdOf ByteArray.empty l0 x5_1).toList == (rdOf ByteArray.empty l1 x5_1).toList) = true := beq_iff_eq.mpr c7
        have c7b1 : ((rdOf ByteArray.empty l0 x5_1).toList != (rdOf ByteArray.empty l1 x5_1).toList) = false := bne_eq_false_iff_eq.mpr c7
        clear c7
        have H' := asd_ H
        clear H
        have p178 : 0 ≤ (x5_1 : Int) := of_decide_eq_true as_
        have q178 : x5_1 < (l0.length : Int) := of_decide_eq_true as_
        obtain ⟨ad178, e178, hx178_0⟩ := Kd.at_string HR0.out x5_1 p178 q178
        cases e178
        replace p178 := eq_true p178
        replace q178 := eq_true q178
        have p179 : 0 ≤ (x5_1 : Int) := of_decide_eq_true as_
        have q179 : x5_1 < (l1.length : Int) := of_decide_eq_true as_
        obtain ⟨ad179, e179, hx179_0⟩ := Kd.at_string HR1.out x5_1 p179 q179
        cases e179
        replace p179 := eq_true p179
        replace q179 := eq_true q179
        go_wp2
        repeat (go_quiet (fail); try go_wp2)
        go_roundg k1
        case measure => have := HK1.out; omega
        case rel => exact ⟨(wrap64 (x5_1 + 1)), r1_, H', ⟨by have := HK1.out; omega⟩, dr_⟩
       ·rw [if_neg c7] at H
        have c7b0 : ((rdOf ByteArray.empty l0 x5_1).toList == (rdOf ByteArray.empty l1 x5_1).toList) = false := beq_eq_false_iff_ne.mpr c7
        have c7b1 : ((rdOf ByteArray.empty l0 x5_1).toList != (rdOf ByteArray.empty l1 x5_1).toList) = true := bne_iff_ne.mpr c7
        obtain rfl := Option.some.inj H
        have p178 : 0 ≤ (x5_1 : Int) := of_decide_eq_true as_
        have q178 : x5_1 < (l0.length : Int) := of_decide_eq_true as_
        obtain ⟨ad178, e178, hx178_0⟩ := Kd.at_string HR0.out x5_1 p178 q178
        cases e178
        replace p178 := eq_true p178
        replace q178 := eq_true q178
        have p179 : 0 ≤ (x5_1 : Int) := of_decide_eq_true as_
        have q179 : x5_1 < (l1.length : Int) := of_decide_eq_true as_
        obtain ⟨ad179, e179, hx179_0⟩ := Kd.at_string HR1.out x5_1 p179 q179
        cases e179
        replace p179 := eq_true p179
        replace q179 := eq_true q179
        go_wp2
        repeat (go_quiet (fail); try go_wp2)
        go_ret
        exact ⟨r1_, dr_⟩
      ·rw [if_neg c6] at H
       exact absurd H (by simp)
     ·rw [if_neg c5] at H
      exact absurd H (by simp)
   ·rw [if_neg c3] at H
    have c3b0 : decide (x5_1 < (l1.length : Int)) = false := decide_eq_false c3
    clear c3
    obtain rfl := Option.some.inj H
    go_wp2
    repeat (go_quiet (fail); try go_wp2)
    go_ret
    exact ⟨r1_, dr_⟩
def impl_copied.f (l0 : List ByteArray) : Option (List ByteArray) := (some (([] : List ByteArray) : List ByteArray)).bind fun y180 => (if y180.length + l0.length < 8796093022208 then (some (y180 ++ l0)) else (none))
set_option maxHeartbeats 8000000 in
set_option maxRecDepth 100000 in
theorem impl_copied.calls (A0 : Option Addr) (c0 : Nat) (l0 : List ByteArray) (r : List ByteArray) (w : World) (hr0 : Kd.C Kd.string w A0 l0.length l0) (hc0 : l0.length ≤ c0) (h : impl_copied.f l0 = some r) :
  Calls Tryz.prog 55 #[.slice A0 l0.length c0] w fun e w' => ∃ v0_ : Value, e = .returned (v0_) ∧ Kd.R Kd.string 9 w' w.heap.size (fun _ => True) v0_ r ∧ Below w.heap.size w w' := by
 have HR0 := asd_ hr0
 have HC0 := asd_ hc0
 clear hr0 hc0
 have HB := asd_ (Below.refl w.heap.size w)
 have H : ((some (([] : List ByteArray) : List ByteArray)).bind fun y180 => (if y180.length + l0.length < 8796093022208 then (some (y180 ++ l0)) else (none))) = some r := h
 clear h
 obtain ⟨y180, hy180⟩ : ∃ y_ : List ByteArray, y_ = (([] : List ByteArray)) := ⟨_, rfl⟩
 replace H : (if y180.length + l0.length < 8796093022208 then (some (y180 ++ l0)) else (none)) = some r := by first | (rw [hy180]; with_reducible exact H) | (have H2_ := (Option.bind_some _ _).symm.trans H; rw [hy180]; with_reducible exact H2_) | (have H2_ := (Option.bind_some _ _).symm.trans H; with_reducible exact H2_) | with_reducible exact H | (rw [hy180]; exact H) | exact H
 have Ny180 := asd_ hy180
 clear hy180
 by_cases c2 : y180.length + l0.length < 8796093022208
 ·rw [if_pos c2] at H
  have LMc2 := asd_ c2
  clear c2
  obtain ⟨y183, hy183⟩ : ∃ y_ : List ByteArray, y_ = (y180 ++ l0) := ⟨_, rfl⟩
  replace H : (some y183) = some r := by first | (rw [hy183]; with_reducible exact H) | (have H2_ := (Option.bind_some _ _).symm.trans H; rw [hy183]; with_reducible exact H2_) | (have H2_ := (Option.bind_some _ _).symm.trans H; with_reducible exact H2_) | with_reducible exact H | (rw [hy183]; exact H) | exact H
  have Ny183 := asd_ hy183
  clear hy183
  obtain rfl := Option.some.inj H
  go_enter Tryz.func55, Tryz.ntmps55
  go_wp2_with (first | ((with_reducible refine gate_dst (N := 3) rfl ?_); refine Kd.R_lit Kd.string _ 9 ?hg (N := 3) ?hd (xs := ([] : List ByteArray)) (inner := []) (ok := fun _ => True) (okp := fun _ => True) ?hr ?hp (fun _ hk => hk) trivial (Below.refl _ _) (Nat.le_refl _) (by simp) ?_; (case hd => rfl); (case hg => rfl); (case hr => first | (go_simp; done) | (go_simp; rfl)); (case hp => exact (Reps.none _ _)); intro v181 w3 ho4 hb hg_ hnew_; clear hg_ hnew_; (first | rw [← Ny180.out] at ho4 | (simp only [Int.reduceToNat] at ho4; rw [← Ny180.out] at ho4)); have n0_ := asd_ (Kd.R_lower ho4 (below_size wb_)); have n1_ := asd_ (below_step wb_ hb); clear HB; have HO182 := n0_; have HB := n1_; clear n0_ n1_; clear hb ho4) | ((with_reducible refine gate_builtin (b := .append) (xs := #[.tmp 3, .tmp 4]) rfl ?_); at_builtin; refine Kd.R_append_rows Kd.string (w0 := w) w.heap.size rfl (.tmp 3) (.tmp 4) 22 9 (.string ⟨#[]⟩) 16 rfl Tryz.underlying22 info9 rfl (by decide) (by omega) v181 y180 l0 _ _ _ (fun _ => True) (fun _ => False) rfl rfl ?aO ?aR (fun _ _ h => h) (fun _ h => h.elim) ?aF ?aB ?aS ?aL ?_; (case aR => repeat (first | exact (Kd.C_below HR0.out HB.out) | (with_reducible refine Kd.C_alloc ?_ _) | (with_reducible refine Kd.C_drewN ?_ _) | (with_reducible refine Kd.C_drew ?_))); (case aB => exact wb_); (case aF => exact (fun _ _ => trivial)); (case aO => exact (by (with_reducible repeat (first | apply Kd.R_alloc | apply Kd.R_drewN | apply Kd.R_drew)); exact HO182.out)); (case aS => exact (below_size wb_)); (case aL => have := LMc2.out; omega); intro v184 w5 ho hb hg hat; rw [← Ny183.out] at ho; have n0_ := asd_ (hb); have n1_ := asd_ (ho); clear HB; clear HO182; have HB := n0_; have HO185 := n1_; clear n0_ n1_; clear ho hb hg hat))
  go_ret
  exact ⟨_, er_, by (with_reducible repeat (first | apply Kd.R_alloc | apply Kd.R_drewN | apply Kd.R_drew)); exact HO185.out, wb_⟩
 ·rw [if_neg c2] at H
  exact absurd H (by simp)
def laws_zzFits4.l0 : Nat → List ByteArray → Int → Int → Option (Bool)
 | 0, _, _, _ => none
 | k + 1, x8, x9, x10 => if x10 < x9 then (if 0 ≤ x10 then (if x10 < (x8.length : Int) then (if ((rdOf ByteArray.empty x8 x10).size : Int) > 2147483647 then (some false) else (laws_zzFits4.l0 k x8 x9 (wrap64 (x10 + 1)))) else (none)) else (none)) else (some true)
def laws_zzFits4.f (k : Nat) (l0 : List ByteArray) : Option (Bool) := if (l0.length : Int) > 2147483647 then (some false) else (laws_zzFits4.l0 k l0 (l0.length : Int) 0)
set_option maxHeartbeats 8000000 in
set_option maxRecDepth 100000 in
theorem laws_zzFits4.calls (k : Nat) (A0 : Option Addr) (c0 : Nat) (l0 : List ByteArray) (r : Bool) (w : World) (hr0 : Kd.C Kd.string w A0 l0.length l0) (hc0 : l0.length ≤ c0) (h : laws_zzFits4.f k l0 = some r) :
  Calls Tryz.prog 5 #[.slice A0 l0.length c0] w fun e w' => e = .returned (.bool r) ∧ Drawn0 w w' := by
 have HR0 := asd_ hr0
 have HC0 := asd_ hc0
 clear hr0 hc0
 have H : (if (l0.length : Int) > 2147483647 then (some false) else (laws_zzFits4.l0 k l0 (l0.length : Int) 0)) = some r := h
 clear h
 by_cases c2 : (l0.length : Int) > 2147483647
 ·rw [if_pos c2] at H
  have c2b0 : decide (2147483647 < (l0.length : Int)) = true := decide_eq_true c2
  have c2b1 : decide (2147483647 < l0.length) = true := decide_eq_true (by omega)
  clear c2
  obtain rfl := Option.some.inj H
  go_enter Tryz.func5, Tryz.ntmps5
  go_wp2
  go_ret
  exact ⟨r1_, dr_⟩
 ·rw [if_neg c2] at H
  have c2b0 : decide (2147483647 < (l0.length : Int)) = false := decide_eq_false c2
  have c2b1 : decide (2147483647 < l0.length) = false := decide_eq_false (by omega)
  clear c2
  have H' := asd_ H
  clear H
  go_enter Tryz.func5, Tryz.ntmps5
  go_wp2
  go_loopg [10] k (fun kq v10 w' => ∃ (x10_1 : Int), v10 = .int .i64 x10_1 ∧ Aside0 (laws_zzFits4.l0 kq l0 (l0.length : Int) x10_1 = some r) ∧ Aside0 (kq ≤ k) ∧ Drawn0 w w')
  case atStart => exact ⟨(0), r1_, H', ⟨Nat.le_refl _⟩, dr_⟩
  case round =>
   clear H'
   obtain ⟨x10_1, rfl, HA, HK1, ⟨m1, rfl⟩⟩ := hrel
   cases gk with
   | zero => exact absurd HA.out (by simp [laws_zzFits4.l0])
   | succ k1 =>
    have H := HA.out
    clear HA
    simp only [laws_zzFits4.l0] at H
    by_cases c3 : x10_1 < (l0.length : Int)
    ·rw [if_pos c3] at H
     have c3b0 : decide (x10_1 < (l0.length : Int)) = true := decide_eq_true c3
     clear c3
     by_cases c4 : 0 ≤ x10_1
     ·rw [if_pos c4] at H
      have c4b0 : decide (0 ≤ x10_1) = true := decide_eq_true c4
      clear c4
      by_cases c5 : x10_1 < (l0.length : Int)
      ·rw [if_pos c5] at H
       have c5b0 : decide (x10_1 < (l0.length : Int)) = true := decide_eq_true c5
       clear c5
       by_cases c6 : ((rdOf ByteArray.empty l0 x10_1).size : Int) > 2147483647
       ·rw [if_pos c6] at H
        have c6b0 : decide (2147483647 < ((rdOf ByteArray.empty l0 x10_1).size : Int)) = true := decide_eq_true c6
        have c6b1 : decide (2147483647 < (rdOf ByteArray.empty l0 x10_1).size) = true := decide_eq_true (by omega)
        clear c6
        obtain rfl := Option.some.inj H
        have p101 : 0 ≤ (x10_1 : Int) := of_decide_eq_true as_
        have q101 : x10_1 < (l0.length : Int) := of_decide_eq_true as_
        obtain ⟨ad101, e101, hx101_0⟩ := Kd.at_string HR0.out x10_1 p101 q101
        cases e101
        replace p101 := eq_true p101
        replace q101 := eq_true q101
        go_wp2
        go_ret
        exact ⟨r1_, dr_⟩
       ·rw [if_neg c6] at H
        have c6b0 : decide (2147483647 < ((rdOf ByteArray.empty l0 x10_1).size : Int)) = false := decide_eq_false c6
        have c6b1 : decide (2147483647 < (rdOf ByteArray.empty l0 x10_1).size) = false := decide_eq_false (by omega)
        clear c6
        have H' := asd_ H
        clear H
        have p101 : 0 ≤ (x10_1 : Int) := of_decide_eq_true as_
        have q101 : x10_1 < (l0.length : Int) := of_decide_eq_true as_
        obtain ⟨ad101, e101, hx101_0⟩ := Kd.at_string HR0.out x10_1 p101 q101
        cases e101
        replace p101 := eq_true p101
        replace q101 := eq_true q101
        go_wp2
        go_roundg k1
        case measure => have := HK1.out; omega
        case rel => exact ⟨(wrap64 (x10_1 + 1)), r1_, H', ⟨by have := HK1.out; omega⟩, dr_⟩
      ·rw [if_neg c5] at H
       exact absurd H (by simp)
     ·rw [if_neg c4] at H
      exact absurd H (by simp)
    ·rw [if_neg c3] at H
     have c3b0 : decide (x10_1 < (l0.length : Int)) = false := decide_eq_false c3
     clear c3
     obtain rfl := Option.some.inj H
     go_wp2
     go_ret
     exact ⟨r1_, dr_⟩
def laws_zzFits5.f (k : Nat) (a0_0 : Int) (a0_1 : Bool) (a0_2 : Int) (a0_3 : ByteArray) (l0_4 : List ByteArray) (l0_5 : List (S25)) : Option (Bool) := if (a0_3.size : Int) > 2147483647 then (some false) else ((laws_zzFits4.f k l0_4).bind fun t103 => (if t103 = true then (if (l0_5.length : Int) > 2147483647 then (some false) else (some true)) else (some false)))
set_option maxHeartbeats 8000000 in
set_option maxRecDepth 100000 in
theorem laws_zzFits5.calls (k : Nat) (a0_0 : Int) (a0_1 : Bool) (a0_2 : Int) (a0_3 : ByteArray) (A0_4 : Option Addr) (c0_4 : Nat) (l0_4 : List ByteArray) (A0_5 : Option Addr) (c0_5 : Nat) (l0_5 : List (S25)) (r : Bool) (w : World) (hr0_4 : Kd.C Kd.string w A0_4 l0_4.length l0_4) (hc0_4 : l0_4.length ≤ c0_4) (hr0_5 : Kd.C k25 w A0_5 l0_5.length l0_5) (hc0_5 : l0_5.length ≤ c0_5) (h : laws_zzFits5.f k a0_0 a0_1 a0_2 a0_3 l0_4 l0_5 = some r) :
  Calls Tryz.prog 6 #[.agg #[.int .i64 a0_0, .bool a0_1, .int .i64 a0_2, .string a0_3, .slice A0_4 l0_4.length c0_4, .slice A0_5 l0_5.length c0_5]] w fun e w' => e = .returned (.bool r) ∧ Below w.heap.size w w' := by
 have hu25 := Tryz.underlying25
 have HR0_4 := asd_ hr0_4
 have HC0_4 := asd_ hc0_4
 clear hr0_4 hc0_4
 have HR0_5 := asd_ hr0_5
 have HC0_5 := asd_ hc0_5
 clear hr0_5 hc0_5
 have HB := asd_ (Below.refl w.heap.size w)
 have H : (if (a0_3.size : Int) > 2147483647 then (some false) else ((laws_zzFits4.f k l0_4).bind fun t103 => (if t103 = true then (if (l0_5.length : Int) > 2147483647 then (some false) else (some true)) else (some false)))) = some r := h
 clear h
 by_cases c2 : (a0_3.size : Int) > 2147483647
 ·rw [if_pos c2] at H
  have c2b0 : decide (2147483647 < (a0_3.size : Int)) = true := decide_eq_true c2
  have c2b1 : decide (2147483647 < a0_3.size) = true := decide_eq_true (by omega)
  clear c2
  obtain rfl := Option.some.inj H
  go_enter Tryz.func6, Tryz.ntmps6
  go_wp2_with (first | ((with_reducible refine gate_dst (N := 1) rfl ?_); refine box_event ?hg (N := 1) ?hd (cs := #[.int .i64 a0_0, .bool a0_1, .int .i64 a0_2, .string a0_3, .slice A0_4 l0_4.length c0_4, .slice A0_5 l0_5.length c0_5]) (t := 25) ?hr ?_; (case hd => rfl); (case hg => rfl); (case hr => first | (go_simp; done) | (go_simp; rfl)); intro gb102 hg w3 hbox hb; have n0_ := asd_ (below_step wb_ hb); have n1_ := asd_ (hbox); have n2_ := asd_ ((by rw [hg]; exact (below_size wb_) : w.heap.size ≤ gb102)); have n3_ := asd_ ((by rw [hg]; exact (below_size wb_) : w.heap.size ≤ gb102)); clear HB; have HB := n0_; have BK102 := n1_; have GW102 := n2_; have GE102 := n3_; clear n0_ n1_ n2_ n3_; clear hb hbox hg; have hcz4_0 := cz_ BK102.out 0; have hcz4_1 := cz_ BK102.out 1; have hcz4_2 := cz_ BK102.out 2; have hcz4_3 := cz_ BK102.out 3; have hcz4_4 := cz_ BK102.out 4; have hcz4_5 := cz_ BK102.out 5; have hfz4_0 := blk_frozen BK102.out 0; have hfz4_1 := blk_frozen BK102.out 1; have hfz4_2 := blk_frozen BK102.out 2; have hfz4_3 := blk_frozen BK102.out 3; have hfz4_4 := blk_frozen BK102.out 4; have hfz4_5 := blk_frozen BK102.out 5))
  go_ret
  exact ⟨er_, wb_⟩
 ·rw [if_neg c2] at H
  have c2b0 : decide (2147483647 < (a0_3.size : Int)) = false := decide_eq_false c2
  have c2b1 : decide (2147483647 < a0_3.size) = false := decide_eq_false (by omega)
  clear c2
  replace H := Option.bind_eq_some_iff.mp H
  obtain ⟨t103, A50, H⟩ := H
  replace H : (if t103 = true then (if (l0_5.length : Int) > 2147483647 then (some false) else (some true)) else (some false)) = some r := H
  have A5 := asd_ A50
  clear A50
  by_cases c6 : t103 = true
  ·subst c6
   have H1 : (if (l0_5.length : Int) > 2147483647 then (some false) else (some true)) = some r := by rw [if_pos rfl] at H; exact H
   clear H
   have H := H1
   clear H1
   by_cases c7 : (l0_5.length : Int) > 2147483647
   ·rw [if_pos c7] at H
    have c7b0 : decide (2147483647 < (l0_5.length : Int)) = true := decide_eq_true c7
    have c7b1 : decide (2147483647 < l0_5.length) = true := decide_eq_true (by omega)
    clear c7
    obtain rfl := Option.some.inj H
    go_enter Tryz.func6, Tryz.ntmps6
    go_wp2_with (first | ((with_reducible refine gate_dst (N := 1) rfl ?_); refine box_event ?hg (N := 1) ?hd (cs := #[.int .i64 a0_0, .bool a0_1, .int .i64 a0_2, .string a0_3, .slice A0_4 l0_4.length c0_4, .slice A0_5 l0_5.length c0_5]) (t := 25) ?hr ?_; (case hd => rfl); (case hg => rfl); (case hr => first | (go_simp; done) | (go_simp; rfl)); intro gb102 hg w8 hbox hb; have n0_ := asd_ (below_step wb_ hb); have n1_ := asd_ (hbox); have n2_ := asd_ ((by rw [hg]; exact (below_size wb_) : w.heap.size ≤ gb102)); have n3_ := asd_ ((by rw [hg]; exact (below_size wb_) : w.heap.size ≤ gb102)); clear HB; have HB := n0_; have BK102 := n1_; have GW102 := n2_; have GE102 := n3_; clear n0_ n1_ n2_ n3_; clear hb hbox hg; have hcz9_0 := cz_ BK102.out 0; have hcz9_1 := cz_ BK102.out 1; have hcz9_2 := cz_ BK102.out 2; have hcz9_3 := cz_ BK102.out 3; have hcz9_4 := cz_ BK102.out 4; have hcz9_5 := cz_ BK102.out 5; have hfz9_0 := blk_frozen BK102.out 0; have hfz9_1 := blk_frozen BK102.out 1; have hfz9_2 := blk_frozen BK102.out 2; have hfz9_3 := blk_frozen BK102.out 3; have hfz9_4 := blk_frozen BK102.out 4; have hfz9_5 := blk_frozen BK102.out 5) | ((with_reducible refine gate_callee (f := 5) rfl ?_); refine goesL_ (some 9) rfl rfl Tryz.func5 kr_ rfl #[.slice A0_4 l0_4.length c0_4] rfl ap_ ?_; (with_reducible refine (laws_zzFits4.calls k _ _ l0_4 true _ ?side1 ?side2 A5.out).mono ?_); (case side1 => repeat (first | exact (Kd.C_below HR0_4.out HB.out) | (with_reducible refine Kd.C_alloc ?_ _) | (with_reducible refine Kd.C_drewN ?_ _) | (with_reducible refine Kd.C_drew ?_))); (case side2 => exact HC0_4.out); rintro e w' ⟨rfl, ⟨nd, rfl⟩⟩; refine ⟨_, rfl, ?_⟩))
    go_ret
    exact ⟨er_, wb_⟩
   ·rw [if_neg c7] at H
    have c7b0 : decide (2147483647 < (l0_5.length : Int)) = false := decide_eq_false c7
    have c7b1 : decide (2147483647 < l0_5.length) = false := decide_eq_false (by omega)
    clear c7
    obtain rfl := Option.some.inj H
    go_enter Tryz.func6, Tryz.ntmps6
    go_wp2_with (first | ((with_reducible refine gate_dst (N := 1) rfl ?_); refine box_event ?hg (N := 1) ?hd (cs := #[.int .i64 a0_0, .bool a0_1, .int .i64 a0_2, .string a0_3, .slice A0_4 l0_4.length c0_4, .slice A0_5 l0_5.length c0_5]) (t := 25) ?hr ?_; (case hd => rfl); (case hg => rfl); (case hr => first | (go_simp; done) | (go_simp; rfl)); intro gb102 hg w10 hbox hb; have n0_ := asd_ (below_step wb_ hb); have n1_ := asd_ (hbox); have n2_ := asd_ ((by rw [hg]; exact (below_size wb_) : w.heap.size ≤ gb102)); have n3_ := asd_ ((by rw [hg]; exact (below_size wb_) : w.heap.size ≤ gb102)); clear HB; have HB := n0_; have BK102 := n1_; have GW102 := n2_; have GE102 := n3_; clear n0_ n1_ n2_ n3_; clear hb hbox hg; have hcz11_0 := cz_ BK102.out 0; have hcz11_1 := cz_ BK102.out 1; have hcz11_2 := cz_ BK102.out 2; have hcz11_3 := cz_ BK102.out 3; have hcz11_4 := cz_ BK102.out 4; have hcz11_5 := cz_ BK102.out 5; have hfz11_0 := blk_frozen BK102.out 0; have hfz11_1 := blk_frozen BK102.out 1; have hfz11_2 := blk_frozen BK102.out 2; have hfz11_3 := blk_frozen BK102.out 3; have hfz11_4 := blk_frozen BK102.out 4; have hfz11_5 := blk_frozen BK102.out 5) | ((with_reducible refine gate_callee (f := 5) rfl ?_); refine goesL_ (some 9) rfl rfl Tryz.func5 kr_ rfl #[.slice A0_4 l0_4.length c0_4] rfl ap_ ?_; (with_reducible refine (laws_zzFits4.calls k _ _ l0_4 true _ ?side1 ?side2 A5.out).mono ?_); (case side1 => repeat (first | exact (Kd.C_below HR0_4.out HB.out) | (with_reducible refine Kd.C_alloc ?_ _) | (with_reducible refine Kd.C_drewN ?_ _) | (with_reducible refine Kd.C_drew ?_))); (case side2 => exact HC0_4.out); rintro e w' ⟨rfl, ⟨nd, rfl⟩⟩; refine ⟨_, rfl, ?_⟩))
    go_ret
    exact ⟨er_, wb_⟩
  ·replace c6 := Bool.eq_false_iff.mpr c6
   subst c6
   have H1 : (some false) = some r := by rw [if_neg (show ¬ (false = true) by decide)] at H; exact H
   clear H
   have H := H1
   clear H1
   obtain rfl := Option.some.inj H
   go_enter Tryz.func6, Tryz.ntmps6
   go_wp2_with (first | ((with_reducible refine gate_dst (N := 1) rfl ?_); refine box_event ?hg (N := 1) ?hd (cs := #[.int .i64 a0_0, .bool a0_1, .int .i64 a0_2, .string a0_3, .slice A0_4 l0_4.length c0_4, .slice A0_5 l0_5.length c0_5]) (t := 25) ?hr ?_; (case hd => rfl); (case hg => rfl); (case hr => first | (go_simp; done) | (go_simp; rfl)); intro gb102 hg w12 hbox hb; have n0_ := asd_ (below_step wb_ hb); have n1_ := asd_ (hbox); have n2_ := asd_ ((by rw [hg]; exact (below_size wb_) : w.heap.size ≤ gb102)); have n3_ := asd_ ((by rw [hg]; exact (below_size wb_) : w.heap.size ≤ gb102)); clear HB; have HB := n0_; have BK102 := n1_; have GW102 := n2_; have GE102 := n3_; clear n0_ n1_ n2_ n3_; clear hb hbox hg; have hcz13_0 := cz_ BK102.out 0; have hcz13_1 := cz_ BK102.out 1; have hcz13_2 := cz_ BK102.out 2; have hcz13_3 := cz_ BK102.out 3; have hcz13_4 := cz_ BK102.out 4; have hcz13_5 := cz_ BK102.out 5; have hfz13_0 := blk_frozen BK102.out 0; have hfz13_1 := blk_frozen BK102.out 1; have hfz13_2 := blk_frozen BK102.out 2; have hfz13_3 := blk_frozen BK102.out 3; have hfz13_4 := blk_frozen BK102.out 4; have hfz13_5 := blk_frozen BK102.out 5) | ((with_reducible refine gate_callee (f := 5) rfl ?_); refine goesL_ (some 9) rfl rfl Tryz.func5 kr_ rfl #[.slice A0_4 l0_4.length c0_4] rfl ap_ ?_; (with_reducible refine (laws_zzFits4.calls k _ _ l0_4 false _ ?side1 ?side2 A5.out).mono ?_); (case side1 => repeat (first | exact (Kd.C_below HR0_4.out HB.out) | (with_reducible refine Kd.C_alloc ?_ _) | (with_reducible refine Kd.C_drewN ?_ _) | (with_reducible refine Kd.C_drew ?_))); (case side2 => exact HC0_4.out); rintro e w' ⟨rfl, ⟨nd, rfl⟩⟩; refine ⟨_, rfl, ?_⟩))
   go_ret
   exact ⟨er_, wb_⟩
def spec_JAmong.l0 : Nat → ByteArray → List ByteArray → Int → Option (Bool)
 | 0, _, _, _ => none
 | k + 1, x0, x1, x5 => if x5 < (x1.length : Int) then (if 0 ≤ x5 then (if (rdOf ByteArray.empty x1 x5).toList = x0.toList then (some true) else (spec_JAmong.l0 k x0 x1 (wrap64 (x5 + 1)))) else (none)) else (some false)
def spec_JAmong.f (k : Nat) (a0 : ByteArray) (l1 : List ByteArray) : Option (Bool) := spec_JAmong.l0 k a0 l1 0
set_option maxHeartbeats 8000000 in
set_option maxRecDepth 100000 in
theorem spec_JAmong.calls (k : Nat) (a0 : ByteArray) (A1 : Option Addr) (c1 : Nat) (l1 : List ByteArray) (r : Bool) (w : World) (hr1 : Kd.C Kd.string w A1 l1.length l1) (hc1 : l1.length ≤ c1) (h : spec_JAmong.f k a0 l1 = some r) :
  Calls Tryz.prog 21 #[.string a0, .slice A1 l1.length c1] w fun e w' => e = .returned (.bool r) ∧ Drawn0 w w' := by
 have HR1 := asd_ hr1
 have HC1 := asd_ hc1
 clear hr1 hc1
 have H : (spec_JAmong.l0 k a0 l1 0) = some r := h
 clear h
 have H' := asd_ H
 clear H
 go_enter Tryz.func21, Tryz.ntmps21
 go_wp2
 go_loopg [5] k (fun kq v5 w' => ∃ (x5_1 : Int), v5 = .int .i64 x5_1 ∧ Aside0 (spec_JAmong.l0 kq a0 l1 x5_1 = some r) ∧ Aside0 (kq ≤ k) ∧ Drawn0 w w')
 case atStart => exact ⟨(0), r1_, H', ⟨Nat.le_refl _⟩, dr_⟩
 case round =>
  clear H'
  obtain ⟨x5_1, rfl, HA, HK1, ⟨m1, rfl⟩⟩ := hrel
  cases gk with
  | zero => exact absurd HA.out (by simp [spec_JAmong.l0])
  | succ k1 =>
   have H := HA.out
   clear HA
   simp only [spec_JAmong.l0] at H
   by_cases c3 : x5_1 < (l1.length : Int)
   ·rw [if_pos c3] at H
    have c3b0 : decide (x5_1 < (l1.length : Int)) = true := decide_eq_true c3
    clear c3
    by_cases c4 : 0 ≤ x5_1
    ·rw [if_pos c4] at H
     have c4b0 : decide (0 ≤ x5_1) = true := decide_eq_true c4
     clear c4
     by_cases c5 : (rdOf ByteArray.empty l1 x5_1).toList = a0.toList
     ·rw [if_pos c5] at H
      have c5b0 : ((rdOf ByteArray.empty l1 x5_1).toList == a0.toList) = true := beq_iff_eq.mpr c5
      have c5b1 : ((rdOf ByteArray.empty l1 x5_1).toList != a0.toList) = false := bne_eq_false_iff_eq.mpr c5
      clear c5
      obtain rfl := Option.some.inj H
      have p104 : 0 ≤ (x5_1 : Int) := of_decide_eq_true as_
      have q104 : x5_1 < (l1.length : Int) := of_decide_eq_true as_
      obtain ⟨ad104, e104, hx104_0⟩ := Kd.at_string HR1.out x5_1 p104 q104
      cases e104
      replace p104 := eq_true p104
      replace q104 := eq_true q104
      go_wp2
      go_ret
      exact ⟨r1_, dr_⟩
     ·rw [if_neg c5] at H
      have c5b0 : ((rdOf ByteArray.empty l1 x5_1).toList == a0.toList) = false := beq_eq_false_iff_ne.mpr c5
      have c5b1 : ((rdOf ByteArray.empty l1 x5_1).toList != a0.toList) = true := bne_iff_ne.mpr c5
      have H' := asd_ H
      clear H
      have p104 : 0 ≤ (x5_1 : Int) := of_decide_eq_true as_
      have q104 : x5_1 < (l1.length : Int) := of_decide_eq_true as_
      obtain ⟨ad104, e104, hx104_0⟩ := Kd.at_string HR1.out x5_1 p104 q104
      cases e104
      replace p104 := eq_true p104
      replace q104 := eq_true q104
      go_wp2
      go_roundg k1
      case measure => have := HK1.out; omega
      case rel => exact ⟨(wrap64 (x5_1 + 1)), r1_, H', ⟨by have := HK1.out; omega⟩, dr_⟩
    ·rw [if_neg c4] at H
     exact absurd H (by simp)
   ·rw [if_neg c3] at H
    have c3b0 : decide (x5_1 < (l1.length : Int)) = false := decide_eq_false c3
    clear c3
    obtain rfl := Option.some.inj H
    go_wp2
    go_ret
    exact ⟨r1_, dr_⟩
def spec_jThere.l0 : Nat → List ByteArray → Int → Int → Bool → Int → ByteArray → List ByteArray → List (S25) → Option (Bool)
 | 0, _, _, _, _, _, _, _, _ => none
 | k + 1, x1, x5, x157000, x157001, x157002, x157003, x157004, x157005 => if x5 < (x1.length : Int) then (if 0 ≤ x5 then ((spec_JMember.f k x157000 x157001 x157002 x157003 x157004 x157005 (rdOf ByteArray.empty x1 x5)).bind fun t158 => (if t158 < 0 then (some false) else (spec_jThere.l0 k x1 (wrap64 (x5 + 1)) x157000 x157001 x157002 x157003 x157004 x157005))) else (none)) else (some true)
def spec_jThere.f (k : Nat) (a0_0 : Int) (a0_1 : Bool) (a0_2 : Int) (a0_3 : ByteArray) (l0_4 : List ByteArray) (l0_5 : List (S25)) (l1 : List ByteArray) : Option (Bool) := spec_jThere.l0 k l1 0 a0_0 a0_1 a0_2 a0_3 l0_4 l0_5
set_option maxHeartbeats 8000000 in
set_option maxRecDepth 100000 in
theorem spec_jThere.calls (k : Nat) (a0_0 : Int) (a0_1 : Bool) (a0_2 : Int) (a0_3 : ByteArray) (A0_4 : Option Addr) (c0_4 : Nat) (l0_4 : List ByteArray) (A0_5 : Option Addr) (c0_5 : Nat) (l0_5 : List (S25)) (A1 : Option Addr) (c1 : Nat) (l1 : List ByteArray) (r : Bool) (w : World) (hr0_4 : Kd.C Kd.string w A0_4 l0_4.length l0_4) (hc0_4 : l0_4.length ≤ c0_4) (hr0_5 : Kd.C k25 w A0_5 l0_5.length l0_5) (hc0_5 : l0_5.length ≤ c0_5) (hr1 : Kd.C Kd.string w A1 l1.length l1) (hc1 : l1.length ≤ c1) (h : spec_jThere.f k a0_0 a0_1 a0_2 a0_3 l0_4 l0_5 l1 = some r) :
  Calls Tryz.prog 116 #[.agg #[.int .i64 a0_0, .bool a0_1, .int .i64 a0_2, .string a0_3, .slice A0_4 l0_4.length c0_4, .slice A0_5 l0_5.length c0_5], .slice A1 l1.length c1] w fun e w' => e = .returned (.bool r) ∧ Below w.heap.size w w' := by
 have hu25 := Tryz.underlying25
 have HR0_4 := asd_ hr0_4
 have HC0_4 := asd_ hc0_4
 clear hr0_4 hc0_4
 have HR0_5 := asd_ hr0_5
 have HC0_5 := asd_ hc0_5
 clear hr0_5 hc0_5
 have HR1 := asd_ hr1
 have HC1 := asd_ hc1
 clear hr1 hc1
 have HB := asd_ (Below.refl w.heap.size w)
 have H : (spec_jThere.l0 k l1 0 a0_0 a0_1 a0_2 a0_3 l0_4 l0_5) = some r := h
 clear h
 have H' := asd_ H
 clear H
 go_enter Tryz.func116, Tryz.ntmps116
 go_wp2_with (first | ((with_reducible refine gate_dst (N := 2) rfl ?_); refine box_event ?hg (N := 2) ?hd (cs := #[.int .i64 a0_0, .bool a0_1, .int .i64 a0_2, .string a0_3, .slice A0_4 l0_4.length c0_4, .slice A0_5 l0_5.length c0_5]) (t := 25) ?hr ?_; (case hd => rfl); (case hg => rfl); (case hr => first | (go_simp; done) | (go_simp; rfl)); intro gb156 hg w3 hbox hb; have n0_ := asd_ (below_step wb_ hb); have n1_ := asd_ (hbox); have n2_ := asd_ ((by rw [hg]; exact (below_size wb_) : w.heap.size ≤ gb156)); have n3_ := asd_ ((by rw [hg]; exact (below_size wb_) : w.heap.size ≤ gb156)); clear HB; have HB := n0_; have BK156 := n1_; have GW156 := n2_; have GE156 := n3_; clear n0_ n1_ n2_ n3_; clear hb hbox hg))
 go_loopg [5] k (fun kq v5 w' => ∃ (x5_1 : Int), v5 = .int .i64 x5_1 ∧ Aside0 (spec_jThere.l0 kq l1 x5_1 a0_0 a0_1 a0_2 a0_3 l0_4 l0_5 = some r) ∧ Aside0 (kq ≤ k) ∧ Aside0 (w'.heap[gb156]? = some (.cells #[.int .i64 a0_0, .bool a0_1, .int .i64 a0_2, .string a0_3, (.slice A0_4 l0_4.length c0_4), (.slice A0_5 l0_5.length c0_5)] 25 (0, 0))) ∧ Aside0 (Below w.heap.size w w'))
 case atStart => exact ⟨(0), r1_, H', ⟨Nat.le_refl _⟩, ⟨bk_⟩, ⟨wb_⟩⟩
 case round =>
  clear H'
  obtain ⟨x5_1, rfl, HA, HK1, BK156, HB⟩ := hrel
  cases gk with
  | zero => exact absurd HA.out (by simp [spec_jThere.l0])
  | succ k1 =>
   have H := HA.out
   clear HA
   simp only [spec_jThere.l0] at H
   by_cases c4 : x5_1 < (l1.length : Int)
   ·rw [if_pos c4] at H
    have c4b0 : decide (x5_1 < (l1.length : Int)) = true := decide_eq_true c4
    clear c4
    by_cases c5 : 0 ≤ x5_1
    ·rw [if_pos c5] at H
     have c5b0 : decide (0 ≤ x5_1) = true := decide_eq_true c5
     clear c5
     replace H := Option.bind_eq_some_iff.mp H
     obtain ⟨t158, A60, H⟩ := H
     replace H : (if t158 < 0 then (some false) else (spec_jThere.l0 k1 l1 (wrap64 (x5_1 + 1)) a0_0 a0_1 a0_2 a0_3 l0_4 l0_5)) = some r := H
     have A6 := asd_ A60
     clear A60
     by_cases c7 : t158 < 0
     ·rw [if_pos c7] at H
      have c7b0 : decide (t158 < 0) = true := decide_eq_true c7
      clear c7
      obtain rfl := Option.some.inj H
      try go_wp2
      have n0_ := asd_ (blk_drew BK156.out)
      have n1_ := asd_ (below_drew1 HB.out)
      clear BK156
      clear HB
      have BK156 := n0_
      have HB := n1_
      clear n0_ n1_
      have p157 : 0 ≤ (x5_1 : Int) := of_decide_eq_true as_
      have q157 : x5_1 < (l1.length : Int) := of_decide_eq_true as_
      obtain ⟨ad157, e157, hx157_0⟩ := Kd.at_string HR1.out x5_1 p157 q157
      have hw157_0 := hx157_0
      cases e157
      replace hx157_0 := (HB.out.cell (World.block_lt_of_cell? w _ hx157_0)).trans hx157_0
      replace p157 := eq_true p157
      replace q157 := eq_true q157
      refine start_ (n := 7) (S := fun w' => w'.cell? ⟨gb156, 0, none⟩ = some (.int .i64 a0_0) ∧ w'.cell? ⟨gb156, 1, none⟩ = some (.bool a0_1) ∧ w'.cell? ⟨gb156, 2, none⟩ = some (.int .i64 a0_2) ∧ w'.cell? ⟨gb156, 3, none⟩ = some (.string a0_3) ∧ w'.cell? ⟨gb156, 4, none⟩ = some (.slice A0_4 l0_4.length c0_4) ∧ w'.cell? ⟨gb156, 5, none⟩ = some (.slice A0_5 l0_5.length c0_5) ∧ w'.cell? (ad157.add (x5_1).toNat) = some (.string (rdOf ByteArray.empty l1 x5_1))) (ds := []) #[false, false, false, false, false, false, false] kr_ rfl rfl ⟨(blk_cell BK156.out 0).trans rfl, (blk_cell BK156.out 1).trans rfl, (blk_cell BK156.out 2).trans rfl, (blk_cell BK156.out 3).trans rfl, (blk_cell BK156.out 4).trans rfl, (blk_cell BK156.out 5).trans rfl, ((HB.out.cell (World.block_lt_of_cell? w _ hw157_0)).trans hw157_0)⟩ (fun hHeld => ?_)
      generalize wr.drew = w8 at BK156 HB hx157_0 hHeld ⊢
      refine pure_ (i := 1) (N := some 13) (v := ?_) (a' := ?_) #[false, true, false, false, false, false, false] rfl rfl kr_ (fun _ _ _ h => h) (Or.inl ⟨by rfl, ?_⟩) ?_ ?_
      rotate_left
      ·intro w'
       go_simp
       with_reducible rfl
      rotate_left
      ·simp only [Act.put, List.setIfInBounds_toArray, List.set_cons_zero, List.set_cons_succ, i64_w, i32_w]
       rfl
      refine pure_ (i := 2) (N := some 14) (v := ?_) (a' := ?_) #[false, true, true, false, false, false, false] rfl rfl kr_ (fun _ _ _ h => h) (Or.inl ⟨by rfl, ?_⟩) ?_ ?_
      rotate_left
      ·intro w'
       go_simp
       with_reducible rfl
      rotate_left
      ·simp only [Act.put, List.setIfInBounds_toArray, List.set_cons_zero, List.set_cons_succ, i64_w, i32_w]
       rfl
      refine pure_ (i := 3) (N := some 15) (v := ?_) (a' := ?_) #[false, true, true, true, false, false, false] rfl rfl kr_ (fun _ _ _ h => h) (Or.inl ⟨by rfl, ?_⟩) ?_ ?_
      rotate_left
      ·intro w'
       go_simp
       with_reducible rfl
      rotate_left
      ·simp only [Act.put, List.setIfInBounds_toArray, List.set_cons_zero, List.set_cons_succ, i64_w, i32_w]
       rfl
      refine take_ (i := 0) (N := some 12) (v := ?_) (a' := ?_) #[true, true, true, true, false, false, false] rfl rfl kr_ (fun _ _ _ h => h) (Or.inl ⟨by rfl, ?_⟩) hHeld ?_ ?_
      rotate_left
      ·rintro w' ⟨s0, s1, s2, s3, s4, s5, s6⟩
       go_simp
       with_reducible rfl
      rotate_left
      ·simp only [Act.put, List.setIfInBounds_toArray, List.set_cons_zero, List.set_cons_succ, i64_w, i32_w]
       rfl
      refine take_ (i := 4) (N := some 16) (v := ?_) (a' := ?_) #[true, true, true, true, true, false, false] rfl rfl kr_ (fun _ _ _ h => h) (Or.inl ⟨by rfl, ?_⟩) hHeld ?_ ?_
      rotate_left
      ·rintro w' ⟨s0, s1, s2, s3, s4, s5, s6⟩
       go_simp
       with_reducible rfl
      rotate_left
      ·simp only [Act.put, List.setIfInBounds_toArray, List.set_cons_zero, List.set_cons_succ, i64_w, i32_w]
       rfl
      refine one_ (i := 5) (N := some 17) #[true, true, true, true, true, true, false] rfl rfl kr_ (by decide) (fun K hK => ?_)
      refine goes_ Tryz.func65 kr_ rfl #[.agg #[.int .i64 a0_0, .bool a0_1, .int .i64 a0_2, .string a0_3, .slice A0_4 l0_4.length c0_4, .slice A0_5 l0_5.length c0_5], .string (rdOf ByteArray.empty l1 x5_1)] (by rfl) rfl rfl ap_ ?_
      with_reducible refine (spec_JMember.calls k1 a0_0 a0_1 a0_2 a0_3 _ _ l0_4 _ _ l0_5 (rdOf ByteArray.empty l1 x5_1) t158 _ ?side1 ?side2 ?side3 ?side4 A6.out).mono ?_
      (case side1 => repeat (first | exact (Kd.C_below HR0_4.out HB.out) | (with_reducible refine Kd.C_alloc ?_ _) | (with_reducible refine Kd.C_drewN ?_ _) | (with_reducible refine Kd.C_drew ?_)))
      (case side2 => exact HC0_4.out)
      (case side3 => repeat (first | exact (Kd.C_below HR0_5.out HB.out) | (with_reducible refine Kd.C_alloc ?_ _) | (with_reducible refine Kd.C_drewN ?_ _) | (with_reducible refine Kd.C_drew ?_)))
      (case side4 => exact HC0_5.out)
      rintro e w9 ⟨rfl, hb⟩
      refine ⟨_, rfl, ?_⟩
      have n0_ := asd_ (blk_below (g := gb156) (o := .cells #[.int .i64 a0_0, .bool a0_1, .int .i64 a0_2, .string a0_3, .slice A0_4 l0_4.length c0_4, .slice A0_5 l0_5.length c0_5] 25 (0, 0)) bk_ hb)
      have n1_ := asd_ (below_step wb_ hb)
      clear BK156
      clear HB
      have BK156 := n0_
      have HB := n1_
      clear n0_ n1_
      (try clear hb)
      (try clear hb2)
      (try clear hk)
      (try clear hi)
      refine hK.out _ _ ⟨(blk_cell BK156.out 0).trans rfl, (blk_cell BK156.out 1).trans rfl, (blk_cell BK156.out 2).trans rfl, (blk_cell BK156.out 3).trans rfl, (blk_cell BK156.out 4).trans rfl, (blk_cell BK156.out 5).trans rfl, ((HB.out.cell (World.block_lt_of_cell? w _ hw157_0)).trans hw157_0)⟩ (fun hHeld => ?_)
      clear hK K
      refine norm_ (a' := ?_) ?_ ?_
      rotate_left
      ·show Act.put _ (some 17) _ = _
       simp only [Act.put, List.setIfInBounds_toArray, List.set_cons_zero, List.set_cons_succ, i64_w, i32_w]
       rfl
      refine pure_ (i := 6) (N := some 18) (v := ?_) (a' := ?_) #[true, true, true, true, true, true, true] rfl rfl kr_ (fun _ _ _ h => h) (Or.inl ⟨by rfl, ?_⟩) ?_ ?_
      rotate_left
      ·intro w'
       go_simp
       with_reducible rfl
      rotate_left
      ·simp only [Act.put, List.setIfInBounds_toArray, List.set_cons_zero, List.set_cons_succ, i64_w, i32_w]
       rfl
      refine done_ kr_ ?_
      try go_wp2
      go_ret
      exact ⟨er_, wb_⟩
     ·rw [if_neg c7] at H
      have c7b0 : decide (t158 < 0) = false := decide_eq_false c7
      clear c7
      have H' := asd_ H
      clear H
      try go_wp2
      have n0_ := asd_ (blk_drew BK156.out)
      have n1_ := asd_ (below_drew1 HB.out)
      clear BK156
      clear HB
      have BK156 := n0_
      have HB := n1_
      clear n0_ n1_
      have p157 : 0 ≤ (x5_1 : Int) := of_decide_eq_true as_
      have q157 : x5_1 < (l1.length : Int) := of_decide_eq_true as_
      obtain ⟨ad157, e157, hx157_0⟩ := Kd.at_string HR1.out x5_1 p157 q157
      have hw157_0 := hx157_0
      cases e157
      replace hx157_0 := (HB.out.cell (World.block_lt_of_cell? w _ hx157_0)).trans hx157_0
      replace p157 := eq_true p157
      replace q157 := eq_true q157
      refine start_ (n := 7) (S := fun w' => w'.cell? ⟨gb156, 0, none⟩ = some (.int .i64 a0_0) ∧ w'.cell? ⟨gb156, 1, none⟩ = some (.bool a0_1) ∧ w'.cell? ⟨gb156, 2, none⟩ = some (.int .i64 a0_2) ∧ w'.cell? ⟨gb156, 3, none⟩ = some (.string a0_3) ∧ w'.cell? ⟨gb156, 4, none⟩ = some (.slice A0_4 l0_4.length c0_4) ∧ w'.cell? ⟨gb156, 5, none⟩ = some (.slice A0_5 l0_5.length c0_5) ∧ w'.cell? (ad157.add (x5_1).toNat) = some (.string (rdOf ByteArray.empty l1 x5_1))) (ds := []) #[false, false, false, false, false, false, false] kr_ rfl rfl ⟨(blk_cell BK156.out 0).trans rfl, (blk_cell BK156.out 1).trans rfl, (blk_cell BK156.out 2).trans rfl, (blk_cell BK156.out 3).trans rfl, (blk_cell BK156.out 4).trans rfl, (blk_cell BK156.out 5).trans rfl, ((HB.out.cell (World.block_lt_of_cell? w _ hw157_0)).trans hw157_0)⟩ (fun hHeld => ?_)
      generalize wr.drew = w10 at BK156 HB hx157_0 hHeld ⊢
      refine pure_ (i := 1) (N := some 13) (v := ?_) (a' := ?_) #[false, true, false, false, false, false, false] rfl rfl kr_ (fun _ _ _ h => h) (Or.inl ⟨by rfl, ?_⟩) ?_ ?_
      rotate_left
      ·intro w'
       go_simp
       with_reducible rfl
      rotate_left
      ·simp only [Act.put, List.setIfInBounds_toArray, List.set_cons_zero, List.set_cons_succ, i64_w, i32_w]
       rfl
      refine pure_ (i := 2) (N := some 14) (v := ?_) (a' := ?_) #[false, true, true, false, false, false, false] rfl rfl kr_ (fun _ _ _ h => h) (Or.inl ⟨by rfl, ?_⟩) ?_ ?_
      rotate_left
      ·intro w'
       go_simp
       with_reducible rfl
      rotate_left
      ·simp only [Act.put, List.setIfInBounds_toArray, List.set_cons_zero, List.set_cons_succ, i64_w, i32_w]
       rfl
      refine pure_ (i := 3) (N := some 15) (v := ?_) (a' := ?_) #[false, true, true, true, false, false, false] rfl rfl kr_ (fun _ _ _ h => h) (Or.inl ⟨by rfl, ?_⟩) ?_ ?_
      rotate_left
      ·intro w'
       go_simp
       with_reducible rfl
      rotate_left
      ·simp only [Act.put, List.setIfInBounds_toArray, List.set_cons_zero, List.set_cons_succ, i64_w, i32_w]
       rfl
      refine take_ (i := 0) (N := some 12) (v := ?_) (a' := ?_) #[true, true, true, true, false, false, false] rfl rfl kr_ (fun _ _ _ h => h) (Or.inl ⟨by rfl, ?_⟩) hHeld ?_ ?_
      rotate_left
      ·rintro w' ⟨s0, s1, s2, s3, s4, s5, s6⟩
       go_simp
       with_reducible rfl
      rotate_left
      ·simp only [Act.put, List.setIfInBounds_toArray, List.set_cons_zero, List.set_cons_succ, i64_w, i32_w]
       rfl
      refine take_ (i := 4) (N := some 16) (v := ?_) (a' := ?_) #[true, true, true, true, true, false, false] rfl rfl kr_ (fun _ _ _ h => h) (Or.inl ⟨by rfl, ?_⟩) hHeld ?_ ?_
      rotate_left
      ·rintro w' ⟨s0, s1, s2, s3, s4, s5, s6⟩
       go_simp
       with_reducible rfl
      rotate_left
      ·simp only [Act.put, List.setIfInBounds_toArray, List.set_cons_zero, List.set_cons_succ, i64_w, i32_w]
       rfl
      refine one_ (i := 5) (N := some 17) #[true, true, true, true, true, true, false] rfl rfl kr_ (by decide) (fun K hK => ?_)
      refine goes_ Tryz.func65 kr_ rfl #[.agg #[.int .i64 a0_0, .bool a0_1, .int .i64 a0_2, .string a0_3, .slice A0_4 l0_4.length c0_4, .slice A0_5 l0_5.length c0_5], .string (rdOf ByteArray.empty l1 x5_1)] (by rfl) rfl rfl ap_ ?_
      with_reducible refine (spec_JMember.calls k1 a0_0 a0_1 a0_2 a0_3 _ _ l0_4 _ _ l0_5 (rdOf ByteArray.empty l1 x5_1) t158 _ ?side1 ?side2 ?side3 ?side4 A6.out).mono ?_
      (case side1 => repeat (first | exact (Kd.C_below HR0_4.out HB.out) | (with_reducible refine Kd.C_alloc ?_ _) | (with_reducible refine Kd.C_drewN ?_ _) | (with_reducible refine Kd.C_drew ?_)))
      (case side2 => exact HC0_4.out)
      (case side3 => repeat (first | exact (Kd.C_below HR0_5.out HB.out) | (with_reducible refine Kd.C_alloc ?_ _) | (with_reducible refine Kd.C_drewN ?_ _) | (with_reducible refine Kd.C_drew ?_)))
      (case side4 => exact HC0_5.out)
      rintro e w11 ⟨rfl, hb⟩
      refine ⟨_, rfl, ?_⟩
      have n0_ := asd_ (blk_below (g := gb156) (o := .cells #[.int .i64 a0_0, .bool a0_1, .int .i64 a0_2, .string a0_3, .slice A0_4 l0_4.length c0_4, .slice A0_5 l0_5.length c0_5] 25 (0, 0)) bk_ hb)
      have n1_ := asd_ (below_step wb_ hb)
      clear BK156
      clear HB
      have BK156 := n0_
      have HB := n1_
      clear n0_ n1_
      (try clear hb)
      (try clear hb2)
      (try clear hk)
      (try clear hi)
      refine hK.out _ _ ⟨(blk_cell BK156.out 0).trans rfl, (blk_cell BK156.out 1).trans rfl, (blk_cell BK156.out 2).trans rfl, (blk_cell BK156.out 3).trans rfl, (blk_cell BK156.out 4).trans rfl, (blk_cell BK156.out 5).trans rfl, ((HB.out.cell (World.block_lt_of_cell? w _ hw157_0)).trans hw157_0)⟩ (fun hHeld => ?_)
      clear hK K
      refine norm_ (a' := ?_) ?_ ?_
      rotate_left
      ·show Act.put _ (some 17) _ = _
       simp only [Act.put, List.setIfInBounds_toArray, List.set_cons_zero, List.set_cons_succ, i64_w, i32_w]
       rfl
      refine pure_ (i := 6) (N := some 18) (v := ?_) (a' := ?_) #[true, true, true, true, true, true, true] rfl rfl kr_ (fun _ _ _ h => h) (Or.inl ⟨by rfl, ?_⟩) ?_ ?_
      rotate_left
      ·intro w'
       go_simp
       with_reducible rfl
      rotate_left
      ·simp only [Act.put, List.setIfInBounds_toArray, List.set_cons_zero, List.set_cons_succ, i64_w, i32_w]
       rfl
      refine done_ kr_ ?_
      try go_wp2
      go_roundg k1
      case measure => have := HK1.out; omega
      case rel => exact ⟨(wrap64 (x5_1 + 1)), r1_, H', ⟨by have := HK1.out; omega⟩, ⟨bk_⟩, ⟨wb_⟩⟩
    ·rw [if_neg c5] at H
     exact absurd H (by simp)
   ·rw [if_neg c4] at H
    have c4b0 : decide (x5_1 < (l1.length : Int)) = false := decide_eq_false c4
    clear c4
    obtain rfl := Option.some.inj H
    go_wp2
    go_ret
    exact ⟨er_, wb_⟩
def spec_jBounded.f (a0 : Int) (a1_0 : Bool) (a1_1 : Int) (a2_0 : Bool) (a2_1 : Int) : Option (Bool) := if a1_0 = true then (if a0 ≥ a1_1 then (if a2_0 = true then (some (decide (a0 ≤ a2_1))) else (some true)) else (some false)) else (if a2_0 = true then (some (decide (a0 ≤ a2_1))) else (some true))
set_option maxHeartbeats 8000000 in
set_option maxRecDepth 100000 in
theorem spec_jBounded.calls (a0 : Int) (a1_0 : Bool) (a1_1 : Int) (a2_0 : Bool) (a2_1 : Int) (r : Bool) (w : World) (h : spec_jBounded.f a0 a1_0 a1_1 a2_0 a2_1 = some r) :
  Calls Tryz.prog 35 #[.int .i64 a0, .agg #[.bool a1_0, .int .i64 a1_1], .agg #[.bool a2_0, .int .i64 a2_1]] w fun e w' => e = .returned (.bool r) ∧ Below w.heap.size w w' := by
 have hu35 := Tryz.underlying35
 have HB := asd_ (Below.refl w.heap.size w)
 have H : (if a1_0 = true then (if a0 ≥ a1_1 then (if a2_0 = true then (some (decide (a0 ≤ a2_1))) else (some true)) else (some false)) else (if a2_0 = true then (some (decide (a0 ≤ a2_1))) else (some true))) = some r := h
 clear h
 by_cases c4 : a1_0 = true
 ·subst c4
  have H1 : (if a0 ≥ a1_1 then (if a2_0 = true then (some (decide (a0 ≤ a2_1))) else (some true)) else (some false)) = some r := by rw [if_pos rfl] at H; exact H
  clear H
  have H := H1
  clear H1
  by_cases c5 : a0 ≥ a1_1
  ·rw [if_pos c5] at H
   have c5b0 : decide (a1_1 ≤ a0) = true := decide_eq_true c5
   clear c5
   by_cases c6 : a2_0 = true
   ·subst c6
    have H1 : (some (decide (a0 ≤ a2_1))) = some r := by rw [if_pos rfl] at H; exact H
    clear H
    have H := H1
    clear H1
    obtain rfl := Option.some.inj H
    go_enter Tryz.func35, Tryz.ntmps35
    go_wp2_with (first | ((with_reducible refine gate_dst (N := 4) rfl ?_); refine box_event ?hg (N := 4) ?hd (cs := #[.bool true, .int .i64 a1_1]) (t := 35) ?hr ?_; (case hd => rfl); (case hg => rfl); (case hr => first | (go_simp; done) | (go_simp; rfl)); intro gb159 hg w7 hbox hb; have n0_ := asd_ (below_step wb_ hb); have n1_ := asd_ (hbox); have n2_ := asd_ ((by rw [hg]; exact (below_size wb_) : w.heap.size ≤ gb159)); have n3_ := asd_ ((by rw [hg]; exact (below_size wb_) : w.heap.size ≤ gb159)); clear HB; have HB := n0_; have BK159 := n1_; have GW159 := n2_; have GE159 := n3_; clear n0_ n1_ n2_ n3_; clear hb hbox hg) | ((with_reducible refine gate_dst (N := 5) rfl ?_); refine box_event ?hg (N := 5) ?hd (cs := #[.bool true, .int .i64 a2_1]) (t := 35) ?hr ?_; (case hd => rfl); (case hg => rfl); (case hr => first | (go_simp; done) | (go_simp; rfl)); intro gb160 hg w8 hbox hb; have n0_ := asd_ (blk_below (g := gb159) (o := .cells #[.bool true, .int .i64 a1_1] 35 (0, 0)) bk_ hb); have n1_ := asd_ (below_step wb_ hb); have n2_ := asd_ (hbox); have n3_ := asd_ ((by rw [hg]; exact (below_size wb_) : w.heap.size ≤ gb160)); have n4_ := asd_ ((by rw [hg]; exact (below_size wb_) : w.heap.size ≤ gb160)); have n5_ := asd_ ((by rw [hg]; exact Nat.ne_of_lt (blk_lt (g := gb159) (o := .cells #[.bool true, .int .i64 a1_1] 35 (0, 0)) bk_) : gb159 ≠ gb160)); have n6_ := asd_ ((by rw [hg]; exact Nat.ne_of_gt (blk_lt (g := gb159) (o := .cells #[.bool true, .int .i64 a1_1] 35 (0, 0)) bk_) : gb160 ≠ gb159)); clear BK159; clear HB; have BK159 := n0_; have HB := n1_; have BK160 := n2_; have GW160 := n3_; have GE160 := n4_; have NB159_160 := n5_; have NB160_159 := n6_; clear n0_ n1_ n2_ n3_ n4_ n5_ n6_; clear hb hbox hg; have hnb9 := NB159_160.out; have hnc9 := NB160_159.out; have hcz10_0 := cz_ BK159.out 0; have hcz10_1 := cz_ BK159.out 1; have hfz10_0 := blk_frozen BK159.out 0; have hfz10_1 := blk_frozen BK159.out 1; have hcz11_0 := cz_ BK160.out 0; have hcz11_1 := cz_ BK160.out 1; have hfz11_0 := blk_frozen BK160.out 0; have hfz11_1 := blk_frozen BK160.out 1))
    go_ret
    exact ⟨er_, wb_⟩
   ·replace c6 := Bool.eq_false_iff.mpr c6
    subst c6
    have H1 : (some true) = some r := by rw [if_neg (show ¬ (false = true) by decide)] at H; exact H
    clear H
    have H := H1
    clear H1
    obtain rfl := Option.some.inj H
    go_enter Tryz.func35, Tryz.ntmps35
    go_wp2_with (first | ((with_reducible refine gate_dst (N := 4) rfl ?_); refine box_event ?hg (N := 4) ?hd (cs := #[.bool true, .int .i64 a1_1]) (t := 35) ?hr ?_; (case hd => rfl); (case hg => rfl); (case hr => first | (go_simp; done) | (go_simp; rfl)); intro gb159 hg w12 hbox hb; have n0_ := asd_ (below_step wb_ hb); have n1_ := asd_ (hbox); have n2_ := asd_ ((by rw [hg]; exact (below_size wb_) : w.heap.size ≤ gb159)); have n3_ := asd_ ((by rw [hg]; exact (below_size wb_) : w.heap.size ≤ gb159)); clear HB; have HB := n0_; have BK159 := n1_; have GW159 := n2_; have GE159 := n3_; clear n0_ n1_ n2_ n3_; clear hb hbox hg) | ((with_reducible refine gate_dst (N := 5) rfl ?_); refine box_event ?hg (N := 5) ?hd (cs := #[.bool false, .int .i64 a2_1]) (t := 35) ?hr ?_; (case hd => rfl); (case hg => rfl); (case hr => first | (go_simp; done) | (go_simp; rfl)); intro gb160 hg w13 hbox hb; have n0_ := asd_ (blk_below (g := gb159) (o := .cells #[.bool true, .int .i64 a1_1] 35 (0, 0)) bk_ hb); have n1_ := asd_ (below_step wb_ hb); have n2_ := asd_ (hbox); have n3_ := asd_ ((by rw [hg]; exact (below_size wb_) : w.heap.size ≤ gb160)); have n4_ := asd_ ((by rw [hg]; exact (below_size wb_) : w.heap.size ≤ gb160)); have n5_ := asd_ ((by rw [hg]; exact Nat.ne_of_lt (blk_lt (g := gb159) (o := .cells #[.bool true, .int .i64 a1_1] 35 (0, 0)) bk_) : gb159 ≠ gb160)); have n6_ := asd_ ((by rw [hg]; exact Nat.ne_of_gt (blk_lt (g := gb159) (o := .cells #[.bool true, .int .i64 a1_1] 35 (0, 0)) bk_) : gb160 ≠ gb159)); clear BK159; clear HB; have BK159 := n0_; have HB := n1_; have BK160 := n2_; have GW160 := n3_; have GE160 := n4_; have NB159_160 := n5_; have NB160_159 := n6_; clear n0_ n1_ n2_ n3_ n4_ n5_ n6_; clear hb hbox hg; have hnb14 := NB159_160.out; have hnc14 := NB160_159.out; have hcz15_0 := cz_ BK159.out 0; have hcz15_1 := cz_ BK159.out 1; have hfz15_0 := blk_frozen BK159.out 0; have hfz15_1 := blk_frozen BK159.out 1; have hcz16_0 := cz_ BK160.out 0; have hcz16_1 := cz_ BK160.out 1; have hfz16_0 := blk_frozen BK160.out 0; have hfz16_1 := blk_frozen BK160.out 1))
    go_ret
    exact ⟨er_, wb_⟩
  ·rw [if_neg c5] at H
   have c5b0 : decide (a1_1 ≤ a0) = false := decide_eq_false c5
   clear c5
   obtain rfl := Option.some.inj H
   go_enter Tryz.func35, Tryz.ntmps35
   go_wp2_with (first | ((with_reducible refine gate_dst (N := 4) rfl ?_); refine box_event ?hg (N := 4) ?hd (cs := #[.bool true, .int .i64 a1_1]) (t := 35) ?hr ?_; (case hd => rfl); (case hg => rfl); (case hr => first | (go_simp; done) | (go_simp; rfl)); intro gb159 hg w17 hbox hb; have n0_ := asd_ (below_step wb_ hb); have n1_ := asd_ (hbox); have n2_ := asd_ ((by rw [hg]; exact (below_size wb_) : w.heap.size ≤ gb159)); have n3_ := asd_ ((by rw [hg]; exact (below_size wb_) : w.heap.size ≤ gb159)); clear HB; have HB := n0_; have BK159 := n1_; have GW159 := n2_; have GE159 := n3_; clear n0_ n1_ n2_ n3_; clear hb hbox hg) | ((with_reducible refine gate_dst (N := 5) rfl ?_); refine box_event ?hg (N := 5) ?hd (cs := #[.bool a2_0, .int .i64 a2_1]) (t := 35) ?hr ?_; (case hd => rfl); (case hg => rfl); (case hr => first | (go_simp; done) | (go_simp; rfl)); intro gb160 hg w18 hbox hb; have n0_ := asd_ (blk_below (g := gb159) (o := .cells #[.bool true, .int .i64 a1_1] 35 (0, 0)) bk_ hb); have n1_ := asd_ (below_step wb_ hb); have n2_ := asd_ (hbox); have n3_ := asd_ ((by rw [hg]; exact (below_size wb_) : w.heap.size ≤ gb160)); have n4_ := asd_ ((by rw [hg]; exact (below_size wb_) : w.heap.size ≤ gb160)); have n5_ := asd_ ((by rw [hg]; exact Nat.ne_of_lt (blk_lt (g := gb159) (o := .cells #[.bool true, .int .i64 a1_1] 35 (0, 0)) bk_) : gb159 ≠ gb160)); have n6_ := asd_ ((by rw [hg]; exact Nat.ne_of_gt (blk_lt (g := gb159) (o := .cells #[.bool true, .int .i64 a1_1] 35 (0, 0)) bk_) : gb160 ≠ gb159)); clear BK159; clear HB; have BK159 := n0_; have HB := n1_; have BK160 := n2_; have GW160 := n3_; have GE160 := n4_; have NB159_160 := n5_; have NB160_159 := n6_; clear n0_ n1_ n2_ n3_ n4_ n5_ n6_; clear hb hbox hg; have hnb19 := NB159_160.out; have hnc19 := NB160_159.out; have hcz20_0 := cz_ BK159.out 0; have hcz20_1 := cz_ BK159.out 1; have hfz20_0 := blk_frozen BK159.out 0; have hfz20_1 := blk_frozen BK159.out 1))
   go_ret
   exact ⟨er_, wb_⟩
 ·replace c4 := Bool.eq_false_iff.mpr c4
  subst c4
  have H1 : (if a2_0 = true then (some (decide (a0 ≤ a2_1))) else (some true)) = some r := by rw [if_neg (show ¬ (false = true) by decide)] at H; exact H
  clear H
  have H := H1
  clear H1
  by_cases c21 : a2_0 = true
  ·subst c21
   have H1 : (some (decide (a0 ≤ a2_1))) = some r := by rw [if_pos rfl] at H; exact H
   clear H
   have H := H1
   clear H1
   obtain rfl := Option.some.inj H
   go_enter Tryz.func35, Tryz.ntmps35
   go_wp2_with (first | ((with_reducible refine gate_dst (N := 4) rfl ?_); refine box_event ?hg (N := 4) ?hd (cs := #[.bool false, .int .i64 a1_1]) (t := 35) ?hr ?_; (case hd => rfl); (case hg => rfl); (case hr => first | (go_simp; done) | (go_simp; rfl)); intro gb159 hg w22 hbox hb; have n0_ := asd_ (below_step wb_ hb); have n1_ := asd_ (hbox); have n2_ := asd_ ((by rw [hg]; exact (below_size wb_) : w.heap.size ≤ gb159)); have n3_ := asd_ ((by rw [hg]; exact (below_size wb_) : w.heap.size ≤ gb159)); clear HB; have HB := n0_; have BK159 := n1_; have GW159 := n2_; have GE159 := n3_; clear n0_ n1_ n2_ n3_; clear hb hbox hg) | ((with_reducible refine gate_dst (N := 5) rfl ?_); refine box_event ?hg (N := 5) ?hd (cs := #[.bool true, .int .i64 a2_1]) (t := 35) ?hr ?_; (case hd => rfl); (case hg => rfl); (case hr => first | (go_simp; done) | (go_simp; rfl)); intro gb160 hg w23 hbox hb; have n0_ := asd_ (blk_below (g := gb159) (o := .cells #[.bool false, .int .i64 a1_1] 35 (0, 0)) bk_ hb); have n1_ := asd_ (below_step wb_ hb); have n2_ := asd_ (hbox); have n3_ := asd_ ((by rw [hg]; exact (below_size wb_) : w.heap.size ≤ gb160)); have n4_ := asd_ ((by rw [hg]; exact (below_size wb_) : w.heap.size ≤ gb160)); have n5_ := asd_ ((by rw [hg]; exact Nat.ne_of_lt (blk_lt (g := gb159) (o := .cells #[.bool false, .int .i64 a1_1] 35 (0, 0)) bk_) : gb159 ≠ gb160)); have n6_ := asd_ ((by rw [hg]; exact Nat.ne_of_gt (blk_lt (g := gb159) (o := .cells #[.bool false, .int .i64 a1_1] 35 (0, 0)) bk_) : gb160 ≠ gb159)); clear BK159; clear HB; have BK159 := n0_; have HB := n1_; have BK160 := n2_; have GW160 := n3_; have GE160 := n4_; have NB159_160 := n5_; have NB160_159 := n6_; clear n0_ n1_ n2_ n3_ n4_ n5_ n6_; clear hb hbox hg; have hnb24 := NB159_160.out; have hnc24 := NB160_159.out; have hcz25_0 := cz_ BK159.out 0; have hcz25_1 := cz_ BK159.out 1; have hfz25_0 := blk_frozen BK159.out 0; have hfz25_1 := blk_frozen BK159.out 1; have hcz26_0 := cz_ BK160.out 0; have hcz26_1 := cz_ BK160.out 1; have hfz26_0 := blk_frozen BK160.out 0; have hfz26_1 := blk_frozen BK160.out 1))
   go_ret
   exact ⟨er_, wb_⟩
  ·replace c21 := Bool.eq_false_iff.mpr c21
   subst c21
   have H1 : (some true) = some r := by rw [if_neg (show ¬ (false = true) by decide)] at H; exact H
   clear H
   have H := H1
   clear H1
   obtain rfl := Option.some.inj H
   go_enter Tryz.func35, Tryz.ntmps35
   go_wp2_with (first | ((with_reducible refine gate_dst (N := 4) rfl ?_); refine box_event ?hg (N := 4) ?hd (cs := #[.bool false, .int .i64 a1_1]) (t := 35) ?hr ?_; (case hd => rfl); (case hg => rfl); (case hr => first | (go_simp; done) | (go_simp; rfl)); intro gb159 hg w27 hbox hb; have n0_ := asd_ (below_step wb_ hb); have n1_ := asd_ (hbox); have n2_ := asd_ ((by rw [hg]; exact (below_size wb_) : w.heap.size ≤ gb159)); have n3_ := asd_ ((by rw [hg]; exact (below_size wb_) : w.heap.size ≤ gb159)); clear HB; have HB := n0_; have BK159 := n1_; have GW159 := n2_; have GE159 := n3_; clear n0_ n1_ n2_ n3_; clear hb hbox hg) | ((with_reducible refine gate_dst (N := 5) rfl ?_); refine box_event ?hg (N := 5) ?hd (cs := #[.bool false, .int .i64 a2_1]) (t := 35) ?hr ?_; (case hd => rfl); (case hg => rfl); (case hr => first | (go_simp; done) | (go_simp; rfl)); intro gb160 hg w28 hbox hb; have n0_ := asd_ (blk_below (g := gb159) (o := .cells #[.bool false, .int .i64 a1_1] 35 (0, 0)) bk_ hb); have n1_ := asd_ (below_step wb_ hb); have n2_ := asd_ (hbox); have n3_ := asd_ ((by rw [hg]; exact (below_size wb_) : w.heap.size ≤ gb160)); have n4_ := asd_ ((by rw [hg]; exact (below_size wb_) : w.heap.size ≤ gb160)); have n5_ := asd_ ((by rw [hg]; exact Nat.ne_of_lt (blk_lt (g := gb159) (o := .cells #[.bool false, .int .i64 a1_1] 35 (0, 0)) bk_) : gb159 ≠ gb160)); have n6_ := asd_ ((by rw [hg]; exact Nat.ne_of_gt (blk_lt (g := gb159) (o := .cells #[.bool false, .int .i64 a1_1] 35 (0, 0)) bk_) : gb160 ≠ gb159)); clear BK159; clear HB; have BK159 := n0_; have HB := n1_; have BK160 := n2_; have GW160 := n3_; have GE160 := n4_; have NB159_160 := n5_; have NB160_159 := n6_; clear n0_ n1_ n2_ n3_ n4_ n5_ n6_; clear hb hbox hg; have hnb29 := NB159_160.out; have hnc29 := NB160_159.out; have hcz30_0 := cz_ BK159.out 0; have hcz30_1 := cz_ BK159.out 1; have hfz30_0 := blk_frozen BK159.out 0; have hfz30_1 := blk_frozen BK159.out 1; have hcz31_0 := cz_ BK160.out 0; have hcz31_1 := cz_ BK160.out 1; have hfz31_0 := blk_frozen BK160.out 0; have hfz31_1 := blk_frozen BK160.out 1))
   go_ret
   exact ⟨er_, wb_⟩
def spec_jTaken.f (k : Nat) (a0 : ByteArray) (a1_0 : Bool) (l1_1 : List ByteArray) : Option (Bool) := if a1_0 = true then ((spec_JAmong.f k a0 l1_1).bind fun t162 => (some t162)) else (some true)
set_option maxHeartbeats 8000000 in
set_option maxRecDepth 100000 in
theorem spec_jTaken.calls (k : Nat) (a0 : ByteArray) (a1_0 : Bool) (A1_1 : Option Addr) (c1_1 : Nat) (l1_1 : List ByteArray) (r : Bool) (w : World) (hr1_1 : Kd.C Kd.string w A1_1 l1_1.length l1_1) (hc1_1 : l1_1.length ≤ c1_1) (h : spec_jTaken.f k a0 a1_0 l1_1 = some r) :
  Calls Tryz.prog 37 #[.string a0, .agg #[.bool a1_0, .slice A1_1 l1_1.length c1_1]] w fun e w' => e = .returned (.bool r) ∧ Below w.heap.size w w' := by
 have hu37 := Tryz.underlying37
 have HR1_1 := asd_ hr1_1
 have HC1_1 := asd_ hc1_1
 clear hr1_1 hc1_1
 have HB := asd_ (Below.refl w.heap.size w)
 have H : (if a1_0 = true then ((spec_JAmong.f k a0 l1_1).bind fun t162 => (some t162)) else (some true)) = some r := h
 clear h
 by_cases c3 : a1_0 = true
 ·subst c3
  have H1 : ((spec_JAmong.f k a0 l1_1).bind fun t162 => (some t162)) = some r := by rw [if_pos rfl] at H; exact H
  clear H
  have H := H1
  clear H1
  replace H := Option.bind_eq_some_iff.mp H
  obtain ⟨t162, A40, H⟩ := H
  replace H : (some t162) = some r := H
  have A4 := asd_ A40
  clear A40
  obtain rfl := Option.some.inj H
  go_enter Tryz.func37, Tryz.ntmps37
  go_wp2_with (first | ((with_reducible refine gate_dst (N := 3) rfl ?_); refine box_event ?hg (N := 3) ?hd (cs := #[.bool true, .slice A1_1 l1_1.length c1_1]) (t := 37) ?hr ?_; (case hd => rfl); (case hg => rfl); (case hr => first | (go_simp; done) | (go_simp; rfl)); intro gb161 hg w5 hbox hb; have n0_ := asd_ (below_step wb_ hb); have n1_ := asd_ (hbox); have n2_ := asd_ ((by rw [hg]; exact (below_size wb_) : w.heap.size ≤ gb161)); have n3_ := asd_ ((by rw [hg]; exact (below_size wb_) : w.heap.size ≤ gb161)); clear HB; have HB := n0_; have BK161 := n1_; have GW161 := n2_; have GE161 := n3_; clear n0_ n1_ n2_ n3_; clear hb hbox hg; have hcz6_0 := cz_ BK161.out 0; have hcz6_1 := cz_ BK161.out 1; have hfz6_0 := blk_frozen BK161.out 0; have hfz6_1 := blk_frozen BK161.out 1) | (go_at_call 21; (with_reducible refine (spec_JAmong.calls k a0 _ _ l1_1 t162 _ ?side1 ?side2 A4.out).mono ?_); (case side1 => repeat (first | exact (Kd.C_below HR1_1.out HB.out) | (with_reducible refine Kd.C_alloc ?_ _) | (with_reducible refine Kd.C_drewN ?_ _) | (with_reducible refine Kd.C_drew ?_))); (case side2 => exact HC1_1.out); rintro e w' ⟨rfl, ⟨nd, rfl⟩⟩))
  go_ret
  exact ⟨er_, wb_⟩
 ·replace c3 := Bool.eq_false_iff.mpr c3
  subst c3
  have H1 : (some true) = some r := by rw [if_neg (show ¬ (false = true) by decide)] at H; exact H
  clear H
  have H := H1
  clear H1
  obtain rfl := Option.some.inj H
  go_enter Tryz.func37, Tryz.ntmps37
  go_wp2_with (first | ((with_reducible refine gate_dst (N := 3) rfl ?_); refine box_event ?hg (N := 3) ?hd (cs := #[.bool false, .slice A1_1 l1_1.length c1_1]) (t := 37) ?hr ?_; (case hd => rfl); (case hg => rfl); (case hr => first | (go_simp; done) | (go_simp; rfl)); intro gb161 hg w7 hbox hb; have n0_ := asd_ (below_step wb_ hb); have n1_ := asd_ (hbox); have n2_ := asd_ ((by rw [hg]; exact (below_size wb_) : w.heap.size ≤ gb161)); have n3_ := asd_ ((by rw [hg]; exact (below_size wb_) : w.heap.size ≤ gb161)); clear HB; have HB := n0_; have BK161 := n1_; have GW161 := n2_; have GE161 := n3_; clear n0_ n1_ n2_ n3_; clear hb hbox hg; have hcz8_0 := cz_ BK161.out 0; have hcz8_1 := cz_ BK161.out 1; have hfz8_0 := blk_frozen BK161.out 0; have hfz8_1 := blk_frozen BK161.out 1))
  go_ret
  exact ⟨er_, wb_⟩
def spec_JRunes.l0 : Nat → ByteArray → Int → Int → Option (Int)
 | 0, _, _, _ => none
 | k + 1, x0, x3, x4 => if x4 < (x0.size : Int) then (if 0 ≤ x4 then (if (bt x0 x4) < 128 then (spec_JRunes.l0 k x0 (wrap64 (x3 + 1)) (wrap64 (x4 + 1))) else (if (bt x0 x4) > 191 then (spec_JRunes.l0 k x0 (wrap64 (x3 + 1)) (wrap64 (x4 + 1))) else (spec_JRunes.l0 k x0 x3 (wrap64 (x4 + 1))))) else (none)) else (some x3)
def spec_JRunes.f (k : Nat) (a0 : ByteArray) : Option (Int) := spec_JRunes.l0 k a0 0 0
set_option maxHeartbeats 8000000 in
set_option maxRecDepth 100000 in
theorem spec_JRunes.calls (k : Nat) (a0 : ByteArray) (r : Int) (w : World) (h : spec_JRunes.f k a0 = some r) :
  Calls Tryz.prog 36 #[.string a0] w fun e w' => e = .returned (.int .i64 r) ∧ Drawn0 w w' := by
 have H : (spec_JRunes.l0 k a0 0 0) = some r := h
 clear h
 have H' := asd_ H
 clear H
 go_enter Tryz.func36, Tryz.ntmps36
 go_wp2
 go_loopg [3, 4] k (fun kq v3 v4 w' => ∃ (x3_1 : Int) (x4_1 : Int), v3 = .int .i64 x3_1 ∧ v4 = .int .i64 x4_1 ∧ Aside0 (spec_JRunes.l0 kq a0 x3_1 x4_1 = some r) ∧ Aside0 (kq ≤ k) ∧ Drawn0 w w')
 case atStart => exact ⟨(0), (0), r1_, r1_, H', ⟨Nat.le_refl _⟩, dr_⟩
 case round =>
  clear H'
  obtain ⟨x3_1, x4_1, rfl, rfl, HA, HK1, ⟨m1, rfl⟩⟩ := hrel
  cases gk with
  | zero => exact absurd HA.out (by simp [spec_JRunes.l0])
  | succ k1 =>
   have H := HA.out
   clear HA
   simp only [spec_JRunes.l0] at H
   by_cases c2 : x4_1 < (a0.size : Int)
   ·rw [if_pos c2] at H
    have c2b0 : decide (x4_1 < (a0.size : Int)) = true := decide_eq_true c2
    clear c2
    by_cases c3 : 0 ≤ x4_1
    ·rw [if_pos c3] at H
     have c3b0 : decide (0 ≤ x4_1) = true := decide_eq_true c3
     clear c3
     by_cases c5 : (bt a0 x4_1) < 128
     ·rw [if_pos c5] at H
      have c5b0 : decide ((bt a0 x4_1) < 128) = true := decide_eq_true c5
      clear c5
      have H' := asd_ H
      clear H
      have p4 : 0 ≤ (x4_1 : Int) := of_decide_eq_true as_
      have q4 : x4_1 < (a0.size : Int) := of_decide_eq_true as_
      have hx4 := bt_at a0 x4_1
      replace p4 := eq_true p4
      replace q4 := eq_true q4
      go_wp2
      go_roundg k1
      case measure => have := HK1.out; omega
      case rel => exact ⟨(wrap64 (x3_1 + 1)), (wrap64 (x4_1 + 1)), r1_, r1_, H', ⟨by have := HK1.out; omega⟩, dr_⟩
     ·rw [if_neg c5] at H
      have c5b0 : decide ((bt a0 x4_1) < 128) = false := decide_eq_false c5
      clear c5
      by_cases c7 : (bt a0 x4_1) > 191
      ·rw [if_pos c7] at H
       have c7b0 : decide (191 < (bt a0 x4_1)) = true := decide_eq_true c7
       clear c7
       have H' := asd_ H
       clear H
       have p4 : 0 ≤ (x4_1 : Int) := of_decide_eq_true as_
       have q4 : x4_1 < (a0.size : Int) := of_decide_eq_true as_
       have hx4 := bt_at a0 x4_1
       replace p4 := eq_true p4
       replace q4 := eq_true q4
       have p6 : 0 ≤ (x4_1 : Int) := of_decide_eq_true as_
       have q6 : x4_1 < (a0.size : Int) := of_decide_eq_true as_
       have hx6 := bt_at a0 x4_1
       replace p6 := eq_true p6
       replace q6 := eq_true q6
       go_wp2
       go_roundg k1
       case measure => have := HK1.out; omega
       case rel => exact ⟨(wrap64 (x3_1 + 1)), (wrap64 (x4_1 + 1)), r1_, r1_, H', ⟨by have := HK1.out; omega⟩, dr_⟩
      ·rw [if_neg c7] at H
       have c7b0 : decide (191 < (bt a0 x4_1)) = false := decide_eq_false c7
       clear c7
       have H' := asd_ H
       clear H
       have p4 : 0 ≤ (x4_1 : Int) := of_decide_eq_true as_
       have q4 : x4_1 < (a0.size : Int) := of_decide_eq_true as_
       have hx4 := bt_at a0 x4_1
       replace p4 := eq_true p4
       replace q4 := eq_true q4
       have p6 : 0 ≤ (x4_1 : Int) := of_decide_eq_true as_
       have q6 : x4_1 < (a0.size : Int) := of_decide_eq_true as_
       have hx6 := bt_at a0 x4_1
       replace p6 := eq_true p6
       replace q6 := eq_true q6
       go_wp2
       go_roundg k1
       case measure => have := HK1.out; omega
       case rel => exact ⟨(x3_1), (wrap64 (x4_1 + 1)), r1_, r1_, H', ⟨by have := HK1.out; omega⟩, dr_⟩
    ·rw [if_neg c3] at H
     exact absurd H (by simp)
   ·rw [if_neg c2] at H
    have c2b0 : decide (x4_1 < (a0.size : Int)) = false := decide_eq_false c2
    clear c2
    obtain rfl := Option.some.inj H
    go_wp2
    go_ret
    exact ⟨r1_, dr_⟩
mutual
def spec_jSameNames.l0 : Nat → List ByteArray → List ByteArray → Int → Option (Bool)
 | 0, _, _, _ => none
 | k + 1, x0, x1, x5 => if x5 < (x0.length : Int) then (if 0 ≤ x5 then ((spec_JAmong.f k (rdOf ByteArray.empty x0 x5) x1).bind fun t164 => (if t164 = true then (spec_jSameNames.l0 k x0 x1 (wrap64 (x5 + 1))) else (some false))) else (none)) else (spec_jSameNames.l1 k x0 x1 0)
def spec_jSameNames.l1 : Nat → List ByteArray → List ByteArray → Int → Option (Bool)
 | 0, _, _, _ => none
 | k + 1, x0, x1, x6 => if x6 < (x1.length : Int) then (if 0 ≤ x6 then ((spec_JAmong.f k (rdOf ByteArray.empty x1 x6) x0).bind fun t166 => (if t166 = true then (spec_jSameNames.l1 k x0 x1 (wrap64 (x6 + 1))) else (some false))) else (none)) else (some true)
end
def spec_jSameNames.f (k : Nat) (l0 : List ByteArray) (l1 : List ByteArray) : Option (Bool) := spec_jSameNames.l0 k l0 l1 0
set_option maxHeartbeats 8000000 in
set_option maxRecDepth 100000 in
theorem spec_jSameNames.calls (k : Nat) (A0 : Option Addr) (c0 : Nat) (l0 : List ByteArray) (A1 : Option Addr) (c1 : Nat) (l1 : List ByteArray) (r : Bool) (w : World) (hr0 : Kd.C Kd.string w A0 l0.length l0) (hc0 : l0.length ≤ c0) (hr1 : Kd.C Kd.string w A1 l1.length l1) (hc1 : l1.length ≤ c1) (h : spec_jSameNames.f k l0 l1 = some r) :
  Calls Tryz.prog 121 #[.slice A0 l0.length c0, .slice A1 l1.length c1] w fun e w' => e = .returned (.bool r) ∧ Drawn0 w w' := by
 have HR0 := asd_ hr0
 have HC0 := asd_ hc0
 clear hr0 hc0
 have HR1 := asd_ hr1
 have HC1 := asd_ hc1
 clear hr1 hc1
 have H : (spec_jSameNames.l0 k l0 l1 0) = some r := h
 clear h
 have H' := asd_ H
 clear H
 go_enter Tryz.func121, Tryz.ntmps121
 go_wp2
 go_loopg [5] k (fun kq v5 w' => ∃ (x5_1 : Int), v5 = .int .i64 x5_1 ∧ Aside0 (spec_jSameNames.l0 kq l0 l1 x5_1 = some r) ∧ Aside0 (kq ≤ k) ∧ Drawn0 w w')
 case atStart => exact ⟨(0), r1_, H', ⟨Nat.le_refl _⟩, dr_⟩
 case round =>
  clear H'
  obtain ⟨x5_1, rfl, HA, HK1, ⟨m1, rfl⟩⟩ := hrel
  cases gk with
  | zero => exact absurd HA.out (by simp [spec_jSameNames.l0])
  | succ k1 =>
   have H := HA.out
   clear HA
   simp only [spec_jSameNames.l0] at H
   by_cases c3 : x5_1 < (l0.length : Int)
   ·rw [if_pos c3] at H
    have c3b0 : decide (x5_1 < (l0.length : Int)) = true := decide_eq_true c3
    clear c3
    by_cases c4 : 0 ≤ x5_1
    ·rw [if_pos c4] at H
     have c4b0 : decide (0 ≤ x5_1) = true := decide_eq_true c4
     clear c4
     replace H := Option.bind_eq_some_iff.mp H
     obtain ⟨t164, A50, H⟩ := H
     replace H : (if t164 = true then (spec_jSameNames.l0 k1 l0 l1 (wrap64 (x5_1 + 1))) else (some false)) = some r := H
     have A5 := asd_ A50
     clear A50
     by_cases c6 : t164 = true
     ·subst c6
      have H1 : (spec_jSameNames.l0 k1 l0 l1 (wrap64 (x5_1 + 1))) = some r := by rw [if_pos rfl] at H; exact H
      clear H
      have H := H1
      clear H1
      have H' := asd_ H
      clear H
      have p163 : 0 ≤ (x5_1 : Int) := of_decide_eq_true as_
      have q163 : x5_1 < (l0.length : Int) := of_decide_eq_true as_
      obtain ⟨ad163, e163, hx163_0⟩ := Kd.at_string HR0.out x5_1 p163 q163
      cases e163
      replace p163 := eq_true p163
      replace q163 := eq_true q163
      go_wp2_with (first | ((with_reducible refine gate_callee (f := 21) rfl ?_); refine goesL_ (some 18) rfl rfl Tryz.func21 kr_ rfl #[.string (rdOf ByteArray.empty l0 x5_1), .slice A1 l1.length c1] rfl ap_ ?_; (with_reducible refine (spec_JAmong.calls k1 (rdOf ByteArray.empty l0 x5_1) _ _ l1 true _ ?side1 ?side2 A5.out).mono ?_); (case side1 => repeat (first | exact HR1.out | (with_reducible refine Kd.C_alloc ?_ _) | (with_reducible refine Kd.C_drewN ?_ _) | (with_reducible refine Kd.C_drew ?_))); (case side2 => exact HC1.out); rintro e w' ⟨rfl, ⟨nd, rfl⟩⟩; refine ⟨_, rfl, ?_⟩))
      go_roundg k1
      case measure => have := HK1.out; omega
      case rel => exact ⟨(wrap64 (x5_1 + 1)), r1_, H', ⟨by have := HK1.out; omega⟩, dr_⟩
     ·replace c6 := Bool.eq_false_iff.mpr c6
      subst c6
      have H1 : (some false) = some r := by rw [if_neg (show ¬ (false = true) by decide)] at H; exact H
      clear H
      have H := H1
      clear H1
      obtain rfl := Option.some.inj H
      have p163 : 0 ≤ (x5_1 : Int) := of_decide_eq_true as_
      have q163 : x5_1 < (l0.length : Int) := of_decide_eq_true as_
      obtain ⟨ad163, e163, hx163_0⟩ := Kd.at_string HR0.out x5_1 p163 q163
      cases e163
      replace p163 := eq_true p163
      replace q163 := eq_true q163
      go_wp2_with (first | ((with_reducible refine gate_callee (f := 21) rfl ?_); refine goesL_ (some 18) rfl rfl Tryz.func21 kr_ rfl #[.string (rdOf ByteArray.empty l0 x5_1), .slice A1 l1.length c1] rfl ap_ ?_; (with_reducible refine (spec_JAmong.calls k1 (rdOf ByteArray.empty l0 x5_1) _ _ l1 false _ ?side1 ?side2 A5.out).mono ?_); (case side1 => repeat (first | exact HR1.out | (with_reducible refine Kd.C_alloc ?_ _) | (with_reducible refine Kd.C_drewN ?_ _) | (with_reducible refine Kd.C_drew ?_))); (case side2 => exact HC1.out); rintro e w' ⟨rfl, ⟨nd, rfl⟩⟩; refine ⟨_, rfl, ?_⟩))
      go_ret
      exact ⟨r1_, dr_⟩
    ·rw [if_neg c4] at H
     exact absurd H (by simp)
   ·rw [if_neg c3] at H
    have c3b0 : decide (x5_1 < (l0.length : Int)) = false := decide_eq_false c3
    clear c3
    have H' := asd_ H
    clear H
    go_wp2
    go_loopg [6] k1 (fun kq v6 w' => ∃ (x6_2 : Int), v6 = .int .i64 x6_2 ∧ Aside0 (spec_jSameNames.l1 kq l0 l1 x6_2 = some r) ∧ Aside0 (kq ≤ k1) ∧ Drawn0 w w')
    case atStart => exact ⟨(0), r1_, H', ⟨Nat.le_refl _⟩, dr_⟩
    case round =>
     clear H'
     obtain ⟨x6_2, rfl, HA, HK2, ⟨m2, rfl⟩⟩ := hrel
     cases gk with
     | zero => exact absurd HA.out (by simp [spec_jSameNames.l1])
     | succ k2 =>
      have H := HA.out
      clear HA
      simp only [spec_jSameNames.l1] at H
      by_cases c7 : x6_2 < (l1.length : Int)
      ·rw [if_pos c7] at H
       have c7b0 : decide (x6_2 < (l1.length : Int)) = true := decide_eq_true c7
       clear c7
       by_cases c8 : 0 ≤ x6_2
       ·rw [if_pos c8] at H
        have c8b0 : decide (0 ≤ x6_2) = true := decide_eq_true c8
        clear c8
        replace H := Option.bind_eq_some_iff.mp H
        obtain ⟨t166, A90, H⟩ := H
        replace H : (if t166 = true then (spec_jSameNames.l1 k2 l0 l1 (wrap64 (x6_2 + 1))) else (some false)) = some r := H
        have A9 := asd_ A90
        clear A90
        by_cases c10 : t166 = true
        ·subst c10
         have H1 : (spec_jSameNames.l1 k2 l0 l1 (wrap64 (x6_2 + 1))) = some r := by rw [if_pos rfl] at H; exact H
         clear H
         have H := H1
         clear H1
         have H' := asd_ H
         clear H
         have p165 : 0 ≤ (x6_2 : Int) := of_decide_eq_true as_
         have q165 : x6_2 < (l1.length : Int) := of_decide_eq_true as_
         obtain ⟨ad165, e165, hx165_0⟩ := Kd.at_string HR1.out x6_2 p165 q165
         cases e165
         replace p165 := eq_true p165
         replace q165 := eq_true q165
         go_wp2_with (first | ((with_reducible refine gate_callee (f := 21) rfl ?_); refine goesL_ (some 31) rfl rfl Tryz.func21 kr_ rfl #[.string (rdOf ByteArray.empty l1 x6_2), .slice A0 l0.length c0] rfl ap_ ?_; (with_reducible refine (spec_JAmong.calls k2 (rdOf ByteArray.empty l1 x6_2) _ _ l0 true _ ?side1 ?side2 A9.out).mono ?_); (case side1 => repeat (first | exact HR0.out | (with_reducible refine Kd.C_alloc ?_ _) | (with_reducible refine Kd.C_drewN ?_ _) | (with_reducible refine Kd.C_drew ?_))); (case side2 => exact HC0.out); rintro e w' ⟨rfl, ⟨nd, rfl⟩⟩; refine ⟨_, rfl, ?_⟩))
         go_roundg k2
         case measure => have := HK1.out; have := HK2.out; omega
         case rel => exact ⟨(wrap64 (x6_2 + 1)), r1_, H', ⟨by have := HK1.out; have := HK2.out; omega⟩, dr_⟩
        ·replace c10 := Bool.eq_false_iff.mpr c10
         subst c10
         have H1 : (some false) = some r := by rw [if_neg (show ¬ (false = true) by decide)] at H; exact H
         clear H
         have H := H1
         clear H1
         obtain rfl := Option.some.inj H
         have p165 : 0 ≤ (x6_2 : Int) := of_decide_eq_true as_
         have q165 : x6_2 < (l1.length : Int) := of_decide_eq_true as_
         obtain ⟨ad165, e165, hx165_0⟩ := Kd.at_string HR1.out x6_2 p165 q165
         cases e165
         replace p165 := eq_true p165
         replace q165 := eq_true q165
         go_wp2_with (first | ((with_reducible refine gate_callee (f := 21) rfl ?_); refine goesL_ (some 31) rfl rfl Tryz.func21 kr_ rfl #[.string (rdOf ByteArray.empty l1 x6_2), .slice A0 l0.length c0] rfl ap_ ?_; (with_reducible refine (spec_JAmong.calls k2 (rdOf ByteArray.empty l1 x6_2) _ _ l0 false _ ?side1 ?side2 A9.out).mono ?_); (case side1 => repeat (first | exact HR0.out | (with_reducible refine Kd.C_alloc ?_ _) | (with_reducible refine Kd.C_drewN ?_ _) | (with_reducible refine Kd.C_drew ?_))); (case side2 => exact HC0.out); rintro e w' ⟨rfl, ⟨nd, rfl⟩⟩; refine ⟨_, rfl, ?_⟩))
         go_ret
         exact ⟨r1_, dr_⟩
       ·rw [if_neg c8] at H
        exact absurd H (by simp)
      ·rw [if_neg c7] at H
       have c7b0 : decide (x6_2 < (l1.length : Int)) = false := decide_eq_false c7
       clear c7
       obtain rfl := Option.some.inj H
       go_wp2
       go_ret
       exact ⟨r1_, dr_⟩
end Go.Proofs.YtkphbhncpdcbeaaGreatDoor.PJT
