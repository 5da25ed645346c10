/- Part of a proof. -/
import Derived.Test.YtkphbhncpdcbeaaGreatDoorQAB
namespace Go.Proofs.YtkphbhncpdcbeaaGreatDoor.PJT
open Go.RowKit Go.Proofs.YtkphbhncpdcbeaaGreatDoorW.PrintWords Go.Proofs.YtkphbhncpdcbeaaGreatDoorW.PrintLast Go.Proofs.YtkphbhncpdcbeaaGreatDoorW.PrintMore
attribute [local go_sem] max2_int min2_int max_two min_two max_three min_three max_four min_four
set_option linter.unusedVariables false
set_option linter.unusedSimpArgs false
mutual
def spec_jWidth.j3 : Nat → ByteArray → Int → Int → Int → Int → Option (Int)
 | 0, _, _, _, _, _ => none
 | k + 1, x0, x1, x6, x7, x8 => if (wrap64 (x1 + x6)) > (x0.size : Int) then (spec_jWidth.j4 k x0 x1 x6 true) else (if 0 ≤ (wrap64 (x1 + 1)) then (if (wrap64 (x1 + 1)) < (x0.size : Int) then (if (bt x0 (wrap64 (x1 + 1))) < x7 then (spec_jWidth.j4 k x0 x1 x6 true) else (spec_jWidth.j4 k x0 x1 x6 (decide ((bt x0 (wrap64 (x1 + 1))) > x8)))) else (none)) else (none))
def spec_jWidth.j4 : Nat → ByteArray → Int → Int → Bool → Option (Int)
 | 0, _, _, _, _ => none
 | k + 1, x0, x1, x6, x66 => if x66 = true then (some 0) else (spec_jWidth.l0 k x0 x1 x6 2)
def spec_jWidth.l0 : Nat → ByteArray → Int → Int → Int → Option (Int)
 | 0, _, _, _, _ => none
 | k + 1, x0, x1, x6, x9 => if x9 < x6 then (if 0 ≤ (wrap64 (x1 + x9)) then (if (wrap64 (x1 + x9)) < (x0.size : Int) then (if (bt x0 (wrap64 (x1 + x9))) < 128 then (some 0) else (if (bt x0 (wrap64 (x1 + x9))) > 191 then (some 0) else (spec_jWidth.l0 k x0 x1 x6 (wrap64 (x9 + 1))))) else (none)) else (none)) else (some x6)
def spec_jWidth.j0 : Nat → ByteArray → Int → Int → Int → Int → Bool → Option (Int)
 | 0, _, _, _, _, _, _ => none
 | k + 1, x0, x1, x5, x7, x8, x16 => if x16 = true then (spec_jWidth.j3 k x0 x1 2 x7 x8) else (if x5 ≥ 224 then (spec_jWidth.j1 k x0 x1 x5 x7 x8 (decide (x5 ≤ 239))) else (spec_jWidth.j1 k x0 x1 x5 x7 x8 false))
def spec_jWidth.j1 : Nat → ByteArray → Int → Int → Int → Int → Bool → Option (Int)
 | 0, _, _, _, _, _, _ => none
 | k + 1, x0, x1, x5, x7, x8, x23 => if x23 = true then (if x5 = 224 then (if x5 = 237 then (spec_jWidth.j3 k x0 x1 3 160 159) else (spec_jWidth.j3 k x0 x1 3 160 x8)) else (if x5 = 237 then (spec_jWidth.j3 k x0 x1 3 x7 159) else (spec_jWidth.j3 k x0 x1 3 x7 x8))) else (if x5 ≥ 240 then (spec_jWidth.j2 k x0 x1 x5 x7 x8 (decide (x5 ≤ 244))) else (spec_jWidth.j2 k x0 x1 x5 x7 x8 false))
def spec_jWidth.j2 : Nat → ByteArray → Int → Int → Int → Int → Bool → Option (Int)
 | 0, _, _, _, _, _, _ => none
 | k + 1, x0, x1, x5, x7, x8, x34 => if x34 = true then (if x5 = 240 then (if x5 = 244 then (spec_jWidth.j3 k x0 x1 4 144 143) else (spec_jWidth.j3 k x0 x1 4 144 x8)) else (if x5 = 244 then (spec_jWidth.j3 k x0 x1 4 x7 143) else (spec_jWidth.j3 k x0 x1 4 x7 x8))) else (some 0)
end
def spec_jWidth.f (k : Nat) (a0 : ByteArray) (a1 : Int) : Option (Int) := if 0 ≤ a1 then (if a1 < (a0.size : Int) then (if (bt a0 a1) < 128 then (some 1) else (if (bt a0 a1) ≥ 194 then (spec_jWidth.j0 k a0 a1 (bt a0 a1) 128 191 (decide ((bt a0 a1) ≤ 223))) else (spec_jWidth.j0 k a0 a1 (bt a0 a1) 128 191 false))) else (none)) else (none)
set_option maxHeartbeats 8000000 in
set_option maxRecDepth 100000 in
theorem spec_jWidth.calls (k : Nat) (a0 : ByteArray) (a1 : Int) (r : Int) (w : World) (h : spec_jWidth.f k a0 a1 = some r) :
  Calls Tryz.prog 47 #[.string a0, .int .i64 a1] w fun e w' => e = .returned (.int .i64 r) ∧ Drawn0 w w' := by
 have H : (if 0 ≤ a1 then (if a1 < (a0.size : Int) then (if (bt a0 a1) < 128 then (some 1) else (if (bt a0 a1) ≥ 194 then (spec_jWidth.j0 k a0 a1 (bt a0 a1) 128 191 (decide ((bt a0 a1) ≤ 223))) else (spec_jWidth.j0 k a0 a1 (bt a0 a1) 128 191 false))) else (none)) else (none)) = some r := h
 clear h
 by_cases c3 : 0 ≤ a1
 ·rw [if_pos c3] at H
  have c3b0 : decide (0 ≤ a1) = true := decide_eq_true c3
  clear c3
  by_cases c4 : a1 < (a0.size : Int)
  ·rw [if_pos c4] at H
   have c4b0 : decide (a1 < (a0.size : Int)) = true := decide_eq_true c4
   clear c4
   have HC6 := asd_ H
   clear H
   have p5 : 0 ≤ (a1 : Int) := of_decide_eq_true as_
   have q5 : a1 < (a0.size : Int) := of_decide_eq_true as_
   have hx5 := bt_at a0 a1
   replace p5 := eq_true p5
   replace q5 := eq_true q5
   go_enter Tryz.func47, Tryz.ntmps47
   go_upto_block 0 with (fail)
   go_cut [6, 7, 8] (fun v6 v7 v8 wc => ∃ (kq : Nat) (x6_5 : Int) (x7_5 : Int) (x8_5 : Int), v6 = .int .i64 x6_5 ∧ v7 = .int .u8 x7_5 ∧ v8 = .int .u8 x8_5 ∧ Aside0 (spec_jWidth.j3 kq a0 a1 x6_5 x7_5 x8_5 = some r) ∧ Aside0 (kq ≤ k) ∧ Drawn0 w wc)
   case first =>
    have H := HC6.out
    clear HC6
    by_cases c7 : (bt a0 a1) < 128
    ·rw [if_pos c7] at H
     have c7b0 : decide ((bt a0 a1) < 128) = true := decide_eq_true c7
     clear c7
     (first | rw [c7b0] | (simp only [i64_w, i32_w]; rw [c7b0]) | skip)
     obtain rfl := Option.some.inj H
     go_wp2
     go_ret
     exact ⟨r1_, dr_⟩
    ·rw [if_neg c7] at H
     have c7b0 : decide ((bt a0 a1) < 128) = false := decide_eq_false c7
     clear c7
     (first | rw [c7b0] | (simp only [i64_w, i32_w]; rw [c7b0]) | skip)
     have HC8 := asd_ H
     clear H
     go_upto_region 7 with (fail)
     go_cut [16] (fun v16 wc => ∃ (kq : Nat) (x16_7 : Bool), v16 = .bool x16_7 ∧ Aside0 (spec_jWidth.j0 kq a0 a1 (bt a0 a1) 128 191 x16_7 = some r) ∧ Aside0 (kq ≤ k) ∧ Drawn0 w wc)
     case first =>
      have H := HC8.out
      clear HC8
      by_cases c9 : (bt a0 a1) ≥ 194
      ·rw [if_pos c9] at H
       have c9b0 : decide (194 ≤ (bt a0 a1)) = true := decide_eq_true c9
       clear c9
       (first | rw [c9b0] | (simp only [i64_w, i32_w]; rw [c9b0]) | skip)
       have H' := asd_ H
       clear H
       go_wp2
       go_meet
       case rel => exact ⟨_, (decide ((bt a0 a1) ≤ 223)), r1_, H', ⟨by first | omega | exact Nat.le_refl _⟩, dr_⟩
      ·rw [if_neg c9] at H
       have c9b0 : decide (194 ≤ (bt a0 a1)) = false := decide_eq_false c9
       clear c9
       (first | rw [c9b0] | (simp only [i64_w, i32_w]; rw [c9b0]) | skip)
       have H' := asd_ H
       clear H
       go_wp2
       go_meet
       case rel => exact ⟨_, (false), r1_, H', ⟨by first | omega | exact Nat.le_refl _⟩, dr_⟩
     case rest =>
      clear HC8
      obtain ⟨kq, x16_7, rfl, HA, HJ7, ⟨mc7, rfl⟩⟩ := hcut
      cases kq with
      | zero => exact absurd HA.out (by simp [spec_jWidth.j0])
      | succ kj7 =>
       have H := HA.out
       clear HA
       simp only [spec_jWidth.j0] at H
       by_cases c10 : x16_7 = true
       ·subst c10
        have H1 : (spec_jWidth.j3 kj7 a0 a1 2 128 191) = some r := by rw [if_pos rfl] at H; exact H
        clear H
        have H := H1
        clear H1
        have H' := asd_ H
        clear H
        go_wp2
        go_meet
        case rel => exact ⟨_, (2), (128), (191), r1_, r1_, r1_, H', ⟨by have := HJ7.out; first | omega | exact Nat.le_refl _⟩, dr_⟩
       ·replace c10 := Bool.eq_false_iff.mpr c10
        subst c10
        have H1 : (if (bt a0 a1) ≥ 224 then (spec_jWidth.j1 kj7 a0 a1 (bt a0 a1) 128 191 (decide ((bt a0 a1) ≤ 239))) else (spec_jWidth.j1 kj7 a0 a1 (bt a0 a1) 128 191 false)) = some r := by rw [if_neg (show ¬ (false = true) by decide)] at H; exact H
        clear H
        have H := H1
        clear H1
        have HC11 := asd_ H
        clear H
        go_upto_region 9 with (fail)
        go_cut [23] (fun v23 wc => ∃ (kq : Nat) (x23_10 : Bool), v23 = .bool x23_10 ∧ Aside0 (spec_jWidth.j1 kq a0 a1 (bt a0 a1) 128 191 x23_10 = some r) ∧ Aside0 (kq ≤ kj7) ∧ Drawn0 w wc)
        case first =>
         have H := HC11.out
         clear HC11
         by_cases c12 : (bt a0 a1) ≥ 224
         ·rw [if_pos c12] at H
          have c12b0 : decide (224 ≤ (bt a0 a1)) = true := decide_eq_true c12
          clear c12
          (first | rw [c12b0] | (simp only [i64_w, i32_w]; rw [c12b0]) | skip)
          have H' := asd_ H
          clear H
          go_wp2
          go_meet
          case rel => exact ⟨_, (decide ((bt a0 a1) ≤ 239)), r1_, H', ⟨by have := HJ7.out; first | omega | exact Nat.le_refl _⟩, dr_⟩
         ·rw [if_neg c12] at H
          have c12b0 : decide (224 ≤ (bt a0 a1)) = false := decide_eq_false c12
          clear c12
          (first | rw [c12b0] | (simp only [i64_w, i32_w]; rw [c12b0]) | skip)
          have H' := asd_ H
          clear H
          go_wp2
          go_meet
          case rel => exact ⟨_, (false), r1_, H', ⟨by have := HJ7.out; first | omega | exact Nat.le_refl _⟩, dr_⟩
        case rest =>
         clear HC11
         obtain ⟨kq, x23_10, rfl, HA, HJ10, ⟨mc10, rfl⟩⟩ := hcut
         cases kq with
         | zero => exact absurd HA.out (by simp [spec_jWidth.j1])
         | succ kj10 =>
          have H := HA.out
          clear HA
          simp only [spec_jWidth.j1] at H
          by_cases c13 : x23_10 = true
          ·subst c13
           have H1 : (if (bt a0 a1) = 224 then (if (bt a0 a1) = 237 then (spec_jWidth.j3 kj10 a0 a1 3 160 159) else (spec_jWidth.j3 kj10 a0 a1 3 160 191)) else (if (bt a0 a1) = 237 then (spec_jWidth.j3 kj10 a0 a1 3 128 159) else (spec_jWidth.j3 kj10 a0 a1 3 128 191))) = some r := by rw [if_pos rfl] at H; exact H
           clear H
           have H := H1
           clear H1
           by_cases c14 : (bt a0 a1) = 224
           ·rw [if_pos c14] at H
            have c14b0 : ((bt a0 a1) == 224) = true := beq_iff_eq.mpr c14
            have c14b1 : ((bt a0 a1) != 224) = false := bne_eq_false_iff_eq.mpr c14
            clear c14
            by_cases c15 : (bt a0 a1) = 237
            ·rw [if_pos c15] at H
             have c15b0 : ((bt a0 a1) == 237) = true := beq_iff_eq.mpr c15
             have c15b1 : ((bt a0 a1) != 237) = false := bne_eq_false_iff_eq.mpr c15
             clear c15
             have H' := asd_ H
             clear H
             go_wp2
             go_meet
             case rel => exact ⟨_, (3), (160), (159), r1_, r1_, r1_, H', ⟨by have := HJ7.out; have := HJ10.out; first | omega | exact Nat.le_refl _⟩, dr_⟩
            ·rw [if_neg c15] at H
             have c15b0 : ((bt a0 a1) == 237) = false := beq_eq_false_iff_ne.mpr c15
             have c15b1 : ((bt a0 a1) != 237) = true := bne_iff_ne.mpr c15
             have H' := asd_ H
             clear H
             go_wp2
             go_meet
             case rel => exact ⟨_, (3), (160), (191), r1_, r1_, r1_, H', ⟨by have := HJ7.out; have := HJ10.out; first | omega | exact Nat.le_refl _⟩, dr_⟩
           ·rw [if_neg c14] at H
            have c14b0 : ((bt a0 a1) == 224) = false := beq_eq_false_iff_ne.mpr c14
            have c14b1 : ((bt a0 a1) != 224) = true := bne_iff_ne.mpr c14
            by_cases c16 : (bt a0 a1) = 237
            ·rw [if_pos c16] at H
             have c16b0 : ((bt a0 a1) == 237) = true := beq_iff_eq.mpr c16
             have c16b1 : ((bt a0 a1) != 237) = false := bne_eq_false_iff_eq.mpr c16
             clear c16
             have H' := asd_ H
             clear H
             go_wp2
             go_meet
             case rel => exact ⟨_, (3), (128), (159), r1_, r1_, r1_, H', ⟨by have := HJ7.out; have := HJ10.out; first | omega | exact Nat.le_refl _⟩, dr_⟩
            ·rw [if_neg c16] at H
             have c16b0 : ((bt a0 a1) == 237) = false := beq_eq_false_iff_ne.mpr c16
             have c16b1 : ((bt a0 a1) != 237) = true := bne_iff_ne.mpr c16
             have H' := asd_ H
             clear H
             go_wp2
             go_meet
             case rel => exact ⟨_, (3), (128), (191), r1_, r1_, r1_, H', ⟨by have := HJ7.out; have := HJ10.out; first | omega | exact Nat.le_refl _⟩, dr_⟩
          ·replace c13 := Bool.eq_false_iff.mpr c13
           subst c13
           have H1 : (if (bt a0 a1) ≥ 240 then (spec_jWidth.j2 kj10 a0 a1 (bt a0 a1) 128 191 (decide ((bt a0 a1) ≤ 244))) else (spec_jWidth.j2 kj10 a0 a1 (bt a0 a1) 128 191 false)) = some r := by rw [if_neg (show ¬ (false = true) by decide)] at H; exact H
           clear H
           have H := H1
           clear H1
           have HC17 := asd_ H
           clear H
           go_upto_region 15 with (fail)
           go_cut [34] (fun v34 wc => ∃ (kq : Nat) (x34_16 : Bool), v34 = .bool x34_16 ∧ Aside0 (spec_jWidth.j2 kq a0 a1 (bt a0 a1) 128 191 x34_16 = some r) ∧ Aside0 (kq ≤ kj10) ∧ Drawn0 w wc)
           case first =>
            have H := HC17.out
            clear HC17
            by_cases c18 : (bt a0 a1) ≥ 240
            ·rw [if_pos c18] at H
             have c18b0 : decide (240 ≤ (bt a0 a1)) = true := decide_eq_true c18
             clear c18
             (first | rw [c18b0] | (simp only [i64_w, i32_w]; rw [c18b0]) | skip)
             have H' := asd_ H
             clear H
             go_wp2
             go_meet
             case rel => exact ⟨_, (decide ((bt a0 a1) ≤ 244)), r1_, H', ⟨by have := HJ7.out; have := HJ10.out; first | omega | exact Nat.le_refl _⟩, dr_⟩
            ·rw [if_neg c18] at H
             have c18b0 : decide (240 ≤ (bt a0 a1)) = false := decide_eq_false c18
             clear c18
             (first | rw [c18b0] | (simp only [i64_w, i32_w]; rw [c18b0]) | skip)
             have H' := asd_ H
             clear H
             go_wp2
             go_meet
             case rel => exact ⟨_, (false), r1_, H', ⟨by have := HJ7.out; have := HJ10.out; first | omega | exact Nat.le_refl _⟩, dr_⟩
           case rest =>
            clear HC17
            obtain ⟨kq, x34_16, rfl, HA, HJ16, ⟨mc16, rfl⟩⟩ := hcut
            cases kq with
            | zero => exact absurd HA.out (by simp [spec_jWidth.j2])
            | succ kj16 =>
             have H := HA.out
             clear HA
             simp only [spec_jWidth.j2] at H
             by_cases c19 : x34_16 = true
             ·subst c19
              have H1 : (if (bt a0 a1) = 240 then (if (bt a0 a1) = 244 then (spec_jWidth.j3 kj16 a0 a1 4 144 143) else (spec_jWidth.j3 kj16 a0 a1 4 144 191)) else (if (bt a0 a1) = 244 then (spec_jWidth.j3 kj16 a0 a1 4 128 143) else (spec_jWidth.j3 kj16 a0 a1 4 128 191))) = some r := by rw [if_pos rfl] at H; exact H
              clear H
              have H := H1
              clear H1
              by_cases c20 : (bt a0 a1) = 240
              ·rw [if_pos c20] at H
               have c20b0 : ((bt a0 a1) == 240) = true := beq_iff_eq.mpr c20
               have c20b1 : ((bt a0 a1) != 240) = false := bne_eq_false_iff_eq.mpr c20
               clear c20
               by_cases c21 : (bt a0 a1) = 244
               ·rw [if_pos c21] at H
                have c21b0 : ((bt a0 a1) == 244) = true := beq_iff_eq.mpr c21
                have c21b1 : ((bt a0 a1) != 244) = false := bne_eq_false_iff_eq.mpr c21
                clear c21
                have H' := asd_ H
                clear H
                go_wp2
                go_meet
                case rel => exact ⟨_, (4), (144), (143), r1_, r1_, r1_, H', ⟨by have := HJ7.out; have := HJ10.out; have := HJ16.out; first | omega | exact Nat.le_refl _⟩, dr_⟩
               ·rw [if_neg c21] at H
                have c21b0 : ((bt a0 a1) == 244) = false := beq_eq_false_iff_ne.mpr c21
                have c21b1 : ((bt a0 a1) != 244) = true := bne_iff_ne.mpr c21
                have H' := asd_ H
                clear H
                go_wp2
                go_meet
                case rel => exact ⟨_, (4), (144), (191), r1_, r1_, r1_, H', ⟨by have := HJ7.out; have := HJ10.out; have := HJ16.out; first | omega | exact Nat.le_refl _⟩, dr_⟩
              ·rw [if_neg c20] at H
               have c20b0 : ((bt a0 a1) == 240) = false := beq_eq_false_iff_ne.mpr c20
               have c20b1 : ((bt a0 a1) != 240) = true := bne_iff_ne.mpr c20
               by_cases c22 : (bt a0 a1) = 244
               ·rw [if_pos c22] at H
                have c22b0 : ((bt a0 a1) == 244) = true := beq_iff_eq.mpr c22
                have c22b1 : ((bt a0 a1) != 244) = false := bne_eq_false_iff_eq.mpr c22
                clear c22
                have H' := asd_ H
                clear H
                go_wp2
                go_meet
                case rel => exact ⟨_, (4), (128), (143), r1_, r1_, r1_, H', ⟨by have := HJ7.out; have := HJ10.out; have := HJ16.out; first | omega | exact Nat.le_refl _⟩, dr_⟩
               ·rw [if_neg c22] at H
                have c22b0 : ((bt a0 a1) == 244) = false := beq_eq_false_iff_ne.mpr c22
                have c22b1 : ((bt a0 a1) != 244) = true := bne_iff_ne.mpr c22
                have H' := asd_ H
                clear H
                go_wp2
                go_meet
                case rel => exact ⟨_, (4), (128), (191), r1_, r1_, r1_, H', ⟨by have := HJ7.out; have := HJ10.out; have := HJ16.out; first | omega | exact Nat.le_refl _⟩, dr_⟩
             ·replace c19 := Bool.eq_false_iff.mpr c19
              subst c19
              have H1 : (some 0) = some r := by rw [if_neg (show ¬ (false = true) by decide)] at H; exact H
              clear H
              have H := H1
              clear H1
              obtain rfl := Option.some.inj H
              go_wp2
              go_ret
              exact ⟨r1_, dr_⟩
   case rest =>
    clear HC6
    obtain ⟨kq, x6_5, x7_5, x8_5, rfl, rfl, rfl, HA, HJ5, ⟨mc5, rfl⟩⟩ := hcut
    cases kq with
    | zero => exact absurd HA.out (by simp [spec_jWidth.j3])
    | succ kj5 =>
     have H := HA.out
     clear HA
     simp only [spec_jWidth.j3] at H
     have HC23 := asd_ H
     clear H
     go_upto_region 21 with (fail)
     go_cut [66] (fun v66 wc => ∃ (kq : Nat) (x66_22 : Bool), v66 = .bool x66_22 ∧ Aside0 (spec_jWidth.j4 kq a0 a1 x6_5 x66_22 = some r) ∧ Aside0 (kq ≤ kj5) ∧ Drawn0 w wc)
     case first =>
      have H := HC23.out
      clear HC23
      by_cases c24 : (wrap64 (a1 + x6_5)) > (a0.size : Int)
      ·rw [if_pos c24] at H
       have c24b0 : decide ((a0.size : Int) < (wrap64 (a1 + x6_5))) = true := decide_eq_true c24
       clear c24
       (first | rw [c24b0] | (simp only [i64_w, i32_w]; rw [c24b0]) | skip)
       have H' := asd_ H
       clear H
       go_wp2
       go_meet
       case rel => exact ⟨_, (true), r1_, H', ⟨by have := HJ5.out; first | omega | exact Nat.le_refl _⟩, dr_⟩
      ·rw [if_neg c24] at H
       have c24b0 : decide ((a0.size : Int) < (wrap64 (a1 + x6_5))) = false := decide_eq_false c24
       clear c24
       (first | rw [c24b0] | (simp only [i64_w, i32_w]; rw [c24b0]) | skip)
       obtain ⟨ji25, hji25⟩ : ∃ j_ : Int, (wrap64 (a1 + 1)) = j_ := ⟨_, rfl⟩
       replace H : (if 0 ≤ (ji25) then (if (ji25) < (a0.size : Int) then (if (bt a0 (ji25)) < x7_5 then (spec_jWidth.j4 kj5 a0 a1 x6_5 true) else (spec_jWidth.j4 kj5 a0 a1 x6_5 (decide ((bt a0 (ji25)) > x8_5)))) else (none)) else (none)) = some r := by first | (rw [hji25] at H; exact H) | (simp only [hji25] at H ⊢; exact H)
       have hji25w : (IntKind.i64.wrap (a1 + 1)) = ji25 := (i64_w _).trans hji25
       by_cases c26 : 0 ≤ (ji25)
       ·rw [if_pos c26] at H
        have c26b0 : decide (0 ≤ (ji25)) = true := decide_eq_true c26
        clear c26
        by_cases c27 : (ji25) < (a0.size : Int)
        ·rw [if_pos c27] at H
         have c27b0 : decide ((ji25) < (a0.size : Int)) = true := decide_eq_true c27
         clear c27
         by_cases c29 : (bt a0 (ji25)) < x7_5
         ·rw [if_pos c29] at H
          have c29b0 : decide ((bt a0 (ji25)) < x7_5) = true := decide_eq_true c29
          clear c29
          have H' := asd_ H
          clear H
          have p28 : 0 ≤ ((ji25) : Int) := of_decide_eq_true as_
          have q28 : (ji25) < (a0.size : Int) := of_decide_eq_true as_
          have hx28 := bt_at a0 (ji25)
          replace p28 := eq_true p28
          replace q28 := eq_true q28
          go_wp2
          go_meet
          case rel => exact ⟨_, (true), r1_, H', ⟨by have := HJ5.out; first | omega | exact Nat.le_refl _⟩, dr_⟩
         ·rw [if_neg c29] at H
          have c29b0 : decide ((bt a0 (ji25)) < x7_5) = false := decide_eq_false c29
          clear c29
          have H' := asd_ H
          clear H
          have p28 : 0 ≤ ((ji25) : Int) := of_decide_eq_true as_
          have q28 : (ji25) < (a0.size : Int) := of_decide_eq_true as_
          have hx28 := bt_at a0 (ji25)
          replace p28 := eq_true p28
          replace q28 := eq_true q28
          have p30 : 0 ≤ ((ji25) : Int) := of_decide_eq_true as_
          have q30 : (ji25) < (a0.size : Int) := of_decide_eq_true as_
          have hx30 := bt_at a0 (ji25)
          replace p30 := eq_true p30
          replace q30 := eq_true q30
          go_wp2
          go_meet
          case rel => exact ⟨_, (decide ((bt a0 (ji25)) > x8_5)), (by first | rfl | (simp; done) | (simp only [← hji25] <;> (first | rfl | simp)) | (simp [*]; done)), H', ⟨by have := HJ5.out; first | omega | exact Nat.le_refl _⟩, dr_⟩
        ·rw [if_neg c27] at H
         exact absurd H (by simp)
       ·rw [if_neg c26] at H
        exact absurd H (by simp)
     case rest =>
      clear HC23
      obtain ⟨kq, x66_22, rfl, HA, HJ22, ⟨mc22, rfl⟩⟩ := hcut
      cases kq with
      | zero => exact absurd HA.out (by simp [spec_jWidth.j4])
      | succ kj22 =>
       have H := HA.out
       clear HA
       simp only [spec_jWidth.j4] at H
       by_cases c31 : x66_22 = true
       ·subst c31
        have H1 : (some 0) = some r := by rw [if_pos rfl] at H; exact H
        clear H
        have H := H1
        clear H1
        obtain rfl := Option.some.inj H
        go_wp2
        go_ret
        exact ⟨r1_, dr_⟩
       ·replace c31 := Bool.eq_false_iff.mpr c31
        subst c31
        have H1 : (spec_jWidth.l0 kj22 a0 a1 x6_5 2) = some r := by rw [if_neg (show ¬ (false = true) by decide)] at H; exact H
        clear H
        have H := H1
        clear H1
        have H' := asd_ H
        clear H
        go_wp2
        go_loopg [9] kj22 (fun kq v9 w' => ∃ (x9_3 : Int), v9 = .int .i64 x9_3 ∧ Aside0 (spec_jWidth.l0 kq a0 a1 x6_5 x9_3 = some r) ∧ Aside0 (kq ≤ kj22) ∧ Drawn0 w w')
        case atStart => exact ⟨(2), r1_, H', ⟨Nat.le_refl _⟩, dr_⟩
        case round =>
         clear H'
         obtain ⟨x9_3, rfl, HA, HK3, ⟨m3, rfl⟩⟩ := hrel
         cases gk with
         | zero => exact absurd HA.out (by simp [spec_jWidth.l0])
         | succ k3 =>
          have H := HA.out
          clear HA
          simp only [spec_jWidth.l0] at H
          by_cases c32 : x9_3 < x6_5
          ·rw [if_pos c32] at H
           have c32b0 : decide (x9_3 < x6_5) = true := decide_eq_true c32
           clear c32
           obtain ⟨ji33, hji33⟩ : ∃ j_ : Int, (wrap64 (a1 + x9_3)) = j_ := ⟨_, rfl⟩
           replace H : (if 0 ≤ (ji33) then (if (ji33) < (a0.size : Int) then (if (bt a0 (ji33)) < 128 then (some 0) else (if (bt a0 (ji33)) > 191 then (some 0) else (spec_jWidth.l0 k3 a0 a1 x6_5 (wrap64 (x9_3 + 1))))) else (none)) else (none)) = some r := by first | (rw [hji33] at H; exact H) | (simp only [hji33] at H ⊢; exact H)
           have hji33w : (IntKind.i64.wrap (a1 + x9_3)) = ji33 := (i64_w _).trans hji33
           by_cases c34 : 0 ≤ (ji33)
           ·rw [if_pos c34] at H
            have c34b0 : decide (0 ≤ (ji33)) = true := decide_eq_true c34
            clear c34
            by_cases c35 : (ji33) < (a0.size : Int)
            ·rw [if_pos c35] at H
             have c35b0 : decide ((ji33) < (a0.size : Int)) = true := decide_eq_true c35
             clear c35
             by_cases c37 : (bt a0 (ji33)) < 128
             ·rw [if_pos c37] at H
              have c37b0 : decide ((bt a0 (ji33)) < 128) = true := decide_eq_true c37
              clear c37
              obtain rfl := Option.some.inj H
              have p36 : 0 ≤ ((ji33) : Int) := of_decide_eq_true as_
              have q36 : (ji33) < (a0.size : Int) := of_decide_eq_true as_
              have hx36 := bt_at a0 (ji33)
              replace p36 := eq_true p36
              replace q36 := eq_true q36
              go_wp2
              go_ret
              exact ⟨by first | rfl | (simp; done) | (simp only [← hji33] <;> (first | rfl | simp)) | (simp [*]; done), dr_⟩
             ·rw [if_neg c37] at H
              have c37b0 : decide ((bt a0 (ji33)) < 128) = false := decide_eq_false c37
              clear c37
              by_cases c39 : (bt a0 (ji33)) > 191
              ·rw [if_pos c39] at H
               have c39b0 : decide (191 < (bt a0 (ji33))) = true := decide_eq_true c39
               clear c39
               obtain rfl := Option.some.inj H
               have p36 : 0 ≤ ((ji33) : Int) := of_decide_eq_true as_
               have q36 : (ji33) < (a0.size : Int) := of_decide_eq_true as_
               have hx36 := bt_at a0 (ji33)
               replace p36 := eq_true p36
               replace q36 := eq_true q36
               have p38 : 0 ≤ ((ji33) : Int) := of_decide_eq_true as_
               have q38 : (ji33) < (a0.size : Int) := of_decide_eq_true as_
               have hx38 := bt_at a0 (ji33)
               replace p38 := eq_true p38
               replace q38 := eq_true q38
               go_wp2
               go_ret
               exact ⟨by first | rfl | (simp; done) | (simp only [← hji33] <;> (first | rfl | simp)) | (simp [*]; done), dr_⟩
              ·rw [if_neg c39] at H
               have c39b0 : decide (191 < (bt a0 (ji33))) = false := decide_eq_false c39
               clear c39
               have H' := asd_ H
               clear H
               have p36 : 0 ≤ ((ji33) : Int) := of_decide_eq_true as_
               have q36 : (ji33) < (a0.size : Int) := of_decide_eq_true as_
               have hx36 := bt_at a0 (ji33)
               replace p36 := eq_true p36
               replace q36 := eq_true q36
               have p38 : 0 ≤ ((ji33) : Int) := of_decide_eq_true as_
               have q38 : (ji33) < (a0.size : Int) := of_decide_eq_true as_
               have hx38 := bt_at a0 (ji33)
               replace p38 := eq_true p38
               replace q38 := eq_true q38
               go_wp2
               go_roundg k3
               case measure => have := HJ5.out; have := HJ22.out; have := HK3.out; omega
               case rel => exact ⟨(wrap64 (x9_3 + 1)), r1_, H', ⟨by have := HJ5.out; have := HJ22.out; have := HK3.out; omega⟩, dr_⟩
            ·rw [if_neg c35] at H
             exact absurd H (by simp)
           ·rw [if_neg c34] at H
            exact absurd H (by simp)
          ·rw [if_neg c32] at H
           have c32b0 : decide (x9_3 < x6_5) = false := decide_eq_false c32
           clear c32
           obtain rfl := Option.some.inj H
           go_wp2
           go_ret
           exact ⟨r1_, dr_⟩
  ·rw [if_neg c4] at H
   exact absurd H (by simp)
 ·rw [if_neg c3] at H
  exact absurd H (by simp)
def spec_JUtf8.l0 : Nat → ByteArray → Int → Option (Bool)
 | 0, _, _ => none
 | k + 1, x0, x3 => if x3 < (x0.size : Int) then ((spec_jWidth.f k x0 x3).bind fun t109 => (if t109 = 0 then (some false) else (spec_JUtf8.l0 k x0 (wrap64 (x3 + t109))))) else (some true)
def spec_JUtf8.f (k : Nat) (a0 : ByteArray) : Option (Bool) := spec_JUtf8.l0 k a0 0
set_option maxHeartbeats 8000000 in
set_option maxRecDepth 100000 in
theorem spec_JUtf8.calls (k : Nat) (a0 : ByteArray) (r : Bool) (w : World) (h : spec_JUtf8.f k a0 = some r) :
  Calls Tryz.prog 25 #[.string a0] w fun e w' => e = .returned (.bool r) ∧ Drawn0 w w' := by
 have H : (spec_JUtf8.l0 k a0 0) = some r := h
 clear h
 have H' := asd_ H
 clear H
 go_enter Tryz.func25, Tryz.ntmps25
 go_wp2
 go_loopg [3] k (fun kq v3 w' => ∃ (x3_1 : Int), v3 = .int .i64 x3_1 ∧ Aside0 (spec_JUtf8.l0 kq a0 x3_1 = some r) ∧ Aside0 (kq ≤ k) ∧ Drawn0 w w')
 case atStart => exact ⟨(0), r1_, H', ⟨Nat.le_refl _⟩, dr_⟩
 case round =>
  clear H'
  obtain ⟨x3_1, rfl, HA, HK1, ⟨m1, rfl⟩⟩ := hrel
  cases gk with
  | zero => exact absurd HA.out (by simp [spec_JUtf8.l0])
  | succ k1 =>
   have H := HA.out
   clear HA
   simp only [spec_JUtf8.l0] at H
   by_cases c2 : x3_1 < (a0.size : Int)
   ·rw [if_pos c2] at H
    have c2b0 : decide (x3_1 < (a0.size : Int)) = true := decide_eq_true c2
    clear c2
    replace H := Option.bind_eq_some_iff.mp H
    obtain ⟨t109, A30, H⟩ := H
    replace H : (if t109 = 0 then (some false) else (spec_JUtf8.l0 k1 a0 (wrap64 (x3_1 + t109)))) = some r := H
    have A3 := asd_ A30
    clear A30
    by_cases c4 : t109 = 0
    ·rw [if_pos c4] at H
     have c4b0 : (t109 == 0) = true := beq_iff_eq.mpr c4
     have c4b1 : (t109 != 0) = false := bne_eq_false_iff_eq.mpr c4
     clear c4
     obtain rfl := Option.some.inj H
     go_wp2_with (first | ((with_reducible refine gate_callee (f := 47) rfl ?_); refine goesL_ (some 11) rfl rfl Tryz.func47 kr_ rfl #[.string a0, .int .i64 x3_1] rfl ap_ ?_; (with_reducible refine (spec_jWidth.calls k1 a0 x3_1 t109 _ A3.out).mono ?_); rintro e w' ⟨rfl, ⟨nd, rfl⟩⟩; refine ⟨_, rfl, ?_⟩))
     go_ret
     exact ⟨r1_, dr_⟩
    ·rw [if_neg c4] at H
     have c4b0 : (t109 == 0) = false := beq_eq_false_iff_ne.mpr c4
     have c4b1 : (t109 != 0) = true := bne_iff_ne.mpr c4
     have H' := asd_ H
     clear H
     go_wp2_with (first | ((with_reducible refine gate_callee (f := 47) rfl ?_); refine goesL_ (some 11) rfl rfl Tryz.func47 kr_ rfl #[.string a0, .int .i64 x3_1] rfl ap_ ?_; (with_reducible refine (spec_jWidth.calls k1 a0 x3_1 t109 _ A3.out).mono ?_); rintro e w' ⟨rfl, ⟨nd, rfl⟩⟩; refine ⟨_, rfl, ?_⟩))
     go_roundg k1
     case measure => have := HK1.out; omega
     case rel => exact ⟨(wrap64 (x3_1 + t109)), r1_, H', ⟨by have := HK1.out; omega⟩, dr_⟩
   ·rw [if_neg c2] at H
    have c2b0 : decide (x3_1 < (a0.size : Int)) = false := decide_eq_false c2
    clear c2
    obtain rfl := Option.some.inj H
    go_wp2
    go_ret
    exact ⟨r1_, dr_⟩
def spec_jDigit.f (a0 : Int) : Option (Bool) := if a0 ≥ 48 then (some (decide (a0 ≤ 57))) else (some false)
set_option maxHeartbeats 8000000 in
set_option maxRecDepth 100000 in
theorem spec_jDigit.calls (a0 : Int) (r : Bool) (w : World) (h : spec_jDigit.f a0 = some r) :
  Calls Tryz.prog 127 #[.int .u8 a0] w fun e w' => e = .returned (.bool r) ∧ Drawn0 w w' := by
 have H : (if a0 ≥ 48 then (some (decide (a0 ≤ 57))) else (some false)) = some r := h
 clear h
 by_cases c2 : a0 ≥ 48
 ·rw [if_pos c2] at H
  have c2b0 : decide (48 ≤ a0) = true := decide_eq_true c2
  clear c2
  obtain rfl := Option.some.inj H
  go_enter Tryz.func127, Tryz.ntmps127
  go_wp2
  go_ret
  exact ⟨r1_, dr_⟩
 ·rw [if_neg c2] at H
  have c2b0 : decide (48 ≤ a0) = false := decide_eq_false c2
  clear c2
  obtain rfl := Option.some.inj H
  go_enter Tryz.func127, Tryz.ntmps127
  go_wp2
  go_ret
  exact ⟨r1_, dr_⟩
def spec_jDigits.l0 : Nat → ByteArray → Int → Option (Bool)
 | 0, _, _ => none
 | k + 1, x0, x3 => if x3 < (x0.size : Int) then (if 0 ≤ x3 then ((spec_jDigit.f (bt x0 x3)).bind fun t110 => (if t110 = true then (spec_jDigits.l0 k x0 (wrap64 (x3 + 1))) else (some false))) else (none)) else (some (decide ((x0.size : Int) > 0)))
def spec_jDigits.f (k : Nat) (a0 : ByteArray) : Option (Bool) := spec_jDigits.l0 k a0 0
set_option maxHeartbeats 8000000 in
set_option maxRecDepth 100000 in
theorem spec_jDigits.calls (k : Nat) (a0 : ByteArray) (r : Bool) (w : World) (h : spec_jDigits.f k a0 = some r) :
  Calls Tryz.prog 85 #[.string a0] w fun e w' => e = .returned (.bool r) ∧ Drawn0 w w' := by
 have H : (spec_jDigits.l0 k a0 0) = some r := h
 clear h
 have H' := asd_ H
 clear H
 go_enter Tryz.func85, Tryz.ntmps85
 go_wp2
 go_loopg [3] k (fun kq v3 w' => ∃ (x3_1 : Int), v3 = .int .i64 x3_1 ∧ Aside0 (spec_jDigits.l0 kq a0 x3_1 = some r) ∧ Aside0 (kq ≤ k) ∧ Drawn0 w w')
 case atStart => exact ⟨(0), r1_, H', ⟨Nat.le_refl _⟩, dr_⟩
 case round =>
  clear H'
  obtain ⟨x3_1, rfl, HA, HK1, ⟨m1, rfl⟩⟩ := hrel
  cases gk with
  | zero => exact absurd HA.out (by simp [spec_jDigits.l0])
  | succ k1 =>
   have H := HA.out
   clear HA
   simp only [spec_jDigits.l0] at H
   by_cases c2 : x3_1 < (a0.size : Int)
   ·rw [if_pos c2] at H
    have c2b0 : decide (x3_1 < (a0.size : Int)) = true := decide_eq_true c2
    clear c2
    by_cases c3 : 0 ≤ x3_1
    ·rw [if_pos c3] at H
     have c3b0 : decide (0 ≤ x3_1) = true := decide_eq_true c3
     clear c3
     replace H := Option.bind_eq_some_iff.mp H
     obtain ⟨t110, A50, H⟩ := H
     replace H : (if t110 = true then (spec_jDigits.l0 k1 a0 (wrap64 (x3_1 + 1))) else (some false)) = some r := H
     have A5 := asd_ A50
     clear A50
     by_cases c6 : t110 = true
     ·subst c6
      have H1 : (spec_jDigits.l0 k1 a0 (wrap64 (x3_1 + 1))) = some r := by rw [if_pos rfl] at H; exact H
      clear H
      have H := H1
      clear H1
      have H' := asd_ H
      clear H
      have p4 : 0 ≤ (x3_1 : Int) := of_decide_eq_true as_
      have q4 : x3_1 < (a0.size : Int) := of_decide_eq_true as_
      have hx4 := bt_at a0 x3_1
      replace p4 := eq_true p4
      replace q4 := eq_true q4
      go_wp2_with (first | ((with_reducible refine gate_callee (f := 127) rfl ?_); refine goesL_ (some 13) rfl rfl Tryz.func127 kr_ rfl #[.int .u8 (bt a0 x3_1)] rfl ap_ ?_; (with_reducible refine (spec_jDigit.calls (bt a0 x3_1) true _ A5.out).mono ?_); rintro e w' ⟨rfl, ⟨nd, rfl⟩⟩; refine ⟨_, rfl, ?_⟩))
      go_roundg k1
      case measure => have := HK1.out; omega
      case rel => exact ⟨(wrap64 (x3_1 + 1)), r1_, H', ⟨by have := HK1.out; omega⟩, dr_⟩
     ·replace c6 := Bool.eq_false_iff.mpr c6
      subst c6
      have H1 : (some false) = some r := by rw [if_neg (show ¬ (false = true) by decide)] at H; exact H
      clear H
      have H := H1
      clear H1
      obtain rfl := Option.some.inj H
      have p4 : 0 ≤ (x3_1 : Int) := of_decide_eq_true as_
      have q4 : x3_1 < (a0.size : Int) := of_decide_eq_true as_
      have hx4 := bt_at a0 x3_1
      replace p4 := eq_true p4
      replace q4 := eq_true q4
      go_wp2_with (first | ((with_reducible refine gate_callee (f := 127) rfl ?_); refine goesL_ (some 13) rfl rfl Tryz.func127 kr_ rfl #[.int .u8 (bt a0 x3_1)] rfl ap_ ?_; (with_reducible refine (spec_jDigit.calls (bt a0 x3_1) false _ A5.out).mono ?_); rintro e w' ⟨rfl, ⟨nd, rfl⟩⟩; refine ⟨_, rfl, ?_⟩))
      go_ret
      exact ⟨r1_, dr_⟩
    ·rw [if_neg c3] at H
     exact absurd H (by simp)
   ·rw [if_neg c2] at H
    have c2b0 : decide (x3_1 < (a0.size : Int)) = false := decide_eq_false c2
    clear c2
    obtain rfl := Option.some.inj H
    go_wp2
    go_ret
    exact ⟨r1_, dr_⟩
def spec_jPlain.f (k : Nat) (a0 : ByteArray) : Option (Bool) := (spec_jDigits.f k a0).bind fun t111 => (if t111 = true then (if (a0.size : Int) = 1 then (some true) else (if 0 < (a0.size : Int) then (some ((bt a0 0) != 48)) else (none))) else (some false))
set_option maxHeartbeats 8000000 in
set_option maxRecDepth 100000 in
theorem spec_jPlain.calls (k : Nat) (a0 : ByteArray) (r : Bool) (w : World) (h : spec_jPlain.f k a0 = some r) :
  Calls Tryz.prog 45 #[.string a0] w fun e w' => e = .returned (.bool r) ∧ Drawn0 w w' := by
 have H : ((spec_jDigits.f k a0).bind fun t111 => (if t111 = true then (if (a0.size : Int) = 1 then (some true) else (if 0 < (a0.size : Int) then (some ((bt a0 0) != 48)) else (none))) else (some false))) = some r := h
 clear h
 replace H := Option.bind_eq_some_iff.mp H
 obtain ⟨t111, A20, H⟩ := H
 replace H : (if t111 = true then (if (a0.size : Int) = 1 then (some true) else (if 0 < (a0.size : Int) then (some ((bt a0 0) != 48)) else (none))) else (some false)) = some r := H
 have A2 := asd_ A20
 clear A20
 by_cases c3 : t111 = true
 ·subst c3
  have H1 : (if (a0.size : Int) = 1 then (some true) else (if 0 < (a0.size : Int) then (some ((bt a0 0) != 48)) else (none))) = some r := by rw [if_pos rfl] at H; exact H
  clear H
  have H := H1
  clear H1
  by_cases c4 : (a0.size : Int) = 1
  ·rw [if_pos c4] at H
   have c4b0 : ((a0.size : Int) == 1) = true := beq_iff_eq.mpr c4
   have c4b1 : ((a0.size : Int) != 1) = false := bne_eq_false_iff_eq.mpr c4
   clear c4
   obtain rfl := Option.some.inj H
   go_enter Tryz.func45, Tryz.ntmps45
   go_wp2_with (first | ((with_reducible refine gate_callee (f := 85) rfl ?_); refine goesL_ (some 4) rfl rfl Tryz.func85 kr_ rfl #[.string a0] rfl ap_ ?_; (with_reducible refine (spec_jDigits.calls k a0 true _ A2.out).mono ?_); rintro e w' ⟨rfl, ⟨nd, rfl⟩⟩; refine ⟨_, rfl, ?_⟩))
   go_ret
   exact ⟨r1_, dr_⟩
  ·rw [if_neg c4] at H
   have c4b0 : ((a0.size : Int) == 1) = false := beq_eq_false_iff_ne.mpr c4
   have c4b1 : ((a0.size : Int) != 1) = true := bne_iff_ne.mpr c4
   by_cases c5 : 0 < (a0.size : Int)
   ·rw [if_pos c5] at H
    have c5b0 : decide (0 < (a0.size : Int)) = true := decide_eq_true c5
    have c5b1 : decide (0 < a0.size) = true := decide_eq_true (by omega)
    clear c5
    obtain rfl := Option.some.inj H
    go_enter Tryz.func45, Tryz.ntmps45
    go_wp2_with (first | ((with_reducible refine gate_callee (f := 85) rfl ?_); refine goesL_ (some 4) rfl rfl Tryz.func85 kr_ rfl #[.string a0] rfl ap_ ?_; (with_reducible refine (spec_jDigits.calls k a0 true _ A2.out).mono ?_); rintro e w' ⟨rfl, ⟨nd, rfl⟩⟩; refine ⟨_, rfl, ?_⟩; have p6 : 0 ≤ (0 : Int) := (by omega); have q6 : 0 < a0.size := (by have : (0 : Int) < (a0.size : Int) := of_decide_eq_true as_; omega); have hx6 : ∀ h : 0 < a0.size, ((a0[0]'h).toNat : Int) = bt a0 0 := bt_at a0 0; clear p6; have qi6 : (0 < (a0.size : Int)) = True := eq_true (of_decide_eq_true as_); replace q6 := eq_true q6))
    go_ret
    exact ⟨r1_, dr_⟩
   ·rw [if_neg c5] at H
    exact absurd H (by simp)
 ·replace c3 := Bool.eq_false_iff.mpr c3
  subst c3
  have H1 : (some false) = some r := by rw [if_neg (show ¬ (false = true) by decide)] at H; exact H
  clear H
  have H := H1
  clear H1
  obtain rfl := Option.some.inj H
  go_enter Tryz.func45, Tryz.ntmps45
  go_wp2_with (first | ((with_reducible refine gate_callee (f := 85) rfl ?_); refine goesL_ (some 4) rfl rfl Tryz.func85 kr_ rfl #[.string a0] rfl ap_ ?_; (with_reducible refine (spec_jDigits.calls k a0 false _ A2.out).mono ?_); rintro e w' ⟨rfl, ⟨nd, rfl⟩⟩; refine ⟨_, rfl, ?_⟩))
  go_ret
  exact ⟨r1_, dr_⟩
def spec_jRun.l0 : Nat → ByteArray → Int → Option (Int)
 | 0, _, _ => none
 | k + 1, x0, x1 => if x1 < (x0.size : Int) then (if 0 ≤ x1 then ((spec_jDigit.f (bt x0 x1)).bind fun t112 => (if t112 = true then (spec_jRun.l0 k x0 (wrap64 (x1 + 1))) else (some x1))) else (none)) else (some x1)
def spec_jRun.f (k : Nat) (a0 : ByteArray) (a1 : Int) : Option (Int) := spec_jRun.l0 k a0 a1
set_option maxHeartbeats 8000000 in
set_option maxRecDepth 100000 in
theorem spec_jRun.calls (k : Nat) (a0 : ByteArray) (a1 : Int) (r : Int) (w : World) (h : spec_jRun.f k a0 a1 = some r) :
  Calls Tryz.prog 86 #[.string a0, .int .i64 a1] w fun e w' => e = .returned (.int .i64 r) ∧ Drawn0 w w' := by
 have H : (spec_jRun.l0 k a0 a1) = some r := h
 clear h
 have H' := asd_ H
 clear H
 go_enter Tryz.func86, Tryz.ntmps86
 go_wp2
 go_loopg [1] k (fun kq v1 w' => ∃ (x1_1 : Int), v1 = .int .i64 x1_1 ∧ Aside0 (spec_jRun.l0 kq a0 x1_1 = some r) ∧ Aside0 (kq ≤ k) ∧ Drawn0 w w')
 case atStart => exact ⟨(a1), r1_, H', ⟨Nat.le_refl _⟩, dr_⟩
 case round =>
  clear H'
  obtain ⟨x1_1, rfl, HA, HK1, ⟨m1, rfl⟩⟩ := hrel
  cases gk with
  | zero => exact absurd HA.out (by simp [spec_jRun.l0])
  | succ k1 =>
   have H := HA.out
   clear HA
   simp only [spec_jRun.l0] at H
   by_cases c3 : x1_1 < (a0.size : Int)
   ·rw [if_pos c3] at H
    have c3b0 : decide (x1_1 < (a0.size : Int)) = true := decide_eq_true c3
    clear c3
    by_cases c4 : 0 ≤ x1_1
    ·rw [if_pos c4] at H
     have c4b0 : decide (0 ≤ x1_1) = true := decide_eq_true c4
     clear c4
     replace H := Option.bind_eq_some_iff.mp H
     obtain ⟨t112, A60, H⟩ := H
     replace H : (if t112 = true then (spec_jRun.l0 k1 a0 (wrap64 (x1_1 + 1))) else (some x1_1)) = some r := H
     have A6 := asd_ A60
     clear A60
     by_cases c7 : t112 = true
     ·subst c7
      have H1 : (spec_jRun.l0 k1 a0 (wrap64 (x1_1 + 1))) = some r := by rw [if_pos rfl] at H; exact H
      clear H
      have H := H1
      clear H1
      have H' := asd_ H
      clear H
      have p5 : 0 ≤ (x1_1 : Int) := of_decide_eq_true as_
      have q5 : x1_1 < (a0.size : Int) := of_decide_eq_true as_
      have hx5 := bt_at a0 x1_1
      replace p5 := eq_true p5
      replace q5 := eq_true q5
      go_wp2_with (first | (go_at_call 127; (with_reducible refine (spec_jDigit.calls (bt a0 x1_1) true _ A6.out).mono ?_); rintro e w' ⟨rfl, ⟨nd, rfl⟩⟩))
      go_roundg k1
      case measure => have := HK1.out; omega
      case rel => exact ⟨(wrap64 (x1_1 + 1)), r1_, H', ⟨by have := HK1.out; omega⟩, dr_⟩
     ·replace c7 := Bool.eq_false_iff.mpr c7
      subst c7
      have H1 : (some x1_1) = some r := by rw [if_neg (show ¬ (false = true) by decide)] at H; exact H
      clear H
      have H := H1
      clear H1
      obtain rfl := Option.some.inj H
      have p5 : 0 ≤ (x1_1 : Int) := of_decide_eq_true as_
      have q5 : x1_1 < (a0.size : Int) := of_decide_eq_true as_
      have hx5 := bt_at a0 x1_1
      replace p5 := eq_true p5
      replace q5 := eq_true q5
      go_wp2_with (first | (go_at_call 127; (with_reducible refine (spec_jDigit.calls (bt a0 x1_1) false _ A6.out).mono ?_); rintro e w' ⟨rfl, ⟨nd, rfl⟩⟩))
      go_ret
      exact ⟨r1_, dr_⟩
    ·rw [if_neg c4] at H
     exact absurd H (by simp)
   ·rw [if_neg c3] at H
    have c3b0 : decide (x1_1 < (a0.size : Int)) = false := decide_eq_false c3
    clear c3
    obtain rfl := Option.some.inj H
    go_wp2
    go_ret
    exact ⟨r1_, dr_⟩
def spec_jNumber.l0 : Nat → ByteArray → Int → Int → Option (Int)
 | 0, _, _, _ => none
 | k + 1, x0, x3, x4 => if x4 < (x0.size : Int) then (if 0 ≤ x4 then (spec_jNumber.l0 k x0 (wrap64 ((wrap64 (10 * x3)) + (((bt x0 x4) - 48) % 256))) (wrap64 (x4 + 1))) else (none)) else (some x3)
def spec_jNumber.f (k : Nat) (a0 : ByteArray) : Option (Int) := spec_jNumber.l0 k a0 0 0
set_option maxHeartbeats 8000000 in
set_option maxRecDepth 100000 in
theorem spec_jNumber.calls (k : Nat) (a0 : ByteArray) (r : Int) (w : World) (h : spec_jNumber.f k a0 = some r) :
  Calls Tryz.prog 46 #[.string a0] w fun e w' => e = .returned (.int .i64 r) ∧ Drawn0 w w' := by
 have H : (spec_jNumber.l0 k a0 0 0) = some r := h
 clear h
 have H' := asd_ H
 clear H
 go_enter Tryz.func46, Tryz.ntmps46
 go_wp2
 go_loopg [3, 4] k (fun kq v3 v4 w' => ∃ (x3_1 : Int) (x4_1 : Int), v3 = .int .i64 x3_1 ∧ v4 = .int .i64 x4_1 ∧ Aside0 (spec_jNumber.l0 kq a0 x3_1 x4_1 = some r) ∧ Aside0 (kq ≤ k) ∧ Drawn0 w w')
 case atStart => exact ⟨(0), (0), r1_, r1_, H', ⟨Nat.le_refl _⟩, dr_⟩
 case round =>
  clear H'
  obtain ⟨x3_1, x4_1, rfl, rfl, HA, HK1, ⟨m1, rfl⟩⟩ := hrel
  cases gk with
  | zero => exact absurd HA.out (by simp [spec_jNumber.l0])
  | succ k1 =>
   have H := HA.out
   clear HA
   simp only [spec_jNumber.l0] at H
   by_cases c2 : x4_1 < (a0.size : Int)
   ·rw [if_pos c2] at H
    have c2b0 : decide (x4_1 < (a0.size : Int)) = true := decide_eq_true c2
    clear c2
    by_cases c3 : 0 ≤ x4_1
    ·rw [if_pos c3] at H
     have c3b0 : decide (0 ≤ x4_1) = true := decide_eq_true c3
     clear c3
     have H' := asd_ H
     clear H
     have p4 : 0 ≤ (x4_1 : Int) := of_decide_eq_true as_
     have q4 : x4_1 < (a0.size : Int) := of_decide_eq_true as_
     have hx4 := bt_at a0 x4_1
     replace p4 := eq_true p4
     replace q4 := eq_true q4
     go_wp2
     go_roundg k1
     case measure => have := HK1.out; omega
     case rel => exact ⟨(wrap64 ((wrap64 (10 * x3_1)) + (((bt a0 x4_1) - 48) % 256))), (wrap64 (x4_1 + 1)), r1_, r1_, H', ⟨by have := HK1.out; omega⟩, dr_⟩
    ·rw [if_neg c3] at H
     exact absurd H (by simp)
   ·rw [if_neg c2] at H
    have c2b0 : decide (x4_1 < (a0.size : Int)) = false := decide_eq_false c2
    clear c2
    obtain rfl := Option.some.inj H
    go_wp2
    go_ret
    exact ⟨r1_, dr_⟩
mutual
def spec_jExponent.j0 : Nat → ByteArray → Bool → Option (Int × Bool)
 | 0, _, _ => none
 | k + 1, x0, x14 => if x14 = true then (some (0, false)) else (if 1 ≤ (x0.size : Int) then (if (x0.extract 1 x0.size).toList = ([] : List UInt8) then (spec_jExponent.j1 k (x0.extract 1 x0.size) false) else (if 0 < ((x0.extract 1 x0.size).size : Int) then (spec_jExponent.j1 k (x0.extract 1 x0.size) ((bt (x0.extract 1 x0.size) 0) == 45)) else (none))) else (none))
def spec_jExponent.j1 : Nat → ByteArray → Bool → Option (Int × Bool)
 | 0, _, _ => none
 | k + 1, x0, x4 => if x4 = true then (spec_jExponent.j2 k x0 x4 true) else (if x0.toList = ([] : List UInt8) then (spec_jExponent.j2 k x0 x4 false) else (if 0 < (x0.size : Int) then (spec_jExponent.j2 k x0 x4 ((bt x0 0) == 43)) else (none)))
def spec_jExponent.j2 : Nat → ByteArray → Bool → Bool → Option (Int × Bool)
 | 0, _, _, _ => none
 | k + 1, x0, x4, x33 => if x33 = true then (if 1 ≤ (x0.size : Int) then (spec_jExponent.j3 k (x0.extract 1 x0.size) x4) else (none)) else (spec_jExponent.j3 k x0 x4)
def spec_jExponent.j3 : Nat → ByteArray → Bool → Option (Int × Bool)
 | 0, _, _ => none
 | k + 1, x0, x4 => (spec_jDigits.f k x0).bind fun t113 => (if t113 = true then (spec_jExponent.j4 k x0 x4 (decide ((x0.size : Int) > 2))) else (spec_jExponent.j4 k x0 x4 true))
def spec_jExponent.j4 : Nat → ByteArray → Bool → Bool → Option (Int × Bool)
 | 0, _, _, _ => none
 | k + 1, x0, x4, x43 => if x43 = true then (some (0, false)) else (if x4 = true then ((spec_jNumber.f k x0).bind fun t114 => (some (wrap64 (-t114), true))) else ((spec_jNumber.f k x0).bind fun t115 => (some (t115, true))))
end
def spec_jExponent.f (k : Nat) (a0 : ByteArray) : Option (Int × Bool) := if a0.toList = ([] : List UInt8) then (some (0, true)) else (if 0 < (a0.size : Int) then (if (bt a0 0) = 101 then (spec_jExponent.j0 k a0 false) else (spec_jExponent.j0 k a0 ((bt a0 0) != 69))) else (none))
set_option maxHeartbeats 8000000 in
set_option maxRecDepth 100000 in
theorem spec_jExponent.calls (k : Nat) (a0 : ByteArray) (r1 : Int) (r2 : Bool) (w : World) (h : spec_jExponent.f k a0 = some (r1, r2)) :
  Calls Tryz.prog 87 #[.string a0] w fun e w' => e = .returned (.tuple #[.int .i64 r1, .bool r2]) ∧ Drawn0 w w' := by
 have H : (if a0.toList = ([] : List UInt8) then (some (0, true)) else (if 0 < (a0.size : Int) then (if (bt a0 0) = 101 then (spec_jExponent.j0 k a0 false) else (spec_jExponent.j0 k a0 ((bt a0 0) != 69))) else (none))) = some (r1, r2) := h
 clear h
 by_cases c2 : a0.toList = ([] : List UInt8)
 ·rw [if_pos c2] at H
  have c2b0 : (a0.toList == ([] : List UInt8)) = true := beq_iff_eq.mpr c2
  have c2b1 : (a0.toList != ([] : List UInt8)) = false := bne_eq_false_iff_eq.mpr c2
  clear c2
  simp only [Option.some.injEq, Prod.mk.injEq] at H
  obtain ⟨rfl, rfl⟩ := H
  go_enter Tryz.func87, Tryz.ntmps87
  go_wp2
  go_ret2
  exact ⟨r1_, dr_⟩
 ·rw [if_neg c2] at H
  have c2b0 : (a0.toList == ([] : List UInt8)) = false := beq_eq_false_iff_ne.mpr c2
  have c2b1 : (a0.toList != ([] : List UInt8)) = true := bne_iff_ne.mpr c2
  have HC3 := asd_ H
  clear H
  go_enter Tryz.func87, Tryz.ntmps87
  go_upto_region 3 with (fail)
  go_cut [14] (fun v14 wc => ∃ (kq : Nat) (x14_2 : Bool), v14 = .bool x14_2 ∧ Aside0 (spec_jExponent.j0 kq a0 x14_2 = some (r1, r2)) ∧ Aside0 (kq ≤ k) ∧ Drawn0 w wc)
  case first =>
   have H := HC3.out
   clear HC3
   by_cases c4 : 0 < (a0.size : Int)
   ·rw [if_pos c4] at H
    have c4b0 : decide (0 < (a0.size : Int)) = true := decide_eq_true c4
    have c4b1 : decide (0 < a0.size) = true := decide_eq_true (by omega)
    clear c4
    (first | rw [c4b0] | (simp only [i64_w, i32_w]; rw [c4b0]) | skip)
    by_cases c6 : (bt a0 0) = 101
    ·rw [if_pos c6] at H
     have c6b0 : ((bt a0 0) == 101) = true := beq_iff_eq.mpr c6
     have c6b1 : ((bt a0 0) != 101) = false := bne_eq_false_iff_eq.mpr c6
     clear c6
     have H' := asd_ H
     clear H
     have p5 : 0 ≤ (0 : Int) := (by omega)
     have q5 : 0 < a0.size := (by have : (0 : Int) < (a0.size : Int) := of_decide_eq_true as_; omega)
     have hx5 : ∀ h : 0 < a0.size, ((a0[0]'h).toNat : Int) = bt a0 0 := bt_at a0 0
     clear p5
     have qi5 : (0 < (a0.size : Int)) = True := eq_true (of_decide_eq_true as_)
     replace q5 := eq_true q5
     go_wp2
     go_meet
     case rel => exact ⟨_, (false), r1_, H', ⟨by first | omega | exact Nat.le_refl _⟩, dr_⟩
    ·rw [if_neg c6] at H
     have c6b0 : ((bt a0 0) == 101) = false := beq_eq_false_iff_ne.mpr c6
     have c6b1 : ((bt a0 0) != 101) = true := bne_iff_ne.mpr c6
     have H' := asd_ H
     clear H
     have p5 : 0 ≤ (0 : Int) := (by omega)
     have q5 : 0 < a0.size := (by have : (0 : Int) < (a0.size : Int) := of_decide_eq_true as_; omega)
     have hx5 : ∀ h : 0 < a0.size, ((a0[0]'h).toNat : Int) = bt a0 0 := bt_at a0 0
     clear p5
     have qi5 : (0 < (a0.size : Int)) = True := eq_true (of_decide_eq_true as_)
     replace q5 := eq_true q5
     have p7 : 0 ≤ (0 : Int) := (by omega)
     have q7 : 0 < a0.size := (by have : (0 : Int) < (a0.size : Int) := of_decide_eq_true as_; omega)
     have hx7 : ∀ h : 0 < a0.size, ((a0[0]'h).toNat : Int) = bt a0 0 := bt_at a0 0
     clear p7
     have qi7 : (0 < (a0.size : Int)) = True := eq_true (of_decide_eq_true as_)
     replace q7 := eq_true q7
     go_wp2
     go_meet
     case rel => exact ⟨_, (((bt a0 0) != 69)), r1_, H', ⟨by first | omega | exact Nat.le_refl _⟩, dr_⟩
   ·rw [if_neg c4] at H
    exact absurd H (by simp)
  case rest =>
   clear HC3
   obtain ⟨kq, x14_2, rfl, HA, HJ2, ⟨mc2, rfl⟩⟩ := hcut
   cases kq with
   | zero => exact absurd HA.out (by simp [spec_jExponent.j0])
   | succ kj2 =>
    have H := HA.out
    clear HA
    simp only [spec_jExponent.j0] at H
    by_cases c8 : x14_2 = true
    ·subst c8
     have H1 : (some (0, false)) = some (r1, r2) := by rw [if_pos rfl] at H; exact H
     clear H
     have H := H1
     clear H1
     simp only [Option.some.injEq, Prod.mk.injEq] at H
     obtain ⟨rfl, rfl⟩ := H
     go_wp2
     go_ret2
     exact ⟨r1_, dr_⟩
    ·replace c8 := Bool.eq_false_iff.mpr c8
     subst c8
     have H1 : (if 1 ≤ (a0.size : Int) then (if (a0.extract 1 a0.size).toList = ([] : List UInt8) then (spec_jExponent.j1 kj2 (a0.extract 1 a0.size) false) else (if 0 < ((a0.extract 1 a0.size).size : Int) then (spec_jExponent.j1 kj2 (a0.extract 1 a0.size) ((bt (a0.extract 1 a0.size) 0) == 45)) else (none))) else (none)) = some (r1, r2) := by rw [if_neg (show ¬ (false = true) by decide)] at H; exact H
     clear H
     have H := H1
     clear H1
     by_cases c9 : 1 ≤ (a0.size : Int)
     ·rw [if_pos c9] at H
      have c9b0 := eq_true c9
      have c9b1 : decide (1 ≤ (a0.size : Int)) = true := decide_eq_true c9
      clear c9
      have HC10 := asd_ H
      clear H
      go_upto_region 6 with (fail)
      generalize a0.extract 1 a0.size = t0 at *
      go_cut [4] (fun v4 wc => ∃ (kq : Nat) (x4_9 : Bool), v4 = .bool x4_9 ∧ Aside0 (spec_jExponent.j1 kq t0 x4_9 = some (r1, r2)) ∧ Aside0 (kq ≤ kj2) ∧ Drawn0 w wc)
      case first =>
       have H := HC10.out
       clear HC10
       by_cases c11 : t0.toList = ([] : List UInt8)
       ·rw [if_pos c11] at H
        have c11b0 : (t0.toList == ([] : List UInt8)) = true := beq_iff_eq.mpr c11
        have c11b1 : (t0.toList != ([] : List UInt8)) = false := bne_eq_false_iff_eq.mpr c11
        clear c11
        (first | rw [c11b0] | (simp only [i64_w, i32_w]; rw [c11b0]) | skip)
        have H' := asd_ H
        clear H
        go_wp2
        go_meet
        case rel => exact ⟨_, (false), r1_, H', ⟨by have := HJ2.out; first | omega | exact Nat.le_refl _⟩, dr_⟩
       ·rw [if_neg c11] at H
        have c11b0 : (t0.toList == ([] : List UInt8)) = false := beq_eq_false_iff_ne.mpr c11
        have c11b1 : (t0.toList != ([] : List UInt8)) = true := bne_iff_ne.mpr c11
        (first | rw [c11b0] | (simp only [i64_w, i32_w]; rw [c11b0]) | skip)
        by_cases c12 : 0 < (t0.size : Int)
        ·rw [if_pos c12] at H
         have c12b0 : decide (0 < (t0.size : Int)) = true := decide_eq_true c12
         have c12b1 : decide (0 < t0.size) = true := decide_eq_true (by omega)
         clear c12
         have H' := asd_ H
         clear H
         have p13 : 0 ≤ (0 : Int) := (by omega)
         have q13 : 0 < t0.size := (by have : (0 : Int) < (t0.size : Int) := of_decide_eq_true as_; omega)
         have hx13 : ∀ h : 0 < t0.size, ((t0[0]'h).toNat : Int) = bt t0 0 := bt_at t0 0
         clear p13
         have qi13 : (0 < (t0.size : Int)) = True := eq_true (of_decide_eq_true as_)
         replace q13 := eq_true q13
         go_wp2
         go_meet
         case rel => exact ⟨_, (((bt t0 0) == 45)), r1_, H', ⟨by have := HJ2.out; first | omega | exact Nat.le_refl _⟩, dr_⟩
        ·rw [if_neg c12] at H
         exact absurd H (by simp)
      case rest =>
       clear HC10
       obtain ⟨kq, x4_9, rfl, HA, HJ9, ⟨mc9, rfl⟩⟩ := hcut
       cases kq with
       | zero => exact absurd HA.out (by simp [spec_jExponent.j1])
       | succ kj9 =>
        have H := HA.out
        clear HA
        simp only [spec_jExponent.j1] at H
        have HC14 := asd_ H
        clear H
        go_upto_region 7 with (fail)
        go_cut [33] (fun v33 wc => ∃ (kq : Nat) (x33_13 : Bool), v33 = .bool x33_13 ∧ Aside0 (spec_jExponent.j2 kq t0 x4_9 x33_13 = some (r1, r2)) ∧ Aside0 (kq ≤ kj9) ∧ Drawn0 w wc)
        case first =>
         have H := HC14.out
         clear HC14
         by_cases c15 : x4_9 = true
         ·subst c15
          have H1 : (spec_jExponent.j2 kj9 t0 true true) = some (r1, r2) := by rw [if_pos rfl] at H; exact H
          clear H
          have H := H1
          clear H1
          have H' := asd_ H
          clear H
          go_wp2
          go_meet
          case rel => exact ⟨_, (true), r1_, H', ⟨by have := HJ2.out; have := HJ9.out; first | omega | exact Nat.le_refl _⟩, dr_⟩
         ·replace c15 := Bool.eq_false_iff.mpr c15
          subst c15
          have H1 : (if t0.toList = ([] : List UInt8) then (spec_jExponent.j2 kj9 t0 false false) else (if 0 < (t0.size : Int) then (spec_jExponent.j2 kj9 t0 false ((bt t0 0) == 43)) else (none))) = some (r1, r2) := by rw [if_neg (show ¬ (false = true) by decide)] at H; exact H
          clear H
          have H := H1
          clear H1
          by_cases c16 : t0.toList = ([] : List UInt8)
          ·rw [if_pos c16] at H
           have c16b0 : (t0.toList == ([] : List UInt8)) = true := beq_iff_eq.mpr c16
           have c16b1 : (t0.toList != ([] : List UInt8)) = false := bne_eq_false_iff_eq.mpr c16
           clear c16
           (first | rw [c16b0] | (simp only [i64_w, i32_w]; rw [c16b0]) | skip)
           have H' := asd_ H
           clear H
           go_wp2
           go_meet
           case rel => exact ⟨_, (false), r1_, H', ⟨by have := HJ2.out; have := HJ9.out; first | omega | exact Nat.le_refl _⟩, dr_⟩
          ·rw [if_neg c16] at H
           have c16b0 : (t0.toList == ([] : List UInt8)) = false := beq_eq_false_iff_ne.mpr c16
           have c16b1 : (t0.toList != ([] : List UInt8)) = true := bne_iff_ne.mpr c16
           (first | rw [c16b0] | (simp only [i64_w, i32_w]; rw [c16b0]) | skip)
           by_cases c17 : 0 < (t0.size : Int)
           ·rw [if_pos c17] at H
            have c17b0 : decide (0 < (t0.size : Int)) = true := decide_eq_true c17
            have c17b1 : decide (0 < t0.size) = true := decide_eq_true (by omega)
            clear c17
            have H' := asd_ H
            clear H
            have p18 : 0 ≤ (0 : Int) := (by omega)
            have q18 : 0 < t0.size := (by have : (0 : Int) < (t0.size : Int) := of_decide_eq_true as_; omega)
            have hx18 : ∀ h : 0 < t0.size, ((t0[0]'h).toNat : Int) = bt t0 0 := bt_at t0 0
            clear p18
            have qi18 : (0 < (t0.size : Int)) = True := eq_true (of_decide_eq_true as_)
            replace q18 := eq_true q18
            go_wp2
            go_meet
            case rel => exact ⟨_, (((bt t0 0) == 43)), r1_, H', ⟨by have := HJ2.out; have := HJ9.out; first | omega | exact Nat.le_refl _⟩, dr_⟩
           ·rw [if_neg c17] at H
            exact absurd H (by simp)
        case rest =>
         clear HC14
         obtain ⟨kq, x33_13, rfl, HA, HJ13, ⟨mc13, rfl⟩⟩ := hcut
         cases kq with
         | zero => exact absurd HA.out (by simp [spec_jExponent.j2])
         | succ kj13 =>
          have H := HA.out
          clear HA
          simp only [spec_jExponent.j2] at H
          have HC19 := asd_ H
          clear H
          go_upto_if 33 with (fail)
          go_cut [0] (fun v0 wc => ∃ (kq : Nat) (x0_18 : ByteArray), v0 = .string x0_18 ∧ Aside0 (spec_jExponent.j3 kq x0_18 x4_9 = some (r1, r2)) ∧ Aside0 (kq ≤ kj13) ∧ Drawn0 w wc)
          case first =>
           have H := HC19.out
           clear HC19
           by_cases c20 : x33_13 = true
           ·subst c20
            have H1 : (if 1 ≤ (t0.size : Int) then (spec_jExponent.j3 kj13 (t0.extract 1 t0.size) x4_9) else (none)) = some (r1, r2) := by rw [if_pos rfl] at H; exact H
            clear H
            have H := H1
            clear H1
            by_cases c21 : 1 ≤ (t0.size : Int)
            ·rw [if_pos c21] at H
             have c21b0 := eq_true c21
             have c21b1 : decide (1 ≤ (t0.size : Int)) = true := decide_eq_true c21
             clear c21
             have H' := asd_ H
             clear H
             go_wp2
             go_meet
             case rel => exact ⟨_, (t0.extract 1 t0.size), r1_, H', ⟨by have := HJ2.out; have := HJ9.out; have := HJ13.out; first | omega | exact Nat.le_refl _⟩, dr_⟩
            ·rw [if_neg c21] at H
             exact absurd H (by simp)
           ·replace c20 := Bool.eq_false_iff.mpr c20
            subst c20
            have H1 : (spec_jExponent.j3 kj13 t0 x4_9) = some (r1, r2) := by rw [if_neg (show ¬ (false = true) by decide)] at H; exact H
            clear H
            have H := H1
            clear H1
            have H' := asd_ H
            clear H
            go_wp2
            go_meet
            case rel => exact ⟨_, (t0), r1_, H', ⟨by have := HJ2.out; have := HJ9.out; have := HJ13.out; first | omega | exact Nat.le_refl _⟩, dr_⟩
          case rest =>
           clear HC19
           obtain ⟨kq, x0_18, rfl, HA, HJ18, ⟨mc18, rfl⟩⟩ := hcut
           cases kq with
           | zero => exact absurd HA.out (by simp [spec_jExponent.j3])
           | succ kj18 =>
            have H := HA.out
            clear HA
            simp only [spec_jExponent.j3] at H
            have HC22 := asd_ H
            clear H
            go_upto_region 9 with (fail)
            go_cut [43] (fun v43 wc => ∃ (kq : Nat) (x43_21 : Bool), v43 = .bool x43_21 ∧ Aside0 (spec_jExponent.j4 kq x0_18 x4_9 x43_21 = some (r1, r2)) ∧ Aside0 (kq ≤ kj18) ∧ Drawn0 w wc)
            case first =>
             have H := HC22.out
             clear HC22
             replace H := Option.bind_eq_some_iff.mp H
             obtain ⟨t113, A230, H⟩ := H
             replace H : (if t113 = true then (spec_jExponent.j4 kj18 x0_18 x4_9 (decide ((x0_18.size : Int) > 2))) else (spec_jExponent.j4 kj18 x0_18 x4_9 true)) = some (r1, r2) := H
             have A23 := asd_ A230
             clear A230
             by_cases c24 : t113 = true
             ·subst c24
              have H1 : (spec_jExponent.j4 kj18 x0_18 x4_9 (decide ((x0_18.size : Int) > 2))) = some (r1, r2) := by rw [if_pos rfl] at H; exact H
              clear H
              have H := H1
              clear H1
              have H' := asd_ H
              clear H
              go_wp2_with (first | ((with_reducible refine gate_callee (f := 85) rfl ?_); refine goesL_ (some 37) rfl rfl Tryz.func85 kr_ rfl #[.string x0_18] rfl ap_ ?_; (with_reducible refine (spec_jDigits.calls kj18 x0_18 true _ A23.out).mono ?_); rintro e w' ⟨rfl, ⟨nd, rfl⟩⟩; refine ⟨_, rfl, ?_⟩))
              go_meet
              case rel => exact ⟨_, (decide ((x0_18.size : Int) > 2)), r1_, H', ⟨by have := HJ2.out; have := HJ9.out; have := HJ13.out; have := HJ18.out; first | omega | exact Nat.le_refl _⟩, dr_⟩
             ·replace c24 := Bool.eq_false_iff.mpr c24
              subst c24
              have H1 : (spec_jExponent.j4 kj18 x0_18 x4_9 true) = some (r1, r2) := by rw [if_neg (show ¬ (false = true) by decide)] at H; exact H
              clear H
              have H := H1
              clear H1
              have H' := asd_ H
              clear H
              go_wp2_with (first | ((with_reducible refine gate_callee (f := 85) rfl ?_); refine goesL_ (some 37) rfl rfl Tryz.func85 kr_ rfl #[.string x0_18] rfl ap_ ?_; (with_reducible refine (spec_jDigits.calls kj18 x0_18 false _ A23.out).mono ?_); rintro e w' ⟨rfl, ⟨nd, rfl⟩⟩; refine ⟨_, rfl, ?_⟩))
              go_meet
              case rel => exact ⟨_, (true), r1_, H', ⟨by have := HJ2.out; have := HJ9.out; have := HJ13.out; have := HJ18.out; first | omega | exact Nat.le_refl _⟩, dr_⟩
            case rest =>
             clear HC22
             obtain ⟨kq, x43_21, rfl, HA, HJ21, ⟨mc21, rfl⟩⟩ := hcut
             cases kq with
             | zero => exact absurd HA.out (by simp [spec_jExponent.j4])
             | succ kj21 =>
              have H := HA.out
              clear HA
              simp only [spec_jExponent.j4] at H
              by_cases c25 : x43_21 = true
              ·subst c25
               have H1 : (some (0, false)) = some (r1, r2) := by rw [if_pos rfl] at H; exact H
               clear H
               have H := H1
               clear H1
               simp only [Option.some.injEq, Prod.mk.injEq] at H
               obtain ⟨rfl, rfl⟩ := H
               go_wp2
               go_ret2
               exact ⟨r1_, dr_⟩
              ·replace c25 := Bool.eq_false_iff.mpr c25
               subst c25
               have H1 : (if x4_9 = true then ((spec_jNumber.f kj21 x0_18).bind fun t114 => (some (wrap64 (-t114), true))) else ((spec_jNumber.f kj21 x0_18).bind fun t115 => (some (t115, true)))) = some (r1, r2) := by rw [if_neg (show ¬ (false = true) by decide)] at H; exact H
               clear H
               have H := H1
               clear H1
               by_cases c26 : x4_9 = true
               ·subst c26
                have H1 : ((spec_jNumber.f kj21 x0_18).bind fun t114 => (some (wrap64 (-t114), true))) = some (r1, r2) := by rw [if_pos rfl] at H; exact H
                clear H
                have H := H1
                clear H1
                replace H := Option.bind_eq_some_iff.mp H
                obtain ⟨t114, A270, H⟩ := H
                replace H : (some (wrap64 (-t114), true)) = some (r1, r2) := H
                have A27 := asd_ A270
                clear A270
                simp only [Option.some.injEq, Prod.mk.injEq] at H
                obtain ⟨rfl, rfl⟩ := H
                go_wp2_with (first | ((with_reducible refine gate_callee (f := 46) rfl ?_); refine goesL_ (some 46) rfl rfl Tryz.func46 kr_ rfl #[.string x0_18] rfl ap_ ?_; (with_reducible refine (spec_jNumber.calls kj21 x0_18 t114 _ A27.out).mono ?_); rintro e w' ⟨rfl, ⟨nd, rfl⟩⟩; refine ⟨_, rfl, ?_⟩))
                go_ret2
                exact ⟨r1_, dr_⟩
               ·replace c26 := Bool.eq_false_iff.mpr c26
                subst c26
                have H1 : ((spec_jNumber.f kj21 x0_18).bind fun t115 => (some (t115, true))) = some (r1, r2) := by rw [if_neg (show ¬ (false = true) by decide)] at H; exact H
                clear H
                have H := H1
                clear H1
                replace H := Option.bind_eq_some_iff.mp H
                obtain ⟨t115, A280, H⟩ := H
                replace H : (some (t115, true)) = some (r1, r2) := H
                have A28 := asd_ A280
                clear A280
                simp only [Option.some.injEq, Prod.mk.injEq] at H
                obtain ⟨rfl, rfl⟩ := H
                go_wp2_with (first | ((with_reducible refine gate_callee (f := 46) rfl ?_); refine goesL_ (some 49) rfl rfl Tryz.func46 kr_ rfl #[.string x0_18] rfl ap_ ?_; (with_reducible refine (spec_jNumber.calls kj21 x0_18 t115 _ A28.out).mono ?_); rintro e w' ⟨rfl, ⟨nd, rfl⟩⟩; refine ⟨_, rfl, ?_⟩))
                go_ret2
                exact ⟨r1_, dr_⟩
     ·rw [if_neg c9] at H
      exact absurd H (by simp)
def spec_jBare.l0 : Nat → ByteArray → Option (ByteArray)
 | 0, _ => none
 | k + 1, x0 => if x0.toList = ([] : List UInt8) then (some x0) else (if 0 < (x0.size : Int) then (if (bt x0 0) = 48 then (if 1 ≤ (x0.size : Int) then (spec_jBare.l0 k (x0.extract 1 x0.size)) else (none)) else (some x0)) else (none))
def spec_jBare.f (k : Nat) (a0 : ByteArray) : Option (ByteArray) := spec_jBare.l0 k a0
set_option maxHeartbeats 8000000 in
set_option maxRecDepth 100000 in
theorem spec_jBare.calls (k : Nat) (a0 : ByteArray) (r : ByteArray) (w : World) (h : spec_jBare.f k a0 = some r) :
  Calls Tryz.prog 128 #[.string a0] w fun e w' => e = .returned (.string r) ∧ Drawn0 w w' := by
 have H : (spec_jBare.l0 k a0) = some r := h
 clear h
 have H' := asd_ H
 clear H
 go_enter Tryz.func128, Tryz.ntmps128
 go_wp2
 go_loopg [0] k (fun kq v0 w' => ∃ (x0_1 : ByteArray), v0 = .string x0_1 ∧ Aside0 (spec_jBare.l0 kq x0_1 = some r) ∧ Aside0 (kq ≤ k) ∧ Drawn0 w w')
 case atStart => exact ⟨(a0), r1_, H', ⟨Nat.le_refl _⟩, dr_⟩
 case round =>
  clear H'
  obtain ⟨x0_1, rfl, HA, HK1, ⟨m1, rfl⟩⟩ := hrel
  cases gk with
  | zero => exact absurd HA.out (by simp [spec_jBare.l0])
  | succ k1 =>
   have H := HA.out
   clear HA
   simp only [spec_jBare.l0] at H
   by_cases c2 : x0_1.toList = ([] : List UInt8)
   ·rw [if_pos c2] at H
    have c2b0 : (x0_1.toList == ([] : List UInt8)) = true := beq_iff_eq.mpr c2
    have c2b1 : (x0_1.toList != ([] : List UInt8)) = false := bne_eq_false_iff_eq.mpr c2
    clear c2
    obtain rfl := Option.some.inj H
    go_wp2
    go_ret
    exact ⟨r1_, dr_⟩
   ·rw [if_neg c2] at H
    have c2b0 : (x0_1.toList == ([] : List UInt8)) = false := beq_eq_false_iff_ne.mpr c2
    have c2b1 : (x0_1.toList != ([] : List UInt8)) = true := bne_iff_ne.mpr c2
    by_cases c3 : 0 < (x0_1.size : Int)
    ·rw [if_pos c3] at H
     have c3b0 : decide (0 < (x0_1.size : Int)) = true := decide_eq_true c3
     have c3b1 : decide (0 < x0_1.size) = true := decide_eq_true (by omega)
     clear c3
     by_cases c5 : (bt x0_1 0) = 48
     ·rw [if_pos c5] at H
      have c5b0 : ((bt x0_1 0) == 48) = true := beq_iff_eq.mpr c5
      have c5b1 : ((bt x0_1 0) != 48) = false := bne_eq_false_iff_eq.mpr c5
      clear c5
      by_cases c6 : 1 ≤ (x0_1.size : Int)
      ·rw [if_pos c6] at H
       have c6b0 := eq_true c6
       have c6b1 : decide (1 ≤ (x0_1.size : Int)) = true := decide_eq_true c6
       clear c6
       have H' := asd_ H
       clear H
       have p4 : 0 ≤ (0 : Int) := (by omega)
       have q4 : 0 < x0_1.size := (by have : (0 : Int) < (x0_1.size : Int) := of_decide_eq_true as_; omega)
       have hx4 : ∀ h : 0 < x0_1.size, ((x0_1[0]'h).toNat : Int) = bt x0_1 0 := bt_at x0_1 0
       clear p4
       have qi4 : (0 < (x0_1.size : Int)) = True := eq_true (of_decide_eq_true as_)
       replace q4 := eq_true q4
       go_wp2
       go_roundg k1
       case measure => have := HK1.out; omega
       case rel => exact ⟨(x0_1.extract 1 x0_1.size), r1_, H', ⟨by have := HK1.out; omega⟩, dr_⟩
      ·rw [if_neg c6] at H
       exact absurd H (by simp)
     ·rw [if_neg c5] at H
      have c5b0 : ((bt x0_1 0) == 48) = false := beq_eq_false_iff_ne.mpr c5
      have c5b1 : ((bt x0_1 0) != 48) = true := bne_iff_ne.mpr c5
      obtain rfl := Option.some.inj H
      have p4 : 0 ≤ (0 : Int) := (by omega)
      have q4 : 0 < x0_1.size := (by have : (0 : Int) < (x0_1.size : Int) := of_decide_eq_true as_; omega)
      have hx4 : ∀ h : 0 < x0_1.size, ((x0_1[0]'h).toNat : Int) = bt x0_1 0 := bt_at x0_1 0
      clear p4
      have qi4 : (0 < (x0_1.size : Int)) = True := eq_true (of_decide_eq_true as_)
      replace q4 := eq_true q4
      go_wp2
      go_ret
      exact ⟨r1_, dr_⟩
    ·rw [if_neg c3] at H
     exact absurd H (by simp)
def spec_jLean.l0 : Nat → Bool → ByteArray → Int → Option (Bool × ByteArray × Int)
 | 0, _, _, _ => none
 | k + 1, x117000, x117001, x117002 => if x117001.toList = ([] : List UInt8) then (some (false, (⟨#[]⟩ : ByteArray), 0)) else (if 0 ≤ (wrap64 ((x117001.size : Int) - 1)) then (if (wrap64 ((x117001.size : Int) - 1)) < (x117001.size : Int) then (if (bt x117001 (wrap64 ((x117001.size : Int) - 1))) = 48 then (if (wrap64 ((x117001.size : Int) - 1)) ≤ (x117001.size : Int) then (spec_jLean.l0 k x117000 (x117001.extract 0 ((wrap64 ((x117001.size : Int) - 1)) : Int).toNat) (wrap64 (x117002 + 1))) else (none)) else (some (x117000, x117001, x117002))) else (none)) else (none))
def spec_jLean.f (k : Nat) (a0_0 : Bool) (a0_1 : ByteArray) (a0_2 : Int) : Option (Bool × ByteArray × Int) := (spec_jBare.f k a0_1).bind fun t118 => (spec_jLean.l0 k a0_0 t118 a0_2)
set_option maxHeartbeats 8000000 in
set_option maxRecDepth 100000 in
theorem spec_jLean.calls (k : Nat) (a0_0 : Bool) (a0_1 : ByteArray) (a0_2 : Int) (r1 : Bool) (r2 : ByteArray) (r3 : Int) (w : World) (h : spec_jLean.f k a0_0 a0_1 a0_2 = some (r1, r2, r3)) :
  Calls Tryz.prog 88 #[.agg #[.bool a0_0, .string a0_1, .int .i64 a0_2]] w fun e w' => e = .returned (.agg #[.bool r1, .string r2, .int .i64 r3]) ∧ Below w.heap.size w w' := by
 have hu100 := Tryz.underlying100
 have HB := asd_ (Below.refl w.heap.size w)
 have H : ((spec_jBare.f k a0_1).bind fun t118 => (spec_jLean.l0 k a0_0 t118 a0_2)) = some (r1, r2, r3) := h
 clear h
 replace H := Option.bind_eq_some_iff.mp H
 obtain ⟨t118, A20, H⟩ := H
 replace H : (spec_jLean.l0 k a0_0 t118 a0_2) = some (r1, r2, r3) := H
 have A2 := asd_ A20
 clear A20
 have H' := asd_ H
 clear H
 go_enter Tryz.func88, Tryz.ntmps88
 go_wp2_with (first | ((with_reducible refine gate_dst (N := 1) rfl ?_); (try (refine gate_guard (by rfl) ?_; dsimp only)); refine box_event ?hg (N := 1) ?hd (cs := #[.bool a0_0, .string a0_1, .int .i64 a0_2]) (t := 100) ?hr ?_; (case hd => rfl); (case hg => rfl); (case hr => first | (go_simp; done) | (go_simp; rfl)); intro gb116 hg w3 hbox hb; have n0_ := asd_ (below_step wb_ hb); have n1_ := asd_ (hbox); have n2_ := asd_ ((by rw [hg]; exact (below_size wb_) : w.heap.size ≤ gb116)); have n3_ := asd_ ((by rw [hg]; exact (below_size wb_) : w.heap.size ≤ gb116)); clear HB; have HB := n0_; have BK116 := n1_; have GW116 := n2_; have GE116 := n3_; clear n0_ n1_ n2_ n3_; clear hb hbox hg) | ((with_reducible refine gate_dst (N := 2) rfl ?_); (try (refine gate_guard (by rfl) ?_; dsimp only)); refine box_event ?hg (N := 2) ?hd (cs := #[.bool false, .string (⟨#[]⟩ : ByteArray), .int .i64 0]) (t := 100) ?hr ?_; (case hd => rfl); (case hg => rfl); (case hr => first | (go_simp; done) | (go_simp; rfl)); intro gb117 hg w4 hbox hb; have n0_ := asd_ (blk_below (g := gb116) (o := .cells #[.bool a0_0, .string a0_1, .int .i64 a0_2] 100 (0, 0)) bk_ hb); have n1_ := asd_ (below_step wb_ hb); have n2_ := asd_ (hbox); have n3_ := asd_ ((by rw [hg]; exact (below_size wb_) : w.heap.size ≤ gb117)); have n4_ := asd_ ((by rw [hg]; exact (below_size wb_) : w.heap.size ≤ gb117)); have n5_ := asd_ ((by rw [hg]; exact Nat.ne_of_lt (blk_lt (g := gb116) (o := .cells #[.bool a0_0, .string a0_1, .int .i64 a0_2] 100 (0, 0)) bk_) : gb116 ≠ gb117)); have n6_ := asd_ ((by rw [hg]; exact Nat.ne_of_gt (blk_lt (g := gb116) (o := .cells #[.bool a0_0, .string a0_1, .int .i64 a0_2] 100 (0, 0)) bk_) : gb117 ≠ gb116)); clear BK116; clear HB; have BK116 := n0_; have HB := n1_; have BK117 := n2_; have GW117 := n3_; have GE117 := n4_; have NB116_117 := n5_; have NB117_116 := n6_; clear n0_ n1_ n2_ n3_ n4_ n5_ n6_; clear hb hbox hg; have hnb5 := NB116_117.out; have hnc5 := NB117_116.out; have hcz6_0 := cz_ BK116.out 0; have hcz6_1 := cz_ BK116.out 1; have hcz6_2 := cz_ BK116.out 2; have hfz6_0 := blk_frozen BK116.out 0; have hfz6_1 := blk_frozen BK116.out 1; have hfz6_2 := blk_frozen BK116.out 2) | ((with_reducible refine gate_callee (f := 128) rfl ?_); refine goesL_ (some 5) rfl rfl Tryz.func128 kr_ rfl #[.string a0_1] rfl ap_ ?_; (with_reducible refine (spec_jBare.calls k a0_1 t118 _ A2.out).mono ?_); rintro e w' ⟨rfl, ⟨nd, rfl⟩⟩; refine ⟨_, rfl, ?_⟩; (try (rw [drewN_self w4]; generalize hq_ : World.drewN w4 _ = w4; have n0_ : Aside0 (w4.heap[gb116]? = some (.cells #[.bool a0_0, .string a0_1, .int .i64 a0_2] 100 (0, 0))) := ⟨by rw [← hq_]; exact bk_⟩; have n1_ : Aside0 (w4.heap[gb117]? = some (.cells #[.bool false, .string (⟨#[]⟩ : ByteArray), .int .i64 0] 100 (0, 0))) := ⟨by rw [← hq_]; exact bk_⟩; have n2_ : Aside0 (Below w.heap.size w w4) := ⟨by rw [← hq_]; exact wb_⟩; clear BK116 BK117 HB hq_; have BK116 := n0_; have BK117 := n1_; have HB := n2_; clear n0_ n1_ n2_; have hqc116 := fun j => blk_cell BK116.out j; have hqf116 := fun j => blk_frozen BK116.out j; have hqc117 := fun j => blk_cell BK117.out j; have hqf117 := fun j => blk_frozen BK117.out j))))
 go_loopg [] k (fun kq w' => ∃ (x117001_1 : ByteArray) (x117002_1 : Int), Aside0 (spec_jLean.l0 kq a0_0 x117001_1 x117002_1 = some (r1, r2, r3)) ∧ Aside0 (kq ≤ k) ∧ Aside0 (w'.heap[gb116]? = some (.cells #[.bool a0_0, .string x117001_1, .int .i64 x117002_1] 100 (0, 0))) ∧ Aside0 (w'.heap[gb117]? = some (.cells #[.bool false, .string (⟨#[]⟩ : ByteArray), .int .i64 0] 100 (0, 0))) ∧ Aside0 (Below w.heap.size w w'))
 case atStart => exact ⟨(t118), (a0_2), H', ⟨Nat.le_refl _⟩, ⟨by (with_reducible repeat (first | refine blk_drewN ?_ _ | refine blk_drew ?_ | refine blk_alloc ?_ _)); refine blk_put (cs := #[.bool a0_0, .string a0_1, .int .i64 a0_2]) ?_ 1 _ rfl; (with_reducible repeat (first | refine blk_drewN ?_ _ | refine blk_drew ?_ | refine blk_alloc ?_ _)); exact BK116.out⟩, ⟨by (with_reducible repeat (first | refine blk_drewN ?_ _ | refine blk_drew ?_ | refine blk_alloc ?_ _)); refine blk_far ?_ NB117_116.out _; (with_reducible repeat (first | refine blk_drewN ?_ _ | refine blk_drew ?_ | refine blk_alloc ?_ _)); exact BK117.out⟩, ⟨wb_⟩⟩
 case round =>
  clear H'
  obtain ⟨x117001_1, x117002_1, HA, HK1, BK116, BK117, HB⟩ := hrel
  cases gk with
  | zero => exact absurd HA.out (by simp [spec_jLean.l0])
  | succ k1 =>
   have H := HA.out
   clear HA
   simp only [spec_jLean.l0] at H
   by_cases c7 : x117001_1.toList = ([] : List UInt8)
   ·rw [if_pos c7] at H
    have c7b0 : (x117001_1.toList == ([] : List UInt8)) = true := beq_iff_eq.mpr c7
    have c7b1 : (x117001_1.toList != ([] : List UInt8)) = false := bne_eq_false_iff_eq.mpr c7
    clear c7
    simp only [Option.some.injEq, Prod.mk.injEq] at H
    obtain ⟨rfl, rfl, rfl⟩ := H
    have hnb8 := NB116_117.out
    have hnc8 := NB117_116.out
    have hcz9_0 := cz_ BK116.out 0
    have hcz9_1 := cz_ BK116.out 1
    have hcz9_2 := cz_ BK116.out 2
    have hfz9_0 := blk_frozen BK116.out 0
    have hfz9_1 := blk_frozen BK116.out 1
    have hfz9_2 := blk_frozen BK116.out 2
    have hcz10_0 := cz_ BK117.out 0
    have hcz10_1 := cz_ BK117.out 1
    have hcz10_2 := cz_ BK117.out 2
    have hfz10_0 := blk_frozen BK117.out 0
    have hfz10_1 := blk_frozen BK117.out 1
    have hfz10_2 := blk_frozen BK117.out 2
    go_wp2
    refine bodyPost_ret (results_cell_row rfl _ _ gb117 100 #[.bool false, .string (⟨#[]⟩ : ByteArray), .int .i64 0] (0, 0) _ rfl (by (with_reducible repeat (first | refine blk_drewN ?_ _ | refine blk_drew ?_ | refine blk_alloc ?_ _)); refine blk_put (cs := #[.bool false, .string (⟨#[]⟩ : ByteArray), .int .i64 0]) ?_ 2 _ rfl; (with_reducible repeat (first | refine blk_drewN ?_ _ | refine blk_drew ?_ | refine blk_alloc ?_ _)); refine blk_put (cs := #[.bool false, .string (⟨#[]⟩ : ByteArray), .int .i64 0]) ?_ 1 _ rfl; (with_reducible repeat (first | refine blk_drewN ?_ _ | refine blk_drew ?_ | refine blk_alloc ?_ _)); refine blk_put (cs := #[.bool false, .string (⟨#[]⟩ : ByteArray), .int .i64 0]) ?_ 0 _ rfl; (with_reducible repeat (first | refine blk_drewN ?_ _ | refine blk_drew ?_ | refine blk_alloc ?_ _)); exact BK117.out) Tryz.underlying100 rfl kr_) rfl ?_
    exact ⟨er_, wb_⟩
   ·rw [if_neg c7] at H
    have c7b0 : (x117001_1.toList == ([] : List UInt8)) = false := beq_eq_false_iff_ne.mpr c7
    have c7b1 : (x117001_1.toList != ([] : List UInt8)) = true := bne_iff_ne.mpr c7
    obtain ⟨ji11, hji11⟩ : ∃ j_ : Int, (wrap64 ((x117001_1.size : Int) - 1)) = j_ := ⟨_, rfl⟩
    replace H : (if 0 ≤ (ji11) then (if (ji11) < (x117001_1.size : Int) then (if (bt x117001_1 (ji11)) = 48 then (if (ji11) ≤ (x117001_1.size : Int) then (spec_jLean.l0 k1 a0_0 (x117001_1.extract 0 ((ji11) : Int).toNat) (wrap64 (x117002_1 + 1))) else (none)) else (some (a0_0, x117001_1, x117002_1))) else (none)) else (none)) = some (r1, r2, r3) := by first | (rw [hji11] at H; exact H) | (simp only [hji11] at H ⊢; exact H)
    have hji11w : (IntKind.i64.wrap ((x117001_1.size : Int) - 1)) = ji11 := (i64_w _).trans hji11
    by_cases c12 : 0 ≤ (ji11)
    ·rw [if_pos c12] at H
     have c12b0 : decide (0 ≤ (ji11)) = true := decide_eq_true c12
     clear c12
     by_cases c13 : (ji11) < (x117001_1.size : Int)
     ·rw [if_pos c13] at H
      have c13b0 : decide ((ji11) < (x117001_1.size : Int)) = true := decide_eq_true c13
      clear c13
      by_cases c15 : (bt x117001_1 (ji11)) = 48
      ·rw [if_pos c15] at H
       have c15b0 : ((bt x117001_1 (ji11)) == 48) = true := beq_iff_eq.mpr c15
       have c15b1 : ((bt x117001_1 (ji11)) != 48) = false := bne_eq_false_iff_eq.mpr c15
       clear c15
       have c16b0 := eq_true (of_decide_eq_true as_ : 0 ≤ (ji11))
       by_cases c17 : (ji11) ≤ (x117001_1.size : Int)
       ·rw [if_pos c17] at H
        have c17b0 := eq_true c17
        have c17b1 : decide ((ji11) ≤ (x117001_1.size : Int)) = true := decide_eq_true c17
        clear c17
        have H' := asd_ H
        clear H
        have hnb18 := NB116_117.out
        have hnc18 := NB117_116.out
        have hcz19_0 := cz_ BK116.out 0
        have hcz19_1 := cz_ BK116.out 1
        have hcz19_2 := cz_ BK116.out 2
        have hfz19_0 := blk_frozen BK116.out 0
        have hfz19_1 := blk_frozen BK116.out 1
        have hfz19_2 := blk_frozen BK116.out 2
        have p14 : 0 ≤ ((ji11) : Int) := of_decide_eq_true as_
        have q14 : (ji11) < (x117001_1.size : Int) := of_decide_eq_true as_
        have hx14 := bt_at x117001_1 (ji11)
        replace p14 := eq_true p14
        replace q14 := eq_true q14
        go_wp2
        go_roundg k1
        case measure => have := HK1.out; omega
        case rel => exact ⟨(x117001_1.extract 0 ((ji11) : Int).toNat), (wrap64 (x117002_1 + 1)), H', ⟨by have := HK1.out; omega⟩, ⟨by (with_reducible repeat (first | refine blk_drewN ?_ _ | refine blk_drew ?_ | refine blk_alloc ?_ _)); refine blk_put (cs := #[.bool a0_0, .string (x117001_1.extract 0 ((ji11) : Int).toNat), .int .i64 x117002_1]) ?_ 2 _ rfl; (with_reducible repeat (first | refine blk_drewN ?_ _ | refine blk_drew ?_ | refine blk_alloc ?_ _)); refine blk_put (cs := #[.bool a0_0, .string x117001_1, .int .i64 x117002_1]) ?_ 1 _ rfl; (with_reducible repeat (first | refine blk_drewN ?_ _ | refine blk_drew ?_ | refine blk_alloc ?_ _)); exact BK116.out⟩, ⟨by (with_reducible repeat (first | refine blk_drewN ?_ _ | refine blk_drew ?_ | refine blk_alloc ?_ _)); refine blk_far ?_ NB117_116.out _; (with_reducible repeat (first | refine blk_drewN ?_ _ | refine blk_drew ?_ | refine blk_alloc ?_ _)); refine blk_far ?_ NB117_116.out _; (with_reducible repeat (first | refine blk_drewN ?_ _ | refine blk_drew ?_ | refine blk_alloc ?_ _)); exact BK117.out⟩, ⟨wb_⟩⟩
       ·rw [if_neg c17] at H
        exact absurd H (by simp)
      ·rw [if_neg c15] at H
       have c15b0 : ((bt x117001_1 (ji11)) == 48) = false := beq_eq_false_iff_ne.mpr c15
       have c15b1 : ((bt x117001_1 (ji11)) != 48) = true := bne_iff_ne.mpr c15
       simp only [Option.some.injEq, Prod.mk.injEq] at H
       obtain ⟨rfl, rfl, rfl⟩ := H
       have hnb20 := NB116_117.out
       have hnc20 := NB117_116.out
       have hcz21_0 := cz_ BK116.out 0
       have hcz21_1 := cz_ BK116.out 1
       have hcz21_2 := cz_ BK116.out 2
       have hfz21_0 := blk_frozen BK116.out 0
       have hfz21_1 := blk_frozen BK116.out 1
       have hfz21_2 := blk_frozen BK116.out 2
       have p14 : 0 ≤ ((ji11) : Int) := of_decide_eq_true as_
       have q14 : (ji11) < (x117001_1.size : Int) := of_decide_eq_true as_
       have hx14 := bt_at x117001_1 (ji11)
       replace p14 := eq_true p14
       replace q14 := eq_true q14
       have hcz22_0 := cz_ BK117.out 0
       have hcz22_1 := cz_ BK117.out 1
       have hcz22_2 := cz_ BK117.out 2
       have hfz22_0 := blk_frozen BK117.out 0
       have hfz22_1 := blk_frozen BK117.out 1
       have hfz22_2 := blk_frozen BK117.out 2
       go_wp2
       refine bodyPost_ret (results_cell_row rfl _ _ gb117 100 #[.bool a0_0, .string x117001_1, .int .i64 x117002_1] (0, 0) _ rfl (by (with_reducible repeat (first | refine blk_drewN ?_ _ | refine blk_drew ?_ | refine blk_alloc ?_ _)); refine blk_put (cs := #[.bool a0_0, .string x117001_1, .int .i64 0]) ?_ 2 _ rfl; (with_reducible repeat (first | refine blk_drewN ?_ _ | refine blk_drew ?_ | refine blk_alloc ?_ _)); refine blk_put (cs := #[.bool a0_0, .string (⟨#[]⟩ : ByteArray), .int .i64 0]) ?_ 1 _ rfl; (with_reducible repeat (first | refine blk_drewN ?_ _ | refine blk_drew ?_ | refine blk_alloc ?_ _)); refine blk_put (cs := #[.bool false, .string (⟨#[]⟩ : ByteArray), .int .i64 0]) ?_ 0 _ rfl; (with_reducible repeat (first | refine blk_drewN ?_ _ | refine blk_drew ?_ | refine blk_alloc ?_ _)); exact BK117.out) Tryz.underlying100 rfl kr_) rfl ?_
       exact ⟨by first | rfl | (simp [errW_none, errW_some] <;> rfl) | (simp only [← hji11]; first | rfl | (simp [errW_none, errW_some] <;> rfl)) | (simp [*, errW_none, errW_some] <;> rfl), wb_⟩
     ·rw [if_neg c13] at H
      exact absurd H (by simp)
    ·rw [if_neg c12] at H
     exact absurd H (by simp)
mutual
def spec_jDecimalOf.j0 : Nat → ByteArray → Int → Bool → Option (Bool × ByteArray × Int × Bool)
 | 0, _, _, _ => none
 | k + 1, x0, x4, x20 => if x20 = true then (spec_jDecimalOf.j1 k x0 1) else (spec_jDecimalOf.j1 k x0 x4)
def spec_jDecimalOf.j1 : Nat → ByteArray → Int → Option (Bool × ByteArray × Int × Bool)
 | 0, _, _ => none
 | k + 1, x0, x4 => (spec_jRun.f k x0 x4).bind fun t120 => (if 0 ≤ x4 then (if x4 ≤ t120 then (if t120 ≤ (x0.size : Int) then ((spec_jPlain.f k (x0.extract (x4 : Int).toNat (t120 : Int).toNat)).bind fun t121 => (if t121 = true then (if t120 < (x0.size : Int) then (if 0 ≤ t120 then (spec_jDecimalOf.j2 k x0 x4 t120 t120 ((bt x0 t120) == 46)) else (none)) else (spec_jDecimalOf.j2 k x0 x4 t120 t120 false)) else (some (false, (⟨#[]⟩ : ByteArray), 0, false)))) else (none)) else (none)) else (none))
def spec_jDecimalOf.j2 : Nat → ByteArray → Int → Int → Int → Bool → Option (Bool × ByteArray × Int × Bool)
 | 0, _, _, _, _, _ => none
 | k + 1, x0, x4, x5, x6, x41 => if x41 = true then ((spec_jRun.f k x0 (wrap64 (x5 + 1))).bind fun t122 => (if t122 = (wrap64 (x5 + 1)) then (some (false, (⟨#[]⟩ : ByteArray), 0, false)) else (spec_jDecimalOf.j3 k x0 x4 x5 t122))) else (spec_jDecimalOf.j3 k x0 x4 x5 x6)
def spec_jDecimalOf.j3 : Nat → ByteArray → Int → Int → Int → Option (Bool × ByteArray × Int × Bool)
 | 0, _, _, _, _ => none
 | k + 1, x0, x4, x5, x6 => if 0 ≤ x6 then (if x6 ≤ (x0.size : Int) then ((spec_jExponent.f k (x0.extract (x6 : Int).toNat x0.size)).bind fun bt123 => (if bt123.2 = true then (if 0 ≤ x4 then (if x4 ≤ x5 then (if x5 ≤ (x0.size : Int) then (if x6 > x5 then (if 0 ≤ (wrap64 (x5 + 1)) then (if (wrap64 (x5 + 1)) ≤ x6 then (if (x0.extract (x4 : Int).toNat (x5 : Int).toNat).size + (x0.extract ((wrap64 (x5 + 1)) : Int).toNat (x6 : Int).toNat).size ≤ 9223372036854775807 then ((spec_jLean.f k (x4 == 1) ((x0.extract (x4 : Int).toNat (x5 : Int).toNat) ++ (x0.extract ((wrap64 (x5 + 1)) : Int).toNat (x6 : Int).toNat)) (wrap64 (bt123.1 - (wrap64 ((wrap64 (x6 - x5)) - 1))))).bind fun bt125 => (some (bt125.1, bt125.2.1, bt125.2.2, true))) else (none)) else (none)) else (none)) else ((spec_jLean.f k (x4 == 1) (x0.extract (x4 : Int).toNat (x5 : Int).toNat) bt123.1).bind fun bt128 => (some (bt128.1, bt128.2.1, bt128.2.2, true)))) else (none)) else (none)) else (none)) else (some (false, (⟨#[]⟩ : ByteArray), 0, false)))) else (none)) else (none)
end
def spec_jDecimalOf.f (k : Nat) (a0 : ByteArray) : Option (Bool × ByteArray × Int × Bool) := if (a0.size : Int) > 40 then (some (false, (⟨#[]⟩ : ByteArray), 0, false)) else (if a0.toList = ([] : List UInt8) then (spec_jDecimalOf.j0 k a0 0 false) else (if 0 < (a0.size : Int) then (spec_jDecimalOf.j0 k a0 0 ((bt a0 0) == 45)) else (none)))
set_option maxHeartbeats 8000000 in
set_option maxRecDepth 100000 in
theorem spec_jDecimalOf.calls (k : Nat) (a0 : ByteArray) (r1 : Bool) (r2 : ByteArray) (r3 : Int) (r4 : Bool) (w : World) (h : spec_jDecimalOf.f k a0 = some (r1, r2, r3, r4)) :
  Calls Tryz.prog 48 #[.string a0] w fun e w' => e = .returned (.tuple #[.agg #[.bool r1, .string r2, .int .i64 r3], .bool r4]) ∧ Below w.heap.size w w' := by
 have hu100 := Tryz.underlying100
 have HB := asd_ (Below.refl w.heap.size w)
 have H : (if (a0.size : Int) > 40 then (some (false, (⟨#[]⟩ : ByteArray), 0, false)) else (if a0.toList = ([] : List UInt8) then (spec_jDecimalOf.j0 k a0 0 false) else (if 0 < (a0.size : Int) then (spec_jDecimalOf.j0 k a0 0 ((bt a0 0) == 45)) else (none)))) = some (r1, r2, r3, r4) := h
 clear h
 by_cases c2 : (a0.size : Int) > 40
 ·rw [if_pos c2] at H
  have c2b0 : decide (40 < (a0.size : Int)) = true := decide_eq_true c2
  have c2b1 : decide (40 < a0.size) = true := decide_eq_true (by omega)
  clear c2
  simp only [Option.some.injEq, Prod.mk.injEq] at H
  obtain ⟨rfl, rfl, rfl, rfl⟩ := H
  go_enter Tryz.func48, Tryz.ntmps48
  go_wp2_with (first | ((with_reducible refine gate_dst (N := 2) rfl ?_); refine box_event ?hg (N := 2) ?hd (cs := #[.bool false, .string (⟨#[]⟩ : ByteArray), .int .i64 0]) (t := 100) ?hr ?_; (case hd => rfl); (case hg => rfl); (case hr => first | (go_simp; done) | (go_simp; rfl)); intro gb119 hg w3 hbox hb; have n0_ := asd_ (below_step wb_ hb); have n1_ := asd_ (hbox); have n2_ := asd_ ((by rw [hg]; exact (below_size wb_) : w.heap.size ≤ gb119)); have n3_ := asd_ ((by rw [hg]; exact (below_size wb_) : w.heap.size ≤ gb119)); clear HB; have HB := n0_; have BK119 := n1_; have GW119 := n2_; have GE119 := n3_; clear n0_ n1_ n2_ n3_; clear hb hbox hg; have hcz4_0 := cz_ BK119.out 0; have hcz4_1 := cz_ BK119.out 1; have hcz4_2 := cz_ BK119.out 2; have hfz4_0 := blk_frozen BK119.out 0; have hfz4_1 := blk_frozen BK119.out 1; have hfz4_2 := blk_frozen BK119.out 2))
  refine bodyPost_ret (results_ct rfl _ _ gb119 100 #[.bool false, .string (⟨#[]⟩ : ByteArray), .int .i64 0] (0, 0) _ rfl (by (with_reducible repeat (first | refine blk_drewN ?_ _ | refine blk_drew ?_ | refine blk_alloc ?_ _)); refine blk_put (cs := #[.bool false, .string (⟨#[]⟩ : ByteArray), .int .i64 0]) ?_ 2 _ rfl; (with_reducible repeat (first | refine blk_drewN ?_ _ | refine blk_drew ?_ | refine blk_alloc ?_ _)); refine blk_put (cs := #[.bool false, .string (⟨#[]⟩ : ByteArray), .int .i64 0]) ?_ 1 _ rfl; (with_reducible repeat (first | refine blk_drewN ?_ _ | refine blk_drew ?_ | refine blk_alloc ?_ _)); refine blk_put (cs := #[.bool false, .string (⟨#[]⟩ : ByteArray), .int .i64 0]) ?_ 0 _ rfl; (with_reducible repeat (first | refine blk_drewN ?_ _ | refine blk_drew ?_ | refine blk_alloc ?_ _)); exact BK119.out) Tryz.underlying100 rfl kr_) rfl ?_
  exact ⟨er_, wb_⟩
 ·rw [if_neg c2] at H
  have c2b0 : decide (40 < (a0.size : Int)) = false := decide_eq_false c2
  have c2b1 : decide (40 < a0.size) = false := decide_eq_false (by omega)
  clear c2
  have HC5 := asd_ H
  clear H
  go_enter Tryz.func48, Tryz.ntmps48
  go_upto_region 4 with (first | ((with_reducible refine gate_dst (N := 2) rfl ?_); refine box_event ?hg (N := 2) ?hd (cs := #[.bool false, .string (⟨#[]⟩ : ByteArray), .int .i64 0]) (t := 100) ?hr ?_; (case hd => rfl); (case hg => rfl); (case hr => first | (go_simp; done) | (go_simp; rfl)); intro gb119 hg w6 hbox hb; have n0_ := asd_ (below_step wb_ hb); have n1_ := asd_ (hbox); have n2_ := asd_ ((by rw [hg]; exact (below_size wb_) : w.heap.size ≤ gb119)); have n3_ := asd_ ((by rw [hg]; exact (below_size wb_) : w.heap.size ≤ gb119)); clear HB; have HB := n0_; have BK119 := n1_; have GW119 := n2_; have GE119 := n3_; clear n0_ n1_ n2_ n3_; clear hb hbox hg))
  (try simp only [Act.put, List.setIfInBounds_toArray, List.set_cons_zero, List.set_cons_succ])
  go_cut [20] (fun v20 wc => ∃ (kq : Nat) (x20_4 : Bool), v20 = .bool x20_4 ∧ Aside0 (spec_jDecimalOf.j0 kq a0 0 x20_4 = some (r1, r2, r3, r4)) ∧ Aside0 (kq ≤ k) ∧ Aside0 (wc.heap[gb119]? = some (.cells #[.bool false, .string (⟨#[]⟩ : ByteArray), .int .i64 0] 100 (0, 0))) ∧ Aside0 (Below w.heap.size w wc))
  case first =>
   have H := HC5.out
   clear HC5
   by_cases c7 : a0.toList = ([] : List UInt8)
   ·rw [if_pos c7] at H
    have c7b0 : (a0.toList == ([] : List UInt8)) = true := beq_iff_eq.mpr c7
    have c7b1 : (a0.toList != ([] : List UInt8)) = false := bne_eq_false_iff_eq.mpr c7
    clear c7
    (first | rw [c7b0] | (simp only [i64_w, i32_w]; rw [c7b0]) | skip)
    have H' := asd_ H
    clear H
    go_wp2
    go_meet
    case rel => exact ⟨_, (false), r1_, H', ⟨by first | omega | exact Nat.le_refl _⟩, ⟨bk_⟩, ⟨wb_⟩⟩
   ·rw [if_neg c7] at H
    have c7b0 : (a0.toList == ([] : List UInt8)) = false := beq_eq_false_iff_ne.mpr c7
    have c7b1 : (a0.toList != ([] : List UInt8)) = true := bne_iff_ne.mpr c7
    (first | rw [c7b0] | (simp only [i64_w, i32_w]; rw [c7b0]) | skip)
    by_cases c8 : 0 < (a0.size : Int)
    ·rw [if_pos c8] at H
     have c8b0 : decide (0 < (a0.size : Int)) = true := decide_eq_true c8
     have c8b1 : decide (0 < a0.size) = true := decide_eq_true (by omega)
     clear c8
     have H' := asd_ H
     clear H
     have p9 : 0 ≤ (0 : Int) := (by omega)
     have q9 : 0 < a0.size := (by have : (0 : Int) < (a0.size : Int) := of_decide_eq_true as_; omega)
     have hx9 : ∀ h : 0 < a0.size, ((a0[0]'h).toNat : Int) = bt a0 0 := bt_at a0 0
     clear p9
     have qi9 : (0 < (a0.size : Int)) = True := eq_true (of_decide_eq_true as_)
     replace q9 := eq_true q9
     go_wp2
     go_meet
     case rel => exact ⟨_, (((bt a0 0) == 45)), r1_, H', ⟨by first | omega | exact Nat.le_refl _⟩, ⟨bk_⟩, ⟨wb_⟩⟩
    ·rw [if_neg c8] at H
     exact absurd H (by simp)
  case rest =>
   clear HC5
   obtain ⟨kq, x20_4, rfl, HA, HJ4, BK119, HB⟩ := hcut
   cases kq with
   | zero => exact absurd HA.out (by simp [spec_jDecimalOf.j0])
   | succ kj4 =>
    have H := HA.out
    clear HA
    simp only [spec_jDecimalOf.j0] at H
    have HC10 := asd_ H
    clear H
    go_upto_if 20 with (fail)
    go_cut [4] (fun v4 wc => ∃ (kq : Nat) (x4_9 : Int), v4 = .int .i64 x4_9 ∧ Aside0 (spec_jDecimalOf.j1 kq a0 x4_9 = some (r1, r2, r3, r4)) ∧ Aside0 (kq ≤ kj4) ∧ Aside0 (wc.heap[gb119]? = some (.cells #[.bool false, .string (⟨#[]⟩ : ByteArray), .int .i64 0] 100 (0, 0))) ∧ Aside0 (Below w.heap.size w wc))
    case first =>
     have H := HC10.out
     clear HC10
     by_cases c11 : x20_4 = true
     ·subst c11
      have H1 : (spec_jDecimalOf.j1 kj4 a0 1) = some (r1, r2, r3, r4) := by rw [if_pos rfl] at H; exact H
      clear H
      have H := H1
      clear H1
      have H' := asd_ H
      clear H
      go_wp2
      go_meet
      case rel => exact ⟨_, (1), r1_, H', ⟨by have := HJ4.out; first | omega | exact Nat.le_refl _⟩, ⟨bk_⟩, ⟨wb_⟩⟩
     ·replace c11 := Bool.eq_false_iff.mpr c11
      subst c11
      have H1 : (spec_jDecimalOf.j1 kj4 a0 0) = some (r1, r2, r3, r4) := by rw [if_neg (show ¬ (false = true) by decide)] at H; exact H
      clear H
      have H := H1
      clear H1
      have H' := asd_ H
      clear H
      go_wp2
      go_meet
      case rel => exact ⟨_, (0), r1_, H', ⟨by have := HJ4.out; first | omega | exact Nat.le_refl _⟩, ⟨bk_⟩, ⟨wb_⟩⟩
    case rest =>
     clear HC10
     obtain ⟨kq, x4_9, rfl, HA, HJ9, BK119, HB⟩ := hcut
     cases kq with
     | zero => exact absurd HA.out (by simp [spec_jDecimalOf.j1])
     | succ kj9 =>
      have H := HA.out
      clear HA
      simp only [spec_jDecimalOf.j1] at H
      replace H := Option.bind_eq_some_iff.mp H
      obtain ⟨t120, A120, H⟩ := H
      replace H : (if 0 ≤ x4_9 then (if x4_9 ≤ t120 then (if t120 ≤ (a0.size : Int) then ((spec_jPlain.f kj9 (a0.extract (x4_9 : Int).toNat (t120 : Int).toNat)).bind fun t121 => (if t121 = true then (if t120 < (a0.size : Int) then (if 0 ≤ t120 then (spec_jDecimalOf.j2 kj9 a0 x4_9 t120 t120 ((bt a0 t120) == 46)) else (none)) else (spec_jDecimalOf.j2 kj9 a0 x4_9 t120 t120 false)) else (some (false, (⟨#[]⟩ : ByteArray), 0, false)))) else (none)) else (none)) else (none)) = some (r1, r2, r3, r4) := H
      have A12 := asd_ A120
      clear A120
      by_cases c13 : 0 ≤ x4_9
      ·rw [if_pos c13] at H
       have c13b0 := eq_true c13
       have c13b1 : decide (0 ≤ x4_9) = true := decide_eq_true c13
       clear c13
       by_cases c14 : x4_9 ≤ t120
       ·rw [if_pos c14] at H
        have c14b0 := eq_true c14
        have c14b1 : decide (x4_9 ≤ t120) = true := decide_eq_true c14
        clear c14
        by_cases c15 : t120 ≤ (a0.size : Int)
        ·rw [if_pos c15] at H
         have c15b0 := eq_true c15
         have c15b1 : decide (t120 ≤ (a0.size : Int)) = true := decide_eq_true c15
         clear c15
         replace H := Option.bind_eq_some_iff.mp H
         obtain ⟨t121, A160, H⟩ := H
         replace H : (if t121 = true then (if t120 < (a0.size : Int) then (if 0 ≤ t120 then (spec_jDecimalOf.j2 kj9 a0 x4_9 t120 t120 ((bt a0 t120) == 46)) else (none)) else (spec_jDecimalOf.j2 kj9 a0 x4_9 t120 t120 false)) else (some (false, (⟨#[]⟩ : ByteArray), 0, false))) = some (r1, r2, r3, r4) := H
         have A16 := asd_ A160
         clear A160
         by_cases c17 : t121 = true
         ·subst c17
          have H1 : (if t120 < (a0.size : Int) then (if 0 ≤ t120 then (spec_jDecimalOf.j2 kj9 a0 x4_9 t120 t120 ((bt a0 t120) == 46)) else (none)) else (spec_jDecimalOf.j2 kj9 a0 x4_9 t120 t120 false)) = some (r1, r2, r3, r4) := by rw [if_pos rfl] at H; exact H
          clear H
          have H := H1
          clear H1
          have HC18 := asd_ H
          clear H
          go_upto_region 10 with (first | ((with_reducible refine gate_callee (f := 86) rfl ?_); refine goesL_ (some 23) rfl rfl Tryz.func86 kr_ rfl #[.string a0, .int .i64 x4_9] rfl ap_ ?_; (with_reducible refine (spec_jRun.calls kj9 a0 x4_9 t120 _ A12.out).mono ?_); rintro e w' ⟨rfl, ⟨nd, rfl⟩⟩; refine ⟨_, rfl, ?_⟩) | ((with_reducible refine gate_callee (f := 45) rfl ?_); refine goesL_ (some 28) rfl rfl Tryz.func45 kr_ rfl #[.string (a0.extract (x4_9 : Int).toNat (t120 : Int).toNat)] rfl ap_ ?_; (with_reducible refine (spec_jPlain.calls kj9 (a0.extract (x4_9 : Int).toNat (t120 : Int).toNat) true _ A16.out).mono ?_); rintro e w' ⟨rfl, ⟨nd, rfl⟩⟩; refine ⟨_, rfl, ?_⟩))
          (try simp only [Act.put, List.setIfInBounds_toArray, List.set_cons_zero, List.set_cons_succ])
          go_cut [41] (fun v41 wc => ∃ (kq : Nat) (x41_17 : Bool), v41 = .bool x41_17 ∧ Aside0 (spec_jDecimalOf.j2 kq a0 x4_9 t120 t120 x41_17 = some (r1, r2, r3, r4)) ∧ Aside0 (kq ≤ kj9) ∧ Aside0 (wc.heap[gb119]? = some (.cells #[.bool false, .string (⟨#[]⟩ : ByteArray), .int .i64 0] 100 (0, 0))) ∧ Aside0 (Below w.heap.size w wc))
          case first =>
           have H := HC18.out
           clear HC18
           by_cases c19 : t120 < (a0.size : Int)
           ·rw [if_pos c19] at H
            have c19b0 : decide (t120 < (a0.size : Int)) = true := decide_eq_true c19
            clear c19
            (first | rw [c19b0] | (simp only [i64_w, i32_w]; rw [c19b0]) | skip)
            by_cases c20 : 0 ≤ t120
            ·rw [if_pos c20] at H
             have c20b0 : decide (0 ≤ t120) = true := decide_eq_true c20
             clear c20
             have H' := asd_ H
             clear H
             have p21 : 0 ≤ (t120 : Int) := of_decide_eq_true as_
             have q21 : t120 < (a0.size : Int) := of_decide_eq_true as_
             have hx21 := bt_at a0 t120
             replace p21 := eq_true p21
             replace q21 := eq_true q21
             go_wp2
             go_meet
             case rel => exact ⟨_, (((bt a0 t120) == 46)), r1_, H', ⟨by have := HJ4.out; have := HJ9.out; first | omega | exact Nat.le_refl _⟩, ⟨bk_⟩, ⟨wb_⟩⟩
            ·rw [if_neg c20] at H
             exact absurd H (by simp)
           ·rw [if_neg c19] at H
            have c19b0 : decide (t120 < (a0.size : Int)) = false := decide_eq_false c19
            clear c19
            (first | rw [c19b0] | (simp only [i64_w, i32_w]; rw [c19b0]) | skip)
            have H' := asd_ H
            clear H
            go_wp2
            go_meet
            case rel => exact ⟨_, (false), r1_, H', ⟨by have := HJ4.out; have := HJ9.out; first | omega | exact Nat.le_refl _⟩, ⟨bk_⟩, ⟨wb_⟩⟩
          case rest =>
           clear HC18
           obtain ⟨kq, x41_17, rfl, HA, HJ17, BK119, HB⟩ := hcut
           cases kq with
           | zero => exact absurd HA.out (by simp [spec_jDecimalOf.j2])
           | succ kj17 =>
            have H := HA.out
            clear HA
            simp only [spec_jDecimalOf.j2] at H
            have HC22 := asd_ H
            clear H
            go_upto_if 41 with (fail)
            go_cut [6] (fun v6 wc => ∃ (kq : Nat) (x6_21 : Int) (x120000_21 : Bool) (x120001_21 : ByteArray) (x120002_21 : Int), v6 = .int .i64 x6_21 ∧ Aside0 (spec_jDecimalOf.j3 kq a0 x4_9 t120 x6_21 = some (r1, r2, r3, r4)) ∧ Aside0 (kq ≤ kj17) ∧ Aside0 (wc.heap[gb119]? = some (.cells #[.bool x120000_21, .string x120001_21, .int .i64 x120002_21] 100 (0, 0))) ∧ Aside0 (Below w.heap.size w wc))
            case first =>
             have H := HC22.out
             clear HC22
             by_cases c23 : x41_17 = true
             ·subst c23
              have H1 : ((spec_jRun.f kj17 a0 (wrap64 (t120 + 1))).bind fun t122 => (if t122 = (wrap64 (t120 + 1)) then (some (false, (⟨#[]⟩ : ByteArray), 0, false)) else (spec_jDecimalOf.j3 kj17 a0 x4_9 t120 t122))) = some (r1, r2, r3, r4) := by rw [if_pos rfl] at H; exact H
              clear H
              have H := H1
              clear H1
              replace H := Option.bind_eq_some_iff.mp H
              obtain ⟨t122, A240, H⟩ := H
              replace H : (if t122 = (wrap64 (t120 + 1)) then (some (false, (⟨#[]⟩ : ByteArray), 0, false)) else (spec_jDecimalOf.j3 kj17 a0 x4_9 t120 t122)) = some (r1, r2, r3, r4) := H
              have A24 := asd_ A240
              clear A240
              by_cases c25 : t122 = (wrap64 (t120 + 1))
              ·rw [if_pos c25] at H
               have c25b0 : (t122 == (wrap64 (t120 + 1))) = true := beq_iff_eq.mpr c25
               have c25b1 : (t122 != (wrap64 (t120 + 1))) = false := bne_eq_false_iff_eq.mpr c25
               clear c25
               (first | rw [c25b0] | (simp only [i64_w, i32_w]; rw [c25b0]) | skip)
               simp only [Option.some.injEq, Prod.mk.injEq] at H
               obtain ⟨rfl, rfl, rfl, rfl⟩ := H
               go_wp2_with (first | ((with_reducible refine gate_callee (f := 86) rfl ?_); refine goesL_ (some 45) rfl rfl Tryz.func86 kr_ rfl #[.string a0, .int .i64 (wrap64 (t120 + 1))] rfl ap_ ?_; (with_reducible refine (spec_jRun.calls kj17 a0 (wrap64 (t120 + 1)) t122 _ A24.out).mono ?_); rintro e w' ⟨rfl, ⟨nd, rfl⟩⟩; refine ⟨_, rfl, ?_⟩; (try (rw [drewN_self wc]; generalize hq_ : World.drewN wc _ = wc; have n0_ : Aside0 (wc.heap[gb119]? = some (.cells #[.bool false, .string (⟨#[]⟩ : ByteArray), .int .i64 0] 100 (0, 0))) := ⟨by rw [← hq_]; exact bk_⟩; have n1_ : Aside0 (Below w.heap.size w wc) := ⟨by rw [← hq_]; exact wb_⟩; clear BK119 HB hq_; have BK119 := n0_; have HB := n1_; clear n0_ n1_)); have hcz26_0 := cz_ BK119.out 0; have hcz26_1 := cz_ BK119.out 1; have hcz26_2 := cz_ BK119.out 2; have hfz26_0 := blk_frozen BK119.out 0; have hfz26_1 := blk_frozen BK119.out 1; have hfz26_2 := blk_frozen BK119.out 2))
               refine bodyPost_ret (results_ct rfl _ _ gb119 100 #[.bool false, .string (⟨#[]⟩ : ByteArray), .int .i64 0] (0, 0) _ rfl (by (with_reducible repeat (first | refine blk_drewN ?_ _ | refine blk_drew ?_ | refine blk_alloc ?_ _)); refine blk_put (cs := #[.bool false, .string (⟨#[]⟩ : ByteArray), .int .i64 0]) ?_ 2 _ rfl; (with_reducible repeat (first | refine blk_drewN ?_ _ | refine blk_drew ?_ | refine blk_alloc ?_ _)); refine blk_put (cs := #[.bool false, .string (⟨#[]⟩ : ByteArray), .int .i64 0]) ?_ 1 _ rfl; (with_reducible repeat (first | refine blk_drewN ?_ _ | refine blk_drew ?_ | refine blk_alloc ?_ _)); refine blk_put (cs := #[.bool false, .string (⟨#[]⟩ : ByteArray), .int .i64 0]) ?_ 0 _ rfl; (with_reducible repeat (first | refine blk_drewN ?_ _ | refine blk_drew ?_ | refine blk_alloc ?_ _)); exact BK119.out) Tryz.underlying100 rfl kr_) rfl ?_
               exact ⟨er_, wb_⟩
              ·rw [if_neg c25] at H
               have c25b0 : (t122 == (wrap64 (t120 + 1))) = false := beq_eq_false_iff_ne.mpr c25
               have c25b1 : (t122 != (wrap64 (t120 + 1))) = true := bne_iff_ne.mpr c25
               (first | rw [c25b0] | (simp only [i64_w, i32_w]; rw [c25b0]) | skip)
               have H' := asd_ H
               clear H
               go_wp2_with (first | ((with_reducible refine gate_callee (f := 86) rfl ?_); refine goesL_ (some 45) rfl rfl Tryz.func86 kr_ rfl #[.string a0, .int .i64 (wrap64 (t120 + 1))] rfl ap_ ?_; (with_reducible refine (spec_jRun.calls kj17 a0 (wrap64 (t120 + 1)) t122 _ A24.out).mono ?_); rintro e w' ⟨rfl, ⟨nd, rfl⟩⟩; refine ⟨_, rfl, ?_⟩))
               go_meet
               case rel => exact ⟨_, (t122), (false), ((⟨#[]⟩ : ByteArray)), (0), r1_, H', ⟨by have := HJ4.out; have := HJ9.out; have := HJ17.out; first | omega | exact Nat.le_refl _⟩, ⟨bk_⟩, ⟨wb_⟩⟩
             ·replace c23 := Bool.eq_false_iff.mpr c23
              subst c23
              have H1 : (spec_jDecimalOf.j3 kj17 a0 x4_9 t120 t120) = some (r1, r2, r3, r4) := by rw [if_neg (show ¬ (false = true) by decide)] at H; exact H
              clear H
              have H := H1
              clear H1
              have H' := asd_ H
              clear H
              go_wp2
              go_meet
              case rel => exact ⟨_, (t120), (false), ((⟨#[]⟩ : ByteArray)), (0), r1_, H', ⟨by have := HJ4.out; have := HJ9.out; have := HJ17.out; first | omega | exact Nat.le_refl _⟩, ⟨bk_⟩, ⟨wb_⟩⟩
            case rest =>
             clear HC22
             obtain ⟨kq, x6_21, x120000_21, x120001_21, x120002_21, rfl, HA, HJ21, BK119, HB⟩ := hcut
             cases kq with
             | zero => exact absurd HA.out (by simp [spec_jDecimalOf.j3])
             | succ kj21 =>
              have H := HA.out
              clear HA
              simp only [spec_jDecimalOf.j3] at H
              by_cases c27 : 0 ≤ x6_21
              ·rw [if_pos c27] at H
               have c27b0 := eq_true c27
               have c27b1 : decide (0 ≤ x6_21) = true := decide_eq_true c27
               clear c27
               by_cases c28 : x6_21 ≤ (a0.size : Int)
               ·rw [if_pos c28] at H
                have c28b0 := eq_true c28
                have c28b1 : decide (x6_21 ≤ (a0.size : Int)) = true := decide_eq_true c28
                clear c28
                replace H := Option.bind_eq_some_iff.mp H
                obtain ⟨⟨t123, t124⟩, A290, H⟩ := H
                replace H : (if t124 = true then (if 0 ≤ x4_9 then (if x4_9 ≤ t120 then (if t120 ≤ (a0.size : Int) then (if x6_21 > t120 then (if 0 ≤ (wrap64 (t120 + 1)) then (if (wrap64 (t120 + 1)) ≤ x6_21 then (if (a0.extract (x4_9 : Int).toNat (t120 : Int).toNat).size + (a0.extract ((wrap64 (t120 + 1)) : Int).toNat (x6_21 : Int).toNat).size ≤ 9223372036854775807 then ((spec_jLean.f kj21 (x4_9 == 1) ((a0.extract (x4_9 : Int).toNat (t120 : Int).toNat) ++ (a0.extract ((wrap64 (t120 + 1)) : Int).toNat (x6_21 : Int).toNat)) (wrap64 (t123 - (wrap64 ((wrap64 (x6_21 - t120)) - 1))))).bind fun bt125 => (some (bt125.1, bt125.2.1, bt125.2.2, true))) else (none)) else (none)) else (none)) else ((spec_jLean.f kj21 (x4_9 == 1) (a0.extract (x4_9 : Int).toNat (t120 : Int).toNat) t123).bind fun bt128 => (some (bt128.1, bt128.2.1, bt128.2.2, true)))) else (none)) else (none)) else (none)) else (some (false, (⟨#[]⟩ : ByteArray), 0, false))) = some (r1, r2, r3, r4) := H
                have A29 := asd_ A290
                clear A290
                by_cases c30 : t124 = true
                ·subst c30
                 have H1 : (if 0 ≤ x4_9 then (if x4_9 ≤ t120 then (if t120 ≤ (a0.size : Int) then (if x6_21 > t120 then (if 0 ≤ (wrap64 (t120 + 1)) then (if (wrap64 (t120 + 1)) ≤ x6_21 then (if (a0.extract (x4_9 : Int).toNat (t120 : Int).toNat).size + (a0.extract ((wrap64 (t120 + 1)) : Int).toNat (x6_21 : Int).toNat).size ≤ 9223372036854775807 then ((spec_jLean.f kj21 (x4_9 == 1) ((a0.extract (x4_9 : Int).toNat (t120 : Int).toNat) ++ (a0.extract ((wrap64 (t120 + 1)) : Int).toNat (x6_21 : Int).toNat)) (wrap64 (t123 - (wrap64 ((wrap64 (x6_21 - t120)) - 1))))).bind fun bt125 => (some (bt125.1, bt125.2.1, bt125.2.2, true))) else (none)) else (none)) else (none)) else ((spec_jLean.f kj21 (x4_9 == 1) (a0.extract (x4_9 : Int).toNat (t120 : Int).toNat) t123).bind fun bt128 => (some (bt128.1, bt128.2.1, bt128.2.2, true)))) else (none)) else (none)) else (none)) = some (r1, r2, r3, r4) := by rw [if_pos rfl] at H; exact H
                 clear H
                 have H := H1
                 clear H1
                 by_cases c31 : 0 ≤ x4_9
                 ·rw [if_pos c31] at H
                  have c31b0 := eq_true c31
                  have c31b1 : decide (0 ≤ x4_9) = true := decide_eq_true c31
                  clear c31
                  by_cases c32 : x4_9 ≤ t120
                  ·rw [if_pos c32] at H
                   have c32b0 := eq_true c32
                   have c32b1 : decide (x4_9 ≤ t120) = true := decide_eq_true c32
                   clear c32
                   by_cases c33 : t120 ≤ (a0.size : Int)
                   ·rw [if_pos c33] at H
                    have c33b0 := eq_true c33
                    have c33b1 : decide (t120 ≤ (a0.size : Int)) = true := decide_eq_true c33
                    clear c33
                    by_cases c34 : x6_21 > t120
                    ·rw [if_pos c34] at H
                     have c34b0 : decide (t120 < x6_21) = true := decide_eq_true c34
                     clear c34
                     obtain ⟨ji35, hji35⟩ : ∃ j_ : Int, (wrap64 (t120 + 1)) = j_ := ⟨_, rfl⟩
                     replace H : (if 0 ≤ (ji35) then (if (ji35) ≤ x6_21 then (if (a0.extract (x4_9 : Int).toNat (t120 : Int).toNat).size + (a0.extract ((ji35) : Int).toNat (x6_21 : Int).toNat).size ≤ 9223372036854775807 then ((spec_jLean.f kj21 (x4_9 == 1) ((a0.extract (x4_9 : Int).toNat (t120 : Int).toNat) ++ (a0.extract ((ji35) : Int).toNat (x6_21 : Int).toNat)) (wrap64 (t123 - (wrap64 ((wrap64 (x6_21 - t120)) - 1))))).bind fun bt125 => (some (bt125.1, bt125.2.1, bt125.2.2, true))) else (none)) else (none)) else (none)) = some (r1, r2, r3, r4) := by first | (rw [hji35] at H; exact H) | (simp only [hji35] at H ⊢; exact H)
                     (try rw [hji35] at A29)
                     have hji35w : (IntKind.i64.wrap (t120 + 1)) = ji35 := (i64_w _).trans hji35
                     by_cases c36 : 0 ≤ (ji35)
                     ·rw [if_pos c36] at H
                      have c36b0 := eq_true c36
                      have c36b1 : decide (0 ≤ (ji35)) = true := decide_eq_true c36
                      clear c36
                      by_cases c37 : (ji35) ≤ x6_21
                      ·rw [if_pos c37] at H
                       have c37b0 := eq_true c37
                       have c37b1 : decide ((ji35) ≤ x6_21) = true := decide_eq_true c37
                       clear c37
                       have c38b0 := eq_true (of_decide_eq_true as_ : x6_21 ≤ (a0.size : Int))
                       by_cases c39 : (a0.extract (x4_9 : Int).toNat (t120 : Int).toNat).size + (a0.extract ((ji35) : Int).toNat (x6_21 : Int).toNat).size ≤ 9223372036854775807
                       ·rw [if_pos c39] at H
                        have c39b0 := eq_true c39
                        have c39b1 : decide ((a0.extract (x4_9 : Int).toNat (t120 : Int).toNat).size + (a0.extract ((ji35) : Int).toNat (x6_21 : Int).toNat).size ≤ 9223372036854775807) = true := decide_eq_true c39
                        try have c39b2 : (9223372036854775807 < (a0.extract (x4_9 : Int).toNat (t120 : Int).toNat).size + (a0.extract ((ji35) : Int).toNat (x6_21 : Int).toNat).size) = False := eq_false (Nat.not_lt.2 c39)
                        replace H := Option.bind_eq_some_iff.mp H
                        obtain ⟨⟨t125, t126, t127⟩, A400, H⟩ := H
                        replace H : (some (t125, t126, t127, true)) = some (r1, r2, r3, r4) := H
                        have A40 := asd_ A400
                        clear A400
                        simp only [Option.some.injEq, Prod.mk.injEq] at H
                        obtain ⟨rfl, rfl, rfl, rfl⟩ := H
                        go_wp2_with (first | ((with_reducible refine gate_callee (f := 87) rfl ?_); refine goesL_ (some 55) rfl rfl Tryz.func87 kr_ rfl #[.string (a0.extract (x6_21 : Int).toNat a0.size)] rfl ap_ ?_; (with_reducible refine (spec_jExponent.calls kj21 (a0.extract (x6_21 : Int).toNat a0.size) t123 true _ A29.out).mono ?_); rintro e w' ⟨rfl, ⟨nd, rfl⟩⟩; refine ⟨_, rfl, ?_⟩; (try (rw [drewN_self wc]; generalize hq_ : World.drewN wc _ = wc; have n0_ : Aside0 (wc.heap[gb119]? = some (.cells #[.bool x120000_21, .string x120001_21, .int .i64 x120002_21] 100 (0, 0))) := ⟨by rw [← hq_]; exact bk_⟩; have n1_ : Aside0 (Below w.heap.size w wc) := ⟨by rw [← hq_]; exact wb_⟩; clear BK119 HB hq_; have BK119 := n0_; have HB := n1_; clear n0_ n1_))) | ((with_reducible refine gate_callee (f := 88) rfl ?_); refine goesL_ (some 86) rfl rfl Tryz.func88 kr_ rfl #[.agg #[.bool (x4_9 == 1), .string ((a0.extract (x4_9 : Int).toNat (t120 : Int).toNat) ++ (a0.extract ((ji35) : Int).toNat (x6_21 : Int).toNat)), .int .i64 (wrap64 (t123 - (wrap64 ((wrap64 (x6_21 - t120)) - 1))))]] rfl (by (try simp only [List.map_toArray, List.map_cons, List.map_nil]); first | done | (simp only [hji35]; rfl) | rfl | (simp only [List.length_drop, List.length_take]; rfl)) ?_; (with_reducible refine (spec_jLean.calls kj21 (x4_9 == 1) ((a0.extract (x4_9 : Int).toNat (t120 : Int).toNat) ++ (a0.extract ((ji35) : Int).toNat (x6_21 : Int).toNat)) (wrap64 (t123 - (wrap64 ((wrap64 (x6_21 - t120)) - 1)))) t125 t126 t127 _ A40.out).mono ?_); rintro e w41 ⟨rfl, hb⟩; refine ⟨_, rfl, ?_⟩; have n0_ := asd_ (blk_below (g := gb119) (o := .cells #[.bool x120000_21, .string x120001_21, .int .i64 x120002_21] 100 (0, 0)) bk_ hb); have n1_ := asd_ (below_step wb_ hb); clear BK119; clear HB; have BK119 := n0_; have HB := n1_; clear n0_ n1_; (try clear hb); (try clear hb2); (try clear hk); (try clear hi); have hcz42_0 := cz_ BK119.out 0; have hcz42_1 := cz_ BK119.out 1; have hcz42_2 := cz_ BK119.out 2; have hfz42_0 := blk_frozen BK119.out 0; have hfz42_1 := blk_frozen BK119.out 1; have hfz42_2 := blk_frozen BK119.out 2))
                        refine bodyPost_ret (results_ct rfl _ _ gb119 100 #[.bool t125, .string t126, .int .i64 t127] (0, 0) _ rfl (by (with_reducible repeat (first | refine blk_drewN ?_ _ | refine blk_drew ?_ | refine blk_alloc ?_ _)); refine blk_put (cs := #[.bool t125, .string t126, .int .i64 x120002_21]) ?_ 2 _ rfl; (with_reducible repeat (first | refine blk_drewN ?_ _ | refine blk_drew ?_ | refine blk_alloc ?_ _)); refine blk_put (cs := #[.bool t125, .string x120001_21, .int .i64 x120002_21]) ?_ 1 _ rfl; (with_reducible repeat (first | refine blk_drewN ?_ _ | refine blk_drew ?_ | refine blk_alloc ?_ _)); refine blk_put (cs := #[.bool x120000_21, .string x120001_21, .int .i64 x120002_21]) ?_ 0 _ rfl; (with_reducible repeat (first | refine blk_drewN ?_ _ | refine blk_drew ?_ | refine blk_alloc ?_ _)); exact BK119.out) Tryz.underlying100 rfl kr_) rfl ?_
                        exact ⟨by first | rfl | (simp [errW_none, errW_some] <;> rfl) | (simp only [← hji35]; first | rfl | (simp [errW_none, errW_some] <;> rfl)) | (simp [*, errW_none, errW_some] <;> rfl), wb_⟩
                       ·rw [if_neg c39] at H
                        exact absurd H (by simp)
                      ·rw [if_neg c37] at H
                       exact absurd H (by simp)
                     ·rw [if_neg c36] at H
                      exact absurd H (by simp)
                    ·rw [if_neg c34] at H
                     have c34b0 : decide (t120 < x6_21) = false := decide_eq_false c34
                     clear c34
                     replace H := Option.bind_eq_some_iff.mp H
                     obtain ⟨⟨t128, t129, t130⟩, A430, H⟩ := H
                     replace H : (some (t128, t129, t130, true)) = some (r1, r2, r3, r4) := H
                     have A43 := asd_ A430
                     clear A430
                     simp only [Option.some.injEq, Prod.mk.injEq] at H
                     obtain ⟨rfl, rfl, rfl, rfl⟩ := H
                     go_wp2_with (first | ((with_reducible refine gate_callee (f := 87) rfl ?_); refine goesL_ (some 55) rfl rfl Tryz.func87 kr_ rfl #[.string (a0.extract (x6_21 : Int).toNat a0.size)] rfl ap_ ?_; (with_reducible refine (spec_jExponent.calls kj21 (a0.extract (x6_21 : Int).toNat a0.size) t123 true _ A29.out).mono ?_); rintro e w' ⟨rfl, ⟨nd, rfl⟩⟩; refine ⟨_, rfl, ?_⟩; (try (rw [drewN_self wc]; generalize hq_ : World.drewN wc _ = wc; have n0_ : Aside0 (wc.heap[gb119]? = some (.cells #[.bool x120000_21, .string x120001_21, .int .i64 x120002_21] 100 (0, 0))) := ⟨by rw [← hq_]; exact bk_⟩; have n1_ : Aside0 (Below w.heap.size w wc) := ⟨by rw [← hq_]; exact wb_⟩; clear BK119 HB hq_; have BK119 := n0_; have HB := n1_; clear n0_ n1_))) | ((with_reducible refine gate_callee (f := 88) rfl ?_); refine goesL_ (some 86) rfl rfl Tryz.func88 kr_ rfl #[.agg #[.bool (x4_9 == 1), .string (a0.extract (x4_9 : Int).toNat (t120 : Int).toNat), .int .i64 t123]] rfl ap_ ?_; (with_reducible refine (spec_jLean.calls kj21 (x4_9 == 1) (a0.extract (x4_9 : Int).toNat (t120 : Int).toNat) t123 t128 t129 t130 _ A43.out).mono ?_); rintro e w44 ⟨rfl, hb⟩; refine ⟨_, rfl, ?_⟩; have n0_ := asd_ (blk_below (g := gb119) (o := .cells #[.bool x120000_21, .string x120001_21, .int .i64 x120002_21] 100 (0, 0)) bk_ hb); have n1_ := asd_ (below_step wb_ hb); clear BK119; clear HB; have BK119 := n0_; have HB := n1_; clear n0_ n1_; (try clear hb); (try clear hb2); (try clear hk); (try clear hi); have hcz45_0 := cz_ BK119.out 0; have hcz45_1 := cz_ BK119.out 1; have hcz45_2 := cz_ BK119.out 2; have hfz45_0 := blk_frozen BK119.out 0; have hfz45_1 := blk_frozen BK119.out 1; have hfz45_2 := blk_frozen BK119.out 2))
                     refine bodyPost_ret (results_ct rfl _ _ gb119 100 #[.bool t128, .string t129, .int .i64 t130] (0, 0) _ rfl (by (with_reducible repeat (first | refine blk_drewN ?_ _ | refine blk_drew ?_ | refine blk_alloc ?_ _)); refine blk_put (cs := #[.bool t128, .string t129, .int .i64 x120002_21]) ?_ 2 _ rfl; (with_reducible repeat (first | refine blk_drewN ?_ _ | refine blk_drew ?_ | refine blk_alloc ?_ _)); refine blk_put (cs := #[.bool t128, .string x120001_21, .int .i64 x120002_21]) ?_ 1 _ rfl; (with_reducible repeat (first | refine blk_drewN ?_ _ | refine blk_drew ?_ | refine blk_alloc ?_ _)); refine blk_put (cs := #[.bool x120000_21, .string x120001_21, .int .i64 x120002_21]) ?_ 0 _ rfl; (with_reducible repeat (first | refine blk_drewN ?_ _ | refine blk_drew ?_ | refine blk_alloc ?_ _)); exact BK119.out) Tryz.underlying100 rfl kr_) rfl ?_
                     exact ⟨er_, wb_⟩
                   ·rw [if_neg c33] at H
                    exact absurd H (by simp)
                  ·rw [if_neg c32] at H
                   exact absurd H (by simp)
                 ·rw [if_neg c31] at H
                  exact absurd H (by simp)
                ·replace c30 := Bool.eq_false_iff.mpr c30
                 subst c30
                 have H1 : (some (false, (⟨#[]⟩ : ByteArray), 0, false)) = some (r1, r2, r3, r4) := by rw [if_neg (show ¬ (false = true) by decide)] at H; exact H
                 clear H
                 have H := H1
                 clear H1
                 simp only [Option.some.injEq, Prod.mk.injEq] at H
                 obtain ⟨rfl, rfl, rfl, rfl⟩ := H
                 go_wp2_with (first | ((with_reducible refine gate_callee (f := 87) rfl ?_); refine goesL_ (some 55) rfl rfl Tryz.func87 kr_ rfl #[.string (a0.extract (x6_21 : Int).toNat a0.size)] rfl ap_ ?_; (with_reducible refine (spec_jExponent.calls kj21 (a0.extract (x6_21 : Int).toNat a0.size) t123 false _ A29.out).mono ?_); rintro e w' ⟨rfl, ⟨nd, rfl⟩⟩; refine ⟨_, rfl, ?_⟩; (try (rw [drewN_self wc]; generalize hq_ : World.drewN wc _ = wc; have n0_ : Aside0 (wc.heap[gb119]? = some (.cells #[.bool x120000_21, .string x120001_21, .int .i64 x120002_21] 100 (0, 0))) := ⟨by rw [← hq_]; exact bk_⟩; have n1_ : Aside0 (Below w.heap.size w wc) := ⟨by rw [← hq_]; exact wb_⟩; clear BK119 HB hq_; have BK119 := n0_; have HB := n1_; clear n0_ n1_)); have hcz46_0 := cz_ BK119.out 0; have hcz46_1 := cz_ BK119.out 1; have hcz46_2 := cz_ BK119.out 2; have hfz46_0 := blk_frozen BK119.out 0; have hfz46_1 := blk_frozen BK119.out 1; have hfz46_2 := blk_frozen BK119.out 2))
                 refine bodyPost_ret (results_ct rfl _ _ gb119 100 #[.bool false, .string (⟨#[]⟩ : ByteArray), .int .i64 0] (0, 0) _ rfl (by (with_reducible repeat (first | refine blk_drewN ?_ _ | refine blk_drew ?_ | refine blk_alloc ?_ _)); refine blk_put (cs := #[.bool false, .string (⟨#[]⟩ : ByteArray), .int .i64 x120002_21]) ?_ 2 _ rfl; (with_reducible repeat (first | refine blk_drewN ?_ _ | refine blk_drew ?_ | refine blk_alloc ?_ _)); refine blk_put (cs := #[.bool false, .string x120001_21, .int .i64 x120002_21]) ?_ 1 _ rfl; (with_reducible repeat (first | refine blk_drewN ?_ _ | refine blk_drew ?_ | refine blk_alloc ?_ _)); refine blk_put (cs := #[.bool x120000_21, .string x120001_21, .int .i64 x120002_21]) ?_ 0 _ rfl; (with_reducible repeat (first | refine blk_drewN ?_ _ | refine blk_drew ?_ | refine blk_alloc ?_ _)); exact BK119.out) Tryz.underlying100 rfl kr_) rfl ?_
                 exact ⟨er_, wb_⟩
               ·rw [if_neg c28] at H
                exact absurd H (by simp)
              ·rw [if_neg c27] at H
               exact absurd H (by simp)
         ·replace c17 := Bool.eq_false_iff.mpr c17
          subst c17
          have H1 : (some (false, (⟨#[]⟩ : ByteArray), 0, false)) = some (r1, r2, r3, r4) := by rw [if_neg (show ¬ (false = true) by decide)] at H; exact H
          clear H
          have H := H1
          clear H1
          simp only [Option.some.injEq, Prod.mk.injEq] at H
          obtain ⟨rfl, rfl, rfl, rfl⟩ := H
          go_wp2_with (first | ((with_reducible refine gate_callee (f := 86) rfl ?_); refine goesL_ (some 23) rfl rfl Tryz.func86 kr_ rfl #[.string a0, .int .i64 x4_9] rfl ap_ ?_; (with_reducible refine (spec_jRun.calls kj9 a0 x4_9 t120 _ A12.out).mono ?_); rintro e w' ⟨rfl, ⟨nd, rfl⟩⟩; refine ⟨_, rfl, ?_⟩; (try (rw [drewN_self wc]; generalize hq_ : World.drewN wc _ = wc; have n0_ : Aside0 (wc.heap[gb119]? = some (.cells #[.bool false, .string (⟨#[]⟩ : ByteArray), .int .i64 0] 100 (0, 0))) := ⟨by rw [← hq_]; exact bk_⟩; have n1_ : Aside0 (Below w.heap.size w wc) := ⟨by rw [← hq_]; exact wb_⟩; clear BK119 HB hq_; have BK119 := n0_; have HB := n1_; clear n0_ n1_))) | ((with_reducible refine gate_callee (f := 45) rfl ?_); refine goesL_ (some 28) rfl rfl Tryz.func45 kr_ rfl #[.string (a0.extract (x4_9 : Int).toNat (t120 : Int).toNat)] rfl ap_ ?_; (with_reducible refine (spec_jPlain.calls kj9 (a0.extract (x4_9 : Int).toNat (t120 : Int).toNat) false _ A16.out).mono ?_); rintro e w' ⟨rfl, ⟨nd, rfl⟩⟩; refine ⟨_, rfl, ?_⟩; (try (rw [drewN_self wc]; generalize hq_ : World.drewN wc _ = wc; have n0_ : Aside0 (wc.heap[gb119]? = some (.cells #[.bool false, .string (⟨#[]⟩ : ByteArray), .int .i64 0] 100 (0, 0))) := ⟨by rw [← hq_]; exact bk_⟩; have n1_ : Aside0 (Below w.heap.size w wc) := ⟨by rw [← hq_]; exact wb_⟩; clear BK119 HB hq_; have BK119 := n0_; have HB := n1_; clear n0_ n1_)); have hcz47_0 := cz_ BK119.out 0; have hcz47_1 := cz_ BK119.out 1; have hcz47_2 := cz_ BK119.out 2; have hfz47_0 := blk_frozen BK119.out 0; have hfz47_1 := blk_frozen BK119.out 1; have hfz47_2 := blk_frozen BK119.out 2))
          refine bodyPost_ret (results_ct rfl _ _ gb119 100 #[.bool false, .string (⟨#[]⟩ : ByteArray), .int .i64 0] (0, 0) _ rfl (by (with_reducible repeat (first | refine blk_drewN ?_ _ | refine blk_drew ?_ | refine blk_alloc ?_ _)); refine blk_put (cs := #[.bool false, .string (⟨#[]⟩ : ByteArray), .int .i64 0]) ?_ 2 _ rfl; (with_reducible repeat (first | refine blk_drewN ?_ _ | refine blk_drew ?_ | refine blk_alloc ?_ _)); refine blk_put (cs := #[.bool false, .string (⟨#[]⟩ : ByteArray), .int .i64 0]) ?_ 1 _ rfl; (with_reducible repeat (first | refine blk_drewN ?_ _ | refine blk_drew ?_ | refine blk_alloc ?_ _)); refine blk_put (cs := #[.bool false, .string (⟨#[]⟩ : ByteArray), .int .i64 0]) ?_ 0 _ rfl; (with_reducible repeat (first | refine blk_drewN ?_ _ | refine blk_drew ?_ | refine blk_alloc ?_ _)); exact BK119.out) Tryz.underlying100 rfl kr_) rfl ?_
          exact ⟨er_, wb_⟩
        ·rw [if_neg c15] at H
         exact absurd H (by simp)
       ·rw [if_neg c14] at H
        exact absurd H (by simp)
      ·rw [if_neg c13] at H
       exact absurd H (by simp)
def spec_JIsDecimal.f (k : Nat) (a0 : ByteArray) : Option (Bool) := (spec_jDecimalOf.f k a0).bind fun bt131 => (some bt131.2.2.2)
set_option maxHeartbeats 8000000 in
set_option maxRecDepth 100000 in
theorem spec_JIsDecimal.calls (k : Nat) (a0 : ByteArray) (r : Bool) (w : World) (h : spec_JIsDecimal.f k a0 = some r) :
  Calls Tryz.prog 26 #[.string a0] w fun e w' => e = .returned (.bool r) ∧ Below w.heap.size w w' := by
 have hu100 := Tryz.underlying100
 have HB := asd_ (Below.refl w.heap.size w)
 have H : ((spec_jDecimalOf.f k a0).bind fun bt131 => (some bt131.2.2.2)) = some r := h
 clear h
 replace H := Option.bind_eq_some_iff.mp H
 obtain ⟨⟨t131, t132, t133, t134⟩, A20, H⟩ := H
 replace H : (some t134) = some r := H
 have A2 := asd_ A20
 clear A20
 obtain rfl := Option.some.inj H
 go_enter Tryz.func26, Tryz.ntmps26
 go_wp2_with (first | ((with_reducible refine gate_callee (f := 48) rfl ?_); refine goesL_ (some 7) rfl rfl Tryz.func48 kr_ rfl #[.string a0] rfl ap_ ?_; (with_reducible refine (spec_jDecimalOf.calls k a0 t131 t132 t133 t134 _ A2.out).mono ?_); rintro e w3 ⟨rfl, hb⟩; refine ⟨_, rfl, ?_⟩; have n0_ := asd_ (below_step wb_ hb); clear HB; have HB := n0_; clear n0_; (try clear hb); (try clear hb2); (try clear hk); (try clear hi)) | ((with_reducible refine gate_dst (N := 3) rfl ?_); refine box_event ?hg (N := 3) ?hd (cs := #[.bool false, .string (⟨#[]⟩ : ByteArray), .int .i64 0]) (t := 100) ?hr ?_; (case hd => rfl); (case hg => rfl); (case hr => first | (go_simp; done) | (go_simp; rfl)); intro gb135 hg w4 hbox hb; have n0_ := asd_ (below_step wb_ hb); have n1_ := asd_ (hbox); have n2_ := asd_ ((by rw [hg]; exact (below_size wb_) : w.heap.size ≤ gb135)); have n3_ := asd_ ((by rw [hg]; exact (below_size wb_) : w.heap.size ≤ gb135)); clear HB; have HB := n0_; have BK135 := n1_; have GW135 := n2_; have GE135 := n3_; clear n0_ n1_ n2_ n3_; clear hb hbox hg; have hcz5_0 := cz_ BK135.out 0; have hcz5_1 := cz_ BK135.out 1; have hcz5_2 := cz_ BK135.out 2; have hfz5_0 := blk_frozen BK135.out 0; have hfz5_1 := blk_frozen BK135.out 1; have hfz5_2 := blk_frozen BK135.out 2))
 go_ret
 exact ⟨er_, wb_⟩
end Go.Proofs.YtkphbhncpdcbeaaGreatDoor.PJT
