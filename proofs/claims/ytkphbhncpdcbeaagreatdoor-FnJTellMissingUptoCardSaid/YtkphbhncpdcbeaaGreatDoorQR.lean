/- Part of a proof. -/
import Derived.Test.YtkphbhncpdcbeaaGreatDoorQE
import Derived.Test.YtkphbhncpdcbeaaGreatDoorQF
import Derived.Test.YtkphbhncpdcbeaaGreatDoorQP
namespace Go.Proofs.YtkphbhncpdcbeaaGreatDoor.J
open Go.RowKit Go.Proofs.YtkphbhncpdcbeaaGreatDoorW.PrintWords Go.Proofs.YtkphbhncpdcbeaaGreatDoorW.PrintLast Go.Proofs.YtkphbhncpdcbeaaGreatDoorW.PrintMore Go.Proofs.YtkphbhncpdcbeaaGreatDoor.PJT
def EvP {α : Type} (P : α → Prop) (f : Nat → Option α) : Prop := ∃ K r, P r ∧ ∀ k, K ≤ k → f k = some r
section
variable {α β : Type} {P : α → Prop} {Q : β → Prop}
theorem EvP.ret {r : α} (h : P r) : EvP P (fun _ => some r) := ⟨0, r, h, fun _ _ => rfl⟩
theorem EvP.bind {f : Nat → Option β} {g : Nat → β → Option α} (hf : EvP Q f) (hg : ∀ r, Q r → EvP P (fun k => g k r)) : EvP P (fun k => (f k).bind (g k)) := by
 obtain ⟨K, r, hr, h⟩ := hf
 obtain ⟨K', r', hr', h'⟩ := hg r hr
 refine ⟨max K K', r', hr', fun k hk => ?_⟩
 show (f k).bind (g k) = _
 rw [h k (by omega)]
 exact h' k (by omega)
theorem EvP.up {F : Nat → Option α} (h : EvP P (fun k => F (k + 1))) : EvP P F := by
 obtain ⟨K, r, hr, h⟩ := h
 refine ⟨K + 1, r, hr, fun k hk => ?_⟩
 obtain ⟨m, rfl⟩ : ∃ m, k = m + 1 := ⟨k - 1, by omega⟩
 exact h m (by omega)
theorem EvP.ite {c : Prop} [Decidable c] {f g : Nat → Option α} (h1 : c → EvP P f) (h2 : ¬ c → EvP P g) : EvP P (fun k => if c then f k else g k) := by
 by_cases h : c
 ·simp only [if_pos h]; exact h1 h
 ·simp only [if_neg h]; exact h2 h
theorem EvP.imp {P' : α → Prop} {f : Nat → Option α} (h : EvP P f) (hi : ∀ r, P r → P' r) : EvP P' f := by
 obtain ⟨K, r, hr, h⟩ := h
 exact ⟨K, r, hi r hr, h⟩
theorem EvP.of {f : Nat → Option α} (h : EvP P f) : ∃ k r, f k = some r := by
 obtain ⟨K, r, _, h⟩ := h
 exact ⟨K, r, h K (Nat.le_refl _)⟩
end
theorem wid {i : Int} (h : -4611686018427387904 ≤ i) (h' : i ≤ 4611686018427387904) : wrap64 i = i := by unfold wrap64; omega
theorem digit_ev (v : Int) : EvP (fun _ => True) (fun _ => spec_jDigit.f v) := by
 unfold spec_jDigit.f
 exact EvP.ite (fun _ => EvP.ret trivial) (fun _ => EvP.ret trivial)
theorem run_ev (x0 : ByteArray) (hs : x0.size ≤ LM) (d : Nat) : ∀ x1 : Int, 0 ≤ x1 → x1 ≤ x0.size → (x0.size : Int) - x1 = d → EvP (fun r : Int => x1 ≤ r ∧ r ≤ x0.size) (fun k => spec_jRun.l0 k x0 x1) := by
 simp only [LM] at hs
 induction d with
 | zero =>
  intro x1 h0 h1 hd; refine EvP.up ?_; simp only [spec_jRun.l0]
  exact EvP.ite (fun h => absurd h (by omega)) (fun _ => EvP.ret (by omega))
 | succ d ih =>
  intro x1 h0 h1 hd; refine EvP.up ?_; simp only [spec_jRun.l0]
  refine EvP.ite (fun h => EvP.ite (fun _ => EvP.bind (digit_ev _) (fun t _ => EvP.ite (fun _ => ?_) (fun _ => EvP.ret (by omega)))) (fun h' => absurd h0 h')) (fun _ => EvP.ret (by omega))
  rw [wid (i := x1 + 1) (by omega) (by omega)]
  exact (ih (x1 + 1) (by omega) (by omega) (by omega)).imp (fun r h => ⟨by omega, h.2⟩)
theorem digits_ev (x0 : ByteArray) (hs : x0.size ≤ LM) (d : Nat) : ∀ x1 : Int, 0 ≤ x1 → x1 ≤ x0.size → (x0.size : Int) - x1 = d → EvP (fun r : Bool => r = true → 0 < x0.size) (fun k => spec_jDigits.l0 k x0 x1) := by
 simp only [LM] at hs
 have hlast : ((decide ((x0.size : Int) > 0)) = true → 0 < x0.size) := fun h => by have := of_decide_eq_true h; omega
 induction d with
 | zero =>
  intro x1 h0 h1 hd; refine EvP.up ?_; simp only [spec_jDigits.l0]
  exact EvP.ite (fun h => absurd h (by omega)) (fun _ => EvP.ret hlast)
 | succ d ih =>
  intro x1 h0 h1 hd; refine EvP.up ?_; simp only [spec_jDigits.l0]
  refine EvP.ite (fun h => EvP.ite (fun _ => EvP.bind (digit_ev _) (fun t _ => EvP.ite (fun _ => ?_) (fun _ => EvP.ret (fun h => by cases h)))) (fun h' => absurd h0 h')) (fun _ => EvP.ret hlast)
  rw [wid (i := x1 + 1) (by omega) (by omega)]
  exact ih (x1 + 1) (by omega) (by omega) (by omega)
theorem plain_ev (x0 : ByteArray) (hs : x0.size ≤ LM) : EvP (fun _ => True) (fun k => spec_jPlain.f k x0) := by
 unfold spec_jPlain.f spec_jDigits.f
 refine EvP.bind (digits_ev x0 hs x0.size 0 (by omega) (by omega) (by omega)) (fun t ht => EvP.ite (fun h => EvP.ite (fun _ => EvP.ret trivial) (fun _ => EvP.ite (fun _ => EvP.ret trivial) (fun h' => ?_))) (fun _ => EvP.ret trivial))
 have := ht h; omega
theorem number_ev (x0 : ByteArray) (hs : x0.size ≤ LM) (d : Nat) : ∀ x3 x4 : Int, 0 ≤ x4 → x4 ≤ x0.size → (x0.size : Int) - x4 = d → EvP (fun _ => True) (fun k => spec_jNumber.l0 k x0 x3 x4) := by
 simp only [LM] at hs
 induction d with
 | zero =>
  intro x3 x4 h0 h1 hd; refine EvP.up ?_; simp only [spec_jNumber.l0]
  exact EvP.ite (fun h => absurd h (by omega)) (fun _ => EvP.ret trivial)
 | succ d ih =>
  intro x3 x4 h0 h1 hd; refine EvP.up ?_; simp only [spec_jNumber.l0]
  refine EvP.ite (fun h => EvP.ite (fun _ => ?_) (fun h' => absurd h0 h')) (fun _ => EvP.ret trivial)
  rw [wid (i := x4 + 1) (by omega) (by omega)]
  exact ih _ (x4 + 1) (by omega) (by omega) (by omega)
theorem size_nil {x : ByteArray} (h : ¬ x.toList = ([] : List UInt8)) : 0 < x.size := by
 rcases Nat.eq_zero_or_pos x.size with h0 | h0
 ·refine absurd ?_ h
  have : x = ⟨#[]⟩ := by
   cases x with | mk a => simp only [ByteArray.size] at h0; rw [Array.size_eq_zero_iff.1 h0]
  rw [this]; first | exact ByteArray.toList_empty | simp | decide | (unfold ByteArray.toList; unfold ByteArray.toList.loop; simp [ByteArray.size])
 ·exact h0
theorem ext_size (x : ByteArray) (a b : Nat) : (x.extract a b).size ≤ x.size := by
 rw [ByteArray.size_extract]; omega
theorem exp4_ev (x0 : ByteArray) (hs : x0.size ≤ LM) (x4 x43 : Bool) : EvP (fun _ => True) (fun k => spec_jExponent.j4 k x0 x4 x43) := by
 refine EvP.up ?_; simp only [spec_jExponent.j4]
 exact EvP.ite (fun _ => EvP.ret trivial) (fun _ => EvP.ite (fun _ => EvP.bind (number_ev x0 hs x0.size 0 0 (by omega) (by omega) (by omega)) (fun _ _ => EvP.ret trivial)) (fun _ => EvP.bind (number_ev x0 hs x0.size 0 0 (by omega) (by omega) (by omega)) (fun _ _ => EvP.ret trivial)))
theorem exp3_ev (x0 : ByteArray) (hs : x0.size ≤ LM) (x4 : Bool) : EvP (fun _ => True) (fun k => spec_jExponent.j3 k x0 x4) := by
 refine EvP.up ?_; simp only [spec_jExponent.j3]
 exact EvP.bind (digits_ev x0 hs x0.size 0 (by omega) (by omega) (by omega)) (fun _ _ => EvP.ite (fun _ => exp4_ev x0 hs _ _) (fun _ => exp4_ev x0 hs _ _))
theorem exp2_ev (x0 : ByteArray) (hs : x0.size ≤ LM) (x4 x33 : Bool) (h : x33 = true → 1 ≤ x0.size) : EvP (fun _ => True) (fun k => spec_jExponent.j2 k x0 x4 x33) := by
 refine EvP.up ?_; simp only [spec_jExponent.j2]
 exact EvP.ite (fun e => EvP.ite (fun _ => exp3_ev _ (Nat.le_trans (ext_size _ _ _) hs) _) (fun h' => absurd (h e) (by omega))) (fun _ => exp3_ev _ hs _)
theorem exp1_ev (x0 : ByteArray) (hs : x0.size ≤ LM) (x4 : Bool) (h : x4 = true → 1 ≤ x0.size) : EvP (fun _ => True) (fun k => spec_jExponent.j1 k x0 x4) := by
 refine EvP.up ?_; simp only [spec_jExponent.j1]
 exact EvP.ite (fun e => exp2_ev _ hs _ _ (fun _ => h e)) (fun _ => EvP.ite (fun _ => exp2_ev _ hs _ _ (fun h => by cases h)) (fun hn => EvP.ite (fun hp => exp2_ev _ hs _ _ (fun _ => by omega)) (fun h' => absurd (size_nil hn) (by omega))))
theorem exp0_ev (x0 : ByteArray) (hs : x0.size ≤ LM) (x14 : Bool) (h : 1 ≤ x0.size) : EvP (fun _ => True) (fun k => spec_jExponent.j0 k x0 x14) := by
 refine EvP.up ?_; simp only [spec_jExponent.j0]
 have hs' : (x0.extract 1 x0.size).size ≤ LM := Nat.le_trans (ext_size _ _ _) hs
 exact EvP.ite (fun e => EvP.ret trivial) (fun _ => EvP.ite (fun _ => EvP.ite (fun _ => exp1_ev _ hs' _ (fun h => by cases h)) (fun hn => EvP.ite (fun hp => exp1_ev _ hs' _ (fun _ => by omega)) (fun h' => absurd (size_nil hn) (by omega)))) (fun h' => absurd h (by omega)))
theorem exp_ev (x0 : ByteArray) (hs : x0.size ≤ LM) : EvP (fun _ => True) (fun k => spec_jExponent.f k x0) := by
 unfold spec_jExponent.f
 exact EvP.ite (fun e => EvP.ret trivial) (fun hn => EvP.ite (fun _ => EvP.ite (fun _ => exp0_ev x0 hs _ (size_nil hn)) (fun _ => exp0_ev x0 hs _ (size_nil hn))) (fun h' => absurd (size_nil hn) (by omega)))
theorem bare_ev (d : Nat) : ∀ x0 : ByteArray, x0.size ≤ LM → x0.size = d → EvP (fun r : ByteArray => r.size ≤ d) (fun k => spec_jBare.l0 k x0) := by
 induction d with
 | zero =>
  intro x0 hs hd; refine EvP.up ?_; simp only [spec_jBare.l0]
  exact EvP.ite (fun _ => EvP.ret (by omega)) (fun h => absurd (size_nil h) (by omega))
 | succ d ih =>
  intro x0 hs hd; refine EvP.up ?_; simp only [spec_jBare.l0]
  refine EvP.ite (fun _ => EvP.ret (by omega)) (fun h => EvP.ite (fun _ => EvP.ite (fun _ => EvP.ite (fun _ => ?_) (fun h' => absurd h' (by omega))) (fun _ => EvP.ret (by omega))) (fun h' => absurd h' (by omega)))
  have e : (x0.extract 1 x0.size).size = d := by rw [ByteArray.size_extract]; omega
  exact (ih _ (by omega) e).imp (fun r h => by omega)
theorem lean_ev (d : Nat) : ∀ (b : Bool) (x0 : ByteArray) (i : Int), x0.size ≤ LM → x0.size = d → EvP (fun _ => True) (fun k => spec_jLean.l0 k b x0 i) := by
 induction d with
 | zero =>
  intro b x0 i hs hd; refine EvP.up ?_; simp only [spec_jLean.l0]
  exact EvP.ite (fun _ => EvP.ret trivial) (fun h => absurd (size_nil h) (by omega))
 | succ d ih =>
  intro b x0 i hs hd; refine EvP.up ?_; simp only [spec_jLean.l0]
  have hs' := hs
  simp only [LM] at hs'
  rw [wid (i := (x0.size : Int) - 1) (by omega) (by omega)]
  refine EvP.ite (fun _ => EvP.ret trivial) (fun h => EvP.ite (fun _ => EvP.ite (fun _ => EvP.ite (fun _ => EvP.ite (fun _ => ?_) (fun h' => absurd h' (by omega))) (fun _ => EvP.ret trivial)) (fun h' => absurd h' (by omega))) (fun h' => absurd h' (by omega)))
  have e : (x0.extract 0 ((x0.size : Int) - 1).toNat).size = d := by rw [ByteArray.size_extract]; omega
  exact ih b _ _ (by omega) e
theorem leans_ev (b : Bool) (x0 : ByteArray) (i : Int) (hs : x0.size ≤ LM) : EvP (fun _ => True) (fun k => spec_jLean.f k b x0 i) := by
 unfold spec_jLean.f spec_jBare.f
 exact EvP.bind (bare_ev x0.size x0 hs rfl) (fun r hr => lean_ev r.size b r i (Nat.le_trans hr hs) rfl)
theorem dec3_ev (x0 : ByteArray) (hs : x0.size ≤ 40) (x4 x5 x6 : Int) (h4 : 0 ≤ x4) (h5 : x4 ≤ x5) (h6 : x5 ≤ x6) (h7 : x6 ≤ x0.size) : EvP (fun _ => True) (fun k => spec_jDecimalOf.j3 k x0 x4 x5 x6) := by
 refine EvP.up ?_; simp only [spec_jDecimalOf.j3]
 have hl : ∀ a b, (x0.extract a b).size ≤ LM := fun a b => Nat.le_trans (ext_size _ _ _) (by simp only [LM]; omega)
 have hl' : ∀ a b, (x0.extract a b).size ≤ 40 := fun a b => Nat.le_trans (ext_size _ _ _) hs
 rw [wid (i := x5 + 1) (by omega) (by omega)]
 refine EvP.ite (fun _ => EvP.ite (fun _ => EvP.bind (exp_ev _ (hl _ _)) (fun r _ => EvP.ite (fun _ => EvP.ite (fun _ => EvP.ite (fun _ => EvP.ite (fun _ => EvP.ite (fun _ => EvP.ite (fun _ => EvP.ite (fun _ => EvP.ite (fun _ => ?_) (fun h' => ?_)) (fun h' => absurd h' (by omega))) (fun h' => absurd h' (by omega))) (fun _ => ?_)) (fun h' => absurd h' (by omega))) (fun h' => absurd h' (by omega))) (fun h' => absurd h' (by omega))) (fun _ => EvP.ret trivial))) (fun h' => absurd h' (by omega))) (fun h' => absurd h' (by omega))
 ·refine EvP.bind (leans_ev _ _ _ ?_) (fun _ _ => EvP.ret trivial)
  rw [ByteArray.size_append]
  have := hl' x4.toNat x5.toNat
  have := hl' (x5 + 1).toNat x6.toNat
  simp only [LM]; omega
 ·have := hl' x4.toNat x5.toNat
  have := hl' (x5 + 1).toNat x6.toNat
  omega
 ·exact EvP.bind (leans_ev _ _ _ (hl _ _)) (fun _ _ => EvP.ret trivial)
theorem dec2_ev (x0 : ByteArray) (hs : x0.size ≤ 40) (x4 x5 : Int) (x41 : Bool) (h4 : 0 ≤ x4) (h5 : x4 ≤ x5) (h7 : x5 ≤ x0.size) (h8 : x41 = true → x5 < x0.size) : EvP (fun _ => True) (fun k => spec_jDecimalOf.j2 k x0 x4 x5 x5 x41) := by
 refine EvP.up ?_; simp only [spec_jDecimalOf.j2, spec_jRun.f]
 rw [wid (i := x5 + 1) (by omega) (by omega)]
 refine EvP.ite (fun e => ?_) (fun _ => dec3_ev x0 hs x4 x5 x5 h4 h5 (Int.le_refl _) h7)
 have := h8 e
 exact EvP.bind (run_ev x0 (by simp only [LM]; omega) ((x0.size : Int) - (x5 + 1)).toNat (x5 + 1) (by omega) (by omega) (by omega)) (fun r hr => EvP.ite (fun _ => EvP.ret trivial) (fun _ => dec3_ev x0 hs x4 x5 r h4 h5 (by omega) hr.2))
theorem dec1_ev (x0 : ByteArray) (hs : x0.size ≤ 40) (x4 : Int) (h4 : 0 ≤ x4) (h5 : x4 ≤ x0.size) : EvP (fun _ => True) (fun k => spec_jDecimalOf.j1 k x0 x4) := by
 refine EvP.up ?_; simp only [spec_jDecimalOf.j1, spec_jRun.f]
 refine EvP.bind (run_ev x0 (by simp only [LM]; omega) ((x0.size : Int) - x4).toNat x4 (by omega) (by omega) (by omega)) (fun r hr => EvP.ite (fun _ => EvP.ite (fun _ => EvP.ite (fun _ => EvP.bind (plain_ev _ (Nat.le_trans (ext_size _ _ _) (by simp only [LM]; omega))) (fun t _ => EvP.ite (fun _ => EvP.ite (fun hr' => EvP.ite (fun _ => ?_) (fun h' => absurd h' (by omega))) (fun _ => ?_)) (fun _ => EvP.ret trivial))) (fun h' => absurd h' (by omega))) (fun h' => absurd h' (by omega))) (fun h' => absurd h' (by omega)))
 ·exact dec2_ev x0 hs x4 r _ h4 hr.1 hr.2 (fun _ => hr')
 ·exact dec2_ev x0 hs x4 r _ h4 hr.1 hr.2 (fun h => by cases h)
theorem dec0_ev (x0 : ByteArray) (hs : x0.size ≤ 40) (b : Bool) (hb : b = true → 1 ≤ x0.size) : EvP (fun _ => True) (fun k => spec_jDecimalOf.j0 k x0 0 b) := by
 refine EvP.up ?_; simp only [spec_jDecimalOf.j0]
 exact EvP.ite (fun e => dec1_ev x0 hs 1 (by omega) (by have := hb e; omega)) (fun _ => dec1_ev x0 hs 0 (by omega) (by omega))
theorem decimal_ev (x0 : ByteArray) : EvP (fun _ => True) (fun k => spec_JIsDecimal.f k x0) := by
 unfold spec_JIsDecimal.f spec_jDecimalOf.f
 exact EvP.bind (Q := fun _ => True) (EvP.ite (fun _ => EvP.ret trivial) (fun h => EvP.ite (fun _ => dec0_ev x0 (by omega) _ (fun h => by cases h)) (fun hn => EvP.ite (fun _ => dec0_ev x0 (by omega) _ (fun _ => size_nil hn)) (fun h' => absurd (size_nil hn) (by omega))))) (fun _ _ => EvP.ret trivial)
abbrev WP (x0 : ByteArray) (x1 : Int) (r : Int) : Prop := r = 0 ∨ (1 ≤ r ∧ x1 + r ≤ x0.size)
theorem wl_ev (x0 : ByteArray) (hs : x0.size ≤ LM) (x1 x6 : Int) (h0 : 0 ≤ x1) (h6 : 2 ≤ x6) (h7 : x1 + x6 ≤ x0.size) (d : Nat) : ∀ x9 : Int, 2 ≤ x9 → x9 ≤ x6 → x6 - x9 = d → EvP (WP x0 x1) (fun k => spec_jWidth.l0 k x0 x1 x6 x9) := by
 simp only [LM] at hs
 induction d with
 | zero =>
  intro x9 h9 h9' hd; refine EvP.up ?_; simp only [spec_jWidth.l0]
  exact EvP.ite (fun h => absurd h (by omega)) (fun _ => EvP.ret (Or.inr (by omega)))
 | succ d ih =>
  intro x9 h9 h9' hd; refine EvP.up ?_; simp only [spec_jWidth.l0]
  rw [wid (i := x1 + x9) (by omega) (by omega), wid (i := x9 + 1) (by omega) (by omega)]
  exact EvP.ite (fun h => EvP.ite (fun _ => EvP.ite (fun _ => EvP.ite (fun _ => EvP.ret (Or.inl rfl)) (fun _ => EvP.ite (fun _ => EvP.ret (Or.inl rfl)) (fun _ => ih (x9 + 1) (by omega) (by omega) (by omega)))) (fun h' => absurd h' (by omega))) (fun h' => absurd h' (by omega))) (fun _ => EvP.ret (Or.inr (by omega)))
theorem w4_ev (x0 : ByteArray) (hs : x0.size ≤ LM) (x1 x6 : Int) (b : Bool) (h0 : 0 ≤ x1) (h6 : 2 ≤ x6) (h7 : b = false → x1 + x6 ≤ x0.size) : EvP (WP x0 x1) (fun k => spec_jWidth.j4 k x0 x1 x6 b) := by
 refine EvP.up ?_; simp only [spec_jWidth.j4]
 exact EvP.ite (fun _ => EvP.ret (Or.inl rfl)) (fun h => wl_ev x0 hs x1 x6 h0 h6 (h7 (by simpa using h)) (x6 - 2).toNat 2 (by omega) h6 (by omega))
theorem w3_ev (x0 : ByteArray) (hs : x0.size ≤ LM) (x1 x6 x7 x8 : Int) (h0 : 0 ≤ x1) (h1 : x1 < x0.size) (h6 : 2 ≤ x6) (h6' : x6 ≤ 4) : EvP (WP x0 x1) (fun k => spec_jWidth.j3 k x0 x1 x6 x7 x8) := by
 refine EvP.up ?_; simp only [spec_jWidth.j3]
 have hs' := hs
 simp only [LM] at hs'
 rw [wid (i := x1 + x6) (by omega) (by omega), wid (i := x1 + 1) (by omega) (by omega)]
 exact EvP.ite (fun _ => w4_ev x0 hs x1 x6 _ h0 h6 (fun h => by cases h)) (fun h => EvP.ite (fun _ => EvP.ite (fun _ => EvP.ite (fun _ => w4_ev x0 hs x1 x6 _ h0 h6 (fun h => by cases h)) (fun _ => w4_ev x0 hs x1 x6 _ h0 h6 (fun _ => by omega))) (fun h' => absurd h' (by omega))) (fun h' => absurd h' (by omega)))
theorem w2_ev (x0 : ByteArray) (hs : x0.size ≤ LM) (x1 x5 x7 x8 : Int) (b : Bool) (h0 : 0 ≤ x1) (h1 : x1 < x0.size) : EvP (WP x0 x1) (fun k => spec_jWidth.j2 k x0 x1 x5 x7 x8 b) := by
 refine EvP.up ?_; simp only [spec_jWidth.j2]
 have w := fun p q => w3_ev x0 hs x1 4 p q h0 h1 (by omega) (by omega)
 exact EvP.ite (fun _ => EvP.ite (fun _ => EvP.ite (fun _ => w _ _) (fun _ => w _ _)) (fun _ => EvP.ite (fun _ => w _ _) (fun _ => w _ _))) (fun _ => EvP.ret (Or.inl rfl))
theorem w1_ev (x0 : ByteArray) (hs : x0.size ≤ LM) (x1 x5 x7 x8 : Int) (b : Bool) (h0 : 0 ≤ x1) (h1 : x1 < x0.size) : EvP (WP x0 x1) (fun k => spec_jWidth.j1 k x0 x1 x5 x7 x8 b) := by
 refine EvP.up ?_; simp only [spec_jWidth.j1]
 have w := fun p q => w3_ev x0 hs x1 3 p q h0 h1 (by omega) (by omega)
 have w2 := fun p => w2_ev x0 hs x1 x5 x7 x8 p h0 h1
 exact EvP.ite (fun _ => EvP.ite (fun _ => EvP.ite (fun _ => w _ _) (fun _ => w _ _)) (fun _ => EvP.ite (fun _ => w _ _) (fun _ => w _ _))) (fun _ => EvP.ite (fun _ => w2 _) (fun _ => w2 _))
theorem w0_ev (x0 : ByteArray) (hs : x0.size ≤ LM) (x1 x5 x7 x8 : Int) (b : Bool) (h0 : 0 ≤ x1) (h1 : x1 < x0.size) : EvP (WP x0 x1) (fun k => spec_jWidth.j0 k x0 x1 x5 x7 x8 b) := by
 refine EvP.up ?_; simp only [spec_jWidth.j0]
 have w1 := fun p => w1_ev x0 hs x1 x5 x7 x8 p h0 h1
 exact EvP.ite (fun _ => w3_ev x0 hs x1 2 x7 x8 h0 h1 (by omega) (by omega)) (fun _ => EvP.ite (fun _ => w1 _) (fun _ => w1 _))
theorem width_ev (x0 : ByteArray) (hs : x0.size ≤ LM) (x1 : Int) (h0 : 0 ≤ x1) (h1 : x1 < x0.size) : EvP (WP x0 x1) (fun k => spec_jWidth.f k x0 x1) := by
 unfold spec_jWidth.f
 exact EvP.ite (fun _ => EvP.ite (fun _ => EvP.ite (fun _ => EvP.ret (Or.inr (by omega))) (fun _ => EvP.ite (fun _ => w0_ev x0 hs x1 _ _ _ _ h0 h1) (fun _ => w0_ev x0 hs x1 _ _ _ _ h0 h1))) (fun h' => absurd h1 h')) (fun h' => absurd h0 h')
theorem utf8_ev (x0 : ByteArray) (hs : x0.size ≤ LM) (d : Nat) : ∀ x3 : Int, 0 ≤ x3 → x3 ≤ x0.size → (x0.size : Int) - x3 ≤ d → EvP (fun _ => True) (fun k => spec_JUtf8.l0 k x0 x3) := by
 have hs' := hs
 simp only [LM] at hs'
 induction d with
 | zero =>
  intro x3 h0 h1 hd; refine EvP.up ?_; simp only [spec_JUtf8.l0]
  exact EvP.ite (fun h => absurd h (by omega)) (fun _ => EvP.ret trivial)
 | succ d ih =>
  intro x3 h0 h1 hd; refine EvP.up ?_; simp only [spec_JUtf8.l0]
  refine EvP.ite (fun h => EvP.bind (width_ev x0 hs x3 h0 h) (fun r hr => EvP.ite (fun _ => EvP.ret trivial) (fun hn => ?_))) (fun _ => EvP.ret trivial)
  have hr' : 1 ≤ r ∧ x3 + r ≤ x0.size := hr.resolve_left hn
  rw [wid (i := x3 + r) (by omega) (by omega)]
  exact ih _ (by omega) hr'.2 (by omega)
theorem utf8s_ev (x0 : ByteArray) (hs : x0.size ≤ LM) : EvP (fun _ => True) (fun k => spec_JUtf8.f k x0) := by
 unfold spec_JUtf8.f
 exact utf8_ev x0 hs x0.size 0 (by omega) (by omega) (by omega)
section
variable (q0 : Int) (q1 : Bool) (q2 : Int) (q3 : ByteArray) (q4 : List ByteArray) (q5 : List S25) (n4 : q4.length ≤ LM) (n5 : q5.length ≤ LM) (t4 : ∀ s ∈ q4, s.size ≤ LM)
include n5
theorem pl1_ev (sub : ∀ y ∈ q5, ∀ a : Int, EvP (fun _ => True) (fun k => spec_jProperIn.f k y.f0 y.f1 y.f2 y.f3 y.f4 y.f5 a)) (a : Int) (d : Nat) : ∀ i : Int, 0 ≤ i → i ≤ q5.length → (q5.length : Int) - i = d → EvP (fun _ => True) (fun k => spec_jProperIn.l1 k a i q0 q1 q2 q3 q4 q5) := by
 simp only [LM] at n5
 induction d with
 | zero =>
  intro i h0 h1 hd; refine EvP.up ?_; simp only [spec_jProperIn.l1]
  exact EvP.ite (fun h => absurd h (by omega)) (fun _ => EvP.ret trivial)
 | succ d ih =>
  intro i h0 h1 hd; refine EvP.up ?_; simp only [spec_jProperIn.l1]
  refine EvP.ite (fun h => EvP.ite (fun _ => EvP.bind (sub _ (rd_T25_in h0 h) _) (fun t _ => EvP.ite (fun _ => ?_) (fun _ => EvP.ret trivial))) (fun h' => absurd h0 h')) (fun _ => EvP.ret trivial)
  rw [wid (i := i + 1) (by omega) (by omega)]
  exact ih _ (by omega) (by omega) (by omega)
theorem cl_ev (sub : ∀ y ∈ q5, EvP (fun _ => True) (fun k => spec_JCounts.f k y.f0 y.f1 y.f2 y.f3 y.f4 y.f5)) (d : Nat) : ∀ i : Int, 0 ≤ i → i ≤ q5.length → (q5.length : Int) - i = d → EvP (fun _ => True) (fun k => spec_JCounts.l0 k i q0 q1 q2 q3 q4 q5) := by
 simp only [LM] at n5
 induction d with
 | zero =>
  intro i h0 h1 hd; refine EvP.up ?_; simp only [spec_JCounts.l0]
  exact EvP.ite (fun h => absurd h (by omega)) (fun _ => EvP.ret trivial)
 | succ d ih =>
  intro i h0 h1 hd; refine EvP.up ?_; simp only [spec_JCounts.l0]
  refine EvP.ite (fun h => EvP.ite (fun _ => EvP.bind (sub _ (rd_T25_in h0 h)) (fun t _ => EvP.ite (fun _ => ?_) (fun _ => EvP.ret trivial))) (fun h' => absurd h0 h')) (fun _ => EvP.ret trivial)
  rw [wid (i := i + 1) (by omega) (by omega)]
  exact ih _ (by omega) (by omega) (by omega)
include n4 t4
theorem pl0_ev (sub : ∀ y ∈ q5, ∀ a : Int, EvP (fun _ => True) (fun k => spec_jProperIn.f k y.f0 y.f1 y.f2 y.f3 y.f4 y.f5 a)) (a : Int) (d : Nat) : ∀ i : Int, 0 ≤ i → i ≤ q4.length → (q4.length : Int) - i = d → EvP (fun _ => True) (fun k => spec_jProperIn.l0 k a i q0 q1 q2 q3 q4 q5) := by
 have n4' := n4
 simp only [LM] at n4'
 have last := pl1_ev q0 q1 q2 q3 q4 q5 n5 sub a q5.length 0 (by omega) (by omega) (by omega)
 induction d with
 | zero =>
  intro i h0 h1 hd; refine EvP.up ?_; simp only [spec_jProperIn.l0]
  exact EvP.ite (fun h => absurd h (by omega)) (fun _ => last)
 | succ d ih =>
  intro i h0 h1 hd; refine EvP.up ?_; simp only [spec_jProperIn.l0]
  refine EvP.ite (fun h => EvP.ite (fun _ => EvP.bind (utf8s_ev _ (t4 _ ?_)) (fun t _ => EvP.ite (fun _ => ?_) (fun _ => EvP.ret trivial))) (fun h' => absurd h0 h')) (fun _ => last)
  ·unfold rdOf
   rw [getD_lt (by omega : i.toNat < q4.length)]
   exact List.getElem_mem _
  rw [wid (i := i + 1) (by omega) (by omega)]
  exact ih _ (by omega) (by omega) (by omega)
theorem pj_ev (sub : ∀ y ∈ q5, ∀ a : Int, EvP (fun _ => True) (fun k => spec_jProperIn.f k y.f0 y.f1 y.f2 y.f3 y.f4 y.f5 a)) (a : Int) (b : Bool) : EvP (fun _ => True) (fun k => spec_jProperIn.j0 k a b q0 q1 q2 q3 q4 q5) := by
 refine EvP.up ?_; simp only [spec_jProperIn.j0]
 exact EvP.ite (fun _ => EvP.ret trivial) (fun _ => pl0_ev q0 q1 q2 q3 q4 q5 n4 n5 t4 sub a q4.length 0 (by omega) (by omega) (by omega))
end
theorem proper_ev {x : S25} (h : Sz x) : ∀ a : Int, EvP (fun _ => True) (fun k => spec_jProperIn.f k x.f0 x.f1 x.f2 x.f3 x.f4 x.f5 a) := by
 induction h with
 | @mk x n3 n4 n5 t4 sub ih =>
  intro a; refine EvP.up ?_; simp only [spec_jProperIn.f]
  have j := fun b => pj_ev x.f0 x.f1 x.f2 x.f3 x.f4 x.f5 n4 n5 t4 ih a b
  exact EvP.ite (fun _ => EvP.ret trivial) (fun _ => EvP.ite (fun _ => j _) (fun _ => EvP.ite (fun _ => j _) (fun _ => EvP.bind (utf8s_ev _ n3) (fun t _ => EvP.ite (fun _ => EvP.ite (fun _ => EvP.ite (fun _ => EvP.ite (fun _ => j _) (fun _ => j _)) (fun _ => EvP.bind (decimal_ev _) (fun t _ => EvP.ite (fun _ => EvP.ite (fun _ => j _) (fun _ => j _)) (fun _ => j _)))) (fun _ => EvP.ite (fun _ => j _) (fun _ => j _))) (fun _ => j _)))))
theorem counts_ev {x : S25} (h : Sz x) : EvP (fun _ => True) (fun k => spec_JCounts.f k x.f0 x.f1 x.f2 x.f3 x.f4 x.f5) := by
 induction h with
 | @mk x n3 n4 n5 t4 sub ih =>
  refine EvP.up ?_; simp only [spec_JCounts.f]
  exact EvP.ite (fun _ => EvP.ret trivial) (fun _ => cl_ev x.f0 x.f1 x.f2 x.f3 x.f4 x.f5 n5 ih x.f5.length 0 (by omega) (by omega) (by omega))
theorem fits_ev (l : List ByteArray) (hn : l.length ≤ LM) (d : Nat) : ∀ i : Int, 0 ≤ i → i ≤ l.length → (l.length : Int) - i = d → EvP (fun _ => True) (fun k => laws_zzFits4.l0 k l (l.length : Int) i) := by
 simp only [LM] at hn
 induction d with
 | zero =>
  intro i h0 h1 hd; refine EvP.up ?_; simp only [laws_zzFits4.l0]
  exact EvP.ite (fun h => absurd h (by omega)) (fun _ => EvP.ret trivial)
 | succ d ih =>
  intro i h0 h1 hd; refine EvP.up ?_; simp only [laws_zzFits4.l0]
  refine EvP.ite (fun h => EvP.ite (fun _ => EvP.ite (fun _ => EvP.ite (fun _ => EvP.ret trivial) (fun _ => ?_)) (fun h' => absurd h' (by omega))) (fun h' => absurd h0 h')) (fun _ => EvP.ret trivial)
  rw [wid (i := i + 1) (by omega) (by omega)]
  exact ih _ (by omega) (by omega) (by omega)
theorem fits4_ev (l : List ByteArray) (hn : l.length ≤ LM) : EvP (fun _ => True) (fun k => laws_zzFits4.f k l) := by
 unfold laws_zzFits4.f
 exact EvP.ite (fun _ => EvP.ret trivial) (fun _ => fits_ev l hn l.length 0 (by omega) (by omega) (by omega))
theorem fits5_ev {x : S25} (h : Sz x) : EvP (fun _ => True) (fun k => laws_zzFits5.f k x.f0 x.f1 x.f2 x.f3 x.f4 x.f5) := by
 obtain ⟨n3, n4, n5, t4, sub⟩ := h
 unfold laws_zzFits5.f
 exact EvP.ite (fun _ => EvP.ret trivial) (fun _ => EvP.bind (fits4_ev x.f4 n4) (fun t _ => EvP.ite (fun _ => EvP.ite (fun _ => EvP.ret trivial) (fun _ => EvP.ret trivial)) (fun _ => EvP.ret trivial)))
end Go.Proofs.YtkphbhncpdcbeaaGreatDoor.J
namespace Go.Proofs.YtkphbhncpdcbeaaGreatDoor.J
open Go.RowKit Go.Proofs.YtkphbhncpdcbeaaGreatDoorW.PrintWords Go.Proofs.YtkphbhncpdcbeaaGreatDoorW.PrintLast Go.Proofs.YtkphbhncpdcbeaaGreatDoorW.PrintMore Go.Proofs.YtkphbhncpdcbeaaGreatDoor.PJT
attribute [local go_sem] Nd.csize Sc.csize Nd.c0 Nd.c1 Nd.c2 Nd.c3 Nd.c4 Nd.c5 Nd.c6 Nd.c7 Nd.c8 Nd.c9 Nd.c10 Nd.c11 Nd.c12 Nd.c13 Nd.c14 Nd.c15 Nd.c16 Nd.c17 Nd.c18 Nd.c19 Nd.c20 Nd.c21 Nd.c22 Nd.c23 Nd.c24 Nd.c25 Nd.c26 Nd.c27 Nd.c28 Nd.c29 Nd.c30 Nd.c31 Nd.c32 Nd.c33 Nd.c34 Nd.c35 Nd.c36 Nd.c37 Nd.c38 Nd.c39 Nd.c40 Nd.c41 Nd.c42 Nd.c43 Nd.c44 Nd.c45 Nd.c46 Nd.c47 Nd.c48 Nd.c49 Nd.c50 Nd.c51 Nd.c52 Sc.c0 Sc.c1 Sc.c2 Sc.c3 Sc.c4 Sc.c5 Sc.c6 Sc.c7 Sc.c8 Sc.c9 Sc.c10 Sc.c11 Sc.c12 Sc.c13 Sc.c14 Sc.c15 Sc.c16 Sc.c17 Sc.c18 Sc.c19 Sc.c20 Sc.c21 Sc.c22 Sc.c23 Sc.c24 Sc.c25 Sc.c26 Sc.c27 Sc.c28 Sc.c29 Sc.c30 Sc.c31 Sc.c32 Sc.c33 Sc.c34 Sc.c35 Sc.c36 Sc.c37 Sc.c38 Sc.c39 Sc.c40 Sc.c41 Sc.c42 Sc.c43 Sc.c44 Sc.c45 Sc.c46 Sc.c47 Sc.c48 Sc.c49 Sc.c50 Sc.c51 Sc.c52
set_option linter.unusedVariables false
set_option linter.unusedSimpArgs false
set_option maxHeartbeats 4000000 in
set_option maxRecDepth 100000 in
theorem countless_pf (w : World) (gl : Nat) (x : S25) (A4 A5 : Option Addr) (c4 c5 : Nat) (hl : w.heap[gl]? = some (row (jvc x A4 A5 c4 c5) 25)) (hP : ∀ W, Below w.heap.size w W → Calls Tryz.prog 12 #[.agg (jvc x A4 A5 c4 c5)] W fun e w' => e = .returned (.bool false) ∧ Below W.heap.size W w') : Calls Tryz.prog 7 #[.slice (some ⟨gl, 0, none⟩) 1 1] w fun e w' => e = .returned (.bool false) ∧ Below w.heap.size w w' := by
 have HP := asd_ hP
 clear hP
 skip
 skip
 have HK : Aside0 (At w [.b gl (row (jvc x A4 A5 c4 c5) 25)] w) := asd_ (At.hold (At.start w) hl (by simp [nums]))
 have bgl := cE HK 0
 go_enter Tryz.func7, Tryz.ntmps7
 go_wp2_with fail
 refine wp_loop_once ?_
 go_wp2_with (first | ((with_reducible refine gd_ 13 ?_); refine lo_ 25 12 gl (jvc x A4 A5 c4 c5) HK.out.k.1 Tryz.underlying25 ?_) | ((with_reducible refine gd_ 14 ?_); refine cl_ #[.agg (jvc x A4 A5 c4 c5)] (.bool false) Tryz.func12 (HP.out _ HK.out.b) ?_; intro wc14 HK1; replace HK := asd_ HK1; clear HK1; clear bgl; have bgl := cE HK 0))
 go_ret
 exact ⟨rfl, be_⟩
set_option maxHeartbeats 4000000 in
set_option maxRecDepth 100000 in
theorem countless_qf (w : World) (gl : Nat) (x : S25) (A4 A5 : Option Addr) (c4 c5 : Nat) (hl : w.heap[gl]? = some (row (jvc x A4 A5 c4 c5) 25)) (hP : ∀ W, Below w.heap.size w W → Calls Tryz.prog 12 #[.agg (jvc x A4 A5 c4 c5)] W fun e w' => e = .returned (.bool true) ∧ Below W.heap.size W w') (hQ : ∀ W, Below w.heap.size w W → Calls Tryz.prog 13 #[.agg (jvc x A4 A5 c4 c5)] W fun e w' => e = .returned (.bool false) ∧ Below W.heap.size W w') : Calls Tryz.prog 7 #[.slice (some ⟨gl, 0, none⟩) 1 1] w fun e w' => e = .returned (.bool false) ∧ Below w.heap.size w w' := by
 have HP := asd_ hP
 clear hP
 have HQ := asd_ hQ
 clear hQ
 have HK : Aside0 (At w [.b gl (row (jvc x A4 A5 c4 c5) 25)] w) := asd_ (At.hold (At.start w) hl (by simp [nums]))
 have bgl := cE HK 0
 go_enter Tryz.func7, Tryz.ntmps7
 go_wp2_with fail
 refine wp_loop_once ?_
 go_wp2_with (first | ((with_reducible refine gd_ 13 ?_); refine lo_ 25 12 gl (jvc x A4 A5 c4 c5) HK.out.k.1 Tryz.underlying25 ?_) | ((with_reducible refine gd_ 14 ?_); refine cl_ #[.agg (jvc x A4 A5 c4 c5)] (.bool true) Tryz.func12 (HP.out _ HK.out.b) ?_; intro wc14 HK1; replace HK := asd_ HK1; clear HK1; clear bgl; have bgl := cE HK 0) | ((with_reducible refine gd_ 20 ?_); (try (refine gate_guard (by rfl) ?_; dsimp only)); refine lo_ 25 19 gl (jvc x A4 A5 c4 c5) HK.out.k.1 Tryz.underlying25 ?_) | ((with_reducible refine gd_ 21 ?_); (try (refine gate_guard (by rfl) ?_; dsimp only)); refine cl_ #[.agg (jvc x A4 A5 c4 c5)] (.bool false) Tryz.func13 (HQ.out _ HK.out.b) ?_; intro wc21 HK1; replace HK := asd_ HK1; clear HK1; clear bgl; have bgl := cE HK 0))
 go_ret
 exact ⟨rfl, be_⟩
set_option maxHeartbeats 4000000 in
set_option maxRecDepth 100000 in
theorem countless_ok (w : World) (gl : Nat) (x : S25) (A4 A5 : Option Addr) (c4 c5 : Nat) (hl : w.heap[gl]? = some (row (jvc x A4 A5 c4 c5) 25)) (hP : ∀ W, Below w.heap.size w W → Calls Tryz.prog 12 #[.agg (jvc x A4 A5 c4 c5)] W fun e w' => e = .returned (.bool true) ∧ Below W.heap.size W w') (hQ : ∀ W, Below w.heap.size w W → Calls Tryz.prog 13 #[.agg (jvc x A4 A5 c4 c5)] W fun e w' => e = .returned (.bool true) ∧ Below W.heap.size W w') : Calls Tryz.prog 7 #[.slice (some ⟨gl, 0, none⟩) 1 1] w fun e w' => e = .returned (.bool true) ∧ Below w.heap.size w w' := by
 have HP := asd_ hP
 clear hP
 have HQ := asd_ hQ
 clear hQ
 have HK : Aside0 (At w [.b gl (row (jvc x A4 A5 c4 c5) 25)] w) := asd_ (At.hold (At.start w) hl (by simp [nums]))
 have bgl := cE HK 0
 go_enter Tryz.func7, Tryz.ntmps7
 go_wp2_with fail
 refine wp_loop_two ?_
 go_wp2_with (first | ((with_reducible refine gd_ 13 ?_); refine lo_ 25 12 gl (jvc x A4 A5 c4 c5) HK.out.k.1 Tryz.underlying25 ?_) | ((with_reducible refine gd_ 14 ?_); refine cl_ #[.agg (jvc x A4 A5 c4 c5)] (.bool true) Tryz.func12 (HP.out _ HK.out.b) ?_; intro wc14 HK1; replace HK := asd_ HK1; clear HK1; clear bgl; have bgl := cE HK 0) | ((with_reducible refine gd_ 20 ?_); (try (refine gate_guard (by rfl) ?_; dsimp only)); refine lo_ 25 19 gl (jvc x A4 A5 c4 c5) HK.out.k.1 Tryz.underlying25 ?_) | ((with_reducible refine gd_ 21 ?_); (try (refine gate_guard (by rfl) ?_; dsimp only)); refine cl_ #[.agg (jvc x A4 A5 c4 c5)] (.bool true) Tryz.func13 (HQ.out _ HK.out.b) ?_; intro wc21 HK1; replace HK := asd_ HK1; clear HK1; clear bgl; have bgl := cE HK 0))
 go_ret
 exact ⟨rfl, be_⟩
theorem proper_ok {x : S25} (h : Sz x) : ∃ p : Bool, (∃ k, spec_jProperIn.f k x.f0 x.f1 x.f2 x.f3 x.f4 x.f5 1000 = some p) ∧ ∀ (W : World) (A4 A5 : Option Addr) (c4 c5 : Nat), Rep W x A4 c4 A5 c5 → Calls Tryz.prog 12 #[.agg (jvc x A4 A5 c4 c5)] W fun e w' => e = .returned (.bool p) ∧ Below W.heap.size W w' := by
 obtain ⟨k, p, hk⟩ := (proper_ev h 1000).of
 refine ⟨p, ⟨k, hk⟩, fun W A4 A5 c4 c5 hx => ?_⟩
 exact (spec_JProper.calls k x.f0 x.f1 x.f2 x.f3 A4 c4 x.f4 A5 c5 x.f5 p W hx.h4 hx.l4 hx.h5 hx.l5 (by unfold spec_JProper.f; rw [hk]; rfl)).mono (fun e w' h => ⟨h.1, by first | exact h.2 | exact h.2.below⟩)
theorem counts_ok {x : S25} (h : Sz x) : ∃ p : Bool, (∃ k, spec_JCounts.f k x.f0 x.f1 x.f2 x.f3 x.f4 x.f5 = some p) ∧ ∀ (W : World) (A4 A5 : Option Addr) (c4 c5 : Nat), Rep W x A4 c4 A5 c5 → Calls Tryz.prog 13 #[.agg (jvc x A4 A5 c4 c5)] W fun e w' => e = .returned (.bool p) ∧ Below W.heap.size W w' := by
 obtain ⟨k, p, hk⟩ := (counts_ev h).of
 refine ⟨p, ⟨k, hk⟩, fun W A4 A5 c4 c5 hx => ?_⟩
 exact (spec_JCounts.calls k x.f0 x.f1 x.f2 x.f3 A4 c4 x.f4 A5 c5 x.f5 p W hx.h4 hx.l4 hx.h5 hx.l5 hk).mono (fun e w' h => ⟨h.1, by first | exact h.2 | exact h.2.below⟩)
theorem fits5_ok {x : S25} (h : Sz x) : ∃ p : Bool, ∀ (W : World) (A4 A5 : Option Addr) (c4 c5 : Nat), Rep W x A4 c4 A5 c5 → Calls Tryz.prog 6 #[.agg (jvc x A4 A5 c4 c5)] W fun e w' => e = .returned (.bool p) ∧ Below W.heap.size W w' := by
 obtain ⟨k, p, hk⟩ := (fits5_ev h).of
 refine ⟨p, fun W A4 A5 c4 c5 hx => ?_⟩
 exact (laws_zzFits5.calls k x.f0 x.f1 x.f2 x.f3 A4 c4 x.f4 A5 c5 x.f5 p W hx.h4 hx.l4 hx.h5 hx.l5 hk).mono (fun e w' h => ⟨h.1, by first | exact h.2 | exact h.2.below⟩)
theorem fits4_ok (l : List ByteArray) (hn : l.length ≤ LM) : ∃ p : Bool, ∀ (W : World) (A : Option Addr) (c : Nat), Kd.C Kd.string W A l.length l → l.length ≤ c → Calls Tryz.prog 5 #[.slice A l.length c] W fun e w' => e = .returned (.bool p) ∧ Below W.heap.size W w' := by
 obtain ⟨k, p, hk⟩ := (fits4_ev l hn).of
 refine ⟨p, fun W A c h hc => ?_⟩
 exact (laws_zzFits4.calls k A c l p W h hc hk).mono (fun e w' h => ⟨h.1, by first | exact h.2 | exact h.2.below⟩)
theorem countless_any {x : S25} (h : Sz x) : ∃ p : Bool, (p = true → V x) ∧ ∀ (W : World) (gl : Nat) (A4 A5 : Option Addr) (c4 c5 : Nat), Rep W x A4 c4 A5 c5 → W.heap[gl]? = some (row (jvc x A4 A5 c4 c5) 25) → Calls Tryz.prog 7 #[.slice (some ⟨gl, 0, none⟩) 1 1] W fun e w' => e = .returned (.bool p) ∧ Below W.heap.size W w' := by
 obtain ⟨p, ⟨k, hk⟩, hp⟩ := proper_ok h
 obtain ⟨q, ⟨k', hk'⟩, hq⟩ := counts_ok h
 cases p with
 | false => exact ⟨false, (fun h => by cases h), fun W gl A4 A5 c4 c5 hx hl => countless_pf W gl x A4 A5 c4 c5 hl (fun W1 h1 => hp W1 _ _ _ _ (hx.below h1))⟩
 | true =>
  cases q with
  | false => exact ⟨false, (fun h => by cases h), fun W gl A4 A5 c4 c5 hx hl => countless_qf W gl x A4 A5 c4 c5 hl (fun W1 h1 => hp W1 _ _ _ _ (hx.below h1)) (fun W1 h1 => hq W1 _ _ _ _ (hx.below h1))⟩
  | true => exact ⟨true, fun _ => v_of h hk hk', fun W gl A4 A5 c4 c5 hx hl => countless_ok W gl x A4 A5 c4 c5 hl (fun W1 h1 => hp W1 _ _ _ _ (hx.below h1)) (fun W1 h1 => hq W1 _ _ _ _ (hx.below h1))⟩
set_option maxHeartbeats 4000000 in
set_option maxRecDepth 100000 in
theorem law_a (w : World) (x : S25) (A4 A5 : Option Addr) (c4 c5 : Nat) (A : Option Addr) (c : Nat) (names : List ByteArray) (name : ByteArray)  (h4 : ∀ W, Below w.heap.size w W → Calls Tryz.prog 5 #[.slice A names.length c] W fun e w' => e = .returned (.bool false) ∧ Below W.heap.size W w') : Calls Tryz.prog 3 #[.slice A names.length c, .string name, .agg (jvc x A4 A5 c4 c5)] w fun e w' => e = .returned (.bool true) ∧ Below w.heap.size w w' := by
 have H4 := asd_ h4
 clear h4
 have HK : Aside0 (At w [] w) := asd_ (At.start w)
 go_enter Tryz.func3, Tryz.ntmps3
 go_wp2_with (first | ((with_reducible refine gd_ 5 ?_); refine bx_ (jvc x A4 A5 c4 c5) 25 ?_; clear HK; intro g5 wb5 HK Gg5; have bg5 := cE HK 0) | ((with_reducible refine gd_ 8 ?_); refine cl_ #[.slice A names.length c] (.bool false) Tryz.func5 (H4.out _ HK.out.b) ?_; intro wc8 HK1; replace HK := asd_ HK1; clear HK1; clear bg5; have bg5 := cE HK 0))
 go_ret
 exact ⟨by first | rfl | simp, be_⟩
set_option maxHeartbeats 4000000 in
set_option maxRecDepth 100000 in
theorem law_b (w : World) (x : S25) (A4 A5 : Option Addr) (c4 c5 : Nat) (A : Option Addr) (c : Nat) (names : List ByteArray) (name : ByteArray) (hnm : decide ((name.size : Int) > 2147483647) = true) (h4 : ∀ W, Below w.heap.size w W → Calls Tryz.prog 5 #[.slice A names.length c] W fun e w' => e = .returned (.bool true) ∧ Below W.heap.size W w') : Calls Tryz.prog 3 #[.slice A names.length c, .string name, .agg (jvc x A4 A5 c4 c5)] w fun e w' => e = .returned (.bool true) ∧ Below w.heap.size w w' := by
 have H4 := asd_ h4
 clear h4
 have HK : Aside0 (At w [] w) := asd_ (At.start w)
 go_enter Tryz.func3, Tryz.ntmps3
 go_wp2_with (first | ((with_reducible refine gd_ 5 ?_); refine bx_ (jvc x A4 A5 c4 c5) 25 ?_; clear HK; intro g5 wb5 HK Gg5; have bg5 := cE HK 0) | ((with_reducible refine gd_ 8 ?_); refine cl_ #[.slice A names.length c] (.bool true) Tryz.func5 (H4.out _ HK.out.b) ?_; intro wc8 HK1; replace HK := asd_ HK1; clear HK1; clear bg5; have bg5 := cE HK 0))
 go_ret
 exact ⟨by first | rfl | simp, be_⟩
set_option maxHeartbeats 4000000 in
set_option maxRecDepth 100000 in
theorem law_c (w : World) (x : S25) (A4 A5 : Option Addr) (c4 c5 : Nat) (A : Option Addr) (c : Nat) (names : List ByteArray) (name : ByteArray) (hnm : decide ((name.size : Int) > 2147483647) = false) (h4 : ∀ W, Below w.heap.size w W → Calls Tryz.prog 5 #[.slice A names.length c] W fun e w' => e = .returned (.bool true) ∧ Below W.heap.size W w') (h5 : ∀ W, Below w.heap.size w W → Calls Tryz.prog 6 #[.agg (jvc x A4 A5 c4 c5)] W fun e w' => e = .returned (.bool false) ∧ Below W.heap.size W w') : Calls Tryz.prog 3 #[.slice A names.length c, .string name, .agg (jvc x A4 A5 c4 c5)] w fun e w' => e = .returned (.bool true) ∧ Below w.heap.size w w' := by
 have H4 := asd_ h4
 clear h4
 have H5 := asd_ h5
 clear h5
 have HK : Aside0 (At w [] w) := asd_ (At.start w)
 go_enter Tryz.func3, Tryz.ntmps3
 go_wp2_with (first | ((with_reducible refine gd_ 5 ?_); refine bx_ (jvc x A4 A5 c4 c5) 25 ?_; clear HK; intro g5 wb5 HK Gg5; have bg5 := cE HK 0) | ((with_reducible refine gd_ 8 ?_); refine cl_ #[.slice A names.length c] (.bool true) Tryz.func5 (H4.out _ HK.out.b) ?_; intro wc8 HK1; replace HK := asd_ HK1; clear HK1; clear bg5; have bg5 := cE HK 0) | ((with_reducible refine gd_ 16 ?_); (try (refine gate_guard (by rfl) ?_; dsimp only)); refine lo_ 25 5 g5 (jvc x A4 A5 c4 c5) HK.out.k.1 Tryz.underlying25 ?_) | ((with_reducible refine gd_ 17 ?_); (try (refine gate_guard (by rfl) ?_; dsimp only)); refine cl_ #[.agg (jvc x A4 A5 c4 c5)] (.bool false) Tryz.func6 (H5.out _ HK.out.b) ?_; intro wc17 HK1; replace HK := asd_ HK1; clear HK1; clear bg5; have bg5 := cE HK 0))
 go_ret
 exact ⟨by first | rfl | simp, be_⟩
set_option maxHeartbeats 4000000 in
set_option maxRecDepth 100000 in
theorem law_d (w : World) (x : S25) (A4 A5 : Option Addr) (c4 c5 : Nat) (A : Option Addr) (c : Nat) (names : List ByteArray) (name : ByteArray) (hnm : decide ((name.size : Int) > 2147483647) = false) (h4 : ∀ W, Below w.heap.size w W → Calls Tryz.prog 5 #[.slice A names.length c] W fun e w' => e = .returned (.bool true) ∧ Below W.heap.size W w') (h5 : ∀ W, Below w.heap.size w W → Calls Tryz.prog 6 #[.agg (jvc x A4 A5 c4 c5)] W fun e w' => e = .returned (.bool true) ∧ Below W.heap.size W w') (h7 : ∀ W gl, Below w.heap.size w W → W.heap[gl]? = some (row (jvc x A4 A5 c4 c5) 25) → Calls Tryz.prog 7 #[.slice (some ⟨gl, 0, none⟩) 1 1] W fun e w' => e = .returned (.bool false) ∧ Below W.heap.size W w') : Calls Tryz.prog 3 #[.slice A names.length c, .string name, .agg (jvc x A4 A5 c4 c5)] w fun e w' => e = .returned (.bool true) ∧ Below w.heap.size w w' := by
 have H4 := asd_ h4
 clear h4
 have H5 := asd_ h5
 clear h5
 have H7 := asd_ h7
 clear h7
 have HK : Aside0 (At w [] w) := asd_ (At.start w)
 go_enter Tryz.func3, Tryz.ntmps3
 go_wp2_with (first | ((with_reducible refine gd_ 5 ?_); refine bx_ (jvc x A4 A5 c4 c5) 25 ?_; clear HK; intro g5 wb5 HK Gg5; have bg5 := cE HK 0) | ((with_reducible refine gd_ 8 ?_); refine cl_ #[.slice A names.length c] (.bool true) Tryz.func5 (H4.out _ HK.out.b) ?_; intro wc8 HK1; replace HK := asd_ HK1; clear HK1; clear bg5; have bg5 := cE HK 0) | ((with_reducible refine gd_ 16 ?_); (try (refine gate_guard (by rfl) ?_; dsimp only)); refine lo_ 25 5 g5 (jvc x A4 A5 c4 c5) HK.out.k.1 Tryz.underlying25 ?_) | ((with_reducible refine gd_ 17 ?_); (try (refine gate_guard (by rfl) ?_; dsimp only)); refine cl_ #[.agg (jvc x A4 A5 c4 c5)] (.bool true) Tryz.func6 (H5.out _ HK.out.b) ?_; intro wc17 HK1; replace HK := asd_ HK1; clear HK1; clear bg5; have bg5 := cE HK 0) | ((with_reducible refine gd_ 20 ?_); refine lo_ 25 5 g5 (jvc x A4 A5 c4 c5) HK.out.k.1 Tryz.underlying25 ?_) | ((with_reducible refine gd_ 21 ?_); refine buildSlice_at (t := 23) (e := 25) (jvc x A4 A5 c4 c5) at_ rfl rfl rfl Tryz.underlying23 kr_ ?_; intro gl wb21 HK1 hgl; have Ggl := asd_ hgl; clear hgl; replace HK := asd_ HK1; clear HK1; clear bg5; have bg5 := cE HK 1) | ((with_reducible refine gd_ 22 ?_); refine cl_ #[.slice (some ⟨gl, 0, none⟩) 1 1] (.bool false) Tryz.func7 (H7.out _ gl HK.out.b HK.out.k.1) ?_; intro wc22 HK1; replace HK := asd_ HK1; clear HK1; clear bg5; have bg5 := cE HK 1))
 go_ret
 exact ⟨by first | rfl | simp, be_⟩
end Go.Proofs.YtkphbhncpdcbeaaGreatDoor.J
