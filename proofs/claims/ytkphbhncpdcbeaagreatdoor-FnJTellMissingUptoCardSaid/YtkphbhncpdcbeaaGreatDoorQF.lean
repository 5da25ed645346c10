/- Part of a proof. -/
import Derived.Test.YtkphbhncpdcbeaaGreatDoorQC
import Derived.Test.YtkphbhncpdcbeaaGreatDoorQE
namespace Go.Proofs.YtkphbhncpdcbeaaGreatDoor.J
open Go.RowKit Go.Proofs.YtkphbhncpdcbeaaGreatDoorW.PrintWords Go.Proofs.YtkphbhncpdcbeaaGreatDoorW.PrintLast Go.Proofs.YtkphbhncpdcbeaaGreatDoorW.PrintMore Go.Proofs.YtkphbhncpdcbeaaGreatDoor.PJT
abbrev LM : Nat := 1099511627776
theorem wup {i : Int} {n : Nat} (h0 : 0 ≤ i) (h : i < (n : Int)) (hn : n ≤ LM) : wrap64 (i + 1) = i + 1 := by unfold wrap64; simp only [LM] at hn; omega
theorem wdn {i : Int} {n : Nat} (h0 : 0 ≤ i) (h : i ≤ (n : Int)) (hn : n ≤ LM) : wrap64 (i - 1) = i - 1 := by unfold wrap64; simp only [LM] at hn; omega
theorem getD_lt {α : Type} {xs : List α} {i : Nat} (h : i < xs.length) (d : α) : xs.getD i d = xs[i] := by simp [List.getD, List.getElem?_eq_getElem h]
def mem (xs : List ByteArray) (s : ByteArray) : Prop := ∃ y ∈ xs, y.toList = s.toList
theorem mem_get {xs : List ByteArray} {i : Nat} (h : i < xs.length) {s : ByteArray} (e : (xs.getD i ByteArray.empty).toList = s.toList) : mem xs s :=
 ⟨xs.getD i ByteArray.empty, by rw [getD_lt h]; exact List.getElem_mem h, e⟩
theorem mem_at {xs : List ByteArray} {s : ByteArray} (h : mem xs s) : ∃ i, i < xs.length ∧ (xs.getD i ByteArray.empty).toList = s.toList := by
 obtain ⟨y, hy, e⟩ := h
 obtain ⟨i, hi, rfl⟩ := List.mem_iff_getElem.1 hy
 exact ⟨i, hi, by rw [getD_lt hi]; exact e⟩
theorem mem_self {xs : List ByteArray} {i : Nat} (h : i < xs.length) : mem xs (xs.getD i ByteArray.empty) := mem_get h rfl
noncomputable instance (xs : List ByteArray) (s : ByteArray) : Decidable (mem xs s) := Classical.propDecidable _
section
variable (q0 : Int) (q1 : Bool) (q2 : Int) (q3 : ByteArray) (xs : List ByteArray) (q5 : List S25)
theorem member_tells (s : ByteArray) (hn : xs.length ≤ LM) (d : Nat) : ∀ (i : Int), i = (d : Int) - 1 → d ≤ xs.length →
  ∃ r, (∀ k, d < k → spec_JMember.l0 k s i q0 q1 q2 q3 xs q5 = some r) ∧ -1 ≤ r ∧ r < d ∧ (0 ≤ r → (xs.getD r.toNat ByteArray.empty).toList = s.toList) ∧ (r < 0 → ∀ j, j < d → (xs.getD j ByteArray.empty).toList ≠ s.toList) := by
 induction d with
 | zero =>
  intro i hi hd
  refine ⟨-1, fun k hk => ?_, by omega, by omega, fun h => by omega, fun _ j hj => by omega⟩
  obtain ⟨k, rfl⟩ : ∃ m, k = m + 1 := ⟨k - 1, by omega⟩
  simp only [spec_JMember.l0]; rw [if_neg (by omega)]
 | succ d ih =>
  intro i hi hd
  have h0 : i ≥ 0 := by omega
  by_cases e : (rdOf ByteArray.empty xs i).toList = s.toList
  ·refine ⟨i, fun k hk => ?_, by omega, by omega, fun _ => e, fun h => by omega⟩
   obtain ⟨k, rfl⟩ : ∃ m, k = m + 1 := ⟨k - 1, by omega⟩
   simp only [spec_JMember.l0]; rw [if_pos h0, if_pos h0, if_pos (by omega), if_pos e]
  ·obtain ⟨r, hr, h1, h2, h3, h4⟩ := ih (i - 1) (by omega) (by omega)
   refine ⟨r, fun k hk => ?_, h1, by omega, h3, fun hr j hj => ?_⟩
   ·obtain ⟨k, rfl⟩ : ∃ m, k = m + 1 := ⟨k - 1, by omega⟩
    simp only [spec_JMember.l0]
    rw [if_pos h0, if_pos h0, if_pos (by omega), if_neg e, wdn (n := xs.length) h0 (by omega) hn]
    exact hr k (by omega)
   ·by_cases hjd : j = d
    ·subst hjd
     have : i.toNat = j := by omega
     rw [rdOf, this] at e
     exact e
    ·exact h4 hr j (by omega)
theorem member_is (s : ByteArray) (hn : xs.length ≤ LM) : ∃ r, (∀ k, xs.length < k → spec_JMember.f k q0 q1 q2 q3 xs q5 s = some r) ∧ -1 ≤ r ∧ r < xs.length ∧ (0 ≤ r ↔ mem xs s) := by
 obtain ⟨r, hr, h1, h2, h3, h4⟩ := member_tells q0 q1 q2 q3 xs q5 s hn xs.length _ rfl (Nat.le_refl _)
 refine ⟨r, fun k hk => ?_, h1, h2, fun h => mem_get (by omega) (h3 h), fun h => ?_⟩
 ·have hw : wrap64 ((xs.length : Int) - 1) = (xs.length : Int) - 1 := by unfold wrap64; simp only [LM] at hn; omega
  unfold spec_JMember.f
  rw [hw]
  exact hr k hk
 ·obtain ⟨j, hj, e⟩ := mem_at h
  by_cases hr0 : 0 ≤ r
  ·exact hr0
  ·exact absurd e (h4 (by omega) j hj)
noncomputable def there (names : List ByteArray) : Bool := decide (∀ s ∈ names, mem xs s)
theorem there_tells (names : List ByteArray) (hx : xs.length ≤ LM) (hn : names.length ≤ LM) (d : Nat) : ∀ (i : Int), 0 ≤ i → i ≤ names.length → (names.length : Int) - i = d →
  ∃ b, (∀ k, d + xs.length < k → spec_jThere.l0 k names i q0 q1 q2 q3 xs q5 = some b) ∧ (b = true ↔ ∀ j : Nat, i ≤ j → j < names.length → mem xs (names.getD j ByteArray.empty)) := by
 induction d with
 | zero =>
  intro i h0 h1 hd
  refine ⟨true, fun k hk => ?_, by simp; intro j h h'; omega⟩
  obtain ⟨k, rfl⟩ : ∃ m, k = m + 1 := ⟨k - 1, by omega⟩
  simp only [spec_jThere.l0]; rw [if_neg (by omega)]
 | succ d ih =>
  intro i h0 h1 hd
  have hlt : i < (names.length : Int) := by omega
  obtain ⟨r, hr, hr1, hr2, hr3⟩ := member_is q0 q1 q2 q3 xs q5 (rdOf ByteArray.empty names i) hx
  by_cases e : r < 0
  ·refine ⟨false, fun k hk => ?_, by
    simp only [Bool.false_eq_true, false_iff]
    intro h
    have := hr3.2 (h i.toNat (by omega) (by omega))
    omega⟩
   obtain ⟨k, rfl⟩ : ∃ m, k = m + 1 := ⟨k - 1, by omega⟩
   simp only [spec_jThere.l0]; rw [if_pos hlt, if_pos h0, hr k (by omega)]; simp only [Option.bind_some]; rw [if_pos e]
  ·obtain ⟨b, hb, hb'⟩ := ih (i + 1) (by omega) (by omega) (by omega)
   refine ⟨b, fun k hk => ?_, hb'.trans ⟨fun h j hj hj' => ?_, fun h j hj hj' => h j (by omega) hj'⟩⟩
   ·obtain ⟨k, rfl⟩ : ∃ m, k = m + 1 := ⟨k - 1, by omega⟩
    simp only [spec_jThere.l0]; rw [if_pos hlt, if_pos h0, hr k (by omega)]; simp only [Option.bind_some]; rw [if_neg e, wup h0 hlt hn]; exact hb k (by omega)
   ·by_cases hji : (j : Int) = i
    ·have : j = i.toNat := by omega
     subst this
     exact hr3.1 (by omega)
    ·exact h j (by omega) hj'
theorem there_is (names : List ByteArray) (hx : xs.length ≤ LM) (hn : names.length ≤ LM) : ∃ k, spec_jThere.f k q0 q1 q2 q3 xs q5 names = some (there xs names) := by
 obtain ⟨b, hb, hb'⟩ := there_tells q0 q1 q2 q3 xs q5 names hx hn names.length 0 (by omega) (by omega) (by omega)
 refine ⟨names.length + xs.length + 1, ?_⟩
 unfold spec_jThere.f
 rw [hb _ (by omega)]
 congr 1
 rw [Bool.eq_iff_iff, hb', there, decide_eq_true_iff]
 constructor
 ·intro h s hs
  obtain ⟨j, hj, rfl⟩ := List.mem_iff_getElem.1 hs
  have := h j (by omega) hj
  rwa [getD_lt hj] at this
 ·intro h j _ hj
  rw [getD_lt hj]
  exact h _ (List.getElem_mem hj)
noncomputable def lacks (names : List ByteArray) : List ByteArray := names.filter fun s => decide (¬ mem xs s)
theorem lacks_tells (names : List ByteArray) (hx : xs.length ≤ LM) (hn : names.length ≤ LM) (d : Nat) : ∀ (i : Int) (out : List ByteArray), 0 ≤ i → i ≤ names.length → (names.length : Int) - i = d → (out.length : Int) ≤ i →
  ∀ k, d + xs.length < k → spec_jLacks.l0 k names out i q0 q1 q2 q3 xs q5 = some (out ++ lacks xs (names.drop i.toNat)) := by
 induction d with
 | zero =>
  intro i out h0 h1 hd ho k hk
  obtain ⟨k, rfl⟩ : ∃ m, k = m + 1 := ⟨k - 1, by omega⟩
  simp only [spec_jLacks.l0]; rw [if_neg (by omega), List.drop_of_length_le (by omega)]
  simp [lacks]
 | succ d ih =>
  intro i out h0 h1 hd ho k hk
  obtain ⟨k, rfl⟩ : ∃ m, k = m + 1 := ⟨k - 1, by omega⟩
  have hlt : i < (names.length : Int) := by omega
  have hlt' : i.toNat < names.length := by omega
  obtain ⟨r, hr, hr1, hr2, hr3⟩ := member_is q0 q1 q2 q3 xs q5 (rdOf ByteArray.empty names i) hx
  have hdr : names.drop i.toNat = rdOf ByteArray.empty names i :: names.drop (i + 1).toNat := by
   rw [rdOf, getD_lt hlt', show (i + 1).toNat = i.toNat + 1 by omega]
   exact List.drop_eq_getElem_cons hlt'
  simp only [spec_jLacks.l0]; rw [if_pos hlt, if_pos h0, hr k (by omega)]; simp only [Option.bind_some]
  by_cases e : r < 0
  ·have hnm : ¬ mem xs (rdOf ByteArray.empty names i) := fun h => by have := hr3.2 h; omega
   rw [if_pos e, if_pos (by simp only [LM] at hn; omega), wup h0 hlt hn, ih (i + 1) _ (by omega) (by omega) (by omega) (by simp; omega) k (by omega), hdr]
   simp [lacks, hnm]
  ·have hm : mem xs (rdOf ByteArray.empty names i) := hr3.1 (by omega)
   rw [if_neg e, wup h0 hlt hn, ih (i + 1) _ (by omega) (by omega) (by omega) (by omega) k (by omega), hdr]
   simp [lacks, hm]
theorem lacks_is (names : List ByteArray) (hx : xs.length ≤ LM) (hn : names.length ≤ LM) : ∃ k, spec_jLacks.f k q0 q1 q2 q3 xs q5 names = some (lacks xs names) := by
 refine ⟨names.length + xs.length + 1, ?_⟩
 unfold spec_jLacks.f
 rw [lacks_tells q0 q1 q2 q3 xs q5 names hx hn names.length 0 [] (by omega) (by omega) (by omega) (by simp) _ (by omega)]
 simp
theorem members_tells (hx : xs.length ≤ LM) (d : Nat) : ∀ (i : Int) (out : List Int), 0 ≤ i → i ≤ xs.length → (xs.length : Int) - i = d → (out.length : Int) ≤ i → (∀ j ∈ out, 0 ≤ j ∧ j < xs.length) →
  ∃ l, (∀ k, d + xs.length < k → spec_JMembers.l0 k out i q0 q1 q2 q3 xs q5 = some l) ∧ (∀ j ∈ l, 0 ≤ j ∧ j < xs.length) ∧ l.length ≤ xs.length := by
 induction d with
 | zero =>
  intro i out h0 h1 hd ho hj
  refine ⟨out, fun k hk => ?_, hj, by omega⟩
  obtain ⟨k, rfl⟩ : ∃ m, k = m + 1 := ⟨k - 1, by omega⟩
  simp only [spec_JMembers.l0]; rw [if_neg (by omega)]
 | succ d ih =>
  intro i out h0 h1 hd ho hj
  have hlt : i < (xs.length : Int) := by omega
  obtain ⟨r, hr, hr1, hr2, hr3⟩ := member_is q0 q1 q2 q3 xs q5 (rdOf ByteArray.empty xs i) hx
  by_cases e : r = i
  ·obtain ⟨l, hl, h⟩ := ih (i + 1) (out ++ [i]) (by omega) (by omega) (by omega) (by simp; omega) (by
    intro j hm
    rcases List.mem_append.1 hm with hm | hm
    ·exact hj j hm
    ·obtain rfl : j = i := by simpa using hm
     exact ⟨h0, hlt⟩)
   refine ⟨l, fun k hk => ?_, h⟩
   obtain ⟨k, rfl⟩ : ∃ m, k = m + 1 := ⟨k - 1, by omega⟩
   simp only [spec_JMembers.l0]; rw [if_pos hlt, if_pos h0, hr k (by omega)]; simp only [Option.bind_some]
   rw [if_pos e, if_pos (by simp only [LM] at hx; omega), wup h0 hlt hx]; exact hl k (by omega)
  ·obtain ⟨l, hl, h⟩ := ih (i + 1) out (by omega) (by omega) (by omega) (by omega) hj
   refine ⟨l, fun k hk => ?_, h⟩
   obtain ⟨k, rfl⟩ : ∃ m, k = m + 1 := ⟨k - 1, by omega⟩
   simp only [spec_JMembers.l0]; rw [if_pos hlt, if_pos h0, hr k (by omega)]; simp only [Option.bind_some]
   rw [if_neg e, wup h0 hlt hx]; exact hl k (by omega)
theorem members_is (hx : xs.length ≤ LM) : ∃ l k, spec_JMembers.f k q0 q1 q2 q3 xs q5 = some l ∧ (∀ j ∈ l, 0 ≤ j ∧ j < xs.length) ∧ l.length ≤ xs.length := by
 obtain ⟨l, hl, h⟩ := members_tells q0 q1 q2 q3 xs q5 hx xs.length 0 [] (by omega) (by omega) (by omega) (by simp) (by simp)
 exact ⟨l, _, hl _ (Nat.lt_succ_self _), h⟩
end
theorem among_tells (s : ByteArray) (l : List ByteArray) (hn : l.length ≤ LM) (d : Nat) : ∀ (i : Int), 0 ≤ i → i ≤ l.length → (l.length : Int) - i = d →
  ∃ b, (∀ k, d < k → spec_JAmong.l0 k s l i = some b) ∧ (b = true ↔ ∃ j : Nat, i ≤ j ∧ j < l.length ∧ (l.getD j ByteArray.empty).toList = s.toList) := by
 induction d with
 | zero =>
  intro i h0 h1 hd
  refine ⟨false, fun k hk => ?_, by simp; intro j h h'; omega⟩
  obtain ⟨k, rfl⟩ : ∃ m, k = m + 1 := ⟨k - 1, by omega⟩
  simp only [spec_JAmong.l0]; rw [if_neg (by omega)]
 | succ d ih =>
  intro i h0 h1 hd
  have hlt : i < (l.length : Int) := by omega
  by_cases e : (rdOf ByteArray.empty l i).toList = s.toList
  ·refine ⟨true, fun k hk => ?_, by simp only [true_iff]; exact ⟨i.toNat, by omega, by omega, e⟩⟩
   obtain ⟨k, rfl⟩ : ∃ m, k = m + 1 := ⟨k - 1, by omega⟩
   simp only [spec_JAmong.l0]; rw [if_pos hlt, if_pos h0, if_pos e]
  ·obtain ⟨b, hb, hb'⟩ := ih (i + 1) (by omega) (by omega) (by omega)
   refine ⟨b, fun k hk => ?_, hb'.trans ⟨fun ⟨j, h, h'⟩ => ⟨j, by omega, h'⟩, fun ⟨j, h, h', h''⟩ => ⟨j, ?_, h', h''⟩⟩⟩
   ·obtain ⟨k, rfl⟩ : ∃ m, k = m + 1 := ⟨k - 1, by omega⟩
    simp only [spec_JAmong.l0]; rw [if_pos hlt, if_pos h0, if_neg e, wup h0 hlt hn]; exact hb k (by omega)
   ·by_cases hji : (j : Int) = i
    ·have : j = i.toNat := by omega
     subst this
     exact absurd h'' e
    ·omega
theorem among_is (s : ByteArray) (l : List ByteArray) (hn : l.length ≤ LM) : ∃ b, (∀ k, l.length < k → spec_JAmong.f k s l = some b) ∧ (b = true ↔ mem l s) := by
 obtain ⟨b, hb, hb'⟩ := among_tells s l hn l.length 0 (by omega) (by omega) (by omega)
 refine ⟨b, hb, hb'.trans ⟨fun ⟨j, _, h, e⟩ => mem_get h e, fun h => ?_⟩⟩
 obtain ⟨j, hj, e⟩ := mem_at h
 exact ⟨j, by omega, hj, e⟩
theorem same1_tells (l : List ByteArray) (hn : l.length ≤ LM) (d : Nat) : ∀ (i : Int), 0 ≤ i → i ≤ l.length → (l.length : Int) - i = d → ∀ k, d + l.length < k → spec_jSameNames.l1 k l l i = some true := by
 induction d with
 | zero =>
  intro i h0 h1 hd k hk
  obtain ⟨k, rfl⟩ : ∃ m, k = m + 1 := ⟨k - 1, by omega⟩
  simp only [spec_jSameNames.l1]; rw [if_neg (by omega)]
 | succ d ih =>
  intro i h0 h1 hd k hk
  have hlt : i < (l.length : Int) := by omega
  obtain ⟨k, rfl⟩ : ∃ m, k = m + 1 := ⟨k - 1, by omega⟩
  obtain ⟨b, hb, hb'⟩ := among_is (rdOf ByteArray.empty l i) l hn
  obtain rfl : b = true := hb'.2 (mem_self (by omega))
  simp only [spec_jSameNames.l1]; rw [if_pos hlt, if_pos h0, hb k (by omega)]; simp only [Option.bind_some, if_true]; rw [wup h0 hlt hn]; exact ih _ (by omega) (by omega) (by omega) k (by omega)
theorem same0_tells (l : List ByteArray) (hn : l.length ≤ LM) (d : Nat) : ∀ (i : Int), 0 ≤ i → i ≤ l.length → (l.length : Int) - i = d → ∀ k, d + l.length + l.length + 1 < k → spec_jSameNames.l0 k l l i = some true := by
 induction d with
 | zero =>
  intro i h0 h1 hd k hk
  obtain ⟨k, rfl⟩ : ∃ m, k = m + 1 := ⟨k - 1, by omega⟩
  simp only [spec_jSameNames.l0]; rw [if_neg (by omega)]
  exact same1_tells l hn l.length 0 (by omega) (by omega) (by omega) k (by omega)
 | succ d ih =>
  intro i h0 h1 hd k hk
  have hlt : i < (l.length : Int) := by omega
  obtain ⟨k, rfl⟩ : ∃ m, k = m + 1 := ⟨k - 1, by omega⟩
  obtain ⟨b, hb, hb'⟩ := among_is (rdOf ByteArray.empty l i) l hn
  obtain rfl : b = true := hb'.2 (mem_self (by omega))
  simp only [spec_jSameNames.l0]; rw [if_pos hlt, if_pos h0, hb k (by omega)]; simp only [Option.bind_some, if_true]; rw [wup h0 hlt hn]; exact ih _ (by omega) (by omega) (by omega) k (by omega)
theorem same_is (l : List ByteArray) (hn : l.length ≤ LM) : ∃ k, spec_jSameNames.f k l l = some true :=
 ⟨_, same0_tells l hn l.length 0 (by omega) (by omega) (by omega) (l.length + l.length + l.length + 2) (by omega)⟩
theorem begins_is (l : List ByteArray) : spec_jBegins.f 1 l [] = some true := by
 unfold spec_jBegins.f
 simp only [spec_jBegins.l0]
 rw [if_neg (by simp)]
inductive Sz : S25 → Prop
 | mk {x : S25} (n3 : x.f3.size ≤ LM) (n4 : x.f4.length ≤ LM) (n5 : x.f5.length ≤ LM) (t4 : ∀ s ∈ x.f4, s.size ≤ LM) (sub : ∀ y ∈ x.f5, Sz y) : Sz x
inductive V : S25 → Prop
 | mk {x : S25} (k0 : 0 ≤ x.f0) (k5 : x.f0 ≤ 5) (k2 : x.f0 ≠ 2) (n3 : x.f3.size ≤ LM) (n4 : x.f4.length ≤ LM) (n5 : x.f5.length ≤ LM) (t4 : ∀ s ∈ x.f4, s.size ≤ LM) (ee : x.f0 = 5 → x.f4.length = x.f5.length) (sub : ∀ y ∈ x.f5, V y) : V x
theorem rd_T25_mem {l : List S25} {y : S25} (h : y ∈ l) : ∃ i : Int, 0 ≤ i ∧ i < l.length ∧ rd_T25 l i = y := by
 obtain ⟨i, hi, rfl⟩ := List.mem_iff_getElem.1 h
 exact ⟨i, by omega, by omega, by unfold rd_T25; rw [Int.toNat_natCast, getD_lt hi]⟩
theorem rd_T25_in {l : List S25} {i : Int} (h0 : 0 ≤ i) (h1 : i < (l.length : Int)) : rd_T25 l i ∈ l := by
 unfold rd_T25
 rw [getD_lt (by omega : i.toNat < l.length)]
 exact List.getElem_mem _
theorem proper_all : ∀ (k : Nat) (a i f0 : Int) (f1 : Bool) (f2 : Int) (f3 : ByteArray) (f4 : List ByteArray) (f5 : List S25), 0 ≤ i → f5.length ≤ LM → spec_jProperIn.l1 k a i f0 f1 f2 f3 f4 f5 = some true →
  ∀ j, i ≤ j → j < (f5.length : Int) → ∃ k' a', spec_jProperIn.f k' (rd_T25 f5 j).f0 (rd_T25 f5 j).f1 (rd_T25 f5 j).f2 (rd_T25 f5 j).f3 (rd_T25 f5 j).f4 (rd_T25 f5 j).f5 a' = some true
 | 0, _, _, _, _, _, _, _, _, _, _, h, _, _, _ => by simp [spec_jProperIn.l1] at h
 | k + 1, a, i, f0, f1, f2, f3, f4, f5, hi, hn, h, j, hij, hj => by
  simp only [spec_jProperIn.l1] at h
  rw [if_pos (by omega), if_pos hi] at h
  obtain ⟨t, ht, h⟩ := Option.bind_eq_some_iff.1 h
  cases t with
  | false => simp at h
  | true =>
   by_cases e : j = i
   ·subst e
    exact ⟨_, _, ht⟩
   ·simp only [if_true] at h
    rw [wup hi (n := f5.length) (by omega) hn] at h
    exact proper_all k a (i + 1) f0 f1 f2 f3 f4 f5 (by omega) hn h j (by omega) hj
theorem proper_l0 : ∀ (k : Nat) (a i f0 : Int) (f1 : Bool) (f2 : Int) (f3 : ByteArray) (f4 : List ByteArray) (f5 : List S25), spec_jProperIn.l0 k a i f0 f1 f2 f3 f4 f5 = some true → ∃ k', spec_jProperIn.l1 k' a 0 f0 f1 f2 f3 f4 f5 = some true
 | 0, _, _, _, _, _, _, _, _, h => by simp [spec_jProperIn.l0] at h
 | k + 1, a, i, f0, f1, f2, f3, f4, f5, h => by
  simp only [spec_jProperIn.l0] at h
  split at h
  ·split at h
   ·obtain ⟨t, ht, h⟩ := Option.bind_eq_some_iff.1 h
    split at h
    ·exact proper_l0 k a _ f0 f1 f2 f3 f4 f5 h
    ·simp at h
   ·simp at h
  ·exact ⟨k, h⟩
theorem proper_j0 {k : Nat} {a f0 : Int} {b f1 : Bool} {f2 : Int} {f3 : ByteArray} {f4 : List ByteArray} {f5 : List S25} (h : spec_jProperIn.j0 k a b f0 f1 f2 f3 f4 f5 = some true) : b = false ∧ ∃ k', spec_jProperIn.l1 k' a 0 f0 f1 f2 f3 f4 f5 = some true := by
 cases k with
 | zero => simp [spec_jProperIn.j0] at h
 | succ k =>
  simp only [spec_jProperIn.j0] at h
  cases b with
  | true => simp at h
  | false => exact ⟨rfl, proper_l0 k _ _ _ _ _ _ _ _ (by simpa using h)⟩
theorem counts_all : ∀ (k : Nat) (i f0 : Int) (f1 : Bool) (f2 : Int) (f3 : ByteArray) (f4 : List ByteArray) (f5 : List S25), 0 ≤ i → f5.length ≤ LM → spec_JCounts.l0 k i f0 f1 f2 f3 f4 f5 = some true →
  ∀ j, i ≤ j → j < (f5.length : Int) → ∃ k', spec_JCounts.f k' (rd_T25 f5 j).f0 (rd_T25 f5 j).f1 (rd_T25 f5 j).f2 (rd_T25 f5 j).f3 (rd_T25 f5 j).f4 (rd_T25 f5 j).f5 = some true
 | 0, _, _, _, _, _, _, _, _, _, h, _, _, _ => by simp [spec_JCounts.l0] at h
 | k + 1, i, f0, f1, f2, f3, f4, f5, hi, hn, h, j, hij, hj => by
  simp only [spec_JCounts.l0] at h
  rw [if_pos (by omega), if_pos hi] at h
  obtain ⟨t, ht, h⟩ := Option.bind_eq_some_iff.1 h
  cases t with
  | false => simp at h
  | true =>
   by_cases e : j = i
   ·subst e
    exact ⟨_, ht⟩
   ·simp only [if_true] at h
    rw [wup hi (n := f5.length) (by omega) hn] at h
    exact counts_all k (i + 1) f0 f1 f2 f3 f4 f5 (by omega) hn h j (by omega) hj
theorem v_of {x : S25} (hs : Sz x) : ∀ {k k' : Nat} {a : Int}, spec_jProperIn.f k x.f0 x.f1 x.f2 x.f3 x.f4 x.f5 a = some true → spec_JCounts.f k' x.f0 x.f1 x.f2 x.f3 x.f4 x.f5 = some true → V x := by
 induction hs with
 | @mk x n3 n4 n5 t4 sub ih =>
  intro k k' a hp hc
  cases k with
  | zero => simp [spec_jProperIn.f] at hp
  | succ k =>
   cases k' with
   | zero => simp [spec_JCounts.f] at hc
   | succ k' =>
    simp only [spec_JCounts.f] at hc
    by_cases h2 : x.f0 = 2
    ·rw [if_pos h2] at hc; simp at hc
    rw [if_neg h2] at hc
    simp only [spec_jProperIn.f] at hp
    by_cases ha : a = 0
    ·rw [if_pos ha] at hp; simp at hp
    rw [if_neg ha] at hp
    by_cases h0 : x.f0 < 0
    ·rw [if_pos h0] at hp; have := (proper_j0 hp).1; cases this
    rw [if_neg h0] at hp
    by_cases h5 : x.f0 > 5
    ·rw [if_pos h5] at hp; have := (proper_j0 hp).1; cases this
    rw [if_neg h5] at hp
    obtain ⟨t, _, hp⟩ := Option.bind_eq_some_iff.1 hp
    cases t with
    | false => rw [if_neg (by simp)] at hp; have := (proper_j0 hp).1; cases this
    | true =>
     rw [if_pos rfl, if_neg h2] at hp
     have hq : ∃ b, (x.f0 = 5 → x.f4.length = x.f5.length ∨ b = true) ∧ spec_jProperIn.j0 k a b x.f0 x.f1 x.f2 x.f3 x.f4 x.f5 = some true := by
      by_cases e5 : x.f0 = 5
      ·rw [if_pos e5] at hp
       refine ⟨_, fun _ => ?_, hp⟩
       by_cases el : x.f4.length = x.f5.length
       ·exact Or.inl el
       ·right; simp only [bne_iff_ne, ne_eq]; omega
      ·rw [if_neg e5] at hp
       exact ⟨_, fun h => absurd h e5, hp⟩
     obtain ⟨b, hb, hp⟩ := hq
     obtain ⟨rfl, k1, hl⟩ := proper_j0 hp
     refine .mk (by omega) (by omega) h2 n3 n4 n5 t4 (fun h => by simpa using hb h) (fun y hy => ?_)
     obtain ⟨j, hj0, hj1, rfl⟩ := rd_T25_mem hy
     obtain ⟨k2, a2, h2'⟩ := proper_all k1 a 0 _ _ _ _ _ _ (Int.le_refl _) n5 hl j hj0 hj1
     obtain ⟨k3, h3'⟩ := counts_all k' 0 _ _ _ _ _ _ (Int.le_refl _) n5 hc j hj0 hj1
     exact ih _ hy h2' h3'
end Go.Proofs.YtkphbhncpdcbeaaGreatDoor.J
namespace Go.Proofs.YtkphbhncpdcbeaaGreatDoor.J
open Go.RowKit Go.Proofs.YtkphbhncpdcbeaaGreatDoorW.PrintWords Go.Proofs.YtkphbhncpdcbeaaGreatDoorW.PrintLast Go.Proofs.YtkphbhncpdcbeaaGreatDoorW.PrintMore Go.Proofs.YtkphbhncpdcbeaaGreatDoor.PJT
attribute [local go_sem] Nd.csize Sc.csize Nd.c0 Nd.c1 Nd.c2 Nd.c3 Nd.c4 Nd.c5 Nd.c6 Nd.c7 Nd.c8 Nd.c9 Nd.c10 Nd.c11 Nd.c12 Nd.c13 Nd.c14 Nd.c15 Nd.c16 Nd.c17 Nd.c18 Nd.c19 Nd.c20 Nd.c21 Nd.c22 Nd.c23 Nd.c24 Nd.c25 Nd.c26 Nd.c27 Nd.c28 Nd.c29 Nd.c30 Nd.c31 Nd.c32 Nd.c33 Nd.c34 Nd.c35 Nd.c36 Nd.c37 Nd.c38 Nd.c39 Nd.c40 Nd.c41 Nd.c42 Nd.c43 Nd.c44 Nd.c45 Nd.c46 Nd.c47 Nd.c48 Nd.c49 Nd.c50 Nd.c51 Nd.c52 Sc.c0 Sc.c1 Sc.c2 Sc.c3 Sc.c4 Sc.c5 Sc.c6 Sc.c7 Sc.c8 Sc.c9 Sc.c10 Sc.c11 Sc.c12 Sc.c13 Sc.c14 Sc.c15 Sc.c16 Sc.c17 Sc.c18 Sc.c19 Sc.c20 Sc.c21 Sc.c22 Sc.c23 Sc.c24 Sc.c25 Sc.c26 Sc.c27 Sc.c28 Sc.c29 Sc.c30 Sc.c31 Sc.c32 Sc.c33 Sc.c34 Sc.c35 Sc.c36 Sc.c37 Sc.c38 Sc.c39 Sc.c40 Sc.c41 Sc.c42 Sc.c43 Sc.c44 Sc.c45 Sc.c46 Sc.c47 Sc.c48 Sc.c49 Sc.c50 Sc.c51 Sc.c52
set_option linter.unusedVariables false
set_option linter.unusedSimpArgs false
structure Rep (W : World) (x : S25) (A4 : Option Addr) (c4 : Nat) (A5 : Option Addr) (c5 : Nat) : Prop where
 h4 : Kd.C Kd.string W A4 x.f4.length x.f4
 l4 : x.f4.length ≤ c4
 h5 : Kd.C k25 W A5 x.f5.length x.f5
 l5 : x.f5.length ≤ c5
theorem Rep.below {W W1 : World} {x : S25} {A4 A5 : Option Addr} {c4 c5 : Nat} (h : Rep W x A4 c4 A5 c5) (hb : Below W.heap.size W W1) : Rep W1 x A4 c4 A5 c5 :=
 ⟨Kd.C_below h.h4 hb, h.l4, Kd.C_below h.h5 hb, h.l5⟩
theorem there_ok (w : World) (x : S25) (A4 A5 A : Option Addr) (c4 c5 c : Nat) (names : List ByteArray) (hx : Rep w x A4 c4 A5 c5) (hr : Kd.C Kd.string w A names.length names) (hc : names.length ≤ c) (hn4 : x.f4.length ≤ LM) (hn : names.length ≤ LM) :
  Calls Tryz.prog 116 #[.agg (jvc x A4 A5 c4 c5), .slice A names.length c] w fun e w' => e = .returned (.bool (there x.f4 names)) ∧ Below w.heap.size w w' := by
 obtain ⟨k, hk⟩ := there_is x.f0 x.f1 x.f2 x.f3 x.f4 x.f5 names hn4 hn
 exact spec_jThere.calls k x.f0 x.f1 x.f2 x.f3 A4 c4 x.f4 A5 c5 x.f5 A c names _ w hx.h4 hx.l4 hx.h5 hx.l5 hr hc hk
theorem member_ok (w : World) (x : S25) (A4 A5 : Option Addr) (c4 c5 : Nat) (s : ByteArray) (r : Int) (hx : Rep w x A4 c4 A5 c5) (hr : ∀ k, x.f4.length < k → spec_JMember.f k x.f0 x.f1 x.f2 x.f3 x.f4 x.f5 s = some r) :
  Calls Tryz.prog 65 #[.agg (jvc x A4 A5 c4 c5), .string s] w fun e w' => e = .returned (.int .i64 r) ∧ Below w.heap.size w w' :=
 spec_JMember.calls (x.f4.length + 1) x.f0 x.f1 x.f2 x.f3 A4 c4 x.f4 A5 c5 x.f5 s r w hx.h4 hx.l4 hx.h5 hx.l5 (hr _ (Nat.lt_succ_self _))
theorem bounded_ok (w : World) (n : Int) : Calls Tryz.prog 35 #[.int .i64 n, .agg #[bF, i0], .agg #[bF, i0]] w fun e w' => e = .returned (.bool true) ∧ Below w.heap.size w w' :=
 spec_jBounded.calls n false 0 false 0 true w (by simp [spec_jBounded.f])
set_option maxHeartbeats 4000000 in
set_option maxRecDepth 100000 in
theorem needs_req (w : World) (A : Option Addr) (c : Nat) (names : List ByteArray) (x : S25) (A4 A5 : Option Addr) (c4 c5 : Nat) (hx : Rep w x A4 c4 A5 c5) (hr : Kd.C Kd.string w A names.length names) (hc : names.length ≤ c) (hn4 : x.f4.length ≤ LM) (hn : names.length ≤ LM) :
  Calls Tryz.prog 75 #[.agg (Nd.cells ⟨0, false, nilS, nilS, false, nilS, false, nilS, .slice A names.length c, nilS⟩), .agg (jvc x A4 A5 c4 c5)] w fun e w' => e = .returned (.bool (there x.f4 names)) ∧ Below w.heap.size w w' := by
 have HK : Aside0 (At w [] w) := asd_ (At.start w)
 go_enter Tryz.func75, Tryz.ntmps75
 go_wp2_with (first | refine wp_loop_once ?_ | ((with_reducible refine gd_ 2 ?_); refine bx_ (Nd.cells ⟨0, false, nilS, nilS, false, nilS, false, nilS, .slice A names.length c, nilS⟩) 45 ?_; clear HK; intro g2 wb2 HK Gg2; have bg2 := cE HK 0) | ((with_reducible refine gd_ 3 ?_); refine bx_ (jvc x A4 A5 c4 c5) 25 ?_; clear HK bg2; intro g3 wb3 HK Gg3; have bg2 := cE HK 1; have bg3 := cE HK 0) | ((with_reducible refine gd_ 8 ?_); refine lo_ 25 3 g3 (jvc x A4 A5 c4 c5) HK.out.k.1 Tryz.underlying25 ?_) | ((with_reducible refine gd_ 11 ?_); refine cl_ #[.agg (jvc x A4 A5 c4 c5), .slice A names.length c] (.bool (there x.f4 names)) Tryz.func116 (there_ok _ x A4 A5 A c4 c5 c names (hx.below HK.out.b) (Kd.C_below hr HK.out.b) hc hn4 hn) ?_; intro wc11 HK1; replace HK := asd_ HK1; clear HK1; clear bg2 bg3; have bg2 := cE HK 1; have bg3 := cE HK 0))
 all_goals go_ret
 all_goals refine ⟨?_, be_⟩
 all_goals first | simp_all | (simp only [Bool.not_eq_true, Bool.not_eq_false] at *; simp [*])
theorem R_C {α : Type} {d : Kd α} {e : Nat} {w : World} {base : Nat} {ok : Nat → Prop} {A : Option Addr} {n c : Nat} {xs : List α} (h : Kd.R d e w base ok (.slice A n c) xs) : n = xs.length ∧ xs.length ≤ c ∧ Kd.C d w A xs.length xs := by
 obtain ⟨A', c', e, h1, h2⟩ := Kd.R_reads h
 cases e
 exact ⟨rfl, h1, h2⟩
def Fact.ints (v : Value) (xs : List Int) : Fact where
  P W := Kd.R (Kd.int .i64) 3 W 0 (fun _ => True) v xs
  below h hb := Kd.R_below h hb
  far h hg ht ho := R_far_of h hg ht ho (by intro q hq; have : q = 3 := by simpa [Kd.int, Kd.scalar] using hq
                                            subst this; rfl)
theorem rd_mem {l : List Int} {i : Int} (h0 : 0 ≤ i) (h1 : i < (l.length : Int)) : rd l i ∈ l := by
 unfold rd
 rw [getD_lt (by omega : i.toNat < l.length)]
 exact List.getElem_mem _
theorem ints_at {W : World} {ad : Addr} {n c : Nat} {l : List Int} (h : (Fact.ints (.slice (some ad) n c) l).P W) (i : Int) (h0 : 0 ≤ i) (h1 : i < (l.length : Int)) : W.cell? (ad.add i.toNat) = some (.int .i64 (rd l i)) := by
 obtain ⟨ad', e, h⟩ := Kd.at_int (R_C h).2.2 i h0 h1
 cases e
 exact h
theorem members_ok (w : World) (x : S25) (A4 A5 : Option Addr) (c4 c5 : Nat) (l : List Int) (k : Nat) (hx : Rep w x A4 c4 A5 c5) (hl : spec_JMembers.f k x.f0 x.f1 x.f2 x.f3 x.f4 x.f5 = some l) :
  Calls Tryz.prog 74 #[.agg (jvc x A4 A5 c4 c5)] w fun e w' => ∃ v, e = .returned v ∧ (∃ A c, v = .slice A l.length c ∧ (Fact.ints (.slice A l.length c) l).P w') ∧ Below w.heap.size w w' := by
 refine (spec_JMembers.calls k x.f0 x.f1 x.f2 x.f3 A4 c4 x.f4 A5 c5 x.f5 l w hx.h4 hx.l4 hx.h5 hx.l5 hl).mono ?_
 rintro e w' ⟨v, rfl, hR, hb⟩
 obtain ⟨A, c, rfl, _, _⟩ := Kd.R_reads hR
 exact ⟨_, rfl, ⟨A, c, rfl, Kd.R_lower hR (Nat.zero_le _)⟩, hb⟩
set_option maxHeartbeats 4000000 in
set_option maxRecDepth 100000 in
theorem object_true (w : World) (d : Int) (s0 s1 m : Value) (n : Nd) (x : S25) (A4 A5 : Option Addr) (c4 c5 : Nat) (hx : Rep w x A4 c4 A5 c5) (hn4 : x.f4.length ≤ LM) (h45 : x.f4.length ≤ x.f5.length)
  (hN : ∀ W, Below w.heap.size w W → Calls Tryz.prog 75 #[.agg n.cells, .agg (jvc x A4 A5 c4 c5)] W fun e w' => e = .returned (.bool true) ∧ Below W.heap.size W w') :
  Calls Tryz.prog 39 #[.int .i64 d, .agg #[s0, s1], .agg n.cells, .agg (jvc x A4 A5 c4 c5), m] w fun e w' => e = .returned (.bool true) ∧ Below w.heap.size w w' := by
 obtain ⟨l, kl, hkl, hli, hll⟩ := members_is x.f0 x.f1 x.f2 x.f3 x.f4 x.f5 hn4
 have Hlm : Aside0 (l.length ≤ LM) := ⟨Nat.le_trans hll hn4⟩
 have Hli := asd_ hli
 have Hx := asd_ hx
 have Hn4 := asd_ hn4
 have H45 := asd_ h45
 have Hkl := asd_ hkl
 clear hkl hli hll hx hn4 h45
 have HK : Aside0 (At w [] w) := asd_ (At.start w)
 go_enter Tryz.func39, Tryz.ntmps39
 go_wp2_with (first | ((with_reducible refine gd_ 6 ?_); refine bx_ #[s0, s1] 68 ?_; clear HK; intro g6 wb6 HK Gg6; have bg6 := cE HK 0) | ((with_reducible refine gd_ 7 ?_); refine bx_ n.cells 45 ?_; clear HK bg6; intro g7 wb7 HK Gg7; have bg6 := cE HK 1; have bg7 := cE HK 0) | ((with_reducible refine gd_ 8 ?_); refine bx_ (jvc x A4 A5 c4 c5) 25 ?_; clear HK bg6 bg7; intro g8 wb8 HK Gg8; have bg6 := cE HK 2; have bg7 := cE HK 1; have bg8 := cE HK 0) | ((with_reducible refine gd_ 22 ?_); refine lo_ 25 8 g8 (jvc x A4 A5 c4 c5) HK.out.k.1 Tryz.underlying25 ?_) | ((with_reducible refine gd_ 23 ?_); refine cw_ #[.agg (jvc x A4 A5 c4 c5)] Tryz.func74 (members_ok _ x A4 A5 c4 c5 l kl (Hx.out.below HK.out.b) Hkl.out) ?_; rintro v23 wc23 HK0 ⟨AL, cL, rfl, hF⟩ hB; have HK1 := At.fact (Fact.ints (.slice AL l.length cL) l) HK0 hF; clear HK0 hF hB; replace HK := asd_ HK1; clear HK1; clear bg6 bg7 bg8; have bg6 := cE HK 3; have bg7 := cE HK 2; have bg8 := cE HK 1) | ((with_reducible refine gd_ 30 ?_); refine cl_ #[.int .i64 (l.length : Int), .agg #[bF, i0], .agg #[bF, i0]] (.bool true) Tryz.func35 (bounded_ok _ _) ?_; intro wc30 HK1; replace HK := asd_ HK1; clear HK1; clear bg6 bg7 bg8; have bg6 := cE HK 3; have bg7 := cE HK 2; have bg8 := cE HK 1) | ((with_reducible refine gd_ 32 ?_); (try (refine gate_guard (by rfl) ?_; dsimp only)); refine lo_ 45 7 g7 (n.cells) HK.out.k.2.2.1 Tryz.underlying45 ?_) | ((with_reducible refine gd_ 33 ?_); (try (refine gate_guard (by rfl) ?_; dsimp only)); refine lo_ 25 8 g8 (jvc x A4 A5 c4 c5) HK.out.k.2.1 Tryz.underlying25 ?_) | ((with_reducible refine gd_ 34 ?_); (try (refine gate_guard (by rfl) ?_; dsimp only)); refine cl_ #[.agg n.cells, .agg (jvc x A4 A5 c4 c5)] (.bool true) Tryz.func75 (hN _ HK.out.b) ?_; intro wc34 HK1; replace HK := asd_ HK1; clear HK1; clear bg6 bg7 bg8; have bg6 := cE HK 3; have bg7 := cE HK 2; have bg8 := cE HK 1))
 go_loopg [12, 13] l.length (fun kq v12 v13 w' => ∃ i : Int, v12 = .bool true ∧ v13 = .int .i64 i ∧ 0 ≤ i ∧ i + kq = l.length ∧ Aside0 (At w [.f (Fact.ints (.slice AL l.length cL) l), .b g8 (row (jvc x A4 A5 c4 c5) 25), .b g7 (row (n.cells) 45), .b g6 (row (#[s0, s1]) 68)] w'))
 case atStart => exact ⟨0, rfl, rfl, by omega, by omega, ⟨at_⟩⟩
 case round =>
  clear HK bg6 bg7 bg8
  obtain ⟨i, rfl, rfl, hi0, hik, HK⟩ := hrel
  have bg6 := cE HK 3; have bg7 := cE HK 2; have bg8 := cE HK 1
  cases gk with
  | zero =>
   have ht : decide (i < (l.length : Int)) = false := decide_eq_false (by omega)
   have hl0 : decide (0 < (l.length : Int)) = true ∨ decide (0 < (l.length : Int)) = false := by cases decide (0 < (l.length : Int)) <;> simp
   rcases hl0 with hl0 | hl0
   all_goals go_wp2_with (first | refine wp_loop_once ?_)
   all_goals go_ret
   all_goals exact ⟨rfl, be_⟩
  | succ kk =>
   have ht : decide (i < (l.length : Int)) = true := decide_eq_true (by omega)
   have hil : i < (l.length : Int) := by omega
   obtain ⟨hj0, hj1⟩ := Hli.out _ (rd_mem hi0 hil)
   have hj5 : rd l i < (x.f5.length : Int) := by have := H45.out; omega
   obtain ⟨ad, eL, _⟩ := Kd.at_int (R_C HK.out.k.1).2.2 i hi0 hil
   subst eL
   obtain ⟨ad4, e4, hc4⟩ := Kd.at_string Hx.out.h4 (rd l i) hj0 hj1
   obtain ⟨ad5, B4, d4, B5, d5, e5, hc50, hc51, hc52, hc53, hc54, hc55, m4, n4, m5, n5⟩ := at_T25 Hx.out.h5 (rd l i) hj0 hj5
   subst e4; subst e5
   have Hik := asd_ hik; have Hi0 := asd_ hi0; have Hil := asd_ hil; have Hj0 := asd_ hj0; have Hj1 := asd_ hj1; have Hj5 := asd_ hj5; have Hc := asd_ (And.intro hc4 (And.intro hc50 (And.intro hc51 (And.intro hc52 (And.intro hc53 (And.intro hc54 hc55))))))
   have p1 := eq_true hi0; have p2 := eq_true hil; have p3 := eq_true hj0; have p4 := eq_true hj1; have p5 := eq_true hj5
   clear hik hi0 hil hj0 hj1 hj5 hc4 hc50 hc51 hc52 hc53 hc54 hc55
   go_wp2_with fail
   refine st_ 9 (fun w' => At w [.f (Fact.ints (.slice (some ad) l.length cL) l), .b g8 (row (jvc x (some ad4) (some ad5) c4 c5) 25), .b g7 (row (n.cells) 45), .b g6 (row (#[s0, s1]) 68)] w' ∧ (∀ j, w'.cell? ⟨g6, j, none⟩ = (#[s0, s1] : Array Value)[j]?) ∧ (∀ j, w'.cell? ⟨g7, j, none⟩ = (n.cells : Array Value)[j]?) ∧ (∀ j, w'.cell? ⟨g8, j, none⟩ = (jvc x (some ad4) (some ad5) c4 c5 : Array Value)[j]?) ∧ w'.cell? (ad.add i.toNat) = some (.int .i64 (rd l i)) ∧ w'.cell? (ad4.add (rd l i).toNat) = some (.string (rdOf ByteArray.empty x.f4 (rd l i)))) [] (fun A => ⟨A, (cA A 3), (cA A 2), (cA A 1), (ints_at A.k.1 i Hi0.out Hil.out), ((A.b.cell (World.block_lt_of_cell? w _ Hc.out.1)).trans Hc.out.1)⟩) (fun hHeld => ?_)
   refine pu_ 0 42 1 ?_
   refine pu_ 2 44 5 ?_
   refine pu_ 3 45 13 ?_
   refine pu_ 4 46 29 ?_
   refine ta6_ 1 43 31 hHeld ?_
   refine ta6_ 5 47 63 hHeld ?_
   refine pu_ 6 48 127 ?_
   refine ta6_ 7 49 255 hHeld ?_
   refine pu_ 8 14 511 ?_
   refine done_ kr_ ?_
   clear HK; have HK := asd_ hHeld.1
   clear hHeld
   clear bg6 bg7 bg8
   have bg6 := cE HK 3
   have bg7 := cE HK 2
   have bg8 := cE HK 1
   go_wp2_with fail
   refine st_ 18 (fun w' => At w [.f (Fact.ints (.slice (some ad) l.length cL) l), .b g8 (row (jvc x (some ad4) (some ad5) c4 c5) 25), .b g7 (row (n.cells) 45), .b g6 (row (#[s0, s1]) 68)] w' ∧ (∀ j, w'.cell? ⟨g6, j, none⟩ = (#[s0, s1] : Array Value)[j]?) ∧ (∀ j, w'.cell? ⟨g7, j, none⟩ = (n.cells : Array Value)[j]?) ∧ (∀ j, w'.cell? ⟨g8, j, none⟩ = (jvc x (some ad4) (some ad5) c4 c5 : Array Value)[j]?) ∧ w'.cell? (ad.add i.toNat) = some (.int .i64 (rd l i)) ∧ w'.cell? (ad4.add (rd l i).toNat) = some (.string (rdOf ByteArray.empty x.f4 (rd l i))) ∧ w'.cell? (ad5.add ((rd l i).toNat * 6)) = some (.int .i64 (rd_T25 x.f5 (rd l i)).f0) ∧ w'.cell? ⟨(ad5.add ((rd l i).toNat * 6)).block, (ad5.add ((rd l i).toNat * 6)).off + 1, none⟩ = some (.bool (rd_T25 x.f5 (rd l i)).f1) ∧ w'.cell? ⟨(ad5.add ((rd l i).toNat * 6)).block, (ad5.add ((rd l i).toNat * 6)).off + 2, none⟩ = some (.int .i64 (rd_T25 x.f5 (rd l i)).f2) ∧ w'.cell? ⟨(ad5.add ((rd l i).toNat * 6)).block, (ad5.add ((rd l i).toNat * 6)).off + 3, none⟩ = some (.string (rd_T25 x.f5 (rd l i)).f3) ∧ w'.cell? ⟨(ad5.add ((rd l i).toNat * 6)).block, (ad5.add ((rd l i).toNat * 6)).off + 4, none⟩ = some (.slice B4 (rd_T25 x.f5 (rd l i)).f4.length d4) ∧ w'.cell? ⟨(ad5.add ((rd l i).toNat * 6)).block, (ad5.add ((rd l i).toNat * 6)).off + 5, none⟩ = some (.slice B5 (rd_T25 x.f5 (rd l i)).f5.length d5)) [] (fun A => ⟨A, (cA A 3), (cA A 2), (cA A 1), (ints_at A.k.1 i Hi0.out Hil.out), ((A.b.cell (World.block_lt_of_cell? w _ Hc.out.1)).trans Hc.out.1), ((A.b.cell (World.block_lt_of_cell? w _ Hc.out.2.1)).trans Hc.out.2.1), ((A.b.cell (World.block_lt_of_cell? w _ Hc.out.2.2.1)).trans Hc.out.2.2.1), ((A.b.cell (World.block_lt_of_cell? w _ Hc.out.2.2.2.1)).trans Hc.out.2.2.2.1), ((A.b.cell (World.block_lt_of_cell? w _ Hc.out.2.2.2.2.1)).trans Hc.out.2.2.2.2.1), ((A.b.cell (World.block_lt_of_cell? w _ Hc.out.2.2.2.2.2.1)).trans Hc.out.2.2.2.2.2.1), ((A.b.cell (World.block_lt_of_cell? w _ Hc.out.2.2.2.2.2.2)).trans Hc.out.2.2.2.2.2.2)⟩) (fun hHeld => ?_)
   refine pu_ 0 68 1 ?_
   refine pu_ 3 71 9 ?_
   refine pu_ 4 72 25 ?_
   refine pu_ 6 74 89 ?_
   refine pu_ 7 75 217 ?_
   refine pu_ 8 76 473 ?_
   refine ta12_ 1 69 475 hHeld ?_
   refine ta12_ 5 73 507 hHeld ?_
   refine ta12_ 9 77 1019 hHeld ?_
   refine pu_ 10 78 2043 ?_
   refine ta12_ 11 79 4091 hHeld ?_
   refine on_ 2 70 4095 (fun K hK => ?_)
   refine loadr_ (ty := 45) (x := .tmp 7) g7 (n.cells) (by rfl) rfl rfl rfl hHeld.1.k.2.2.1 Tryz.underlying45 rfl kr_ ?_
   refine hK.out _ _ ⟨hHeld.1, hHeld.2.1, hHeld.2.2.1, hHeld.2.2.2.1, hHeld.2.2.2.2.1, hHeld.2.2.2.2.2.1, hHeld.2.2.2.2.2.2.1, hHeld.2.2.2.2.2.2.2.1, hHeld.2.2.2.2.2.2.2.2.1, hHeld.2.2.2.2.2.2.2.2.2.1, hHeld.2.2.2.2.2.2.2.2.2.2.1, hHeld.2.2.2.2.2.2.2.2.2.2.2⟩ (fun hHeld => ?_)
   clear hK K
   refine nq_ 70 ?_
   refine on_ 12 80 8191 (fun K hK => ?_)
   have HKc := hHeld.1
   refine ge_ Tryz.func76 #[.int .i64 d, .agg #[s0, s1], .agg n.cells, .string (rdOf ByteArray.empty x.f4 (rd l i)), .agg (jvc (rd_T25 x.f5 (rd l i)) B4 B5 d4 d5)] ?_
   with_reducible refine (member_none _ d s0 s1 n (rdOf ByteArray.empty x.f4 (rd l i)) (rd_T25 x.f5 (rd l i)) B4 B5 d4 d5).mono ?_
   rintro e w3 ⟨rfl, hb⟩
   refine ⟨_, rfl, ?_⟩
   have HKd := At.step HKc hb
   refine hK.out _ _ ⟨HKd, (cA HKd 3), (cA HKd 2), (cA HKd 1), (ints_at HKd.k.1 i Hi0.out Hil.out), ((HKd.b.cell (World.block_lt_of_cell? w _ Hc.out.1)).trans Hc.out.1), ((HKd.b.cell (World.block_lt_of_cell? w _ Hc.out.2.1)).trans Hc.out.2.1), ((HKd.b.cell (World.block_lt_of_cell? w _ Hc.out.2.2.1)).trans Hc.out.2.2.1), ((HKd.b.cell (World.block_lt_of_cell? w _ Hc.out.2.2.2.1)).trans Hc.out.2.2.2.1), ((HKd.b.cell (World.block_lt_of_cell? w _ Hc.out.2.2.2.2.1)).trans Hc.out.2.2.2.2.1), ((HKd.b.cell (World.block_lt_of_cell? w _ Hc.out.2.2.2.2.2.1)).trans Hc.out.2.2.2.2.2.1), ((HKd.b.cell (World.block_lt_of_cell? w _ Hc.out.2.2.2.2.2.2)).trans Hc.out.2.2.2.2.2.2)⟩ (fun hHeld => ?_)
   clear hK K
   refine nq_ 80 ?_
   refine pu_ 13 67 16383 ?_
   refine pu_ 14 81 32767 ?_
   refine pu_ 15 82 65535 ?_
   refine pu_ 16 17 131071 ?_
   refine pu_ 17 18 262143 ?_
   refine done_ kr_ ?_
   clear HK; have HK := asd_ hHeld.1
   clear hHeld
   clear bg6 bg7 bg8
   have bg6 := cE HK 3
   have bg7 := cE HK 2
   have bg8 := cE HK 1
   go_wp2_with fail
   all_goals go_roundg kk
   all_goals first | exact Nat.lt_succ_self _ | exact ⟨wrap64 (i + 1), by first | rfl | simp_all, by first | rfl | simp_all, by have := Hi0.out; rw [wup Hi0.out Hil.out Hlm.out]; omega, by have := Hik.out; rw [wup Hi0.out Hil.out Hlm.out]; omega, ⟨at_⟩⟩
set_option maxHeartbeats 4000000 in
set_option maxRecDepth 100000 in
theorem object_false (w : World) (d : Int) (s0 s1 m : Value) (n : Nd) (x : S25) (A4 A5 : Option Addr) (c4 c5 : Nat) (hx : Rep w x A4 c4 A5 c5) (hn4 : x.f4.length ≤ LM) (h45 : x.f4.length ≤ x.f5.length)
  (hN : ∀ W, Below w.heap.size w W → Calls Tryz.prog 75 #[.agg n.cells, .agg (jvc x A4 A5 c4 c5)] W fun e w' => e = .returned (.bool false) ∧ Below W.heap.size W w') :
  Calls Tryz.prog 39 #[.int .i64 d, .agg #[s0, s1], .agg n.cells, .agg (jvc x A4 A5 c4 c5), m] w fun e w' => e = .returned (.bool false) ∧ Below w.heap.size w w' := by
 obtain ⟨l, kl, hkl, hli, hll⟩ := members_is x.f0 x.f1 x.f2 x.f3 x.f4 x.f5 hn4
 have Hlm : Aside0 (l.length ≤ LM) := ⟨Nat.le_trans hll hn4⟩
 have Hli := asd_ hli
 have Hx := asd_ hx
 have Hn4 := asd_ hn4
 have H45 := asd_ h45
 have Hkl := asd_ hkl
 clear hkl hli hll hx hn4 h45
 have HK : Aside0 (At w [] w) := asd_ (At.start w)
 go_enter Tryz.func39, Tryz.ntmps39
 go_wp2_with (first | ((with_reducible refine gd_ 6 ?_); refine bx_ #[s0, s1] 68 ?_; clear HK; intro g6 wb6 HK Gg6; have bg6 := cE HK 0) | ((with_reducible refine gd_ 7 ?_); refine bx_ n.cells 45 ?_; clear HK bg6; intro g7 wb7 HK Gg7; have bg6 := cE HK 1; have bg7 := cE HK 0) | ((with_reducible refine gd_ 8 ?_); refine bx_ (jvc x A4 A5 c4 c5) 25 ?_; clear HK bg6 bg7; intro g8 wb8 HK Gg8; have bg6 := cE HK 2; have bg7 := cE HK 1; have bg8 := cE HK 0) | ((with_reducible refine gd_ 22 ?_); refine lo_ 25 8 g8 (jvc x A4 A5 c4 c5) HK.out.k.1 Tryz.underlying25 ?_) | ((with_reducible refine gd_ 23 ?_); refine cw_ #[.agg (jvc x A4 A5 c4 c5)] Tryz.func74 (members_ok _ x A4 A5 c4 c5 l kl (Hx.out.below HK.out.b) Hkl.out) ?_; rintro v23 wc23 HK0 ⟨AL, cL, rfl, hF⟩ hB; have HK1 := At.fact (Fact.ints (.slice AL l.length cL) l) HK0 hF; clear HK0 hF hB; replace HK := asd_ HK1; clear HK1; clear bg6 bg7 bg8; have bg6 := cE HK 3; have bg7 := cE HK 2; have bg8 := cE HK 1) | ((with_reducible refine gd_ 30 ?_); refine cl_ #[.int .i64 (l.length : Int), .agg #[bF, i0], .agg #[bF, i0]] (.bool true) Tryz.func35 (bounded_ok _ _) ?_; intro wc30 HK1; replace HK := asd_ HK1; clear HK1; clear bg6 bg7 bg8; have bg6 := cE HK 3; have bg7 := cE HK 2; have bg8 := cE HK 1) | ((with_reducible refine gd_ 32 ?_); (try (refine gate_guard (by rfl) ?_; dsimp only)); refine lo_ 45 7 g7 (n.cells) HK.out.k.2.2.1 Tryz.underlying45 ?_) | ((with_reducible refine gd_ 33 ?_); (try (refine gate_guard (by rfl) ?_; dsimp only)); refine lo_ 25 8 g8 (jvc x A4 A5 c4 c5) HK.out.k.2.1 Tryz.underlying25 ?_) | ((with_reducible refine gd_ 34 ?_); (try (refine gate_guard (by rfl) ?_; dsimp only)); refine cl_ #[.agg n.cells, .agg (jvc x A4 A5 c4 c5)] (.bool false) Tryz.func75 (hN _ HK.out.b) ?_; intro wc34 HK1; replace HK := asd_ HK1; clear HK1; clear bg6 bg7 bg8; have bg6 := cE HK 3; have bg7 := cE HK 2; have bg8 := cE HK 1))
 go_loopg [12, 13] l.length (fun kq v12 v13 w' => ∃ i : Int, v12 = .bool false ∧ v13 = .int .i64 i ∧ 0 ≤ i ∧ i + kq = l.length ∧ Aside0 (At w [.f (Fact.ints (.slice AL l.length cL) l), .b g8 (row (jvc x A4 A5 c4 c5) 25), .b g7 (row (n.cells) 45), .b g6 (row (#[s0, s1]) 68)] w'))
 case atStart => exact ⟨0, rfl, rfl, by omega, by omega, ⟨at_⟩⟩
 case round =>
  clear HK bg6 bg7 bg8
  obtain ⟨i, rfl, rfl, hi0, hik, HK⟩ := hrel
  have bg6 := cE HK 3; have bg7 := cE HK 2; have bg8 := cE HK 1
  cases gk with
  | zero =>
   have ht : decide (i < (l.length : Int)) = false := decide_eq_false (by omega)
   have hl0 : decide (0 < (l.length : Int)) = true ∨ decide (0 < (l.length : Int)) = false := by cases decide (0 < (l.length : Int)) <;> simp
   rcases hl0 with hl0 | hl0
   all_goals go_wp2_with (first | refine wp_loop_once ?_)
   all_goals go_ret
   all_goals exact ⟨rfl, be_⟩
  | succ kk =>
   have ht : decide (i < (l.length : Int)) = true := decide_eq_true (by omega)
   have hil : i < (l.length : Int) := by omega
   obtain ⟨hj0, hj1⟩ := Hli.out _ (rd_mem hi0 hil)
   have hj5 : rd l i < (x.f5.length : Int) := by have := H45.out; omega
   obtain ⟨ad, eL, _⟩ := Kd.at_int (R_C HK.out.k.1).2.2 i hi0 hil
   subst eL
   obtain ⟨ad4, e4, hc4⟩ := Kd.at_string Hx.out.h4 (rd l i) hj0 hj1
   obtain ⟨ad5, B4, d4, B5, d5, e5, hc50, hc51, hc52, hc53, hc54, hc55, m4, n4, m5, n5⟩ := at_T25 Hx.out.h5 (rd l i) hj0 hj5
   subst e4; subst e5
   have Hik := asd_ hik; have Hi0 := asd_ hi0; have Hil := asd_ hil; have Hj0 := asd_ hj0; have Hj1 := asd_ hj1; have Hj5 := asd_ hj5; have Hc := asd_ (And.intro hc4 (And.intro hc50 (And.intro hc51 (And.intro hc52 (And.intro hc53 (And.intro hc54 hc55))))))
   have p1 := eq_true hi0; have p2 := eq_true hil; have p3 := eq_true hj0; have p4 := eq_true hj1; have p5 := eq_true hj5
   clear hik hi0 hil hj0 hj1 hj5 hc4 hc50 hc51 hc52 hc53 hc54 hc55
   go_wp2_with fail
   refine st_ 9 (fun w' => At w [.f (Fact.ints (.slice (some ad) l.length cL) l), .b g8 (row (jvc x (some ad4) (some ad5) c4 c5) 25), .b g7 (row (n.cells) 45), .b g6 (row (#[s0, s1]) 68)] w' ∧ (∀ j, w'.cell? ⟨g6, j, none⟩ = (#[s0, s1] : Array Value)[j]?) ∧ (∀ j, w'.cell? ⟨g7, j, none⟩ = (n.cells : Array Value)[j]?) ∧ (∀ j, w'.cell? ⟨g8, j, none⟩ = (jvc x (some ad4) (some ad5) c4 c5 : Array Value)[j]?) ∧ w'.cell? (ad.add i.toNat) = some (.int .i64 (rd l i)) ∧ w'.cell? (ad4.add (rd l i).toNat) = some (.string (rdOf ByteArray.empty x.f4 (rd l i)))) [] (fun A => ⟨A, (cA A 3), (cA A 2), (cA A 1), (ints_at A.k.1 i Hi0.out Hil.out), ((A.b.cell (World.block_lt_of_cell? w _ Hc.out.1)).trans Hc.out.1)⟩) (fun hHeld => ?_)
   refine pu_ 0 42 1 ?_
   refine pu_ 2 44 5 ?_
   refine pu_ 3 45 13 ?_
   refine pu_ 4 46 29 ?_
   refine ta6_ 1 43 31 hHeld ?_
   refine ta6_ 5 47 63 hHeld ?_
   refine pu_ 6 48 127 ?_
   refine ta6_ 7 49 255 hHeld ?_
   refine pu_ 8 14 511 ?_
   refine done_ kr_ ?_
   clear HK; have HK := asd_ hHeld.1
   clear hHeld
   clear bg6 bg7 bg8
   have bg6 := cE HK 3
   have bg7 := cE HK 2
   have bg8 := cE HK 1
   go_wp2_with fail
   refine st_ 18 (fun w' => At w [.f (Fact.ints (.slice (some ad) l.length cL) l), .b g8 (row (jvc x (some ad4) (some ad5) c4 c5) 25), .b g7 (row (n.cells) 45), .b g6 (row (#[s0, s1]) 68)] w' ∧ (∀ j, w'.cell? ⟨g6, j, none⟩ = (#[s0, s1] : Array Value)[j]?) ∧ (∀ j, w'.cell? ⟨g7, j, none⟩ = (n.cells : Array Value)[j]?) ∧ (∀ j, w'.cell? ⟨g8, j, none⟩ = (jvc x (some ad4) (some ad5) c4 c5 : Array Value)[j]?) ∧ w'.cell? (ad.add i.toNat) = some (.int .i64 (rd l i)) ∧ w'.cell? (ad4.add (rd l i).toNat) = some (.string (rdOf ByteArray.empty x.f4 (rd l i))) ∧ w'.cell? (ad5.add ((rd l i).toNat * 6)) = some (.int .i64 (rd_T25 x.f5 (rd l i)).f0) ∧ w'.cell? ⟨(ad5.add ((rd l i).toNat * 6)).block, (ad5.add ((rd l i).toNat * 6)).off + 1, none⟩ = some (.bool (rd_T25 x.f5 (rd l i)).f1) ∧ w'.cell? ⟨(ad5.add ((rd l i).toNat * 6)).block, (ad5.add ((rd l i).toNat * 6)).off + 2, none⟩ = some (.int .i64 (rd_T25 x.f5 (rd l i)).f2) ∧ w'.cell? ⟨(ad5.add ((rd l i).toNat * 6)).block, (ad5.add ((rd l i).toNat * 6)).off + 3, none⟩ = some (.string (rd_T25 x.f5 (rd l i)).f3) ∧ w'.cell? ⟨(ad5.add ((rd l i).toNat * 6)).block, (ad5.add ((rd l i).toNat * 6)).off + 4, none⟩ = some (.slice B4 (rd_T25 x.f5 (rd l i)).f4.length d4) ∧ w'.cell? ⟨(ad5.add ((rd l i).toNat * 6)).block, (ad5.add ((rd l i).toNat * 6)).off + 5, none⟩ = some (.slice B5 (rd_T25 x.f5 (rd l i)).f5.length d5)) [] (fun A => ⟨A, (cA A 3), (cA A 2), (cA A 1), (ints_at A.k.1 i Hi0.out Hil.out), ((A.b.cell (World.block_lt_of_cell? w _ Hc.out.1)).trans Hc.out.1), ((A.b.cell (World.block_lt_of_cell? w _ Hc.out.2.1)).trans Hc.out.2.1), ((A.b.cell (World.block_lt_of_cell? w _ Hc.out.2.2.1)).trans Hc.out.2.2.1), ((A.b.cell (World.block_lt_of_cell? w _ Hc.out.2.2.2.1)).trans Hc.out.2.2.2.1), ((A.b.cell (World.block_lt_of_cell? w _ Hc.out.2.2.2.2.1)).trans Hc.out.2.2.2.2.1), ((A.b.cell (World.block_lt_of_cell? w _ Hc.out.2.2.2.2.2.1)).trans Hc.out.2.2.2.2.2.1), ((A.b.cell (World.block_lt_of_cell? w _ Hc.out.2.2.2.2.2.2)).trans Hc.out.2.2.2.2.2.2)⟩) (fun hHeld => ?_)
   refine pu_ 0 68 1 ?_
   refine pu_ 3 71 9 ?_
   refine pu_ 4 72 25 ?_
   refine pu_ 6 74 89 ?_
   refine pu_ 7 75 217 ?_
   refine pu_ 8 76 473 ?_
   refine ta12_ 1 69 475 hHeld ?_
   refine ta12_ 5 73 507 hHeld ?_
   refine ta12_ 9 77 1019 hHeld ?_
   refine pu_ 10 78 2043 ?_
   refine ta12_ 11 79 4091 hHeld ?_
   refine on_ 2 70 4095 (fun K hK => ?_)
   refine loadr_ (ty := 45) (x := .tmp 7) g7 (n.cells) (by rfl) rfl rfl rfl hHeld.1.k.2.2.1 Tryz.underlying45 rfl kr_ ?_
   refine hK.out _ _ ⟨hHeld.1, hHeld.2.1, hHeld.2.2.1, hHeld.2.2.2.1, hHeld.2.2.2.2.1, hHeld.2.2.2.2.2.1, hHeld.2.2.2.2.2.2.1, hHeld.2.2.2.2.2.2.2.1, hHeld.2.2.2.2.2.2.2.2.1, hHeld.2.2.2.2.2.2.2.2.2.1, hHeld.2.2.2.2.2.2.2.2.2.2.1, hHeld.2.2.2.2.2.2.2.2.2.2.2⟩ (fun hHeld => ?_)
   clear hK K
   refine nq_ 70 ?_
   refine on_ 12 80 8191 (fun K hK => ?_)
   have HKc := hHeld.1
   refine ge_ Tryz.func76 #[.int .i64 d, .agg #[s0, s1], .agg n.cells, .string (rdOf ByteArray.empty x.f4 (rd l i)), .agg (jvc (rd_T25 x.f5 (rd l i)) B4 B5 d4 d5)] ?_
   with_reducible refine (member_none _ d s0 s1 n (rdOf ByteArray.empty x.f4 (rd l i)) (rd_T25 x.f5 (rd l i)) B4 B5 d4 d5).mono ?_
   rintro e w3 ⟨rfl, hb⟩
   refine ⟨_, rfl, ?_⟩
   have HKd := At.step HKc hb
   refine hK.out _ _ ⟨HKd, (cA HKd 3), (cA HKd 2), (cA HKd 1), (ints_at HKd.k.1 i Hi0.out Hil.out), ((HKd.b.cell (World.block_lt_of_cell? w _ Hc.out.1)).trans Hc.out.1), ((HKd.b.cell (World.block_lt_of_cell? w _ Hc.out.2.1)).trans Hc.out.2.1), ((HKd.b.cell (World.block_lt_of_cell? w _ Hc.out.2.2.1)).trans Hc.out.2.2.1), ((HKd.b.cell (World.block_lt_of_cell? w _ Hc.out.2.2.2.1)).trans Hc.out.2.2.2.1), ((HKd.b.cell (World.block_lt_of_cell? w _ Hc.out.2.2.2.2.1)).trans Hc.out.2.2.2.2.1), ((HKd.b.cell (World.block_lt_of_cell? w _ Hc.out.2.2.2.2.2.1)).trans Hc.out.2.2.2.2.2.1), ((HKd.b.cell (World.block_lt_of_cell? w _ Hc.out.2.2.2.2.2.2)).trans Hc.out.2.2.2.2.2.2)⟩ (fun hHeld => ?_)
   clear hK K
   refine nq_ 80 ?_
   refine pu_ 13 67 16383 ?_
   refine pu_ 14 81 32767 ?_
   refine pu_ 15 82 65535 ?_
   refine pu_ 16 17 131071 ?_
   refine pu_ 17 18 262143 ?_
   refine done_ kr_ ?_
   clear HK; have HK := asd_ hHeld.1
   clear hHeld
   clear bg6 bg7 bg8
   have bg6 := cE HK 3
   have bg7 := cE HK 2
   have bg8 := cE HK 1
   go_wp2_with fail
   all_goals go_roundg kk
   all_goals first | exact Nat.lt_succ_self _ | exact ⟨wrap64 (i + 1), by first | rfl | simp_all, by first | rfl | simp_all, by have := Hi0.out; rw [wup Hi0.out Hil.out Hlm.out]; omega, by have := Hik.out; rw [wup Hi0.out Hil.out Hlm.out]; omega, ⟨at_⟩⟩
theorem marks_at {W : World} {g n : Nat} (h : W.heap[g]? = some (row (Array.replicate n bF) 4)) {i : Int} (h0 : 0 ≤ i) (h1 : i < (n : Int)) : W.cell? ⟨g, i.toNat, none⟩ = some bF := by
 rw [blk_cell h]
 simp [Array.getElem?_replicate]
 omega
theorem set_same {W : World} {g i : Nat} {cs : Array Value} {t : TypeId} {v : Value} (h : W.heap[g]? = some (row cs t)) (hv : cs[i]? = some v) : W.setCell ⟨g, i, none⟩ v = W := by
 have e : W.heap = (W.setCell ⟨g, i, none⟩ v).heap := by
  apply Array.ext_getElem?
  intro j
  by_cases hj : j = g
  ·subst hj
   rw [h, blk_set h]
   congr 2
   apply Array.ext_getElem?
   intro k
   by_cases hk : k = i
   ·subst hk
    rw [hv, Array.getElem?_setIfInBounds_self]
    simp [(Array.getElem?_eq_some_iff.1 hv).1]
   ·rw [Array.getElem?_setIfInBounds_ne (fun e => hk e.symm)]
  ·exact (Below.heap_setCell W ⟨g, i, none⟩ v j hj).symm
 have e2 : W.setCell ⟨g, i, none⟩ v = { W with heap := (W.setCell ⟨g, i, none⟩ v).heap } := rfl
 rw [e2, ← e]
set_option maxHeartbeats 4000000 in
set_option maxRecDepth 100000 in
theorem array_any (w : World) (s0 s1 m : Value) (n : Nd) (x : S25) (A4 A5 : Option Addr) (c4 c5 : Nat) (hx : Rep w x A4 c4 A5 c5) (hn5 : x.f5.length ≤ LM)
  (hm : x.f5.length = 0 ∨ ∃ g c, m = .slice (some ⟨g, 0, none⟩) x.f5.length c ∧ w.heap[g]? = some (row (Array.replicate x.f5.length bF) 4))
  (hT : ∀ W, Below w.heap.size w W → Calls Tryz.prog 71 #[.slice A5 x.f5.length c5] W fun e w' => ∃ v, e = .returned v ∧ (∃ i j : Int, v = .tuple #[.int .i64 i, .int .i64 j]) ∧ Below W.heap.size W w') :
  Calls Tryz.prog 38 #[.int .i64 2020, .agg #[s0, s1], .agg n.cells, .agg (jvc x A4 A5 c4 c5), m] w fun e w' => e = .returned (.bool true) ∧ Below w.heap.size w w' := by
 have Hx := asd_ hx
 have Hn5 := asd_ hn5
 have HT := asd_ hT
 have Hm := asd_ hm
 clear hx hn5 hT hm
 have HK : Aside0 (At w [] w) := asd_ (At.start w)
 go_enter Tryz.func38, Tryz.ntmps38
 go_wp2_with (first | ((with_reducible refine gd_ 6 ?_); refine bx_ #[s0, s1] 68 ?_; clear HK; intro g6 wb6 HK Gg6; have bg6 := cE HK 0) | ((with_reducible refine gd_ 7 ?_); refine bx_ n.cells 45 ?_; clear HK bg6; intro g7 wb7 HK Gg7; have bg6 := cE HK 1; have bg7 := cE HK 0) | ((with_reducible refine gd_ 8 ?_); refine bx_ (jvc x A4 A5 c4 c5) 25 ?_; clear HK bg6 bg7; intro g8 wb8 HK Gg8; have bg6 := cE HK 2; have bg7 := cE HK 1; have bg8 := cE HK 0) | ((with_reducible refine gd_ 30 ?_); refine cl_ #[.int .i64 (x.f5.length : Int), .agg #[bF, i0], .agg #[bF, i0]] (.bool true) Tryz.func35 (bounded_ok _ _) ?_; intro wc30 HK1; replace HK := asd_ HK1; clear HK1; clear bg6 bg7 bg8; have bg6 := cE HK 2; have bg7 := cE HK 1; have bg8 := cE HK 0) | ((with_reducible refine gd_ 34 ?_); refine cw_ #[.slice A5 x.f5.length c5] Tryz.func71 (HT.out _ HK.out.b) ?_; rintro v34 wc34 HK1 ⟨ti, tj, rfl⟩ hB; clear hB; replace HK := asd_ HK1; clear HK1; clear bg6 bg7 bg8; have bg6 := cE HK 2; have bg7 := cE HK 1; have bg8 := cE HK 0))
 go_loopg [12, 15] x.f5.length (fun kq v12 v15 w' => ∃ i : Int, v12 = .bool true ∧ v15 = .int .i64 i ∧ 0 ≤ i ∧ i + kq = x.f5.length ∧ Aside0 (At w [.b g8 (row (jvc x A4 A5 c4 c5) 25), .b g7 (row (n.cells) 45), .b g6 (row (#[s0, s1]) 68)] w'))
 case atStart => exact ⟨0, rfl, rfl, by omega, by omega, ⟨at_⟩⟩
 case round =>
  clear HK bg6 bg7 bg8
  obtain ⟨i, rfl, rfl, hi0, hik, HK⟩ := hrel
  have bg6 := cE HK 2; have bg7 := cE HK 1; have bg8 := cE HK 0
  cases gk with
  | zero =>
   have ht : decide (i < (x.f5.length : Int)) = false := decide_eq_false (by omega)
   have hl0 : decide (0 < (x.f5.length : Int)) = true ∨ decide (0 < (x.f5.length : Int)) = false := by cases decide (0 < (x.f5.length : Int)) <;> simp
   rcases hl0 with hl0 | hl0
   all_goals go_wp2_with (first | refine wp_loop_once ?_)
   all_goals go_ret
   all_goals exact ⟨rfl, be_⟩
  | succ kk =>
   have ht : decide (i < (x.f5.length : Int)) = true := decide_eq_true (by omega)
   have hil : i < (x.f5.length : Int) := by omega
   obtain ⟨ad5, B4, d4, B5, d5, e5, hc50, hc51, hc52, hc53, hc54, hc55, m4, n4, m5, n5⟩ := at_T25 Hx.out.h5 i hi0 hil
   subst e5
   obtain ⟨gm, cm, em, hgm⟩ := Hm.out.resolve_left (by omega)
   subst em
   have Hgm := asd_ hgm
   have Hik := asd_ hik; have Hi0 := asd_ hi0; have Hil := asd_ hil; have Hc := asd_ (And.intro hc50 (And.intro hc51 (And.intro hc52 (And.intro hc53 (And.intro hc54 hc55)))))
   have p1 := eq_true hi0; have p2 := eq_true hil
   clear hik hi0 hil hc50 hc51 hc52 hc53 hc54 hc55 hgm
   go_wp2_with fail
   refine st_ 15 (fun w' => At w [.b g8 (row (jvc x A4 (some ad5) c4 c5) 25), .b g7 (row (n.cells) 45), .b g6 (row (#[s0, s1]) 68)] w' ∧ (∀ j, w'.cell? ⟨g6, j, none⟩ = (#[s0, s1] : Array Value)[j]?) ∧ (∀ j, w'.cell? ⟨g7, j, none⟩ = (n.cells : Array Value)[j]?) ∧ (∀ j, w'.cell? ⟨g8, j, none⟩ = (jvc x A4 (some ad5) c4 c5 : Array Value)[j]?) ∧ w'.cell? (ad5.add (i.toNat * 6)) = some (.int .i64 (rd_T25 x.f5 i).f0) ∧ w'.cell? ⟨(ad5.add (i.toNat * 6)).block, (ad5.add (i.toNat * 6)).off + 1, none⟩ = some (.bool (rd_T25 x.f5 i).f1) ∧ w'.cell? ⟨(ad5.add (i.toNat * 6)).block, (ad5.add (i.toNat * 6)).off + 2, none⟩ = some (.int .i64 (rd_T25 x.f5 i).f2) ∧ w'.cell? ⟨(ad5.add (i.toNat * 6)).block, (ad5.add (i.toNat * 6)).off + 3, none⟩ = some (.string (rd_T25 x.f5 i).f3) ∧ w'.cell? ⟨(ad5.add (i.toNat * 6)).block, (ad5.add (i.toNat * 6)).off + 4, none⟩ = some (.slice B4 (rd_T25 x.f5 i).f4.length d4) ∧ w'.cell? ⟨(ad5.add (i.toNat * 6)).block, (ad5.add (i.toNat * 6)).off + 5, none⟩ = some (.slice B5 (rd_T25 x.f5 i).f5.length d5)) [] (fun A => ⟨A, (cA A 2), (cA A 1), (cA A 0), ((A.b.cell (World.block_lt_of_cell? w _ Hc.out.1)).trans Hc.out.1), ((A.b.cell (World.block_lt_of_cell? w _ Hc.out.2.1)).trans Hc.out.2.1), ((A.b.cell (World.block_lt_of_cell? w _ Hc.out.2.2.1)).trans Hc.out.2.2.1), ((A.b.cell (World.block_lt_of_cell? w _ Hc.out.2.2.2.1)).trans Hc.out.2.2.2.1), ((A.b.cell (World.block_lt_of_cell? w _ Hc.out.2.2.2.2.1)).trans Hc.out.2.2.2.2.1), ((A.b.cell (World.block_lt_of_cell? w _ Hc.out.2.2.2.2.2)).trans Hc.out.2.2.2.2.2)⟩) (fun hHeld => ?_)
   refine pu_ 0 49 1 ?_
   refine pu_ 3 52 9 ?_
   refine pu_ 4 53 25 ?_
   refine pu_ 6 55 89 ?_
   refine ta10_ 1 50 91 hHeld ?_
   refine ta10_ 5 54 123 hHeld ?_
   refine pu_ 7 56 251 ?_
   refine ta10_ 8 57 507 hHeld ?_
   refine on_ 2 51 511 (fun K hK => ?_)
   refine loadr_ (ty := 45) (x := .tmp 7) g7 (n.cells) (by rfl) rfl rfl rfl hHeld.1.k.2.1 Tryz.underlying45 rfl kr_ ?_
   refine hK.out _ _ ⟨hHeld.1, hHeld.2.1, hHeld.2.2.1, hHeld.2.2.2.1, hHeld.2.2.2.2.1, hHeld.2.2.2.2.2.1, hHeld.2.2.2.2.2.2.1, hHeld.2.2.2.2.2.2.2.1, hHeld.2.2.2.2.2.2.2.2.1, hHeld.2.2.2.2.2.2.2.2.2⟩ (fun hHeld => ?_)
   clear hK K
   refine nq_ 51 ?_
   refine on_ 9 58 1023 (fun K hK => ?_)
   have HKc := hHeld.1
   refine ge_ Tryz.func72 #[.int .i64 2020, .agg #[s0, s1], .agg n.cells, .int .i64 i, .agg (jvc (rd_T25 x.f5 i) B4 B5 d4 d5)] ?_
   with_reducible refine (element_none _ s0 s1 n i Hi0.out (rd_T25 x.f5 i) B4 B5 d4 d5).mono ?_
   rintro e w3 ⟨rfl, hb⟩
   refine ⟨_, rfl, ?_⟩
   have HKd := At.step HKc hb
   refine hK.out _ _ ⟨HKd, (cA HKd 2), (cA HKd 1), (cA HKd 0), ((HKd.b.cell (World.block_lt_of_cell? w _ Hc.out.1)).trans Hc.out.1), ((HKd.b.cell (World.block_lt_of_cell? w _ Hc.out.2.1)).trans Hc.out.2.1), ((HKd.b.cell (World.block_lt_of_cell? w _ Hc.out.2.2.1)).trans Hc.out.2.2.1), ((HKd.b.cell (World.block_lt_of_cell? w _ Hc.out.2.2.2.1)).trans Hc.out.2.2.2.1), ((HKd.b.cell (World.block_lt_of_cell? w _ Hc.out.2.2.2.2.1)).trans Hc.out.2.2.2.2.1), ((HKd.b.cell (World.block_lt_of_cell? w _ Hc.out.2.2.2.2.2)).trans Hc.out.2.2.2.2.2)⟩ (fun hHeld => ?_)
   clear hK K
   refine nq_ 58 ?_
   refine pu_ 10 48 2047 ?_
   refine pu_ 11 59 4095 ?_
   refine pu_ 12 60 8191 ?_
   refine pu_ 13 16 16383 ?_
   refine pu_ 14 17 32767 ?_
   refine done_ kr_ ?_
   clear HK; have HK := asd_ hHeld.1
   clear hHeld
   clear bg6 bg7 bg8
   have bg6 := cE HK 2
   have bg7 := cE HK 1
   have bg8 := cE HK 0
   have hmk := marks_at (blk_below Hgm.out HK.out.b) (i := i) Hi0.out Hil.out
   have hmf := blk_frozen (blk_below Hgm.out HK.out.b) i.toNat
   go_wp2_with fail
   go_roundg kk
   case measure => exact Nat.lt_succ_self _
   case rel =>
    refine ⟨wrap64 (i + 1), rfl, rfl, by have := Hi0.out; rw [wup Hi0.out Hil.out Hn5.out]; omega, by have := Hik.out; rw [wup Hi0.out Hil.out Hn5.out]; omega, ⟨?_⟩⟩
    rw [set_same (cs := Array.replicate x.f5.length bF) (t := 4) (blk_below Hgm.out be_) (by have := Hil.out; have := Hi0.out; simp [Array.getElem?_replicate]; omega)]
    repeat (first | exact HK.out | apply At.drewN | apply At.drew | apply At.alloc)
set_option maxHeartbeats 4000000 in
set_option maxRecDepth 100000 in
theorem inplace_none (w : World) (d : Int) (s0 s1 m : Value) (n : Nd) (x : S25) (A4 A5 : Option Addr) (c4 c5 : Nat) :
  Calls Tryz.prog 32 #[.int .i64 d, .agg #[s0, s1], .agg n.cells, .agg (jvc x A4 A5 c4 c5), m] w fun e w' => e = .returned (.bool true) ∧ Below w.heap.size w w' := by
 have HK : Aside0 (At w [] w) := asd_ (At.start w)
 go_enter Tryz.func32, Tryz.ntmps32
 go_wp2_with (first | refine wp_loop_once ?_ | ((with_reducible refine gd_ 6 ?_); refine bx_ #[s0, s1] 68 ?_; clear HK; intro g6 wb6 HK Gg6; have bg6 := cE HK 0) | ((with_reducible refine gd_ 7 ?_); refine bx_ n.cells 45 ?_; clear HK bg6; intro g7 wb7 HK Gg7; have bg6 := cE HK 1; have bg7 := cE HK 0) | ((with_reducible refine gd_ 8 ?_); refine bx_ (jvc x A4 A5 c4 c5) 25 ?_; clear HK bg6 bg7; intro g8 wb8 HK Gg8; have bg6 := cE HK 2; have bg7 := cE HK 1; have bg8 := cE HK 0) | ((with_reducible refine gd_ 44 ?_); refine cl_ #[.int .i64 d, .agg #[s0, s1], nilS, .agg (jvc x A4 A5 c4 c5), m] (i0) Tryz.func63 (several_none _ _ _ _ _ _) ?_; intro wc44 HK1; replace HK := asd_ HK1; clear HK1; clear bg6 bg7 bg8; have bg6 := cE HK 2; have bg7 := cE HK 1; have bg8 := cE HK 0) | ((with_reducible refine gd_ 56 ?_); refine cl_ #[.int .i64 d, .agg #[s0, s1], nilS, .agg (jvc x A4 A5 c4 c5), m] (i0) Tryz.func63 (several_none _ _ _ _ _ _) ?_; intro wc56 HK1; replace HK := asd_ HK1; clear HK1; clear bg6 bg7 bg8; have bg6 := cE HK 2; have bg7 := cE HK 1; have bg8 := cE HK 0) | ((with_reducible refine gd_ 71 ?_); refine cl_ #[.int .i64 d, .agg #[s0, s1], nilS, .agg (jvc x A4 A5 c4 c5), m] (i0) Tryz.func63 (several_none _ _ _ _ _ _) ?_; intro wc71 HK1; replace HK := asd_ HK1; clear HK1; clear bg6 bg7 bg8; have bg6 := cE HK 2; have bg7 := cE HK 1; have bg8 := cE HK 0) | ((with_reducible refine gd_ 158 ?_); refine lo_ 45 7 g7 (n.cells) HK.out.k.2.1 Tryz.underlying45 ?_) | ((with_reducible refine gd_ 161 ?_); refine cl_ #[.int .i64 d, .agg #[s0, s1], .agg n.cells, .agg (jvc x A4 A5 c4 c5), m] (.bool true) Tryz.func67 (depends_none _ _ _ _ _ _ _) ?_; intro wc161 HK1; replace HK := asd_ HK1; clear HK1; clear bg6 bg7 bg8; have bg6 := cE HK 2; have bg7 := cE HK 1; have bg8 := cE HK 0))
 go_ret
 exact ⟨rfl, be_⟩
set_option maxHeartbeats 4000000 in
set_option maxRecDepth 100000 in
theorem judge_other (w : World) (s1 : Value) (n : Nd) (gn cS : Nat) (x : S25) (A4 A5 : Option Addr) (c4 c5 : Nat) (hk0 : n.kind = 0) (hhe : n.he = false) (hco : n.co = nilS) (k2 : (x.f0 == 2) = false) (k3 : (x.f0 == 3) = false) (k4 : (x.f0 == 4) = false) (k5 : (x.f0 == 5) = false) (hn1 : n.cells.all (·.oneCell') = true) (hS : w.heap[gn]? = some (row n.cells 45)) (hx : Rep w x A4 c4 A5 c5) (hn5 : x.f5.length ≤ LM) :
  Calls Tryz.prog 20 #[.int .i64 2020, .agg #[.slice (some ⟨gn, 0, none⟩) 1 cS, s1], .int .i64 1, .agg (jvc x A4 A5 c4 c5)] w fun e w' => ∃ v, e = .returned (.tuple #[.bool true, v]) ∧ Below w.heap.size w w' := by
 have hmk := print_make_of (P := Tryz.prog) 63 4 bF 1 Tryz.underlying63 kr_ rfl (by decide) x.f5.length (by simp only [LM] at hn5; omega)
 have HK : Aside0 (At w [.b gn (row (n.cells) 45)] w) := asd_ (At.hold (At.start w) hS (by simp [nums]))
 have bgn := cE HK 0
 go_enter Tryz.func20, Tryz.ntmps20
 go_wp2_with (first | ((with_reducible refine gd_ 5 ?_); refine bx_ #[.slice (some ⟨gn, 0, none⟩) 1 cS, s1] 68 ?_; clear HK bgn; intro g5 wb5 HK Gg5; have bgn := cE HK 1; have bg5 := cE HK 0) | ((with_reducible refine gd_ 7 ?_); refine bx_ (jvc x A4 A5 c4 c5) 25 ?_; clear HK bgn bg5; intro g7 wb7 HK Gg7; have bgn := cE HK 2; have bg5 := cE HK 1; have bg7 := cE HK 0) | ((with_reducible refine gd_ 18 ?_); refine lo_ 45 17 gn (n.cells) HK.out.k.2.2.1 Tryz.underlying45 ?_) | ((with_reducible refine gd_ 10 ?_); refine bx_ (Nd.cells ⟨0, false, nilS, nilS, false, nilS, false, nilS, nilS, nilS⟩) 45 ?_; clear HK bgn bg5 bg7; intro g10 wb10 HK Gg10; have bgn := cE HK 3; have bg5 := cE HK 2; have bg7 := cE HK 1; have bg10 := cE HK 0) | ((with_reducible refine gate_ (.store 45 (.tmp 10) (.tmp 18)) rfl ?_); refine storerow_at (cs := Nd.cells ⟨0, false, nilS, nilS, false, nilS, false, nilS, nilS, nilS⟩) (g := g10) 0 n.cells at_ rfl Gg10.out rfl rfl rfl rfl rfl rfl kr_ rfl (hn1) ?_; intro wsr HK1; replace HK := asd_ HK1; clear HK1; clear bgn bg5 bg7 bg10; have bgn := cE HK 3; have bg5 := cE HK 2; have bg7 := cE HK 1; have bg10 := cE HK 0) | ((with_reducible refine gd_ 22 ?_); refine nw_ (row (madeCells #[bF] x.f5.length) 4) (fun b => .slice (some ⟨b, 0, none⟩) x.f5.length x.f5.length) ?_; clear HK bgn bg5 bg7 bg10; intro gm wb22 HK Ggm; have bgn := cE HK 4; have bg5 := cE HK 3; have bg7 := cE HK 2; have bg10 := cE HK 1) | ((with_reducible refine gd_ 30 ?_); refine lo_ 45 10 g10 (n.cells) HK.out.k.2.1 Tryz.underlying45 ?_) | ((with_reducible refine gd_ 31 ?_); refine lo_ 25 7 g7 (jvc x A4 A5 c4 c5) HK.out.k.2.2.1 Tryz.underlying25 ?_) | ((with_reducible refine gd_ 32 ?_); refine cl_ #[.agg n.cells, .agg (jvc x A4 A5 c4 c5)] (.bool true) Tryz.func31 (values_none _ n hhe hco x A4 A5 c4 c5) ?_; intro wc32 HK1; replace HK := asd_ HK1; clear HK1; clear bgn bg5 bg7 bg10; have bgn := cE HK 4; have bg5 := cE HK 3; have bg7 := cE HK 2; have bg10 := cE HK 1) | ((with_reducible refine gd_ 34 ?_); refine lo_ 68 5 g5 (#[.slice (some ⟨gn, 0, none⟩) 1 cS, s1]) HK.out.k.2.2.2.1 Tryz.underlying68 ?_) | ((with_reducible refine gd_ 35 ?_); refine lo_ 45 10 g10 (n.cells) HK.out.k.2.1 Tryz.underlying45 ?_) | ((with_reducible refine gd_ 36 ?_); refine lo_ 25 7 g7 (jvc x A4 A5 c4 c5) HK.out.k.2.2.1 Tryz.underlying25 ?_) | ((with_reducible refine gd_ 38 ?_); refine cl_ #[.int .i64 2020, .agg #[.slice (some ⟨gn, 0, none⟩) 1 cS, s1], .agg n.cells, .agg (jvc x A4 A5 c4 c5), .slice (some ⟨gm, 0, none⟩) x.f5.length x.f5.length] (.bool true) Tryz.func32 (inplace_none _ 2020 (.slice (some ⟨gn, 0, none⟩) 1 cS) s1 (.slice (some ⟨gm, 0, none⟩) x.f5.length x.f5.length) n x A4 A5 c4 c5) ?_; intro wc38 HK1; replace HK := asd_ HK1; clear HK1; clear bgn bg5 bg7 bg10; have bgn := cE HK 4; have bg5 := cE HK 3; have bg7 := cE HK 2; have bg10 := cE HK 1))
 go_ret2
 exact ⟨_, rfl, be_⟩
theorem made_rep (n : Nat) : madeCells #[bF] n = Array.replicate n bF := by
 apply Array.ext
 ·simp [size_madeCells]
 ·intro i h1 h2
  simp [madeCells, Nat.mod_one]
set_option maxHeartbeats 4000000 in
set_option maxRecDepth 100000 in
theorem judge_array (w : World) (s1 : Value) (n : Nd) (gn cS : Nat) (x : S25) (A4 A5 : Option Addr) (c4 c5 : Nat) (hk0 : n.kind = 0) (hhe : n.he = false) (hco : n.co = nilS) (k2 : (x.f0 == 2) = false) (k3 : (x.f0 == 3) = false) (k4 : (x.f0 == 4) = true) (hn1 : n.cells.all (·.oneCell') = true) (hS : w.heap[gn]? = some (row n.cells 45)) (hn5 : x.f5.length ≤ LM)
  (hx : Rep w x A4 c4 A5 c5) (hT : ∀ W, Below w.heap.size w W → Calls Tryz.prog 71 #[.slice A5 x.f5.length c5] W fun e w' => ∃ v, e = .returned v ∧ (∃ i j : Int, v = .tuple #[.int .i64 i, .int .i64 j]) ∧ Below W.heap.size W w') :
  Calls Tryz.prog 20 #[.int .i64 2020, .agg #[.slice (some ⟨gn, 0, none⟩) 1 cS, s1], .int .i64 1, .agg (jvc x A4 A5 c4 c5)] w fun e w' => ∃ v, e = .returned (.tuple #[.bool true, v]) ∧ Below w.heap.size w w' := by
 have hmk := print_make_of (P := Tryz.prog) 63 4 bF 1 Tryz.underlying63 kr_ rfl (by decide) x.f5.length (by simp only [LM] at hn5; omega)
 have Hx := asd_ hx
 have HT := asd_ hT
 clear hx hT
 have HK : Aside0 (At w [.b gn (row (n.cells) 45)] w) := asd_ (At.hold (At.start w) hS (by simp [nums]))
 have bgn := cE HK 0
 go_enter Tryz.func20, Tryz.ntmps20
 go_wp2_with (first | ((with_reducible refine gd_ 5 ?_); refine bx_ #[.slice (some ⟨gn, 0, none⟩) 1 cS, s1] 68 ?_; clear HK bgn; intro g5 wb5 HK Gg5; have bgn := cE HK 1; have bg5 := cE HK 0) | ((with_reducible refine gd_ 7 ?_); refine bx_ (jvc x A4 A5 c4 c5) 25 ?_; clear HK bgn bg5; intro g7 wb7 HK Gg7; have bgn := cE HK 2; have bg5 := cE HK 1; have bg7 := cE HK 0) | ((with_reducible refine gd_ 18 ?_); refine lo_ 45 17 gn (n.cells) HK.out.k.2.2.1 Tryz.underlying45 ?_) | ((with_reducible refine gd_ 10 ?_); refine bx_ (Nd.cells ⟨0, false, nilS, nilS, false, nilS, false, nilS, nilS, nilS⟩) 45 ?_; clear HK bgn bg5 bg7; intro g10 wb10 HK Gg10; have bgn := cE HK 3; have bg5 := cE HK 2; have bg7 := cE HK 1; have bg10 := cE HK 0) | ((with_reducible refine gate_ (.store 45 (.tmp 10) (.tmp 18)) rfl ?_); refine storerow_at (cs := Nd.cells ⟨0, false, nilS, nilS, false, nilS, false, nilS, nilS, nilS⟩) (g := g10) 0 n.cells at_ rfl Gg10.out rfl rfl rfl rfl rfl rfl kr_ rfl (hn1) ?_; intro wsr HK1; replace HK := asd_ HK1; clear HK1; clear bgn bg5 bg7 bg10; have bgn := cE HK 3; have bg5 := cE HK 2; have bg7 := cE HK 1; have bg10 := cE HK 0) | ((with_reducible refine gd_ 22 ?_); refine nw_ (row (madeCells #[bF] x.f5.length) 4) (fun b => .slice (some ⟨b, 0, none⟩) x.f5.length x.f5.length) ?_; clear HK bgn bg5 bg7 bg10; intro gm wb22 HK Ggm; have bgn := cE HK 4; have bg5 := cE HK 3; have bg7 := cE HK 2; have bg10 := cE HK 1) | ((with_reducible refine gd_ 30 ?_); refine lo_ 45 10 g10 (n.cells) HK.out.k.2.1 Tryz.underlying45 ?_) | ((with_reducible refine gd_ 31 ?_); refine lo_ 25 7 g7 (jvc x A4 A5 c4 c5) HK.out.k.2.2.1 Tryz.underlying25 ?_) | ((with_reducible refine gd_ 32 ?_); refine cl_ #[.agg n.cells, .agg (jvc x A4 A5 c4 c5)] (.bool true) Tryz.func31 (values_none _ n hhe hco x A4 A5 c4 c5) ?_; intro wc32 HK1; replace HK := asd_ HK1; clear HK1; clear bgn bg5 bg7 bg10; have bgn := cE HK 4; have bg5 := cE HK 3; have bg7 := cE HK 2; have bg10 := cE HK 1) | ((with_reducible refine gd_ 34 ?_); refine lo_ 68 5 g5 (#[.slice (some ⟨gn, 0, none⟩) 1 cS, s1]) HK.out.k.2.2.2.1 Tryz.underlying68 ?_) | ((with_reducible refine gd_ 35 ?_); refine lo_ 45 10 g10 (n.cells) HK.out.k.2.1 Tryz.underlying45 ?_) | ((with_reducible refine gd_ 36 ?_); refine lo_ 25 7 g7 (jvc x A4 A5 c4 c5) HK.out.k.2.2.1 Tryz.underlying25 ?_) | ((with_reducible refine gd_ 38 ?_); refine cl_ #[.int .i64 2020, .agg #[.slice (some ⟨gn, 0, none⟩) 1 cS, s1], .agg n.cells, .agg (jvc x A4 A5 c4 c5), .slice (some ⟨gm, 0, none⟩) x.f5.length x.f5.length] (.bool true) Tryz.func32 (inplace_none _ 2020 (.slice (some ⟨gn, 0, none⟩) 1 cS) s1 (.slice (some ⟨gm, 0, none⟩) x.f5.length x.f5.length) n x A4 A5 c4 c5) ?_; intro wc38 HK1; replace HK := asd_ HK1; clear HK1; clear bgn bg5 bg7 bg10; have bgn := cE HK 4; have bg5 := cE HK 3; have bg7 := cE HK 2; have bg10 := cE HK 1) | ((with_reducible refine gd_ 82 ?_); refine lo_ 68 5 g5 (#[.slice (some ⟨gn, 0, none⟩) 1 cS, s1]) HK.out.k.2.2.2.1 Tryz.underlying68 ?_) | ((with_reducible refine gd_ 83 ?_); refine lo_ 45 10 g10 (n.cells) HK.out.k.2.1 Tryz.underlying45 ?_) | ((with_reducible refine gd_ 84 ?_); refine lo_ 25 7 g7 (jvc x A4 A5 c4 c5) HK.out.k.2.2.1 Tryz.underlying25 ?_) | ((with_reducible refine gd_ 86 ?_); refine cl_ #[.int .i64 2020, .agg #[.slice (some ⟨gn, 0, none⟩) 1 cS, s1], .agg n.cells, .agg (jvc x A4 A5 c4 c5), .slice (some ⟨gm, 0, none⟩) x.f5.length x.f5.length] (.bool true) Tryz.func38 (array_any _ (.slice (some ⟨gn, 0, none⟩) 1 cS) s1 (.slice (some ⟨gm, 0, none⟩) x.f5.length x.f5.length) n x A4 A5 c4 c5 (Hx.out.below HK.out.b) hn5 (Or.inr ⟨gm, x.f5.length, rfl, by rw [← made_rep]; exact HK.out.k.1⟩) (fun W' hb => HT.out W' (below_step HK.out.b hb))) ?_; intro wc86 HK1; replace HK := asd_ HK1; clear HK1; clear bgn bg5 bg7 bg10; have bgn := cE HK 4; have bg5 := cE HK 3; have bg7 := cE HK 2; have bg10 := cE HK 1))
 go_ret2
 exact ⟨_, rfl, be_⟩
set_option maxHeartbeats 4000000 in
set_option maxRecDepth 100000 in
theorem judge_object_true (w : World) (s1 : Value) (n : Nd) (gn cS : Nat) (x : S25) (A4 A5 : Option Addr) (c4 c5 : Nat) (hk0 : n.kind = 0) (hhe : n.he = false) (hco : n.co = nilS) (k2 : (x.f0 == 2) = false) (k3 : (x.f0 == 3) = false) (k4 : (x.f0 == 4) = false) (k5 : (x.f0 == 5) = true) (hn4 : x.f4.length ≤ LM) (h45 : x.f4.length ≤ x.f5.length) (hn1 : n.cells.all (·.oneCell') = true) (hS : w.heap[gn]? = some (row n.cells 45)) (hn5 : x.f5.length ≤ LM)
  (hx : Rep w x A4 c4 A5 c5) (hT : ∀ W, Below w.heap.size w W → Calls Tryz.prog 75 #[.agg n.cells, .agg (jvc x A4 A5 c4 c5)] W fun e w' => e = .returned (.bool true) ∧ Below W.heap.size W w') :
  Calls Tryz.prog 20 #[.int .i64 2020, .agg #[.slice (some ⟨gn, 0, none⟩) 1 cS, s1], .int .i64 1, .agg (jvc x A4 A5 c4 c5)] w fun e w' => ∃ v, e = .returned (.tuple #[.bool true, v]) ∧ Below w.heap.size w w' := by
 have hmk := print_make_of (P := Tryz.prog) 63 4 bF 1 Tryz.underlying63 kr_ rfl (by decide) x.f5.length (by simp only [LM] at hn5; omega)
 have Hx := asd_ hx
 have HT := asd_ hT
 clear hx hT
 have HK : Aside0 (At w [.b gn (row (n.cells) 45)] w) := asd_ (At.hold (At.start w) hS (by simp [nums]))
 have bgn := cE HK 0
 go_enter Tryz.func20, Tryz.ntmps20
 go_wp2_with (first | ((with_reducible refine gd_ 5 ?_); refine bx_ #[.slice (some ⟨gn, 0, none⟩) 1 cS, s1] 68 ?_; clear HK bgn; intro g5 wb5 HK Gg5; have bgn := cE HK 1; have bg5 := cE HK 0) | ((with_reducible refine gd_ 7 ?_); refine bx_ (jvc x A4 A5 c4 c5) 25 ?_; clear HK bgn bg5; intro g7 wb7 HK Gg7; have bgn := cE HK 2; have bg5 := cE HK 1; have bg7 := cE HK 0) | ((with_reducible refine gd_ 18 ?_); refine lo_ 45 17 gn (n.cells) HK.out.k.2.2.1 Tryz.underlying45 ?_) | ((with_reducible refine gd_ 10 ?_); refine bx_ (Nd.cells ⟨0, false, nilS, nilS, false, nilS, false, nilS, nilS, nilS⟩) 45 ?_; clear HK bgn bg5 bg7; intro g10 wb10 HK Gg10; have bgn := cE HK 3; have bg5 := cE HK 2; have bg7 := cE HK 1; have bg10 := cE HK 0) | ((with_reducible refine gate_ (.store 45 (.tmp 10) (.tmp 18)) rfl ?_); refine storerow_at (cs := Nd.cells ⟨0, false, nilS, nilS, false, nilS, false, nilS, nilS, nilS⟩) (g := g10) 0 n.cells at_ rfl Gg10.out rfl rfl rfl rfl rfl rfl kr_ rfl (hn1) ?_; intro wsr HK1; replace HK := asd_ HK1; clear HK1; clear bgn bg5 bg7 bg10; have bgn := cE HK 3; have bg5 := cE HK 2; have bg7 := cE HK 1; have bg10 := cE HK 0) | ((with_reducible refine gd_ 22 ?_); refine nw_ (row (madeCells #[bF] x.f5.length) 4) (fun b => .slice (some ⟨b, 0, none⟩) x.f5.length x.f5.length) ?_; clear HK bgn bg5 bg7 bg10; intro gm wb22 HK Ggm; have bgn := cE HK 4; have bg5 := cE HK 3; have bg7 := cE HK 2; have bg10 := cE HK 1) | ((with_reducible refine gd_ 30 ?_); refine lo_ 45 10 g10 (n.cells) HK.out.k.2.1 Tryz.underlying45 ?_) | ((with_reducible refine gd_ 31 ?_); refine lo_ 25 7 g7 (jvc x A4 A5 c4 c5) HK.out.k.2.2.1 Tryz.underlying25 ?_) | ((with_reducible refine gd_ 32 ?_); refine cl_ #[.agg n.cells, .agg (jvc x A4 A5 c4 c5)] (.bool true) Tryz.func31 (values_none _ n hhe hco x A4 A5 c4 c5) ?_; intro wc32 HK1; replace HK := asd_ HK1; clear HK1; clear bgn bg5 bg7 bg10; have bgn := cE HK 4; have bg5 := cE HK 3; have bg7 := cE HK 2; have bg10 := cE HK 1) | ((with_reducible refine gd_ 34 ?_); refine lo_ 68 5 g5 (#[.slice (some ⟨gn, 0, none⟩) 1 cS, s1]) HK.out.k.2.2.2.1 Tryz.underlying68 ?_) | ((with_reducible refine gd_ 35 ?_); refine lo_ 45 10 g10 (n.cells) HK.out.k.2.1 Tryz.underlying45 ?_) | ((with_reducible refine gd_ 36 ?_); refine lo_ 25 7 g7 (jvc x A4 A5 c4 c5) HK.out.k.2.2.1 Tryz.underlying25 ?_) | ((with_reducible refine gd_ 38 ?_); refine cl_ #[.int .i64 2020, .agg #[.slice (some ⟨gn, 0, none⟩) 1 cS, s1], .agg n.cells, .agg (jvc x A4 A5 c4 c5), .slice (some ⟨gm, 0, none⟩) x.f5.length x.f5.length] (.bool true) Tryz.func32 (inplace_none _ 2020 (.slice (some ⟨gn, 0, none⟩) 1 cS) s1 (.slice (some ⟨gm, 0, none⟩) x.f5.length x.f5.length) n x A4 A5 c4 c5) ?_; intro wc38 HK1; replace HK := asd_ HK1; clear HK1; clear bgn bg5 bg7 bg10; have bgn := cE HK 4; have bg5 := cE HK 3; have bg7 := cE HK 2; have bg10 := cE HK 1) | ((with_reducible refine gd_ 93 ?_); refine lo_ 68 5 g5 (#[.slice (some ⟨gn, 0, none⟩) 1 cS, s1]) HK.out.k.2.2.2.1 Tryz.underlying68 ?_) | ((with_reducible refine gd_ 94 ?_); refine lo_ 45 10 g10 (n.cells) HK.out.k.2.1 Tryz.underlying45 ?_) | ((with_reducible refine gd_ 95 ?_); refine lo_ 25 7 g7 (jvc x A4 A5 c4 c5) HK.out.k.2.2.1 Tryz.underlying25 ?_) | ((with_reducible refine gd_ 97 ?_); refine cl_ #[.int .i64 2020, .agg #[.slice (some ⟨gn, 0, none⟩) 1 cS, s1], .agg n.cells, .agg (jvc x A4 A5 c4 c5), .slice (some ⟨gm, 0, none⟩) x.f5.length x.f5.length] (.bool true) Tryz.func39 (object_true _ 2020 (.slice (some ⟨gn, 0, none⟩) 1 cS) s1 (.slice (some ⟨gm, 0, none⟩) x.f5.length x.f5.length) n x A4 A5 c4 c5 (Hx.out.below HK.out.b) hn4 h45 (fun W' hb => HT.out W' (below_step HK.out.b hb))) ?_; intro wc97 HK1; replace HK := asd_ HK1; clear HK1; clear bgn bg5 bg7 bg10; have bgn := cE HK 4; have bg5 := cE HK 3; have bg7 := cE HK 2; have bg10 := cE HK 1))
 go_ret2
 exact ⟨_, rfl, be_⟩
set_option maxHeartbeats 4000000 in
set_option maxRecDepth 100000 in
theorem judge_object_false (w : World) (s1 : Value) (n : Nd) (gn cS : Nat) (x : S25) (A4 A5 : Option Addr) (c4 c5 : Nat) (hk0 : n.kind = 0) (hhe : n.he = false) (hco : n.co = nilS) (k2 : (x.f0 == 2) = false) (k3 : (x.f0 == 3) = false) (k4 : (x.f0 == 4) = false) (k5 : (x.f0 == 5) = true) (hn4 : x.f4.length ≤ LM) (h45 : x.f4.length ≤ x.f5.length) (hn1 : n.cells.all (·.oneCell') = true) (hS : w.heap[gn]? = some (row n.cells 45)) (hn5 : x.f5.length ≤ LM)
  (hx : Rep w x A4 c4 A5 c5) (hT : ∀ W, Below w.heap.size w W → Calls Tryz.prog 75 #[.agg n.cells, .agg (jvc x A4 A5 c4 c5)] W fun e w' => e = .returned (.bool false) ∧ Below W.heap.size W w') :
  Calls Tryz.prog 20 #[.int .i64 2020, .agg #[.slice (some ⟨gn, 0, none⟩) 1 cS, s1], .int .i64 1, .agg (jvc x A4 A5 c4 c5)] w fun e w' => ∃ v, e = .returned (.tuple #[.bool false, v]) ∧ Below w.heap.size w w' := by
 have hmk := print_make_of (P := Tryz.prog) 63 4 bF 1 Tryz.underlying63 kr_ rfl (by decide) x.f5.length (by simp only [LM] at hn5; omega)
 have Hx := asd_ hx
 have HT := asd_ hT
 clear hx hT
 have HK : Aside0 (At w [.b gn (row (n.cells) 45)] w) := asd_ (At.hold (At.start w) hS (by simp [nums]))
 have bgn := cE HK 0
 go_enter Tryz.func20, Tryz.ntmps20
 go_wp2_with (first | ((with_reducible refine gd_ 5 ?_); refine bx_ #[.slice (some ⟨gn, 0, none⟩) 1 cS, s1] 68 ?_; clear HK bgn; intro g5 wb5 HK Gg5; have bgn := cE HK 1; have bg5 := cE HK 0) | ((with_reducible refine gd_ 7 ?_); refine bx_ (jvc x A4 A5 c4 c5) 25 ?_; clear HK bgn bg5; intro g7 wb7 HK Gg7; have bgn := cE HK 2; have bg5 := cE HK 1; have bg7 := cE HK 0) | ((with_reducible refine gd_ 18 ?_); refine lo_ 45 17 gn (n.cells) HK.out.k.2.2.1 Tryz.underlying45 ?_) | ((with_reducible refine gd_ 10 ?_); refine bx_ (Nd.cells ⟨0, false, nilS, nilS, false, nilS, false, nilS, nilS, nilS⟩) 45 ?_; clear HK bgn bg5 bg7; intro g10 wb10 HK Gg10; have bgn := cE HK 3; have bg5 := cE HK 2; have bg7 := cE HK 1; have bg10 := cE HK 0) | ((with_reducible refine gate_ (.store 45 (.tmp 10) (.tmp 18)) rfl ?_); refine storerow_at (cs := Nd.cells ⟨0, false, nilS, nilS, false, nilS, false, nilS, nilS, nilS⟩) (g := g10) 0 n.cells at_ rfl Gg10.out rfl rfl rfl rfl rfl rfl kr_ rfl (hn1) ?_; intro wsr HK1; replace HK := asd_ HK1; clear HK1; clear bgn bg5 bg7 bg10; have bgn := cE HK 3; have bg5 := cE HK 2; have bg7 := cE HK 1; have bg10 := cE HK 0) | ((with_reducible refine gd_ 22 ?_); refine nw_ (row (madeCells #[bF] x.f5.length) 4) (fun b => .slice (some ⟨b, 0, none⟩) x.f5.length x.f5.length) ?_; clear HK bgn bg5 bg7 bg10; intro gm wb22 HK Ggm; have bgn := cE HK 4; have bg5 := cE HK 3; have bg7 := cE HK 2; have bg10 := cE HK 1) | ((with_reducible refine gd_ 30 ?_); refine lo_ 45 10 g10 (n.cells) HK.out.k.2.1 Tryz.underlying45 ?_) | ((with_reducible refine gd_ 31 ?_); refine lo_ 25 7 g7 (jvc x A4 A5 c4 c5) HK.out.k.2.2.1 Tryz.underlying25 ?_) | ((with_reducible refine gd_ 32 ?_); refine cl_ #[.agg n.cells, .agg (jvc x A4 A5 c4 c5)] (.bool true) Tryz.func31 (values_none _ n hhe hco x A4 A5 c4 c5) ?_; intro wc32 HK1; replace HK := asd_ HK1; clear HK1; clear bgn bg5 bg7 bg10; have bgn := cE HK 4; have bg5 := cE HK 3; have bg7 := cE HK 2; have bg10 := cE HK 1) | ((with_reducible refine gd_ 34 ?_); refine lo_ 68 5 g5 (#[.slice (some ⟨gn, 0, none⟩) 1 cS, s1]) HK.out.k.2.2.2.1 Tryz.underlying68 ?_) | ((with_reducible refine gd_ 35 ?_); refine lo_ 45 10 g10 (n.cells) HK.out.k.2.1 Tryz.underlying45 ?_) | ((with_reducible refine gd_ 36 ?_); refine lo_ 25 7 g7 (jvc x A4 A5 c4 c5) HK.out.k.2.2.1 Tryz.underlying25 ?_) | ((with_reducible refine gd_ 38 ?_); refine cl_ #[.int .i64 2020, .agg #[.slice (some ⟨gn, 0, none⟩) 1 cS, s1], .agg n.cells, .agg (jvc x A4 A5 c4 c5), .slice (some ⟨gm, 0, none⟩) x.f5.length x.f5.length] (.bool true) Tryz.func32 (inplace_none _ 2020 (.slice (some ⟨gn, 0, none⟩) 1 cS) s1 (.slice (some ⟨gm, 0, none⟩) x.f5.length x.f5.length) n x A4 A5 c4 c5) ?_; intro wc38 HK1; replace HK := asd_ HK1; clear HK1; clear bgn bg5 bg7 bg10; have bgn := cE HK 4; have bg5 := cE HK 3; have bg7 := cE HK 2; have bg10 := cE HK 1) | ((with_reducible refine gd_ 93 ?_); refine lo_ 68 5 g5 (#[.slice (some ⟨gn, 0, none⟩) 1 cS, s1]) HK.out.k.2.2.2.1 Tryz.underlying68 ?_) | ((with_reducible refine gd_ 94 ?_); refine lo_ 45 10 g10 (n.cells) HK.out.k.2.1 Tryz.underlying45 ?_) | ((with_reducible refine gd_ 95 ?_); refine lo_ 25 7 g7 (jvc x A4 A5 c4 c5) HK.out.k.2.2.1 Tryz.underlying25 ?_) | ((with_reducible refine gd_ 97 ?_); refine cl_ #[.int .i64 2020, .agg #[.slice (some ⟨gn, 0, none⟩) 1 cS, s1], .agg n.cells, .agg (jvc x A4 A5 c4 c5), .slice (some ⟨gm, 0, none⟩) x.f5.length x.f5.length] (.bool false) Tryz.func39 (object_false _ 2020 (.slice (some ⟨gn, 0, none⟩) 1 cS) s1 (.slice (some ⟨gm, 0, none⟩) x.f5.length x.f5.length) n x A4 A5 c4 c5 (Hx.out.below HK.out.b) hn4 h45 (fun W' hb => HT.out W' (below_step HK.out.b hb))) ?_; intro wc97 HK1; replace HK := asd_ HK1; clear HK1; clear bgn bg5 bg7 bg10; have bgn := cE HK 4; have bg5 := cE HK 3; have bg7 := cE HK 2; have bg10 := cE HK 1))
 go_region
 all_goals go_wp2
 all_goals go_ret2
 all_goals exact ⟨_, rfl, be_⟩
theorem judge_form {f : FuncId} {args : Array Value} {W : World} {b : Bool} (h : Calls Tryz.prog f args W fun e w' => ∃ v, e = .returned (.tuple #[.bool b, v]) ∧ Below W.heap.size W w') :
  Calls Tryz.prog f args W fun e w' => ∃ u, e = .returned u ∧ (∃ v, u = .tuple #[.bool b, v]) ∧ Below W.heap.size W w' := by
 refine h.mono ?_
 rintro e w' ⟨v, rfl, hb⟩
 exact ⟨_, rfl, ⟨v, rfl⟩, hb⟩
set_option maxHeartbeats 4000000 in
set_option maxRecDepth 100000 in
theorem valid_any (w : World) (S0 : Option Addr) (k0 cS : Nat) (b : Bool) (x : S25) (A4 A5 : Option Addr) (c4 c5 : Nat)
  (hJ : ∀ W, Below w.heap.size w W → Calls Tryz.prog 20 #[.int .i64 2020, .agg #[.slice S0 k0 cS, nilS], .int .i64 1, .agg (jvc x A4 A5 c4 c5)] W fun e w' => ∃ v, e = .returned (.tuple #[.bool b, v]) ∧ Below W.heap.size W w') :
  Calls Tryz.prog 15 #[.slice S0 k0 cS, .agg (jvc x A4 A5 c4 c5)] w fun e w' => e = .returned (.bool b) ∧ Below w.heap.size w w' := by
 have HJ := asd_ hJ
 clear hJ
 have HK : Aside0 (At w [] w) := asd_ (At.start w)
 go_enter Tryz.func15, Tryz.ntmps15
 go_wp2_with (first | ((with_reducible refine gd_ 3 ?_); refine bx_ (jvc x A4 A5 c4 c5) 25 ?_; clear HK; intro g3 wb3 HK Gg3; have bg3 := cE HK 0) | ((with_reducible refine gd_ 10 ?_); refine lo_ 25 3 g3 (jvc x A4 A5 c4 c5) HK.out.k.1 Tryz.underlying25 ?_) | ((with_reducible refine gd_ 11 ?_); refine cw_ #[.int .i64 2020, .agg #[.slice S0 k0 cS, nilS], .int .i64 1, .agg (jvc x A4 A5 c4 c5)] Tryz.func20 (judge_form (HJ.out _ HK.out.b)) ?_; rintro v11 wc11 HK1 ⟨mv, rfl⟩ hB; clear hB; replace HK := asd_ HK1; clear HK1; clear bg3; have bg3 := cE HK 0))
 go_ret
 exact ⟨rfl, be_⟩
set_option maxHeartbeats 4000000 in
set_option maxRecDepth 100000 in
theorem takes_any (w : World) (s0 s1 : Value) (b : Bool) (x : S25) (A4 A5 : Option Addr) (c4 c5 : Nat)
  (hJ : ∀ W, Below w.heap.size w W → Calls Tryz.prog 20 #[.int .i64 2020, .agg #[s0, s1], .int .i64 1, .agg (jvc x A4 A5 c4 c5)] W fun e w' => ∃ v, e = .returned (.tuple #[.bool b, v]) ∧ Below W.heap.size W w') :
  Calls Tryz.prog 42 #[.int .i64 2020, .agg #[s0, s1], .int .i64 1, .agg (jvc x A4 A5 c4 c5)] w fun e w' => e = .returned (.bool b) ∧ Below w.heap.size w w' := by
 have HJ := asd_ hJ
 clear hJ
 have HK : Aside0 (At w [] w) := asd_ (At.start w)
 go_enter Tryz.func42, Tryz.ntmps42
 go_wp2_with (first | ((with_reducible refine gd_ 5 ?_); refine bx_ #[s0, s1] 68 ?_; clear HK; intro g5 wb5 HK Gg5; have bg5 := cE HK 0) | ((with_reducible refine gd_ 7 ?_); refine bx_ (jvc x A4 A5 c4 c5) 25 ?_; clear HK bg5; intro g7 wb7 HK Gg7; have bg5 := cE HK 1; have bg7 := cE HK 0) | ((with_reducible refine gd_ 13 ?_); refine lo_ 68 5 g5 (#[s0, s1]) HK.out.k.2.1 Tryz.underlying68 ?_) | ((with_reducible refine gd_ 15 ?_); refine lo_ 25 7 g7 (jvc x A4 A5 c4 c5) HK.out.k.1 Tryz.underlying25 ?_) | ((with_reducible refine gd_ 16 ?_); refine cw_ #[.int .i64 2020, .agg #[s0, s1], .int .i64 1, .agg (jvc x A4 A5 c4 c5)] Tryz.func20 (judge_form (HJ.out _ HK.out.b)) ?_; rintro v16 wc16 HK1 ⟨mv, rfl⟩ hB; clear hB; replace HK := asd_ HK1; clear HK1; clear bg5 bg7; have bg5 := cE HK 1; have bg7 := cE HK 0))
 go_ret
 exact ⟨rfl, be_⟩
end Go.Proofs.YtkphbhncpdcbeaaGreatDoor.J
