/- The plain law: one more fixed term. -/
import Derived.Test.Qxb6615124aZz
namespace Go.Proofs.Qxb6615124a

theorem fx_iff {n : Nat} {T : Nat → Nat} {F : Nat → Bool} {c : Nat} : Pl.fx n T F c = true ↔ ∃ t, t < n ∧ T t = c ∧ F t = true := by
  simp [Pl.fx, List.any_eq_true, List.mem_range]

/-- Column k put in at place p. -/
def ins {α : Type} (p : Nat) (x : α) (f : Nat → α) (t : Nat) : α := if t < p then f t else if t = p then x else f (t - 1)

theorem fx_ins {n p k : Nat} {T : Nat → Nat} {F : Nat → Bool} (hp : p ≤ n) (c : Nat) : Pl.fx (n + 1) (ins p k T) (ins p true F) c = (Pl.fx n T F c || k == c) := by
  rw [Bool.eq_iff_iff, Bool.or_eq_true, fx_iff, fx_iff, beq_iff_eq]
  constructor
  · rintro ⟨t, ht, h1, h2⟩
    unfold ins at h1 h2
    by_cases e1 : t < p
    · rw [if_pos e1] at h1 h2; exact Or.inl ⟨t, by omega, h1, h2⟩
    · rw [if_neg e1] at h1 h2
      by_cases e2 : t = p
      · rw [if_pos e2] at h1; exact Or.inr h1
      · rw [if_neg e2] at h1 h2; exact Or.inl ⟨t - 1, by omega, h1, h2⟩
  · rintro (⟨t, ht, h1, h2⟩ | h)
    · by_cases e1 : t < p
      · exact ⟨t, by omega, by simp only [ins, if_pos e1, h1], by simp only [ins, if_pos e1, h2]⟩
      · exact ⟨t + 1, by omega, by simp only [ins, if_neg (show ¬ t + 1 < p by omega), if_neg (show ¬ t + 1 = p by omega), Nat.add_sub_cancel, h1], by simp only [ins, if_neg (show ¬ t + 1 < p by omega), if_neg (show ¬ t + 1 = p by omega), Nat.add_sub_cancel, h2]⟩
    · exact ⟨p, by omega, by simp only [ins, if_neg (Nat.lt_irrefl p), if_true, h], by simp only [ins, if_neg (Nat.lt_irrefl p), if_true]⟩

theorem ins_lt {n p k m : Nat} {T : Nat → Nat} (hp : p ≤ n) (hT : ∀ i, i < n → T i < m) (hk : k < m) : ∀ i, i < n + 1 → ins p k T i < m := by
  intro i hi
  unfold ins
  split
  · exact hT i (by omega)
  · split
    · exact hk
    · exact hT _ (by omega)

theorem ins_dist {n p k : Nat} {T : Nat → Nat} (hp : p ≤ n) (hd : ∀ i j, i < j → j < n → T i ≠ T j) (hk : ∀ i, i < n → T i ≠ k) : ∀ i j, i < j → j < n + 1 → ins p k T i ≠ ins p k T j := by
  intro i j hij hj
  unfold ins
  by_cases a1 : i < p
  · rw [if_pos a1]
    by_cases b1 : j < p
    · rw [if_pos b1]; exact hd i j hij (by omega)
    · rw [if_neg b1]
      by_cases b2 : j = p
      · rw [if_pos b2]; exact hk i (by omega)
      · rw [if_neg b2]; exact hd i (j - 1) (by omega) (by omega)
  · rw [if_neg a1, if_neg (show ¬ j < p by omega), if_neg (show ¬ j = p by omega)]
    by_cases a2 : i = p
    · rw [if_pos a2]; exact fun e => hk (j - 1) (by omega) e.symm
    · rw [if_neg a2]; exact hd (i - 1) (j - 1) (by omega) (by omega)

theorem fx_rev {n : Nat} {T : Nat → Nat} {F : Nat → Bool} (c : Nat) : Pl.fx n (fun t => T (n - 1 - t)) (fun t => F (n - 1 - t)) c = Pl.fx n T F c := by
  rw [Bool.eq_iff_iff, fx_iff, fx_iff]
  constructor
  · rintro ⟨t, ht, h1, h2⟩; exact ⟨n - 1 - t, by omega, h1, h2⟩
  · rintro ⟨t, ht, h1, h2⟩
    have e : n - 1 - (n - 1 - t) = t := by omega
    exact ⟨n - 1 - t, by omega, by rw [e]; exact h1, by rw [e]; exact h2⟩

theorem rev_dist {n : Nat} {T : Nat → Nat} (hd : ∀ i j, i < j → j < n → T i ≠ T j) : ∀ i j, i < j → j < n → T (n - 1 - i) ≠ T (n - 1 - j) :=
  fun i j hij hj e => hd (n - 1 - j) (n - 1 - i) (by omega) (by omega) e.symm

theorem good_congr {U : Nat → Bool} {O : Nat → Nat} {Z : Nat → Nat → Nat} {n n' : Nat} {T T' : Nat → Nat} {F F' : Nat → Bool} (h : ∀ c, Pl.fx n T F c = Pl.fx n' T' F' c) (i : Nat) : good U O Z n T F i = good U O Z n' T' F' i := by
  unfold good
  congr 2
  funext j
  exact h _

theorem good_more {U : Nat → Bool} {O : Nat → Nat} {Z : Nat → Nat → Nat} {n p k : Nat} {T : Nat → Nat} {F : Nat → Bool} (hp : p ≤ n) (i : Nat) :
    good U O Z (n + 1) (ins p k T) (ins p true F) i = (good U O Z n T F i || Pl.completed (U i) (O i) (Z i) (Pl.fx n T F) k) := by
  rw [Bool.eq_iff_iff]
  simp only [good, Pl.completed, Pl.okUpTo, Pl.hasUpTo, fx_ins hp, Bool.or_eq_true, Bool.and_eq_true, List.all_eq_true, List.any_eq_true, List.mem_range, beq_iff_eq]
  constructor
  · rintro ⟨hu, ha⟩
    by_cases h : ∃ j, j < O i ∧ Z i j = k
    · exact Or.inr ⟨hu, fun j hj => (ha j hj).elim Or.inr (fun e => Or.inl e.symm), h⟩
    · refine Or.inl ⟨hu, fun j hj => ?_⟩
      rcases ha j hj with h1 | h1
      · exact h1
      · exact absurd ⟨j, hj, h1.symm⟩ h
  · rintro (⟨hu, ha⟩ | ⟨hu, ha, _⟩)
    · exact ⟨hu, fun j hj => Or.inl (ha j hj)⟩
    · exact ⟨hu, fun j hj => (ha j hj).elim (fun e => Or.inr e.symm) Or.inl⟩

theorem IsFirst.congr {n : Nat} {p q : Nat → Bool} {a : Int} (h : IsFirst n p a) (e : ∀ i, p i = q i) : IsFirst n q a := by
  obtain rfl : p = q := funext e
  exact h

theorem IsFirst.unique {n : Nat} {p : Nat → Bool} {a b : Int} (h1 : IsFirst n p a) (h2 : IsFirst n p b) : a = b := by
  rcases h1 with ⟨i, a1, a2, a3, a4, rfl⟩ | ⟨a1, rfl⟩ <;> rcases h2 with ⟨j, b1, b2, b3, b4, rfl⟩ | ⟨b1, rfl⟩
  · rcases Nat.lt_trichotomy i j with h | h | h
    · rw [b4 i a1 h] at a3; cases a3
    · rw [h]
    · rw [a4 j b1 h] at b3; cases b3
  · rw [b1 i a1 a2] at a3; cases a3
  · rw [a1 j b1 b2] at b3; cases b3
  · rfl

/-- The first of which one of two holds is the earlier of the two firsts. -/
theorem IsFirst.either {n : Nat} {p q : Nat → Bool} {a b c : Int} (ha : IsFirst n p a) (hq : IsFirst n q b) (hc : IsFirst n (fun i => p i || q i) c) : c = if b ≠ -1 ∧ (a = -1 ∨ b < a) then b else a := by
  refine hc.unique ?_
  rcases ha with ⟨i, a1, a2, a3, a4, rfl⟩ | ⟨a1, rfl⟩ <;> rcases hq with ⟨j, b1, b2, b3, b4, rfl⟩ | ⟨b1, rfl⟩
  · by_cases h : j < i
    · rw [if_pos ⟨by omega, Or.inr (by omega)⟩]
      exact Or.inl ⟨j, b1, b2, by simp [b3], fun k k1 k2 => by simp [b4 k k1 k2, a4 k k1 (by omega)], rfl⟩
    · rw [if_neg (by omega)]
      exact Or.inl ⟨i, a1, a2, by simp [a3], fun k k1 k2 => by simp [a4 k k1 k2, b4 k k1 (by omega)], rfl⟩
  · rw [if_neg (by omega)]
    exact Or.inl ⟨i, a1, a2, by simp [a3], fun k k1 k2 => by simp [a4 k k1 k2, b1 k k1 (by omega)], rfl⟩
  · rw [if_pos ⟨by omega, Or.inl rfl⟩]
    exact Or.inl ⟨j, b1, b2, by simp [b3], fun k k1 k2 => by simp [b4 k k1 k2, a1 k k1 (by omega)], rfl⟩
  · rw [if_neg (by omega)]
    exact Or.inr ⟨fun k k1 k2 => by simp [a1 k k1 k2, b1 k k1 k2], rfl⟩

end Go.Proofs.Qxb6615124a
