/- The plain functions: no Go in sight. -/
namespace Go.Proofs.Qxb6615124a.Pl

/-- The first term on column c. -/
def onT (n : Nat) (T : Nat → Nat) (c : Nat) : Option Nat := (List.range n).find? (fun t => T t == c)
/-- Is column c fixed by one of the first n terms? -/
def fx (n : Nat) (T : Nat → Nat) (F : Nat → Bool) (c : Nat) : Bool := (List.range n).any (fun t => T t == c && F t)

theorem fx_succ (n : Nat) (T : Nat → Nat) (F : Nat → Bool) (c : Nat) : fx (n + 1) T F c = (fx n T F c || (T n == c && F n)) := by
  simp [fx, List.range_succ, List.any_append]

/-- Does the column k complete the index: unique, every own column k or fixed, k among them? -/
def okUpTo (o : Nat) (Z : Nat → Nat) (fd : Nat → Bool) (k : Nat) : Bool := (List.range o).all (fun j => Z j == k || fd (Z j))
def hasUpTo (o : Nat) (Z : Nat → Nat) (k : Nat) : Bool := (List.range o).any (fun j => Z j == k)
def completed (u : Bool) (o : Nat) (Z : Nat → Nat) (fd : Nat → Bool) (k : Nat) : Bool := u && (okUpTo o Z fd k && hasUpTo o Z k)

theorem okUpTo_succ (o : Nat) (Z : Nat → Nat) (fd : Nat → Bool) (k : Nat) : okUpTo (o + 1) Z fd k = (okUpTo o Z fd k && (Z o == k || fd (Z o))) := by
  simp [okUpTo, List.range_succ, List.all_append]
theorem hasUpTo_succ (o : Nat) (Z : Nat → Nat) (k : Nat) : hasUpTo (o + 1) Z k = (hasUpTo o Z k || Z o == k) := by
  simp [hasUpTo, List.range_succ, List.any_append]
theorem okUpTo_false {o r : Nat} {Z : Nat → Nat} {fd : Nat → Bool} {k : Nat} (hr : r < o) (h1 : Z r ≠ k) (h2 : fd (Z r) = false) : okUpTo o Z fd k = false := by
  simp only [okUpTo, List.all_eq_false]
  exact ⟨r, List.mem_range.2 hr, by simp [h1, h2]⟩

end Go.Proofs.Qxb6615124a.Pl
