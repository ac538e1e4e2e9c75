/- A law at the call: copy(made, src) where both have n elements of one cell. -/
import Derived.Laws.CopyOwn
import Derived.Deep.OwnRows
import Derived.WalkKit
namespace Go.Proofs.Qxb6615124a
open Go.RowKit

theorem wpList_copy_made {P : Program} {w : World} {ops : Array Oper} {rest : List Oper} {o : Oper} {a : Act} {Q : Exit → Act → World → Prop} (hgd : o.guard = none) (d s : Operand) (dT sT : TypeId)
    (ho : o.op = .call { callee := .builtin .copy, args := #[d, s], argTypes := #[dT, sT] }) (elem : TypeId) (hu : P.underlying dT = some (.slice elem)) (hsz : (P.info? elem).map (·.size) = some 1)
    (g n cS : Nat) (sp : Option Addr) (hd : a.eval d = .slice (some ⟨g, 0, none⟩) n n) (hs : a.eval s = .slice sp n cS) (z : Nat → Value) (t : TypeId) (hg : w.rowIs g t n z)
    (b off : Nat) (hsp : 0 < n → sp = some ⟨b, off, none⟩) (f : Nat → Value) (hf : ∀ i, i < n → w.cell? ⟨b, off + i, none⟩ = some (f i)) (h1 : ∀ i, (f i).oneCell' = true)
    (h : ∀ w', w'.rowIs g t n f → w.grownBy w' (some g) → wpList P ops Q rest (a.put o.dst (goInt n)) w') : wpList P ops Q (o :: rest) a w := by
  obtain ⟨cur, hcur, hn, _⟩ := hg
  by_cases h0 : n = 0
  · subst h0
    refine wpList_copy_nothing hgd d s dT sT ho elem hu hsz _ sp 0 0 0 cS hd hs rfl ?_
    exact h w ⟨cur, hcur, hn, fun i hi => absurd hi (Nat.not_lt_zero _)⟩ ⟨rfl, rfl, rfl, Nat.le_refl _, fun _ _ _ => rfl⟩
  · obtain rfl := hsp (by omega)
    have hl : ((List.range n).map f).length = n := by simp
    refine wpList_copy_own hgd d s dT sT ho elem hu hsz g 0 n n ⟨b, off, none⟩ n cS hd hs cur t hcur ((List.range n).map f) (by simp) (fun j v hv => ?_) (by simp [hn]) (fun v hv => ?_) ?_
    · have hj : j < n := by
        have := (List.getElem?_eq_some_iff.1 hv).1
        simpa using this
      have hv2 : f j = v := by simpa [hj] using hv
      have e : (⟨b, off, none⟩ : Addr).add j = ⟨b, off + j, none⟩ := Addr.add_lit ..
      rw [e, ← hv2]
      exact hf j hj
    · obtain ⟨i, _, rfl⟩ := List.mem_map.1 hv
      exact h1 i
    · rw [hl]
      refine h _ ⟨_, setRow_heap w g _ _ t _ hcur, ?_, fun i hi => ?_⟩ ⟨rfl, rfl, rfl, by simp [World.setRow], fun k _ hk => setRow_other w g k _ (fun e => hk (by rw [e]))⟩
      · simp [hn]
      · simp only [List.getElem?_toArray, List.take_zero, List.nil_append]
        rw [List.getElem?_append_left (by simpa using hi)]
        simp [hi]

end Go.Proofs.Qxb6615124a
