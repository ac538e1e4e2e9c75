/- What the law's walk knows at each of its stations; the pieces of its code. -/
import Derived.Test.Qxb6615124aRows
import Derived.Test.Qxb6615124aLaw
import Derived.WalkKit
import Derived.WalkSpells
import Derived.Deep.OwnRows
namespace Go.Proofs.Qxb6615124a
open Go.RowKit

theorem Try.info3 : (Try.prog.info? 3).map (fun i => (i.zero, i.size, i.bytes)) = some (some (.int .i64 0), 1, 8) := by kernel_rfl
theorem Try.size3 : (Try.prog.info? 3).map (·.size) = some 1 := by kernel_rfl
theorem Try.size4 : (Try.prog.info? 4).map (·.size) = some 1 := by kernel_rfl

def Fine (w : World) (e : Ending) (w' : World) : Prop := e = .returned (.bool true) ∧ Below w.heap.size w w'

/-- The function's statements from the k-th on. -/
def dropS : Nat → Code → Code
  | 0, c => c
  | n + 1, .seq _ b => dropS n b
  | _ + 1, c => c

/-- The cells of a cut 'xs[s:..]' of m elements, for an append. -/
theorem cells_at {w : World} {tb tx s m nT : Nat} {V : Nat → Value} (hc : ∀ i, i < nT → w.cell? ⟨tb, tx + i, none⟩ = some (V i)) (hm : s + m ≤ nT) {ao : Option Addr} (hao : 0 < m → ao = some ⟨tb, tx + s, none⟩) :
    ∀ ad, ao = some ad → ∀ j u, ((List.range m).map fun i => V (s + i))[j]? = some u → w.cell? (ad.add j) = some u := by
  intro ad had j u hu
  have hj : j < m := by
    have := (List.getElem?_eq_some_iff.1 hu).1
    simpa using this
  have hu2 : V (s + j) = u := by simpa [hj] using hu
  rw [hao (by omega)] at had
  obtain rfl := Option.some.inj had
  rw [Addr.add_lit, Nat.add_assoc, ← hu2]
  exact hc _ (by omega)

/-- Elements s .. s+m-1 of a family. -/
def seg (V : Nat → Value) (s m : Nat) : List Value := (List.range m).map fun i => V (s + i)
theorem seg_length (V : Nat → Value) (s m : Nat) : (seg V s m).length = m * 1 := by simp [seg]
theorem seg_one {V : Nat → Value} (h : ∀ i, (V i).oneCell' = true) (s m : Nat) : ∀ u ∈ seg V s m, u.oneCell' = true := by
  intro u hu
  obtain ⟨i, _, rfl⟩ := List.mem_map.1 hu
  exact h _
theorem seg_ins (V : Nat → Value) (x : Value) {p n : Nat} (hp : p ≤ n) : seg V 0 p ++ [x] ++ seg V p (n - p) = (List.range (n + 1)).map (ins p x V) := by
  apply List.ext_getElem?
  intro j
  by_cases h1 : j < p
  · rw [List.getElem?_append_left (by simp [seg]; omega), List.getElem?_append_left (by simp [seg]; omega)]
    simp [seg, h1, show j < n + 1 by omega, ins]
  · by_cases h2 : j = p
    · subst h2
      rw [List.getElem?_append_left (by simp [seg]), List.getElem?_append_right (by simp [seg])]
      simp [seg, show j < n + 1 by omega, ins]
    · rw [List.getElem?_append_right (by simp [seg]; omega)]
      by_cases h3 : j < n + 1
      · have e : (seg V 0 p ++ [x]).length = p + 1 := by simp [seg]
        rw [e]
        simp [seg, h3, ins, h1, h2, show j - (p + 1) < n - p by omega, show p + (j - (p + 1)) = j - 1 by omega]
      · simp [seg, h3]; omega

/-- The table's data, as they lie in w. -/
structure Inp (w : World) (n nU ub ob cb co : Nat) (U : Nat → Bool) (On : Nat → Nat) (A : Nat → Option Addr) (L C RB RO : Nat → Nat) (Zn : Nat → Nat → Nat) : Prop where
  hU : ∀ i, i < nU → w.cell? ⟨ub, 0 + i, none⟩ = some (.bool (U i))
  hO : ∀ i, i < nU → w.cell? ⟨ob, 0 + i, none⟩ = some (.int .i64 (On i))
  hrow : ∀ r, r < nU → w.cell? ⟨cb, co + r, none⟩ = some (.slice (A r) (L r) (C r))
  hA : ∀ r, r < nU → 0 < L r → A r = some ⟨RB r, RO r, none⟩
  hZ : ∀ r, r < nU → ∀ j, j < L r → w.cell? ⟨RB r, RO r + j, none⟩ = some (.int .i64 (Zn r j))
  hOL : ∀ i, i < nU → On i ≤ L i
  hZn : ∀ i, i < nU → ∀ j, j < L i → Zn i j < n
  hL : ∀ i, i < nU → L i ≤ 1048576

theorem Inp.later {w w' : World} {n nU ub ob cb co : Nat} {U : Nat → Bool} {On : Nat → Nat} {A : Nat → Option Addr} {L C RB RO : Nat → Nat} {Zn : Nat → Nat → Nat} (h : Inp w n nU ub ob cb co U On A L C RB RO Zn) (hb : Below w.heap.size w w') : Inp w' n nU ub ob cb co U On A L C RB RO Zn :=
  ⟨fun i hi => cell_later hb (h.hU i hi), fun i hi => cell_later hb (h.hO i hi), fun r hr => cell_later hb (h.hrow r hr), h.hA, fun r hr j hj => cell_later hb (h.hZ r hr j hj), h.hOL, h.hZn, h.hL⟩

/-- The where's terms, as they lie in w. -/
structure Trs (w : World) (n nT : Nat) (t2 : Option Addr) (tb tx c2 : Nat) (f2 : Option Addr) (fb fo d2 : Nat) (Tn : Nat → Nat) (F : Nat → Bool) : Prop where
  ta : 0 < nT → t2 = some ⟨tb, tx, none⟩
  tc : ∀ i, i < nT → w.cell? ⟨tb, tx + i, none⟩ = some (.int .i64 (Tn i))
  t0 : t2 = none → nT = 0 ∧ c2 = 0
  tl : nT ≤ c2 ∧ c2 ≤ 9223372036854775807
  fa : 0 < nT → f2 = some ⟨fb, fo, none⟩
  fc : ∀ i, i < nT → w.cell? ⟨fb, fo + i, none⟩ = some (.bool (F i))
  f0 : f2 = none → nT = 0 ∧ d2 = 0
  fl : nT ≤ d2 ∧ d2 ≤ 9223372036854775807
  hn : ∀ i, i < nT → Tn i < n
  hd : ∀ i j, i < j → j < nT → Tn i ≠ Tn j

theorem Trs.later {w w' : World} {n nT : Nat} {t2 : Option Addr} {tb tx c2 : Nat} {f2 : Option Addr} {fb fo d2 : Nat} {Tn : Nat → Nat} {F : Nat → Bool} (h : Trs w n nT t2 tb tx c2 f2 fb fo d2 Tn F) (hb : Below w.heap.size w w') : Trs w' n nT t2 tb tx c2 f2 fb fo d2 Tn F :=
  ⟨h.ta, fun i hi => cell_later hb (h.tc i hi), h.t0, h.tl, h.fa, fun i hi => cell_later hb (h.fc i hi), h.f0, h.fl, h.hn, h.hd⟩

/-- r of the terms are laid down in reverse: the rows rc and rf. -/
structure Rev (w1 : World) (nT : Nat) (Tn : Nat → Nat) (F : Nat → Bool) (r : Nat) (wx : World) : Prop where
  below : Below w1.heap.size w1 wx
  rc : wx.rowIs w1.heap.size 3 nT (fun j => if nT ≤ j + r then .int .i64 (Tn (nT - 1 - j)) else .int .i64 0)
  rf : wx.rowIs (w1.heap.size + 1) 4 nT (fun j => if nT ≤ j + r then .bool (F (nT - 1 - j)) else .bool false)

theorem rev_start (w1 : World) (nT : Nat) (Tn : Nat → Nat) (F : Nat → Bool) : Rev w1 nT Tn F 0 ((w1.alloc (.cells (madeCells #[.int .i64 0] nT) 3)).alloc (.cells (madeCells #[.bool false] nT) 4)) := by
  refine ⟨((Below.refl _ _).alloc (Nat.le_refl _) _).alloc (by simp) _, ((World.rowIs_made w1 (.int .i64 0) nT 3).alloc _).congr (fun j hj => by rw [if_neg (by omega)]), ?_⟩
  have h := World.rowIs_made (w1.alloc (.cells (madeCells #[.int .i64 0] nT) 3)) (.bool false) nT 4
  have e : (w1.alloc (.cells (madeCells #[.int .i64 0] nT) 3)).heap.size = w1.heap.size + 1 := by simp
  rw [e] at h
  exact h.congr (fun j hj => by rw [if_neg (by omega)])

theorem rev_step {w1 wr : World} {nT r : Nat} {Tn : Nat → Nat} {F : Nat → Bool} (h : Rev w1 nT Tn F r wr) (hr : r < nT) :
    Rev w1 nT Tn F (r + 1) ((wr.setCell ⟨w1.heap.size, nT - 1 - r, none⟩ (.int .i64 (Tn r))).setCell ⟨w1.heap.size + 1, nT - 1 - r, none⟩ (.bool (F r))) := by
  refine ⟨(h.below.setCell (Nat.le_refl _) _).setCell (by show w1.heap.size ≤ w1.heap.size + 1; omega) _, ((h.rc.set _ _).setOther (by show w1.heap.size ≠ w1.heap.size + 1; omega) _).congr (fun j hj => ?_), ((h.rf.setOther (by show w1.heap.size + 1 ≠ w1.heap.size; omega) _).set _ _).congr (fun j hj => ?_)⟩
  · by_cases e : j = nT - 1 - r
    · rw [if_pos e, if_pos (by omega), show nT - 1 - j = r by omega]
    · rw [if_neg e]
      by_cases h1 : nT ≤ j + r
      · rw [if_pos h1, if_pos (by omega)]
      · rw [if_neg h1, if_neg (by omega)]
  · by_cases e : j = nT - 1 - r
    · rw [if_pos e, if_pos (by omega), show nT - 1 - j = r by omega]
    · rw [if_neg e]
      by_cases h1 : nT ≤ j + r
      · rw [if_pos h1, if_pos (by omega)]
      · rw [if_neg h1, if_neg (by omega)]

end Go.Proofs.Qxb6615124a
